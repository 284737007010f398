/- Part 10 of the proof that FnMapBorders returns true for every input that its row lets in. No further condition. -/
import Derived.Test.YtpddkliglnoaaaaGreatDoorA09
set_option linter.all false
set_option autoImplicit true
set_option relaxedAutoImplicit true
namespace Go.Proofs
open Tryz
open Go.V Go.Edges
def cq.s_ (e:cq) (x:Bool):cq:={e with s:=x}
def dw.s_ (e:dw) (x:Bool):dw:={e with s:=x}
variable {d:DS} {e v t h f f' r1:Nat} {p:Pt} {k kt kh:PP} {fs:List Nat}
theorem Yr (hv:(p,v)∈d.vs):
  ai prog 221 [iv 0,be r1].toArray [aO r1 0 [aF v]] d.LL (λw Fs' L'=>(w= .tuple #[]/\Fs'=[])/\L'=(d.modV v λx=>x.s_ (d.V v).a).LL):=by
 refine(AX) ?_;intro hnd;have hU:=xz (g:=λx=>x.s_ (d.V v).a) (λ_=>rfl) hv hnd;refine am func221 λ_=>(JC)<|(nG)<|(bh)<|(nG)<|(mE)<|(wT) ?_;refine ac O (az ab O O O (bj (mT (jQ hv)) O O) O)<|(x6) ?_;refine cS ab O (cs:=(d.V v).enc) (cs':=((d.V v).s_ (d.V v).a).enc) O O O O O O O (uT (hU))<|(lJ)<|ed [] ((d.modV v λx=>x.s_ (d.V v).a).LL) ?_;exact gk
theorem Yq (hv:(p,v)∈d.vs):
  ai prog 221 [iv 1,be r1].toArray [aO r1 0 [aF v]] d.LL (λw Fs' L'=>(w= .tuple #[]/\Fs'=[])/\L'=d.LL):=by
 refine(AX) ?_;intro hnd;have hU:=xz (g:=λx=>x) (λ_=>rfl) hv hnd;have e0:(d.modV v λx=>x)=d:=by
  have:(λj=>if j=v then d.V v else d.V j)=d.V:=by funext j;split;(rename_i h;rw[h]);rfl
  unfold DS.modV;simp only[this]
 rw[e0] at hU;refine am func221 λ_=>(JC)<|(nG)<|(bh)<|(nG)<|(mE)<|(Jv) ?_;refine ac O (az ab O O O (bj (mT (jQ hv)) O O) O)<|(fa)<|(jY)<|(Jw) ?_;refine cS ab O (cs:=(d.V v).enc) (cs':=(d.V v).enc) O O O O O O O (uT (hU))<|(lJ)<|ed [] d.LL ?_;exact gk
end Go.Proofs
namespace Go.Proofs
open Tryz
open Go.V Go.Edges
variable {d:DS} {e v t h f f' r1:Nat} {p:Pt} {k kt kh:PP} {fs:List Nat}
def lm (d:DS) (e v h:Nat):DS:=
 let D1:=d.modE e λy=>y.s_ (d.E e).a
 D1.modV v λy=>y.s_ (((d.V v).s||(d.E e).a)||(D1.E h).s)
structure oM (d:DS) (fs:List Nat) (k kt kh:PP) (p:Pt) (e v t h f f':Nat):Prop where
 he:(k,e)∈d.hs
 hv:(p,v)∈d.vs
 ho:(d.E e).org=some v
 ht:(d.E e).tw=some t
 hte:(kt,t)∈d.hs
 hp:(d.E e).pv=some h
 hh:(kh,h)∈d.hs
 hi:(d.E e).inc=some f
 hf:f∈fs
 hi':(d.E t).inc=some f'
 hf':f'∈fs
theorem ym {P:Program} {Fs:List an} {L:List ae} {fid:FuncId} {args:Array Value} {R:cZ} (hm:gR fs∈Fs) (hf:f∈fs) (hf':f'∈fs)
  (K:∀v v',ai P fid args (aO f 0 (ni v)::aO f' 0 (ni v')::Fs) L R):ai P fid args Fs L R:=
 z7 (α:=Value×Value) (φ:=λ_=>True) (G:=λv=>[aO f 0 (ni v.1),aO f' 0 (ni v.2)]) (λhp al=>by
  obtain⟨v,hv⟩:=al _ hm f hf;obtain⟨v',hv'⟩:=al _ hm f' hf';exact⟨(v,v'),trivial,.cons hv (.cons hv' λ_ hh=>nomatch hh)⟩) λv _=>K v.1 v.2
theorem ajZ (N:oM d fs k kt kh p e v t h f f') (ha:(d.E e).a=false) (hs:(d.V v).s=false):
  ai prog 222 [iv 0,be r1].toArray [aO r1 0 [aF e],gR fs] d.LL (λw Fs' L'=>(w= .tuple #[]/\Fs'=[])/\L'=(lm d e v h).LL):=by
 refine ym (.tail _ (.head _)) N.hf N.hf' λvf vf'=>(AX) ?_;intro hnd;have hi:=N.hi;have hi':=N.hi';have ht:=N.ht;have hte:=N.hte;have he:=N.he;have hp:=N.hp;obtain⟨D1,eD1,uD1,nD1,kD1⟩:=mU he hnd (λy=>y.s_ false);have he1:(k,e)∈D1.hs:=kD1.hs▸he;have hh1:(kh,h)∈D1.hs:=kD1.hs▸N.hh;have hv1:(p,v)∈D1.vs:=kD1.vs▸N.hv;have ho1:(D1.E e).org=some v:=by rw[eD1,kl,if_pos rfl];exact N.ho
 have hp1:(D1.E e).pv=some h:=by rw[eD1,kl,if_pos rfl];exact N.hp
 have hs1:(D1.E e).s=false:=by rw[eD1,kl,if_pos rfl];rfl
 have hV1:D1.V=d.V:=by rw[eD1];rfl
 have hsv:(D1.V v).s=false:=by rw[hV1];exact hs
 have hU2:=xz (g:=λy=>y.s_ (D1.E h).s) (λ_=>rfl) hv1 nD1;have hfin:(D1.modV v λy=>y.s_ (D1.E h).s)=lm d e v h:=by
  simp only[lm,ha,hs,Pg,PD,Pn,Bo,<-eD1]
 refine am func222 λ_=>(Fw)<|(wT) ?_;refine ac O (az ab O O O (ct (bj (mT (cK he)) O O) (v':= .bool false) (by rw[ha])) O)<|(bh) ?_;refine ac O (λkX=>ah O O (az ab O O O (mm mA) O kX)) ?_;refine ac O (λkX=>ah O O (iL O O kX)) ?_;refine ac O (λkX=>ah O O (b9 ab O O O O kX)) ?_;refine ac O (λkX=>ah O O (az ab O O O (ct (bj (mT (cK he)) O O) (v':=aF f) (by rw[hi];rfl)) O kX)) ?_;refine ac O (λkX=>ah O O (eV O O kX)) ?_;refine ac O (λkX=>ah O O (iL O O kX)) ?_;refine ac O (λkX=>ah O O (b9 ab O O O O kX)) ?_;refine ac O (λkX=>ah O O (fg (s:=1) (i:=0) ab O O O O O aa (by show _<2;omega) O kX)) ?_;refine ac O (λkX=>ah O O (az ab O O O (cY (r:=f) (o:=0) (j:=1) (aR (xs:=ni vf) mA) O) O kX))<|(jN)<|(bh) ?_;refine ac O (λkX=>ah O O (az ab O O O (mm mA) O kX)) ?_;refine ac O (λkX=>ah O O (iL O O kX)) ?_;refine ac O (λkX=>ah O O (b9 ab O O O O kX)) ?_;refine ac O (λkX=>ah O O (az ab O O O (ct (bj (mT (cK he)) O O) (v':=aF t) (by rw[ht];rfl)) O kX)) ?_;refine ac O (λkX=>ah O O (iL O O kX)) ?_;refine ac O (λkX=>ah O O (b9 ab O O O O kX)) ?_;refine ac O (λkX=>ah O O (az ab O O O (ct (bj (mT (cK hte)) O O) (v':=aF f') (by rw[hi'];rfl)) O kX)) ?_;refine ac O (λkX=>ah O O (eV O O kX)) ?_;refine ac O (λkX=>ah O O (iL O O kX)) ?_;refine ac O (λkX=>ah O O (b9 ab O O O O kX)) ?_;refine ac O (λkX=>ah O O (fg (s:=1) (i:=0) ab O O O O O aa (by show _<2;omega) O kX)) ?_;refine ac O (λkX=>ah O O (az ab O O O (cY (r:=f') (o:=0) (j:=1) (aR (xs:=ni vf') mA) O) O kX))<|(jN)<|(x6) ?_;refine cS ab O (cs:=(d.E e).enc) (cs':=((d.E e).s_ false).enc) O O O O O O O (uT (uD1))<|(OD) ?_;refine ac O (az ab O O O (ct (bj (mT (cK he1)) O O) (v':=aF v) (by rw[ho1];rfl)) O)<|(bh)<|(nG)<|(fa) ?_;refine ac O (az ab O O O (ct (bj (mT (cK he1)) O O) (v':=aF v) (by rw[ho1];rfl)) O)<|(mE)<|(wT) ?_;refine ac O (az ab O O O (ct (bj (mT (jQ hv1)) O O) (v':= .bool false) (by rw[hsv])) O)<|(bh) ?_;refine ac O (λkX=>ah O O (az ab O O O (mm mA) O kX)) ?_;refine ac O (λkX=>ah O O (eV O O kX)) ?_;refine ac O (λkX=>ah O O (iL O O kX)) ?_;refine ac O (λkX=>ah O O (b9 ab O O O O kX)) ?_;refine ac O (λkX=>ah O O (fg (s:=1) (i:=0) ab O O O O O aa (by show _<2;omega) O kX)) ?_;refine ac O (λkX=>ah O O (az ab O O O (ct (bj (mT (cK he1)) O O) (v':= .bool false) (by rw[hs1])) O kX))<|(jN)<|(bh) ?_;refine ac O (λkX=>ah O O (az ab O O O (mm mA) O kX)) ?_;refine ac O (λkX=>ah O O (iL O O kX)) ?_;refine ac O (λkX=>ah O O (b9 ab O O O O kX)) ?_;refine ac O (λkX=>ah O O (az ab O O O (ct (bj (mT (cK he1)) O O) (v':=aF h) (by rw[hp1];rfl)) O kX)) ?_;refine ac O (λkX=>ah O O (eV O O kX)) ?_;refine ac O (λkX=>ah O O (iL O O kX)) ?_;refine ac O (λkX=>ah O O (b9 ab O O O O kX)) ?_;refine ac O (λkX=>ah O O (fg (s:=1) (i:=0) ab O O O O O aa (by show _<2;omega) O kX)) ?_;refine ac O (λkX=>ah O O (az ab O O O (bj (mT (cK hh1)) O O) O kX))<|(jN)<|(x6) ?_;refine cS ab O (cs:=(D1.V v).enc) (cs':=((D1.V v).s_ (D1.E h).s).enc) O O O O O O O (uT (hU2))<|(lJ)<|ed [] ((D1.modV v λy=>y.s_ (D1.E h).s).LL) ?_;exact⟨⟨O,O⟩,by rw[hfin]⟩
theorem ajY (N:oM d fs k kt kh p e v t h f f') (ha:(d.E e).a=false) (hs:(d.V v).s=true):
  ai prog 222 [iv 0,be r1].toArray [aO r1 0 [aF e],gR fs] d.LL (λw Fs' L'=>(w= .tuple #[]/\Fs'=[])/\L'=(lm d e v h).LL):=by
 refine ym (.tail _ (.head _)) N.hf N.hf' λvf vf'=>(AX) ?_;intro hnd;have hi:=N.hi;have hi':=N.hi';have ht:=N.ht;have hte:=N.hte;have he:=N.he;have hp:=N.hp;obtain⟨D1,eD1,uD1,nD1,kD1⟩:=mU he hnd (λy=>y.s_ false);have he1:(k,e)∈D1.hs:=kD1.hs▸he;have hh1:(kh,h)∈D1.hs:=kD1.hs▸N.hh;have hv1:(p,v)∈D1.vs:=kD1.vs▸N.hv;have ho1:(D1.E e).org=some v:=by rw[eD1,kl,if_pos rfl];exact N.ho
 have hp1:(D1.E e).pv=some h:=by rw[eD1,kl,if_pos rfl];exact N.hp
 have hs1:(D1.E e).s=false:=by rw[eD1,kl,if_pos rfl];rfl
 have hV1:D1.V=d.V:=by rw[eD1];rfl
 have hsv:(D1.V v).s=true:=by rw[hV1];exact hs
 have hU2:=xz (g:=λy=>y.s_ true) (λ_=>rfl) hv1 nD1;have hfin:(D1.modV v λy=>y.s_ true)=lm d e v h:=by
  simp only[lm,ha,hs,Pg,PD,Pn,Bo,<-eD1]
 refine am func222 λ_=>(Fw)<|(wT) ?_;refine ac O (az ab O O O (ct (bj (mT (cK he)) O O) (v':= .bool false) (by rw[ha])) O)<|(bh) ?_;refine ac O (λkX=>ah O O (az ab O O O (mm mA) O kX)) ?_;refine ac O (λkX=>ah O O (iL O O kX)) ?_;refine ac O (λkX=>ah O O (b9 ab O O O O kX)) ?_;refine ac O (λkX=>ah O O (az ab O O O (ct (bj (mT (cK he)) O O) (v':=aF f) (by rw[hi];rfl)) O kX)) ?_;refine ac O (λkX=>ah O O (eV O O kX)) ?_;refine ac O (λkX=>ah O O (iL O O kX)) ?_;refine ac O (λkX=>ah O O (b9 ab O O O O kX)) ?_;refine ac O (λkX=>ah O O (fg (s:=1) (i:=0) ab O O O O O aa (by show _<2;omega) O kX)) ?_;refine ac O (λkX=>ah O O (az ab O O O (cY (r:=f) (o:=0) (j:=1) (aR (xs:=ni vf) mA) O) O kX))<|(jN)<|(bh) ?_;refine ac O (λkX=>ah O O (az ab O O O (mm mA) O kX)) ?_;refine ac O (λkX=>ah O O (iL O O kX)) ?_;refine ac O (λkX=>ah O O (b9 ab O O O O kX)) ?_;refine ac O (λkX=>ah O O (az ab O O O (ct (bj (mT (cK he)) O O) (v':=aF t) (by rw[ht];rfl)) O kX)) ?_;refine ac O (λkX=>ah O O (iL O O kX)) ?_;refine ac O (λkX=>ah O O (b9 ab O O O O kX)) ?_;refine ac O (λkX=>ah O O (az ab O O O (ct (bj (mT (cK hte)) O O) (v':=aF f') (by rw[hi'];rfl)) O kX)) ?_;refine ac O (λkX=>ah O O (eV O O kX)) ?_;refine ac O (λkX=>ah O O (iL O O kX)) ?_;refine ac O (λkX=>ah O O (b9 ab O O O O kX)) ?_;refine ac O (λkX=>ah O O (fg (s:=1) (i:=0) ab O O O O O aa (by show _<2;omega) O kX)) ?_;refine ac O (λkX=>ah O O (az ab O O O (cY (r:=f') (o:=0) (j:=1) (aR (xs:=ni vf') mA) O) O kX))<|(jN)<|(x6) ?_;refine cS ab O (cs:=(d.E e).enc) (cs':=((d.E e).s_ false).enc) O O O O O O O (uT (uD1))<|(OD) ?_;refine ac O (az ab O O O (ct (bj (mT (cK he1)) O O) (v':=aF v) (by rw[ho1];rfl)) O)<|(bh)<|(nG)<|(fa) ?_;refine ac O (az ab O O O (ct (bj (mT (cK he1)) O O) (v':=aF v) (by rw[ho1];rfl)) O)<|(mE)<|(wT) ?_;refine ac O (az ab O O O (ct (bj (mT (jQ hv1)) O O) (v':= .bool true) (by rw[hsv])) O)<|(bh)<|(qE)<|(iV)<|(Jn)<|(pT)<|(iV)<|(x6) ?_;refine cS ab O (cs:=(D1.V v).enc) (cs':=((D1.V v).s_ true).enc) O O O O O O O (uT (hU2))<|(lJ)<|ed [] ((D1.modV v λy=>y.s_ true).LL) ?_;exact⟨⟨O,O⟩,by rw[hfin]⟩
theorem ajX (N:oM d fs k kt kh p e v t h f f') (ha:(d.E e).a=true) (hs:(d.V v).s=false):
  ai prog 222 [iv 0,be r1].toArray [aO r1 0 [aF e],gR fs] d.LL (λw Fs' L'=>(w= .tuple #[]/\Fs'=[])/\L'=(lm d e v h).LL):=by
 refine ym (.tail _ (.head _)) N.hf N.hf' λvf vf'=>(AX) ?_;intro hnd;have hi:=N.hi;have hi':=N.hi';have ht:=N.ht;have hte:=N.hte;have he:=N.he;have hp:=N.hp;obtain⟨D1,eD1,uD1,nD1,kD1⟩:=mU he hnd (λy=>y.s_ true);have he1:(k,e)∈D1.hs:=kD1.hs▸he;have hh1:(kh,h)∈D1.hs:=kD1.hs▸N.hh;have hv1:(p,v)∈D1.vs:=kD1.vs▸N.hv;have ho1:(D1.E e).org=some v:=by rw[eD1,kl,if_pos rfl];exact N.ho
 have hp1:(D1.E e).pv=some h:=by rw[eD1,kl,if_pos rfl];exact N.hp
 have hs1:(D1.E e).s=true:=by rw[eD1,kl,if_pos rfl];rfl
 have hV1:D1.V=d.V:=by rw[eD1];rfl
 have hsv:(D1.V v).s=false:=by rw[hV1];exact hs
 have hU2:=xz (g:=λy=>y.s_ true) (λ_=>rfl) hv1 nD1;have hfin:(D1.modV v λy=>y.s_ true)=lm d e v h:=by
  simp only[lm,ha,hs,Pg,PD,Pn,Bo,<-eD1]
 refine am func222 λ_=>(Fw)<|(wT) ?_;refine ac O (az ab O O O (ct (bj (mT (cK he)) O O) (v':= .bool true) (by rw[ha])) O)<|(Jn)<|(pT)<|(iV)<|(bh)<|(qE)<|(qE)<|(iV)<|(x6) ?_;refine cS ab O (cs:=(d.E e).enc) (cs':=((d.E e).s_ true).enc) O O O O O O O (uT (uD1))<|(OD) ?_;refine ac O (az ab O O O (ct (bj (mT (cK he1)) O O) (v':=aF v) (by rw[ho1];rfl)) O)<|(bh)<|(nG)<|(fa) ?_;refine ac O (az ab O O O (ct (bj (mT (cK he1)) O O) (v':=aF v) (by rw[ho1];rfl)) O)<|(mE)<|(wT) ?_;refine ac O (az ab O O O (ct (bj (mT (jQ hv1)) O O) (v':= .bool false) (by rw[hsv])) O)<|(bh) ?_;refine ac O (λkX=>ah O O (az ab O O O (mm mA) O kX)) ?_;refine ac O (λkX=>ah O O (eV O O kX)) ?_;refine ac O (λkX=>ah O O (iL O O kX)) ?_;refine ac O (λkX=>ah O O (b9 ab O O O O kX)) ?_;refine ac O (λkX=>ah O O (fg (s:=1) (i:=0) ab O O O O O aa (by show _<2;omega) O kX)) ?_;refine ac O (λkX=>ah O O (az ab O O O (ct (bj (mT (cK he1)) O O) (v':= .bool true) (by rw[hs1])) O kX))<|(jN)<|(Jn)<|(pT)<|(iV)<|(x6) ?_;refine cS ab O (cs:=(D1.V v).enc) (cs':=((D1.V v).s_ true).enc) O O O O O O O (uT (hU2))<|(lJ)<|ed [] ((D1.modV v λy=>y.s_ true).LL) ?_;exact⟨⟨O,O⟩,by rw[hfin]⟩
theorem ajW (N:oM d fs k kt kh p e v t h f f') (ha:(d.E e).a=true) (hs:(d.V v).s=true):
  ai prog 222 [iv 0,be r1].toArray [aO r1 0 [aF e],gR fs] d.LL (λw Fs' L'=>(w= .tuple #[]/\Fs'=[])/\L'=(lm d e v h).LL):=by
 refine ym (.tail _ (.head _)) N.hf N.hf' λvf vf'=>(AX) ?_;intro hnd;have hi:=N.hi;have hi':=N.hi';have ht:=N.ht;have hte:=N.hte;have he:=N.he;have hp:=N.hp;obtain⟨D1,eD1,uD1,nD1,kD1⟩:=mU he hnd (λy=>y.s_ true);have he1:(k,e)∈D1.hs:=kD1.hs▸he;have hh1:(kh,h)∈D1.hs:=kD1.hs▸N.hh;have hv1:(p,v)∈D1.vs:=kD1.vs▸N.hv;have ho1:(D1.E e).org=some v:=by rw[eD1,kl,if_pos rfl];exact N.ho
 have hp1:(D1.E e).pv=some h:=by rw[eD1,kl,if_pos rfl];exact N.hp
 have hs1:(D1.E e).s=true:=by rw[eD1,kl,if_pos rfl];rfl
 have hV1:D1.V=d.V:=by rw[eD1];rfl
 have hsv:(D1.V v).s=true:=by rw[hV1];exact hs
 have hU2:=xz (g:=λy=>y.s_ true) (λ_=>rfl) hv1 nD1;have hfin:(D1.modV v λy=>y.s_ true)=lm d e v h:=by
  simp only[lm,ha,hs,Pg,PD,Pn,Bo,<-eD1]
 refine am func222 λ_=>(Fw)<|(wT) ?_;refine ac O (az ab O O O (ct (bj (mT (cK he)) O O) (v':= .bool true) (by rw[ha])) O)<|(Jn)<|(pT)<|(iV)<|(bh)<|(qE)<|(qE)<|(iV)<|(x6) ?_;refine cS ab O (cs:=(d.E e).enc) (cs':=((d.E e).s_ true).enc) O O O O O O O (uT (uD1))<|(OD) ?_;refine ac O (az ab O O O (ct (bj (mT (cK he1)) O O) (v':=aF v) (by rw[ho1];rfl)) O)<|(bh)<|(nG)<|(fa) ?_;refine ac O (az ab O O O (ct (bj (mT (cK he1)) O O) (v':=aF v) (by rw[ho1];rfl)) O)<|(mE)<|(wT) ?_;refine ac O (az ab O O O (ct (bj (mT (jQ hv1)) O O) (v':= .bool true) (by rw[hsv])) O)<|(bh)<|(qE)<|(iV)<|(Jn)<|(pT)<|(iV)<|(x6) ?_;refine cS ab O (cs:=(D1.V v).enc) (cs':=((D1.V v).s_ true).enc) O O O O O O O (uT (hU2))<|(lJ)<|ed [] ((D1.modV v λy=>y.s_ true).LL) ?_;exact⟨⟨O,O⟩,by rw[hfin]⟩
theorem ajV (N:oM d fs k kt kh p e v t h f f'):
  ai prog 222 [iv 1,be r1].toArray [aO r1 0 [aF e],gR fs] d.LL (λw Fs' L'=>(w= .tuple #[]/\Fs'=[])/\L'=d.LL):=by
 refine ym (.tail _ (.head _)) N.hf N.hf' λvf vf'=>(AX) ?_;intro hnd;have hi:=N.hi;have hi':=N.hi';have ht:=N.ht;have hte:=N.hte;have he:=N.he;have hp:=N.hp;have hu:cf d.LL e (.cells (d.E e).enc.toArray 281 (0,0)) (.cells (d.E e).enc.toArray 281 (0,0)) d.LL:=by
  have hU:=Mb (g:=λx=>x) he hnd;have e0:(d.modE e λx=>x)=d:=by
   have:(λj=>if j=e then d.E e else d.E j)=d.E:=by funext j;split;(rename_i h;rw[h]);rfl
   unfold DS.modE;simp only[this]
  rw[e0] at hU;exact hU
 obtain⟨D1,eD1⟩:∃D,D=d:=⟨_,rfl⟩;have he1:(k,e)∈D1.hs:=eD1▸he;have hh1:(kh,h)∈D1.hs:=eD1▸N.hh;have hv1:(p,v)∈D1.vs:=eD1▸N.hv;have ho1:(D1.E e).org=some v:=eD1▸N.ho;have hp1:(D1.E e).pv=some h:=eD1▸N.hp;have uD1:cf d.LL e (.cells (d.E e).enc.toArray 281 (0,0)) (.cells (d.E e).enc.toArray 281 (0,0)) D1.LL:=by rw[eD1];exact hu
 have hU2:cf D1.LL v (.cells (D1.V v).enc.toArray 256 (0,0)) (.cells (D1.V v).enc.toArray 256 (0,0)) D1.LL:=by
  subst eD1;have hU:=xz (g:=λx=>x) (λ_=>rfl) hv1 hnd;have e0:(D1.modV v λx=>x)=D1:=by
   have:(λj=>if j=v then D1.V v else D1.V j)=D1.V:=by funext j;split;(rename_i h;rw[h]);rfl
   unfold DS.modV;simp only[this]
  rw[e0] at hU;exact hU
 refine am func222 λ_=>(Fw)<|(Jv) ?_;refine ac O (az ab O O O (bj (mT (cK he)) O O) O)<|(bh) ?_;refine ac O (λkX=>ah O O (az ab O O O (mm mA) O kX)) ?_;refine ac O (λkX=>ah O O (iL O O kX)) ?_;refine ac O (λkX=>ah O O (b9 ab O O O O kX)) ?_;refine ac O (λkX=>ah O O (az ab O O O (ct (bj (mT (cK he)) O O) (v':=aF f) (by rw[hi];rfl)) O kX)) ?_;refine ac O (λkX=>ah O O (eV O O kX)) ?_;refine ac O (λkX=>ah O O (iL O O kX)) ?_;refine ac O (λkX=>ah O O (b9 ab O O O O kX)) ?_;refine ac O (λkX=>ah O O (fg (s:=1) (i:=1) ab O O O O O aa (by show _<2;omega) O kX)) ?_;refine ac O (λkX=>ah O O (az ab O O O (cY (r:=f) (o:=0) (j:=2) (aR (xs:=ni vf) mA) O) O kX))<|(jN)<|(bh) ?_;refine ac O (λkX=>ah O O (az ab O O O (mm mA) O kX)) ?_;refine ac O (λkX=>ah O O (iL O O kX)) ?_;refine ac O (λkX=>ah O O (b9 ab O O O O kX)) ?_;refine ac O (λkX=>ah O O (az ab O O O (ct (bj (mT (cK he)) O O) (v':=aF t) (by rw[ht];rfl)) O kX)) ?_;refine ac O (λkX=>ah O O (iL O O kX)) ?_;refine ac O (λkX=>ah O O (b9 ab O O O O kX)) ?_;refine ac O (λkX=>ah O O (az ab O O O (ct (bj (mT (cK hte)) O O) (v':=aF f') (by rw[hi'];rfl)) O kX)) ?_;refine ac O (λkX=>ah O O (eV O O kX)) ?_;refine ac O (λkX=>ah O O (iL O O kX)) ?_;refine ac O (λkX=>ah O O (b9 ab O O O O kX)) ?_;refine ac O (λkX=>ah O O (fg (s:=1) (i:=1) ab O O O O O aa (by show _<2;omega) O kX)) ?_;refine ac O (λkX=>ah O O (az ab O O O (cY (r:=f') (o:=0) (j:=2) (aR (xs:=ni vf') mA) O) O kX))<|(jN)<|(fa)<|(jY)<|(Jw) ?_;refine cS ab O (cs:=(d.E e).enc) (cs':=(d.E e).enc) O O O O O O O (uT (uD1))<|(OD) ?_;refine ac O (az ab O O O (ct (bj (mT (cK he1)) O O) (v':=aF v) (by rw[ho1];rfl)) O)<|(bh)<|(nG)<|(fa) ?_;refine ac O (az ab O O O (ct (bj (mT (cK he1)) O O) (v':=aF v) (by rw[ho1];rfl)) O)<|(mE)<|(Jv) ?_;refine ac O (az ab O O O (bj (mT (jQ hv1)) O O) O)<|(bh) ?_;refine ac O (λkX=>ah O O (az ab O O O (mm mA) O kX)) ?_;refine ac O (λkX=>ah O O (eV O O kX)) ?_;refine ac O (λkX=>ah O O (iL O O kX)) ?_;refine ac O (λkX=>ah O O (b9 ab O O O O kX)) ?_;refine ac O (λkX=>ah O O (fg (s:=1) (i:=1) ab O O O O O aa (by show _<2;omega) O kX)) ?_;refine ac O (λkX=>ah O O (az ab O O O (bj (mT (cK he1)) O O) O kX))<|(jN)<|(bh) ?_;refine ac O (λkX=>ah O O (az ab O O O (mm mA) O kX)) ?_;refine ac O (λkX=>ah O O (iL O O kX)) ?_;refine ac O (λkX=>ah O O (b9 ab O O O O kX)) ?_;refine ac O (λkX=>ah O O (az ab O O O (ct (bj (mT (cK he1)) O O) (v':=aF h) (by rw[hp1];rfl)) O kX)) ?_;refine ac O (λkX=>ah O O (eV O O kX)) ?_;refine ac O (λkX=>ah O O (iL O O kX)) ?_;refine ac O (λkX=>ah O O (b9 ab O O O O kX)) ?_;refine ac O (λkX=>ah O O (fg (s:=1) (i:=1) ab O O O O O aa (by show _<2;omega) O kX)) ?_;refine ac O (λkX=>ah O O (az ab O O O (bj (mT (cK hh1)) O O) O kX))<|(jN)<|(fa)<|(jY)<|(Jw) ?_;refine cS ab O (cs:=(D1.V v).enc) (cs':=(D1.V v).enc) O O O O O O O (uT (hU2))<|(lJ)<|ed [] D1.LL ?_;exact⟨⟨O,O⟩,by rw[eD1]⟩
theorem aj0 (N:oM d fs k kt kh p e v t h f f'):
  ai prog 222 [iv 0,be r1].toArray [aO r1 0 [aF e],gR fs] d.LL (λw Fs' L'=>(w= .tuple #[]/\Fs'=[])/\L'=(lm d e v h).LL):=by
 rcases zO (d.E e).a with ha|ha<;>rcases zO (d.V v).s with hs|hs
 ·exact ajW N ha hs
 ·exact ajX N ha hs
 ·exact ajY N ha hs
 ·exact ajZ N ha hs
end Go.Proofs
namespace Go.Proofs
open Go.V Go.Edges
variable {d:DS} {dr:Nat}
structure AK (e e':cq):Prop where
 org:e'.org=e.org
 tw:e'.tw=e.tw
 inc:e'.inc=e.inc
 nx:e'.nx=e.nx
 pv:e'.pv=e.pv
 sq:e'.sq=e.sq
 a:e'.a=e.a
 x:e'.x=e.x
structure AJ (e e':dw):Prop where
 co:e'.co=e.co
 im:e'.im=e.im
 a:e'.a=e.a
 x:e'.x=e.x
structure oi (d d':DS):Prop where
 hs:d'.hs=d.hs
 vs:d'.vs=d.vs
 M:d'.M=d.M
 dr:d'.dr=d.dr
 hm:d'.hm=d.hm
 vm:d'.vm=d.vm
 fc:d'.fc=d.fc
 E:∀j,AK (d.E j) (d'.E j)
 V:∀j,AJ (d.V j) (d'.V j)
theorem AK.refl (e:cq):AK e e:=⟨rfl,rfl,rfl,rfl,rfl,rfl,rfl,rfl⟩
theorem AK.trans {a b c:cq} (h:AK a b) (k:AK b c):AK a c:=⟨k.org.trans h.org,k.tw.trans h.tw,k.inc.trans h.inc,k.nx.trans h.nx,k.pv.trans h.pv,k.sq.trans h.sq,k.a.trans h.a,k.x.trans h.x⟩
theorem AJ.refl (e:dw):AJ e e:=⟨rfl,rfl,rfl,rfl⟩
theorem AJ.trans {a b c:dw} (h:AJ a b) (k:AJ b c):AJ a c:=⟨k.co.trans h.co,k.im.trans h.im,k.a.trans h.a,k.x.trans h.x⟩
theorem oi.refl (d:DS):oi d d:=⟨rfl,rfl,rfl,rfl,rfl,rfl,rfl,λ_=> .refl _,λ_=> .refl _⟩
theorem oi.trans {a b c:DS} (h:oi a b) (k:oi b c):oi a c:=⟨k.hs.trans h.hs,k.vs.trans h.vs,k.M.trans h.M,k.dr.trans h.dr,k.hm.trans h.hm,k.vm.trans h.vm,k.fc.trans h.fc,λj=>(h.E j).trans (k.E j),λj=>(h.V j).trans (k.V j)⟩
theorem acR (d:DS) (e:Nat) (b:Bool):oi d (d.modE e λy=>y.s_ b):=⟨rfl,rfl,rfl,rfl,rfl,rfl,rfl,λj=>by
 rw[kl];split
 ·rename_i h;subst h;exact⟨rfl,rfl,rfl,rfl,rfl,rfl,rfl,rfl⟩
 ·exact .refl _,λ_=> .refl _⟩
theorem Rw (d:DS) (e:Nat) (b:Bool):oi d (d.modV e λy=>y.s_ b):=⟨rfl,rfl,rfl,rfl,rfl,rfl,rfl,λj=> .refl _,λj=>by
 rw[Ew];split
 ·rename_i h;subst h;exact⟨rfl,rfl,rfl,rfl⟩
 ·exact .refl _⟩
theorem Rx (d:DS) (e v h:Nat):oi d (lm d e v h):=(acR d e _).trans (Rw _ _ _)
theorem ajo {d d':DS} (h:oi d d') {hp:PH} (k:(bN d).p hp):(bN d').p hp:=Ih k h.hs λj=>(h.E j).sq
theorem agE {S:List (List Pt×Bool)} {d d':DS} (hi:Inv S d) (h:oJ d d'):Inv S d':=by
 have hE:=h.E;refine⟨by rw[h.hs];exact hi.nd,by rw[h.hs];exact hi.kn,λk r hh=>?_,λk r hh=>?_,λk r hh=>?_,λk r hh=>?_,λp v hh r hr=>?_,λp v hh=>?_,λs b hh=>?_,λk r hh ha=>?_,λp v hh ha=>?_,λk r hh=>?_,λp v hh=>?_⟩
 ·rw[h.hs] at hh;rw[(hE r).sq];exact hi.key k r hh
 ·rw[h.hs] at hh;rw[(hE r).sq];exact hi.src k r hh
 ·rw[h.hs] at hh ⊢;obtain⟨k',r',m',t1,t2,s1,fl⟩:=hi.tw k r hh;exact⟨k',r',m',by rw[(hE r).tw];exact t1,by rw[(hE r').tw];exact t2,by rw[(hE r').sq,(hE r).sq];exact s1,by rw[(hE r').a,(hE r).a];exact fl⟩
 ·rw[h.hs] at hh;rw[h.vs,h.M];obtain⟨v,h1,h2,h3⟩:=hi.org k r hh;exact⟨v,h1,by rw[(hE r).org];exact h2,h3⟩
 ·rw[h.vs] at hh;rw[h.M] at hr;rw[h.hs];obtain⟨k,o,ho⟩:=hi.inc p v hh r hr;exact⟨k,o,by rw[(hE r).org];exact ho⟩
 ·rw[h.vs] at hh;rw[h.M];exact hi.mn p v hh
 ·rw[h.hs];obtain⟨r,hr,hb⟩:=hi.all s b hh;exact⟨r,hr,λe=>by rw[(hE r).a];exact hb e⟩
 ·rw[h.hs] at hh;rw[(hE r).a] at ha;rw[(hE r).sq];exact hi.a2 k r hh ha
 ·rw[h.vs] at hh;rw[h.V] at ha;rw[h.M];obtain⟨r,hr,hra⟩:=hi.va p v hh ha;exact⟨r,hr,by rw[(hE r).a];exact hra⟩
 ·rw[h.hs] at hh;rw[(hE r).s,(hE r).x];exact hi.ef k r hh
 ·rw[h.vs] at hh;rw[h.V];exact hi.vf p v hh
theorem YK {d d':DS} (h:oJ d d') (t:vb d):vb d':=by
 have hE:=h.E;refine⟨λk e he=>?_,λk e k' e' he he' hn=>?_,λk e he=>?_⟩
 ·rw[h.hs] at he;obtain⟨x,k',y,h1,h2,h3,h4⟩:=t.nx k e he;exact⟨x,k',y,by rw[(hE e).nx];exact h1,by rw[h.hs];exact h2,by rw[(hE e).tw];exact h3,by rw[(hE x).org,(hE y).org];exact h4⟩
 ·rw[h.hs] at he he';rw[(hE e).nx,(hE e').nx] at hn;exact t.inj k e k' e' he he' hn
 ·rw[h.hs] at he;obtain⟨x,k',y,h1,h2,h3,h4⟩:=t.pv k e he;exact⟨x,k',y,by rw[(hE e).pv];exact h1,by rw[h.hs];exact h2,by rw[(hE x).tw];exact h3,by rw[(hE y).org,(hE e).org];exact h4⟩
structure zC (d D:DS) (seen:List Nat):Prop where
 same:oi d D
 e1:∀i∈seen,∀x,d.hs[i]? =some x->(D.E x.2).s=(d.E x.2).a
 e2:∀k e,(k,e)∈d.hs->(D.E e).s=true->(d.E e).a=true
 v2:∀p v,(p,v)∈d.vs->(D.V v).s=true->∃r∈d.M v,(d.E r).a=true
theorem zC.vert {S:List (List Pt×Bool)} {d D:DS} {p:Pt} {v:Nat} (hi:Inv S d) (h:zC d D []) (hv:(p,v)∈d.vs):zC d (D.modV v λx=>x.s_ (D.V v).a) []:=by
 refine⟨h.same.trans (Rw _ _ _),λ_ hj=>(nomatch hj),λk e he hs=>h.e2 k e he hs,λq u hu hs=>?_⟩;rw[Ew] at hs;split at hs
 ·rename_i e0;subst e0;refine hi.va p u hv ?_;rw[<-(h.same.V u).a];exact hs
 ·exact h.v2 q u hu hs
theorem Sy {S:List (List Pt×Bool)} {d D:DS} {p0:Option Addr} {fs:List Nat} {cp:Nat} {k:PP} {e:Nat} (hi:Inv S d) (hT:vb d) (hF:JP d p0 fs cp) (h:oi d D) (he:(k,e)∈d.hs):
  ∃kt kh p v t h f f',oM D fs k kt kh p e v t h f f'/\e∈d.M v/\∃u,(d.E h).tw=some u/\u∈d.M v/\(d.E u).a=(d.E h).a:=by
 obtain⟨v,v1,v2,v3⟩:=hi.org k e he;obtain⟨kt,t,mt,t1,t2,_⟩:=hi.tw k e he;obtain⟨g,kh,u,p1,p2,p3,p4⟩:=hT.pv k e he;obtain⟨f,hf,if1⟩:=hF.inc k e he;obtain⟨f',hf',if2⟩:=hF.inc kt t mt;obtain⟨ku,u',mu,u1,u2,_,ua⟩:=hi.tw kh g p2;rw[p3] at u1;cases u1;obtain⟨w,w1,w2,w3⟩:=hi.org ku u mu;rw[v2,w2] at p4;have:=iD p4;subst this;exact⟨kt,kh,_,w,t,g,f,f',⟨h.hs▸he,h.vs▸Bv v1,by rw[(h.E e).org];exact v2,by rw[(h.E e).tw];exact t1,h.hs▸mt,by rw[(h.E e).pv];exact p1,h.hs▸p2,by rw[(h.E e).inc];exact if1,hf,by rw[(h.E t).inc];exact if2,hf'⟩,v3,u,p3,w3,ua⟩
theorem zC.edge {d D:DS} {fs:List Nat} {k kt kh:PP} {p:Pt} {seen:List Nat} {i e v t g f f' u:Nat} (h:zC d D seen) (hi:d.hs[i]? =some (k,e)) (N:oM D fs k kt kh p e v t g f f') (hm:e∈d.M v) (hu:(d.E g).tw=some u) (hum:u∈d.M v) (hua:(d.E u).a=(d.E g).a) (hV:(d.vs.map (·.2)).Nodup):
  zC d (lm D e v g) (seen++[i]):=by
 have he:(k,e)∈d.hs:=bn hi;have hgh:(kh,g)∈d.hs:=h.same.hs▸N.hh;have hE:∀j,((lm D e v g).E j)=if j=e then(D.E e).s_ (D.E e).a else D.E j:=λj=>rfl
 refine⟨h.same.trans (Rx _ _ _ _),λj hj x hx=>?_,λk' e' he' hs=>?_,λq w hw hs=>?_⟩
 ·rw[hE];split
  ·rename_i e0;rw[e0];show(D.E e).a=_;rw[(h.same.E e).a]
  ·rename_i e0;rcases bB.1 hj with hj|hj
   ·exact h.e1 j hj x hx
   ·simp at hj;subst hj;rw[hi] at hx;cases hx;exact absurd O e0
 ·rw[hE] at hs;split at hs
  ·rename_i e0;rw[e0,<-(h.same.E e).a];exact hs
  ·exact h.e2 k' e' he' hs
 ·have e1:(lm D e v g).V w=if w=v then(D.V v).s_ (((D.V v).s||(D.E e).a)||((if g=e then(D.E e).s_ (D.E e).a else D.E g)).s) else D.V w:=rfl
  rw[e1] at hs;split at hs
  ·rename_i e0;subst e0;have hs':((D.V w).s||(D.E e).a||(if g=e then(D.E e).s_ (D.E e).a else D.E g).s)=true:=hs;simp only[Ka] at hs';rcases hs' with(hs'|hs')|hs'
   ·exact h.v2 q w hw hs'
   ·exact⟨e,hm,by rw[<-(h.same.E e).a];exact hs'⟩
   ·split at hs'
    ·exact⟨e,hm,by rw[<-(h.same.E e).a];exact hs'⟩
    ·exact⟨u,hum,by rw[hua];exact h.e2 kh g hgh hs'⟩
  ·exact h.v2 q w hw hs
end Go.Proofs
namespace Go.Proofs
open Tryz
open Go.V Go.Edges
variable {d:DS} {dr:Nat} {S:List (List Pt×Bool)} {p0:Option Addr} {fs:List Nat} {cp:Nat}
structure zy (d D:DS):Prop where
 same:oi d D
 e1:∀k e,(k,e)∈d.hs->(D.E e).s=(D.E e).a
 v2:∀p v,(p,v)∈d.vs->(D.V v).s=true->∃r∈d.M v,(d.E r).a=true
theorem VW {D:DS} (h:oi d D):(d.dr,Obj.cells #[D.fc,.map (some D.hm),.map (some D.vm)] 249 (0,0))∈D.LL:=by rw[<-h.dr];exact .head _
theorem Kw {D:DS} (h:oi d D):(d.vm,bW (eL d.vs))∈D.LL:=by rw[<-h.vm,<-h.vs];exact .tail _ (.tail _ (.head _))
theorem M0 {D:DS} (h:oi d D):(d.hm,bW (fB d.hs))∈D.LL:=by rw[<-h.hm,<-h.hs];exact .tail _ (.head _)
theorem adB (hi:Inv S d) (hT:vb d) (hF:JP d p0 fs cp) (hV:(d.vs.map (·.2)).Nodup) (hdr:d.dr=dr) (hb:d.hs.length<=1099511627776) (hb2:d.vs.length<=1099511627776):
  ai prog 159 [aF dr].toArray [bN d,gR fs] d.LL (λw Fs' L'=>∃D,zy d D/\w= .tuple #[]/\Fs'=[bN D]/\L'=D.LL):=by
 subst hdr;have hml:(eL d.vs).length=d.vs.length:=by simp
 have hml2:(fB d.hs).length=d.hs.length:=by simp
 refine am func159 λ_=>(eE)<|(Fy) ?_;refine az ab O O O (bj (mT (VW (oi.refl d))) O O) O ?_;refine uS ab O O O (eo (kvs:=eL d.vs) (mT (Kw (oi.refl d)))) O λri=>(dF)<|aU [(3,3),(11,16)] (λ(x:List Nat×DS)=>eO (eL d.vs).length x.1/\zC d x.2 []) (λ_=>[]) (λ_=>[]) (λx=>(ri,jH d.vm (eL d.vs).length x.1)::x.2.LL) (λx=>(eL d.vs).length-x.1.length) (([],d)) (⟨eO.nil,⟨.refl d,λ_ h=>(nomatch h),λk e he h=>absurd h (by simp[(hi.ef k e he).1]),λp v hv h=>absurd h (by simp[(hi.vf p v hv).1])⟩⟩) λ⟨seen,D⟩ fr ⟨h5,h6⟩=>?_;dsimp only at h5 h6;have hle:=h5.le;have hs:=h6.same;refine(ba) ?_;refine uU (m:=d.vm) (kvs:=eL d.vs) (seen:=seen) O (eo (mT (Kw hs))) mA (λ_=>uA) O O λo ho=>?_;refine sC O (uM o) O<|(cn)<|ao ?_ ?_
 ·intro hc12;obtain⟨⟨i,q⟩,rfl⟩:=uE.1 hc12;obtain⟨hq,hns,hil⟩:=ho.one i q rfl;have hlt:=h5.lt_of hns hil;obtain⟨⟨p,v⟩,he,rfl⟩:=sd (F:=λe:Pt×Nat=>(pv e.1,aF e.2)) rfl hq;have hpv:(p,v)∈d.vs:=bn he;have hpv':(p,v)∈D.vs:=hs.vs▸hpv;refine(uf) ?_;refine uV (m:=d.vm) (kvs:=eL d.vs) (seen:=seen) (i:=i) O (eo (mT (Kw hs))) mA hq O<|(kR)<|(nH) ?_;intro r3;refine(gn)<|(aN) ?_;refine dl (r:=r3) tA<|(cJ)<|(iW)<|aS eA call216 (E7 (fn:=221) (fv:=[]) (cv:=[be r3]) (G:=[aO r3 0 [aF v]]) (L0:=D.LL) (L1:=(D.modV v λx=>x.s_ (D.V v).a).LL) (L2:=(D.modV v λx=>x.s_ (D.V v).a).LL) call221 (Yr hpv') (Yq (d:=D.modV v λx=>x.s_ (D.V v).a) hpv')) λv' Fs' L' ⟨⟨e4,e5⟩,e6⟩=>?_;subst e4;subst e5;subst e6;refine(aN)<|(ir) ?_;exact⟨(seen++[i],D.modV v λx=>x.s_ (D.V v).a),by dsimp only;rw[aW];simp only[dZ];omega,⟨h5.snoc hns hil,h6.vert hi hpv⟩,lA,kA,fA,hA⟩
 ·intro hc12;refine(CU)<|(Fy) ?_;refine az ab O O O (ct (bj (mT (VW hs)) O O) (v':= .map (some d.hm)) (by rw[hs.hm])) O ?_;refine uS ab O O O (eo (kvs:=fB d.hs) (mT (M0 hs))) O λrj=>(dF)<|aU [(5,5),(22,27)] (λ(x:List Nat×DS)=>eO (fB d.hs).length x.1/\zC d x.2 x.1) (λ_=>[]) (λ_=>[]) (λx=>(rj,jH d.hm (fB d.hs).length x.1)::x.2.LL) (λx=>(fB d.hs).length-x.1.length) (([],D)) (⟨eO.nil,h6⟩) λ⟨seen2,D2⟩ fr2 ⟨h7,h8⟩=>?_;dsimp only at h7 h8;have hle2:=h7.le;have hs2:=h8.same;refine(ba) ?_;refine uU (m:=d.hm) (kvs:=fB d.hs) (seen:=seen2) O (eo (mT (M0 hs2))) mA (λ_=>uA) O O λo2 ho2=>?_;refine sC O (uM o2) O<|(cn)<|ao ?_ ?_
  ·intro hc23;obtain⟨⟨i,q⟩,rfl⟩:=uE.1 hc23;obtain⟨hq,hns,hil⟩:=ho2.one i q rfl;have hlt2:=h7.lt_of hns hil;obtain⟨⟨k0,e⟩,he,rfl⟩:=sd (F:=λe:PP×Nat=>(lr e.1,aF e.2)) rfl hq;have hke:(k0,e)∈d.hs:=bn he;obtain⟨kt,kh,p,v,t,g,f,f',N,hm,u,hu,hum,hua⟩:=Sy hi hT hF hs2 hke;refine(uf) ?_;refine uV (m:=d.hm) (kvs:=fB d.hs) (seen:=seen2) (i:=i) O (eo (mT (M0 hs2))) mA hq O<|(kR)<|(nH) ?_;intro r5;refine(gn)<|(aN) ?_;refine dl (r:=r5) tA ?_;have N2:oM (lm D2 e v g) fs k0 kt kh p e v t g f f':=by{have hp:=Rx D2 e v g;exact⟨hp.hs▸N.he,hp.vs▸N.hv,by rw[(hp.E e).org];exact N.ho,by rw[(hp.E e).tw];exact N.ht,hp.hs▸N.hte,by rw[(hp.E e).pv];exact N.hp,hp.hs▸N.hh,by rw[(hp.E e).inc];exact N.hi,N.hf,by rw[(hp.E t).inc];exact N.hi',N.hf'⟩}
   refine(cJ)<|(iW)<|aS eA call216 (E7 (fn:=222) (fv:=[]) (cv:=[be r5]) (G:=[aO r5 0 [aF e],gR fs]) (L0:=D2.LL) (L1:=(lm D2 e v g).LL) (L2:=(lm D2 e v g).LL) call222 (aj0 N) (ajV N2)) λv' Fs' L' ⟨⟨e4,e5⟩,e6⟩=>?_;subst e4;subst e5;subst e6;refine(aN)<|(ir) ?_;exact⟨(seen2++[i],lm D2 e v g),by dsimp only;rw[aW];simp only[dZ];omega,⟨h7.snoc hns hil,h8.edge he N hm hu hum hua hV⟩,lA,kA,fA,hA⟩
  ·intro hc23;have hall:=ho2.all (by simpa using hc23);obtain rfl:o2=none:=by simpa using hc23
   have hLd:zy d D2:=⟨hs2,λk e he=>by{obtain⟨i,hi'⟩:=lg he;exact(h8.e1 i (hall i (by{have:=da hi';omega})) _ hi').trans (hs2.E e).a.symm},h8.v2⟩;refine cI (bN D2) (λhp al=>ajo hs2 (al (bN d) mA))<|(nF)<|ed [bN D2] D2.LL ?_;exact⟨D2,hLd,O,O,O⟩
end Go.Proofs
namespace Go.Proofs
open Tryz
open Go.V Go.Edges
theorem Aj {b c:Bool}:ai prog 125 [.agg #[.bool b,.bool c]].toArray [] [] (Is (.bool (b||c))):=by
 cases b
 ·refine am func125 λ_=>(au) ?_;intro _;refine(fo)<|(Jz)<|(gG)<|(aB) ?_;refine ah O O (fg (s:=1) (i:=1) ab O O O O O aa (by show _<2;omega) O<|(W8)<|(gm)<|cV)
 ·refine am func125 λ_=>(au) ?_;intro _;exact(fo)<|(Jz)<|(gG)<|(zj)<|cV
def BB:List Pt->List Pt->Bool
 |[],_=>false
 |_::_,[]=>true
 |a::l,b::m=>bif !aV a b then jc a b else BB l m
variable {p p':Option Addr} {l l':List Pt} {cp cp':Nat}
theorem Rl:ai prog 231 [jF p l cp,jF p' l' cp'].toArray [gF p l cp,gF p' l' cp'] [] (Is (.bool (BB l l'))):=by
 refine tu (.head _) (λ_ h=>(uX h).2) λhb=>?_;refine tu (.tail _ (.head _)) (λ_ h=>(uX h).2) λhb'=>?_;simp only[maxLen] at hb hb';refine am func231 λ_=>(au) ?_;intro _;refine(cg) ?_;intro _;refine(rL)<|aj eA call98 (jB (l:=l'))<|(oQ)<|aU [(4,4),(6,8),(11,31)] (λ(i:Nat)=>i<=l.length/\BB (l.drop i) (l'.drop i)=BB l l') (λi=>[(6,iv i)]) (λ_=>[]) (λ_=>[]) (λi=>l.length-i) (0) (⟨bf _,O⟩) λi fr ⟨h5,h6⟩=>?_;refine(eE)<|(eH)<|aj eA call98 (jB (l:=l))<|(kU)<|ao ?_ ?_
 ·intro hc14;have hlt:i<l.length:=by have:=of_decide_eq_true hc14;omega
  obtain⟨a,ha⟩:∃x,l[i]? =some x:=⟨_,aG hlt⟩;have hda:l.drop i=a::l.drop (i+1):=by{rw[Bq hlt];congr 1;rw[aG hlt] at ha;exact iD ha}
  refine(j5)<|(lL)<|(uj)<|ao ?_ ?_
  ·intro hc19;have hge:l'.length<=i:=by have:=of_decide_eq_true hc19;omega
   rw[hda,List.drop_eq_nil_of_le hge] at h6;refine(mI)<|(ul)<|(ul)<|(kS) ?_;exact⟨⟨by rw[<-h6];rfl,O⟩,O⟩
  ·intro hc19;have hlt2:i<l'.length:=by have:=of_decide_eq_false hc19;omega
   obtain⟨b,hb1⟩:∃x,l'[i]? =some x:=⟨_,aG hlt2⟩;have hdb:l'.drop i=b::l'.drop (i+1):=by{rw[Bq hlt2];congr 1;rw[aG hlt2] at hb1;exact iD hb1}
   rw[hda,hdb,BB] at h6;refine(om) ?_;refine cz cw 8 [6,7] []<|(vr) ?_;refine ac O (λkX=>aj eA call131 (iO ha) kX)<|(vr) ?_;refine ac O (λkX=>aj eA call131 (iO hb1) kX)<|(zo) ?_;refine so (i:=6) (j:=7) br yA ?_ ?_
   ·refine(Jk) ?_;intro r7;refine(dU)<|(aq) ?_;intro r8;refine(iy)<|(de)<|(cu)<|(gM) ?_;refine vY O O qV (λw=>qo 9998 w _ _ _ _) O<|(aN)<|ao ?_ ?_
    ·intro hc28;have hne:aV a b=false:=by{show(cX a.1 b.1&&cX a.2 b.2)=false;simpa only[zJ] using hc28}
     rw[hne] at h6;refine(gM)<|aj eA call235 (yG)<|(bO)<|(ul)<|(nD) ?_;exact⟨⟨by rw[<-h6];rfl,O⟩,O⟩
    ·intro hc28;have heq:aV a b=true:=by simpa[aV] using hc28
     rw[heq] at h6;refine(bX)<|(zb) ?_;refine dD (m:=((i+1:Nat):Int)) O O aa ⟨aa,aa⟩ O ?_;refine(bt) ?_;exact⟨i+1,oA,⟨aa,h6⟩,lA,kA,fA,hA⟩
   ·refine(Jk) ?_;intro r8;refine(dU)<|(aq) ?_;intro r7;refine(iy)<|(de)<|(cu)<|(gM) ?_;refine vY O O qV (λw=>qo 9998 w _ _ _ _) O<|(aN)<|ao ?_ ?_
    ·intro hc28;have hne:aV a b=false:=by{show(cX a.1 b.1&&cX a.2 b.2)=false;simpa only[zJ] using hc28}
     rw[hne] at h6;refine(gM)<|aj eA call235 (yG)<|(bO)<|(ul)<|(nD) ?_;exact⟨⟨by rw[<-h6];rfl,O⟩,O⟩
    ·intro hc28;have heq:aV a b=true:=by simpa[aV] using hc28
     rw[heq] at h6;refine(bX)<|(zb) ?_;refine dD (m:=((i+1:Nat):Int)) O O aa ⟨aa,aa⟩ O ?_;refine(bt) ?_;exact⟨i+1,oA,⟨aa,h6⟩,lA,kA,fA,hA⟩
 ·intro hc14;have hge:i=l.length:=by have:=of_decide_eq_false hc14;omega
  rw[hge,Pj] at h6;refine(y9)<|(gw) ?_;exact⟨⟨by rw[<-h6];rfl,O⟩,O⟩
end Go.Proofs
namespace Go.Proofs
open Tryz
open Go.V Go.Sort Go.Extern Go.Lib
instance : Inhabited Sq:=⟨⟨none,[],0⟩⟩
def gK (qs:List Sq):an where
 p h:=∀q∈qs,q.fact.p h
 mono:=λhle k q hq=>an.mono _ hle (k q hq)
def Mt (a b:Sq):Bool:=BB a.l b.l
variable {g n cap r:Nat} {tl:List Value} {a:Array Sq} {qs ps:List Sq} {v:Value} {B:List ae}
abbrev Am (r g n cap:Nat):List ae:=[bL r 93 [.slice (some ⟨g,0,none⟩) n cap]]
theorem Ta (hd:a.size=n) (hn:n<=4294967295) (hk:∀x∈a.toList,x∈qs) (x y:Int) (i j:Nat) (ex:x=i) (ey:y=j) (hi:i<n) (hj:j<n):
  ai prog 233 [iv x,iv y,be r].toArray [gK qs] (dq Sq.cells tl 90 g a::Am r g n cap)
   (λv Fs' L'=>(v= .bool (Mt a[i]! a[j]!)/\Fs'=[])/\L'=dq Sq.cells tl 90 g a::Am r g n cap):=by
 subst ex;subst ey;obtain⟨e,he⟩:∃p,a[i]! =p:=⟨_,rfl⟩;obtain⟨f,hf⟩:∃q,a[j]! =q:=⟨_,rfl⟩;have hpi:a.toList[i]? =some e:=by rw[<-he];simp[hd,hi]
 have hqj:a.toList[j]? =some f:=by rw[<-hf];simp[hd,hj]
 have mei:=hk e (bn hpi);have mfj:=hk f (bn hqj);rw[he,hf,Mt];refine nT e.fact (λhp al=>al (gK qs) (.head _) _ mei) ?_;refine nT f.fact (λhp al=>al (gK qs) (.tail _ (.head _)) _ mfj) ?_;refine am func233 λ_=>(y8)<|(gG)<|(aB) ?_;refine bp (s:=2) (i:=i) ab O O O O O aa aa O ?_;refine aK ab O O O (tM (F:=Sq.cells) (k:=2) (io mA) (λ_ _=>O) hpi aa) O O ?_;refine aj eA call84 (tN (q:=e))<|(aq) ?_;intro r6;refine(ug)<|(gG)<|(aB) ?_;refine bp (s:=2) (i:=j) ab O O O O O aa aa O ?_;refine aK ab O O O (tM (F:=Sq.cells) (k:=2) (io mA) (λ_ _=>O) hqj aa) O O ?_;refine aj eA call84 (tN (q:=f))<|(aq) ?_;intro r7;refine(cu)<|(gM)<|aj eA call231 (Rl)<|(bO)<|aH [] (dq Sq.cells tl 90 g a::Am r g n cap) ?_;exact gk
theorem S1:(prog.info? 93).map (·.desc)=some (.slice 90):=by kernel_rfl
theorem Mj:prog.packed 93=false:=by kernel_rfl
theorem S0:(prog.info? 90).map (λi=>(i.size,i.hasPointers,i.bytes))=some (2,true,32):=by kernel_rfl
theorem afo (w:World):(isAgg 90).run prog w= .ok true w:=by kernel_rfl
theorem Mk (w:World):(Extern.Rtype.kind 90).run prog w= .ok 25 w:=by kernel_rfl
theorem aet (x:Sq):∀v∈x.cells,v.oneCell'=true:=λv hv=>by
 rcases bm.1 hv with rfl|hv
 ·rfl
 ·rcases bm.1 hv with rfl|hv
  ·rfl
  ·cases hv
noncomputable def Hy (r n sf:Nat) (scv:List Value) (LL:Array Sq->List ae) (qs:List Sq):SF Sq where
 lf:=233
 sf:=sf
 lfv:=[]
 lcv:=[be r]
 sfv:=[]
 scv:=scv
 G:=[gK qs]
 LL:=LL
 lt:=Mt
 n:=n
 Ok:=λa=>a.size=n/\a.toList.Perm qs
theorem afC (hn:n<=4294967295):kq (Hy r n 367 [Value.slice (some ⟨g,0,none⟩) n cap,typeHandle prog 90] (λa=>dq Sq.cells tl 90 g a::Am r g n cap) qs) where
 lessE:=call233
 less:=λd hd x y i j ex ey hi hj=>Ta hd.1 hn (λx hx=>hd.2.mem_iff.1 hx) x y i j ex ey hi hj
 swap:=λd hd x y i j ex ey hi hj=>by
  obtain⟨ie,hie,hs⟩:=iE.1 S0;exact KF (F:=Sq.cells) (k:=2) (λ_=>O) aet KI hie (by simpa using congrArg Prod.fst hs) afo d hd.1 x y i j ex ey hi hj
 size:=λd hd=>hd.1
 ok:=λd hd i j hi hj=>⟨by simp[swp,hd.1],(GD (hd.1.symm▸hi) (hd.1.symm▸hj)).trans hd.2⟩
 small:=hn
theorem afB:kq (Hy r 1 360 [] (λa=>dq Sq.cells tl 90 g a::Am r g 1 cap) qs) where
 lessE:=call233
 less:=λd hd x y i j ex ey hi hj=>Ta hd.1 (show 1<=4294967295 by decide) (λx hx=>hd.2.mem_iff.1 hx) x y i j ex ey hi hj
 swap:=λd hd x y i j ex ey hi hj=>by
  have hd1:d.size=1:=hd.1;have hi':i<1:=hi;have hj':j<1:=hj;obtain rfl:i=0:=by omega
  obtain rfl:j=0:=by omega
  subst ex;subst ey;rw[By aa];intro h w sa;refine⟨.tuple #[],w,_,?_,⟨O,O⟩,sa,Fr.refl _ _,⟨λr hr=> .inl hr,λp hp=> .inl (aM.2 ⟨p,hp,O⟩)⟩⟩;have hh:(callFunc 360 #[.int .i64 0,.int .i64 0]).run prog w= .ok (.value (.tuple #[])) w:=by rw[KM,KL];rfl
  exact hh
 size:=λd hd=>hd.1
 ok:=λd hd i j hi hj=>by
  have hd1:d.size=1:=hd.1;have hi':i<1:=hi;have hj':j<1:=hj;obtain rfl:i=0:=by omega
  obtain rfl:j=0:=by omega
  rw[By aa];exact hd
 small:=by show 1<=4294967295;decide
noncomputable def Sv (lf:Nat) (lcv:List Value) (L:List ae):SF Nat where
 lf:=lf
 sf:=359
 lfv:=[]
 lcv:=lcv
 sfv:=[]
 scv:=[]
 G:=[]
 LL:=λ_=>L
 lt:=λ_ _=>false
 n:=0
 Ok:=λa=>a.size=0
theorem aeE {lf:Nat} {lcv:List Value} {L:List ae} (hc:∀(args:Array Value) (w:World),(callFunc lf args).run prog w= .ok (.enter lf args) w):kq (Sv lf lcv L) where
 lessE:=hc
 less:=λd hd x y i j ex ey hi hj=>absurd hi (iZ _)
 swap:=λd hd x y i j ex ey hi hj=>absurd hi (iZ _)
 size:=λd hd=>hd
 ok:=λd hd i j hi hj=>absurd hi (iZ _)
 small:=by show 0<=4294967295;decide
theorem K4 {t e ke lf:Nat} {p:Option Addr} {cp:Nat} {lcv:List Value} {L:List ae} (hc:∀(args:Array Value) (w:World),(callFunc lf args).run prog w= .ok (.enter lf args) w)
  (hde:(prog.info? t).map (·.desc)=some (.slice e)) (hpk:prog.packed t=false) (he:(prog.info? e).isSome=true) (hke:∀w,(Extern.Rtype.kind e).run prog w= .ok ke w):
  ai prog 228 [.iface t (.slice p 0 cp),gE lf [] lcv].toArray [] L (λ_ Fs' L'=>Fs'=[]/\L'=L):=by
 obtain⟨i,hi,hde⟩:=iE.1 hde;obtain⟨ie,hie⟩:=uE.1 he;have hs:=xk (S:=Sv lf lcv L) (d:= #[]) (p:=p) (cap:=cp) (aeE hc) rfl hi hde hpk (xi hi hde hie hke (show swapperK 0 ie ke=1 by simp[swapperK]) QF);exact pg hs λv Fs' L' ⟨q1,q2,q3⟩=>⟨q1,q3⟩
theorem aJ.rowQ (h:aJ 90 2 v ps.length (ps.flatMap Sq.cells) B) (h0:0<ps.length):∃g cap tl,v= .slice (some ⟨g,0,none⟩) ps.length cap/\B=[dq Sq.cells tl 90 g ps.toArray]/\
  ∀qs:List Sq,qs.length=ps.length->aJ 90 2 v qs.length (qs.flatMap Sq.cells) [dq Sq.cells tl 90 g qs.toArray]:=by
 have fl:∀l:List Sq,(l.flatMap Sq.cells).length=l.length*2:=λl=>kJ (k:=2) λ_ _=>rfl;obtain⟨g,cap,cur,rfl,rfl,h1,h2,h3,h4⟩:=aJ.one h h0;have hc:cur.toList=ps.flatMap Sq.cells++cur.toList.drop (ps.length*2):=by rw[<-h4,gf]
 refine⟨g,cap,cur.toList.drop (ps.length*2),O,?_,λqs hq=>?_⟩
 ·have:cur=(ps.toArray.toList.flatMap Sq.cells++cur.toList.drop (ps.length*2)).toArray:=by apply xc;simpa using hc
  rw[dq,<-this]
 ·have hql:=fl qs;refine⟨aa,.inr ⟨g,cap,_,by rw[hq],rfl,aa,h2,?_,?_⟩⟩
  ·have e1:(qs.toArray.toList.flatMap Sq.cells).length=qs.length*2:=hql;simp only[ox,aW,jx,vO,e1];have:=gI 2 h1;omega
  ·have e1:(qs.toArray.toList.flatMap Sq.cells).length=qs.length*2:=hql;rw[vJ aa,eQ aa]
theorem ach (h0:aJ 90 2 v ps.length (ps.flatMap Sq.cells) B) (hb:ps.length<=4294967295):
  ai prog 228 [.iface 93 v,gE 233 [] [be r]].toArray [gK ps] (B++[bL r 93 [v]])
   (λ_ Fs' L'=>Fs'=[]/\∃(B':List ae) (qs:List Sq),qs.Perm ps/\aJ 90 2 v qs.length (qs.flatMap Sq.cells) B'/\L'=B'++[bL r 93 [v]]):=by
 obtain⟨i,hi,hde⟩:=iE.1 S1;obtain⟨ie,hie,hs⟩:=iE.1 S0;obtain⟨h1,hp,hby⟩:ie.size=2/\ie.hasPointers=true/\ie.bytes=32:=by simpa using hs
 rcases dL ps.length 1 with hz|hz1
 ·have hnil:ps=[]:=Bn.1 aa;subst hnil;obtain⟨p,cap,rfl⟩:=h0.shape;have hs:=K4 (t:=93) (e:=90) (p:=p) (cp:=cap) (lcv:=[be r]) (L:=B++[bL r 93 [.slice p 0 cap]]) call233 S1 Mj (by rw[hie];rfl) Mk;intro h w sa al;exact(hs h w sa (λ_ hh=>nomatch hh)).mono λe w' he=>by
   cases e with
   |returned v=>
    obtain⟨Fs',L',h',⟨q1,q2⟩,hr⟩:=he;exact⟨Fs',L',h',⟨q1,B,[],.refl _,h0,q2⟩,hr⟩
   |panicked ch=>exact he
   |outgrown=>exact he
 ·obtain⟨g,cap,tl,rfl,rfl,hall⟩:=aJ.rowQ h0 hz1;rcases dL ps.length 2 with h1'|h2
  ·have e1:ps.length=1:=by omega
   rw[e1] at hall ⊢;have hs:=xk (S:=Hy r 1 360 [] (λa=>dq Sq.cells tl 90 g a::Am r g 1 cap) ps) (d:=ps.toArray) (p:=some ⟨g,0,none⟩) (cap:=cap) afB ⟨by simpa using e1,.refl _⟩ hi hde Mj (xi hi hde hie Mk (show swapperK 1 ie 25=2 by simp[swapperK]) KH);exact pg hs λv Fs' L' ⟨q1,q2,q3⟩=>⟨q1,_,_,q2.2,hall _ (q2.2.length_eq.trans e1),q3⟩
  ·have hs:=xk (S:=Hy r ps.length 367 [Value.slice (some ⟨g,0,none⟩) ps.length cap,typeHandle prog 90] (λa=>dq Sq.cells tl 90 g a::Am r g ps.length cap) ps) (d:=ps.toArray) (p:=some ⟨g,0,none⟩) (cap:=cap) (afC hb) ⟨rfl,.refl _⟩ hi hde Mj (xi hi hde hie Mk (show swapperK ps.length ie 25=9 by
     have a1:(ps.length==0)=false:=by rw[beq_eq_false_iff_ne];omega
     have a2:(ps.length==1)=false:=by rw[beq_eq_false_iff_ne];omega
     simp only[swapperK,a1,a2,hp,hby];rfl) KG)
   exact pg hs λv Fs' L' ⟨q1,q2,q3⟩=>⟨q1,_,_,q2.2,hall _ q2.2.length_eq,q3⟩
end Go.Proofs
namespace Go.Proofs
open Tryz
open Go.V Go.Edges
variable {d:DS} {e v t h f f' r1:Nat} {p:Pt} {k kt kh:PP} {fs:List Nat}
theorem ND {Fs:List an} {L:List ae} {x:Nat} {vx:Value} (hm:aO x 0 (ni vx)∈Fs):fS Fs L x 1 [.bool false,.bool false]:=by
 have h:=jp (k:=1) (m:=2) (aR (L:=L) hm);simpa using h
theorem VK {Fs:List an} {L:List ae} {s:Bool} (hm:(e,Obj.cells (d.E e).enc.toArray 281 (0,0))∈L) (hs:(d.E e).s=s):fS Fs L e 11 [.bool s,.bool false]:=by
 subst hs;exact jp (k:=11) (m:=2) (bD hm)
theorem acx (N:oM d fs k kt kh p e v t h f f') (hx:(d.E e).x=true):
  ai prog 232 [aF e,gE 125 [] []].toArray [gR fs] d.LL (λw Fs' L'=>(w= .bool false/\Fs'=[])/\L'=d.LL):=by
 refine ym (.head _) N.hf N.hf' λvf vf'=>?_;have hi:=N.hi;have hi':=N.hi';have ht:=N.ht;have hte:=N.hte;have he:=N.he;refine am func232 λ_=>(Jl)<|(Fy) ?_;refine az ab O O O (ct (bj (mT (cK he)) O O) (v':= .bool true) (by rw[hx])) O<|(oR)<|(oq)<|(gm)<|(oq)<|(zc)<|(gm)<|(oq)<|(lP)<|(zc)<|(gm)<|(bO)<|aH [] d.LL ?_;exact gk
theorem acz (N:oM d fs k kt kh p e v t h f f') (hx:(d.E e).x=false) (hs:(d.E e).s=false):
  ai prog 232 [aF e,gE 125 [] []].toArray [gR fs] d.LL (λw Fs' L'=>(w= .bool false/\Fs'=[])/\L'=d.LL):=by
 refine ym (.head _) N.hf N.hf' λvf vf'=>?_;have hi:=N.hi;have hi':=N.hi';have ht:=N.ht;have hte:=N.hte;have he:=N.he;refine am func232 λ_=>(Jl)<|(Fy) ?_;refine az ab O O O (ct (bj (mT (cK he)) O O) (v':= .bool false) (by rw[hx])) O<|(oR)<|(pI)<|(zr)<|(iQ) ?_;refine ah O O (aK ab O O O (VK (mT (cK he)) hs) O O ?_);refine ah O O (dj O eA call125 nA (Aj (b:=false) (c:=false)) λv' Fs' L' ⟨⟨e1,e2⟩,e3⟩=>?_);subst e1;subst e2;subst e3;refine(fD)<|(oq)<|(zc)<|(gm)<|(oq)<|(lP)<|(zc)<|(gm)<|(bO)<|aH [] d.LL ?_;exact gk
theorem acy (N:oM d fs k kt kh p e v t h f f') (hx:(d.E e).x=false) (hs:(d.E e).s=true):
  ai prog 232 [aF e,gE 125 [] []].toArray [gR fs] d.LL (λw Fs' L'=>(w= .bool true/\Fs'=[])/\L'=d.LL):=by
 refine ym (.head _) N.hf N.hf' λvf vf'=>?_;have hi:=N.hi;have hi':=N.hi';have ht:=N.ht;have hte:=N.hte;have he:=N.he;refine am func232 λ_=>(Jl)<|(Fy) ?_;refine az ab O O O (ct (bj (mT (cK he)) O O) (v':= .bool false) (by rw[hx])) O<|(oR)<|(pI)<|(zr)<|(iQ) ?_;refine ah O O (aK ab O O O (VK (mT (cK he)) hs) O O ?_);refine ah O O (dj O eA call125 nA (Aj (b:=true) (c:=false)) λv' Fs' L' ⟨⟨e1,e2⟩,e3⟩=>?_);subst e1;subst e2;subst e3;refine(fD)<|(pI)<|(zr)<|(iQ) ?_;refine ah O O (az ab O O O (ct (bj (mT (cK he)) O O) (v':=aF f) (by rw[hi];rfl)) O<|(zr)<|(iQ) ?_);refine ah O O (aK ab O O O (ND (vx:=vf) mA) O O ?_);refine ah O O (dj O eA call125 nA (Aj (b:=false) (c:=false)) λv' Fs' L' ⟨⟨e1,e2⟩,e3⟩=>?_);subst e1;subst e2;subst e3;refine(JB)<|(fD)<|(pI)<|(zr)<|(iQ) ?_;refine ah O O (az ab O O O (ct (bj (mT (cK he)) O O) (v':=aF t) (by rw[ht];rfl)) O<|(zr)<|(iQ) ?_);refine ah O O (az ab O O O (ct (bj (mT (cK hte)) O O) (v':=aF f') (by rw[hi'];rfl)) O<|(zr)<|(iQ) ?_);refine ah O O (aK ab O O O (ND (vx:=vf') mA) O O ?_);refine ah O O (dj O eA call125 nA (Aj (b:=false) (c:=false)) λv' Fs' L' ⟨⟨e1,e2⟩,e3⟩=>?_);subst e1;subst e2;subst e3;refine(JB)<|(fD)<|(bO)<|aH [] d.LL ?_;exact gk
theorem acw (N:oM d fs k kt kh p e v t h f f'):ai prog 232 [aF e,gE 125 [] []].toArray [gR fs] d.LL (λw Fs' L'=>(w= .bool (!(d.E e).x&&(d.E e).s)/\Fs'=[])/\L'=d.LL):=by
 rcases zO (d.E e).x with hx|hx
 ·rw[hx];exact acx N hx
 ·rcases zO (d.E e).s with hs|hs
  ·rw[hx,hs];exact acy N hx hs
  ·rw[hx,hs];exact acz N hx hs
end Go.Proofs
namespace Go.V
theorem aeO {A L:List ae} (h:List.Sublist A L) (k:(ids L).Nodup):(ids A).Nodup:=(h.map _).nodup k
theorem NZ {Fs:List an} {L:List ae} {r o:Nat} {xs ys:List Value} (h:fS Fs L r o xs) (e:xs=ys):fS Fs L r o ys:=e▸h
end Go.V
namespace Go.Proofs
open Go.V Go.Edges
def cq.x_ (e:cq) (x:Bool):cq:={e with x:=x}
def dw.x_ (e:dw) (x:Bool):dw:={e with x:=x}
structure fL (d d':DS):Prop where
 hs:d'.hs=d.hs
 vs:d'.vs=d.vs
 dr:d'.dr=d.dr
 hm:d'.hm=d.hm
 vm:d'.vm=d.vm
 fc:d'.fc=d.fc
 E:∀j,(d'.E j).x_ (d.E j).x=d.E j
 V:∀j,(d'.V j).x_ (d.V j).x=d.V j
theorem fL.refl (d:DS):fL d d:=⟨rfl,rfl,rfl,rfl,rfl,rfl,λ_=>rfl,λ_=>rfl⟩
theorem X0 {a b c:cq} (h:b.x_ a.x=a) (k:c.x_ b.x=b):c.x_ a.x=a:=by rw[<-h,<-k];rfl
theorem XY {a b c:dw} (h:b.x_ a.x=a) (k:c.x_ b.x=b):c.x_ a.x=a:=by rw[<-h,<-k];rfl
theorem fL.trans {a b c:DS} (h:fL a b) (k:fL b c):fL a c:=⟨k.hs.trans h.hs,k.vs.trans h.vs,k.dr.trans h.dr,k.hm.trans h.hm,k.vm.trans h.vm,k.fc.trans h.fc,λj=>X0 (h.E j) (k.E j),λj=>XY (h.V j) (k.V j)⟩
theorem GZ (d:DS) (e:Nat) (b:Bool):fL d (d.modE e λy=>y.x_ b):=⟨rfl,rfl,rfl,rfl,rfl,rfl,λj=>by
 rw[kl];split
 ·rename_i h;subst h;rfl
 ·rfl,λ_=>rfl⟩
theorem GY (d:DS) (e:Nat) (b:Bool):fL d (d.modV e λy=>y.x_ b):=⟨rfl,rfl,rfl,rfl,rfl,rfl,λj=>rfl,λj=>by
 rw[Ew];split
 ·rename_i h;subst h;rfl
 ·rfl⟩
section
variable {d D:DS} (h:fL d D)
include h
theorem fL.org (j:Nat):(D.E j).org=(d.E j).org:=by rw[<-h.E j];rfl
theorem fL.tw (j:Nat):(D.E j).tw=(d.E j).tw:=by rw[<-h.E j];rfl
theorem fL.inc (j:Nat):(D.E j).inc=(d.E j).inc:=by rw[<-h.E j];rfl
theorem fL.pv (j:Nat):(D.E j).pv=(d.E j).pv:=by rw[<-h.E j];rfl
theorem fL.sq (j:Nat):(D.E j).sq=(d.E j).sq:=by rw[<-h.E j];rfl
theorem fL.s (j:Nat):(D.E j).s=(d.E j).s:=by rw[<-h.E j];rfl
theorem fL.vS (j:Nat):(D.V j).s=(d.V j).s:=by rw[<-h.V j];rfl
end
structure CI (d:DS) (fs:List Nat):Prop where
 nbr:∀k e,(k,e)∈d.hs->∃kt kh p v t h f f',oM d fs k kt kh p e v t h f f'
 tt:∀k e t,(k,e)∈d.hs->(d.E e).tw=some t->(d.E t).tw=some e
 ss:∀k e t,(k,e)∈d.hs->(d.E e).tw=some t->(d.E t).s=(d.E e).s
 xf:∀k e,(k,e)∈d.hs->(d.E e).x=false
theorem oM.sameX {d D:DS} {fs:List Nat} {k kt kh:PP} {p:Pt} {e v t h f f':Nat} (N:oM d fs k kt kh p e v t h f f') (s:fL d D):oM D fs k kt kh p e v t h f f':=
 ⟨s.hs▸N.he,s.vs▸N.hv,by rw[s.org];exact N.ho,by rw[s.tw];exact N.ht,s.hs▸N.hte,by rw[s.pv];exact N.hp,s.hs▸N.hh,by rw[s.inc];exact N.hi,N.hf,by rw[s.inc];exact N.hi',N.hf'⟩
structure pV (d D:DS) (seen es:List Nat):Prop where
 same:fL d D
 es1:∀e∈es,(∃k,(k,e)∈d.hs)/\(d.E e).s=true/\(D.E e).x=true
 nd:es.Pairwise λa b=>a≠b/\(d.E a).tw≠some b
 all:∀i∈seen,∀x,d.hs[i]? =some x->(d.E x.2).s=true->(x.2∈es\/∃t,(d.E x.2).tw=some t/\t∈es)
 xx:∀k e,(k,e)∈d.hs->(D.E e).x=true->(e∈es\/∃t,(d.E e).tw=some t/\t∈es)
 xt:∀e∈es,∀t,(d.E e).tw=some t->(D.E t).x=true
 vx:∀e∈es,∀t,(d.E e).tw=some t->(∀v,(d.E e).org=some v->(D.V v).x=true)/\(∀v,(d.E t).org=some v->(D.V v).x=true)
 len:es.length<=seen.length
def DL (D:DS) (z y vz vy:Nat):DS:=(((D.modE z λe=>e.x_ true).modE y λe=>e.x_ true).modV vz λv=>v.x_ true).modV vy λv=>v.x_ true
theorem GB (D:DS) (z y vz vy j:Nat):((DL D z y vz vy).E j).x=if j=y\/j=z then true else(D.E j).x:=by
 show(if j=y then((if y=z then(D.E z).x_ true else D.E y)).x_ true else if j=z then(D.E z).x_ true else D.E j).x=_;by_cases h1:j=y
 ·rw[if_pos h1,if_pos (Or.inl h1:j=y\/j=z)];rfl
 ·rw[if_neg h1];by_cases h2:j=z
  ·rw[if_pos h2,if_pos (.inr h2)];rfl
  ·rw[if_neg h2,if_neg (by simp[h1,h2])]
theorem GC (D:DS) (z y vz vy j:Nat):((DL D z y vz vy).V j).x=if j=vy\/j=vz then true else(D.V j).x:=by
 show(if j=vy then((if vy=vz then(D.V vz).x_ true else D.V vy)).x_ true else if j=vz then(D.V vz).x_ true else D.V j).x=_;by_cases h1:j=vy
 ·rw[if_pos h1,if_pos (Or.inl h1:j=vy\/j=vz)];rfl
 ·rw[if_neg h1];by_cases h2:j=vz
  ·rw[if_pos h2,if_pos (.inr h2)];rfl
  ·rw[if_neg h2,if_neg (by simp[h1,h2])]
theorem aby (D:DS) (z y vz vy:Nat):fL D (DL D z y vz vy):=(GZ _ _ _).trans ((GZ _ _ _).trans ((GY _ _ _).trans (GY _ _ _)))
theorem pV.skip {d D:DS} {fs:List Nat} {seen es:List Nat} {i e:Nat} {k:PP} (h:pV d D seen es) (hi:d.hs[i]? =some (k,e)) (hn:(!(D.E e).x&&(D.E e).s)=false):pV d D (seen++[i]) es:=
 ⟨h.same,h.es1,h.nd,λj hj x hx hs=>by
  rcases bB.1 hj with hj|hj
  ·exact h.all j hj x hx hs
  ·simp at hj;subst hj;rw[hi] at hx;cases hx;rw[h.same.s,hs] at hn;have:(D.E e).x=true:=by simpa using hn
   exact h.xx k e (bn hi) this,h.xx,h.xt,h.vx,by have:=h.len;simp;omega⟩
theorem pV.take {d D:DS} {fs:List Nat} {seen es:List Nat} {i e z y t vz vy:Nat} {k:PP} (R:CI d fs) (h:pV d D seen es) (hi:d.hs[i]? =some (k,e)) (hx:(D.E e).x=false) (hs:(D.E e).s=true) (ht:(d.E e).tw=some t)
  (hz:(z=e/\y=t)\/(z=t/\y=e)) (hvz:(d.E z).org=some vz) (hvy:(d.E y).org=some vy) (hzh:∃k,(k,z)∈d.hs):pV d (DL D z y vz vy) (seen++[i]) (es++[z]):=by
 have he:(k,e)∈d.hs:=bn hi;have htt:=R.tt k e t he ht;have hzy:(d.E z).tw=some y:=by rcases hz with⟨rfl,rfl⟩|⟨rfl,rfl⟩;exact ht;exact htt
 have hs':(d.E e).s=true:=by rw[<-h.same.s];exact hs
 have hzs:(d.E z).s=true:=by
  rcases hz with⟨rfl,rfl⟩|⟨rfl,rfl⟩
  ·exact hs'
  ·rw[R.ss k _ _ he ht];exact hs'
 have hnx:¬(D.E e).x=true:=by rw[hx];simp
 refine⟨h.same.trans (aby _ _ _ _ _),λa ha=>?_,?_,λj hj x hxx hsx=>?_,λk' a ha hax=>?_,λa ha u hu=>?_,λa ha u hu=>?_,by have:=h.len;simp;omega⟩
 ·rcases bB.1 ha with ha|ha
  ·obtain⟨h1,h2,h3⟩:=h.es1 a ha;refine⟨h1,h2,?_⟩;rw[GB];split
   ·rfl
   ·exact h3
  ·simp at ha;subst ha;exact⟨hzh,hzs,by rw[GB,if_pos (.inr rfl)]⟩
 ·refine List.pairwise_append.2 ⟨h.nd,by simp,λa ha b hb=>?_⟩;simp at hb;subst hb;obtain⟨⟨ka,hka⟩,h2,h3⟩:=h.es1 a ha;refine⟨λe1=>?_,λe1=>?_⟩
  ·subst e1;rcases hz with⟨rfl,rfl⟩|⟨rfl,rfl⟩
   ·exact hnx h3
   ·exact hnx (h.xt _ ha _ htt)
  ·rcases hz with⟨rfl,rfl⟩|⟨rfl,rfl⟩
   ·exact hnx (h.xt _ ha _ e1)
   ·have:=R.tt ka a _ hka e1;rw[htt] at this;cases this;exact hnx h3
 ·rcases bB.1 hj with hj|hj
  ·rcases h.all j hj x hxx hsx with h'|⟨u,hu,h'⟩
   ·exact .inl (bq _ h')
   ·exact .inr ⟨u,hu,bq _ h'⟩
  ·simp at hj;subst hj;rw[hi] at hxx;cases hxx;rcases hz with⟨rfl,rfl⟩|⟨rfl,rfl⟩
   ·exact .inl dK
   ·exact .inr ⟨_,ht,by simp⟩
 ·rw[GB] at hax;split at hax
  ·rename_i hor;rcases hor with rfl|rfl
   ·right;refine⟨z,?_,by simp⟩;rcases hz with⟨rfl,rfl⟩|⟨rfl,rfl⟩
    ·exact htt
    ·exact ht
   ·exact .inl dK
  ·rcases h.xx k' a ha hax with h'|⟨u,hu,h'⟩
   ·exact .inl (bq _ h')
   ·exact .inr ⟨u,hu,bq _ h'⟩
 ·rw[GB];split
  ·rfl
  ·rename_i hno;rcases bB.1 ha with ha|ha
   ·exact h.xt a ha u hu
   ·simp at ha;subst ha;rw[hzy] at hu;cases hu;exact absurd (.inl O) hno
 ·rcases bB.1 ha with ha|ha
  ·obtain⟨h1,h2⟩:=h.vx a ha u hu;refine⟨λv hv=>?_,λv hv=>?_⟩
   ·rw[GC];split
    ·rfl
    ·exact h1 v hv
   ·rw[GC];split
    ·rfl
    ·exact h2 v hv
  ·simp at ha;subst ha;rw[hzy] at hu;cases hu;refine⟨λv hv=>?_,λv hv=>?_⟩
   ·rw[hvz] at hv;cases hv;rw[GC,if_pos (.inr rfl)]
   ·rw[hvy] at hv;cases hv;rw[GC,if_pos (.inl rfl)]
end Go.Proofs
namespace Go.Proofs
open Tryz
open Go.V Go.Edges
variable {d:DS} {dr:Nat} {fs:List Nat}
theorem It {D:DS} (h:fL d D):(d.dr,Obj.cells #[D.fc,.map (some D.hm),.map (some D.vm)] 249 (0,0))∈D.LL:=by rw[<-h.dr];exact .head _
theorem Gp {D:DS} (h:fL d D):(d.vm,bW (eL d.vs))∈D.LL:=by rw[<-h.vm,<-h.vs];exact .tail _ (.tail _ (.head _))
theorem MZ {D:DS} (h:fL d D):(d.hm,bW (fB d.hs))∈D.LL:=by rw[<-h.hm,<-h.hs];exact .tail _ (.head _)
abbrev oy (d:DS) (es:List Nat):List Sq:=es.map λe=>(d.E e).sq
theorem aju (R:CI d fs) (hdr:d.dr=dr) (hb:d.hs.length<=4294967295):
  ai prog 161 [aF dr,gE 125 [] []].toArray [bN d,gR fs] d.LL
   (λw Fs' L'=>∃D es p cp qs,pV d D (List.range d.hs.length) es/\qs.Perm (oy d es)/\w= .slice p qs.length cp/\Fs'=[bF 2 (.slice p qs.length cp) qs.length (qs.flatMap Sq.cells),gK qs]/\L'=D.LL):=by
 subst hdr;have hml:(fB d.hs).length=d.hs.length:=by simp
 refine am func161 λ_=>(y8)<|(nH) ?_;intro r5;refine(AU)<|(Fy) ?_;refine az ab O O O (bj (mT (It (fL.refl d))) O O) O ?_;refine uS ab O O O (eo (kvs:=fB d.hs) (mT (MZ (fL.refl d)))) O λri=>(dF)<|aU [(7,7),(13,67)] (λ(x:List Nat×DS×(Option Addr×Nat)×List ae×List Nat)=>eO (fB d.hs).length x.1/\pV d x.2.1 x.1 x.2.2.2.2/\aJ 90 2 (.slice x.2.2.1.1 x.2.2.2.2.length x.2.2.1.2) x.2.2.2.2.length ((oy d x.2.2.2.2).flatMap Sq.cells) x.2.2.2.1) (λ_=>[]) (λ_=>[]) (λx=>(ri,jH d.hm (fB d.hs).length x.1)::bL r5 93 [.slice x.2.2.1.1 x.2.2.2.2.length x.2.2.1.2]::(x.2.2.2.1++x.2.1.LL)) (λx=>(fB d.hs).length-x.1.length) (([],d,(none,0),[],[])) (⟨eO.nil,⟨.refl d,λ_ h=>(nomatch h),.nil,λ_ h=>(nomatch h),λk e he hx=>absurd hx (by simp[R.xf k e he]),λ_ h=>(nomatch h),λ_ h=>(nomatch h),bg _⟩,aJ.nil _ _⟩) λ⟨seen,D,⟨p1,c1⟩,B1,es⟩ fr ⟨h5,h6,h7⟩=>?_;dsimp only at h5 h6 h7;have hle:=h5.le;have hel:=h6.len;have hX:=h6.same;refine(ba) ?_;refine uU (m:=d.hm) (kvs:=fB d.hs) (seen:=seen) O (eo (mT (MZ hX))) mA (λ_=>uA) O O λo ho=>?_;refine sC O (uM o) O<|(cn)<|ao ?_ ?_
 ·intro hc14;obtain⟨⟨i,q⟩,rfl⟩:=uE.1 hc14;obtain⟨hq,hns,hil⟩:=ho.one i q rfl;have hlt:=h5.lt_of hns hil;obtain⟨⟨k0,e⟩,he,rfl⟩:=sd (F:=λe:PP×Nat=>(lr e.1,aF e.2)) rfl hq;have hke:(k0,e)∈d.hs:=bn he;obtain⟨kt,kh,p,v,t,g,f,f',N0⟩:=R.nbr k0 e hke;have N:=N0.sameX hX;obtain⟨kt2,kh2,p2,v2,t2,g2,ff,ff',N1⟩:=R.nbr kt t N0.hte;refine(uf) ?_;refine uV (m:=d.hm) (kvs:=fB d.hs) (seen:=seen) (i:=i) O (eo (mT (MZ hX))) mA hq O<|(kR)<|(iz)<|aS eA call232 (acw N) λv' Fs' L' ⟨⟨e1,e2⟩,e3⟩=>?_;subst e1;subst e2;subst e3;refine(aN)<|ao ?_ ?_
  ·intro hc19;obtain⟨hxf,hst⟩:(D.E e).x=false/\(D.E e).s=true:=by simpa using hc19
   refine cI (D.E e).sq.fact (λhp al=>by{rw[hX.sq];exact al (bN d) mA _ hke}) ?_;refine cI (D.E t).sq.fact (λhp al=>by{rw[hX.sq];exact al (bN d) mA _ N0.hte})<|(vo)<|(AR)<|(mE) ?_;refine ac O (az ab O O O (ct (bj (mT (cK N.he)) O O) (v':=aF t) (by rw[N.ht];rfl)) O)<|(fa) ?_;refine ac O (aK ab O O O (jp (k:=5) (m:=2) (bD (mT (cK N.hte)))) O O)<|(mE) ?_;refine ac O (aK ab O O O (jp (k:=5) (m:=2) (bD (mT (cK N.he)))) O O) ?_;refine ac O (λkX=>aj eA call231 (Rl (p:=(D.E t).sq.p) (l:=(D.E t).sq.l) (cp:=(D.E t).sq.cp) (p':=(D.E e).sq.p) (l':=(D.E e).sq.l) (cp':=(D.E e).sq.cp)) kX)<|(pH)<|jl ([]) [(7,7),(32,35)] (λ(x:Nat)=>x=e\/x=t) (λx=>[(7,aF x)]) (λ_=>[]) (λ_=>[]) ?_ ?_
   ·refine ao ?_ ?_
    ·intro hc31;refine(aY)<|(Fy) ?_;refine az ab O O O (ct (bj (mT (cK N.he)) O O) (v':=aF t) (by rw[N.ht];rfl)) O<|(bt) ?_;exact⟨t,.inr O,lA,kA,fA,hA⟩
    ·intro hc31;refine(bX) ?_;exact⟨e,.inl O,lA,kA,fA,hA⟩
   ·intro z fj hz;obtain⟨y,hy⟩:∃y,(z=e/\y=t)\/(z=t/\y=e):=by{rcases hz with h|h;exact⟨t,.inl ⟨h,rfl⟩⟩;exact⟨e,.inr ⟨h,rfl⟩⟩}
    have htt:=R.tt k0 e t hke N0.ht;have hztw:(D.E z).tw=some y:=by{rcases hy with⟨h1,h2⟩|⟨h1,h2⟩;rw[h1,h2];exact N.ht;rw[h1,h2,hX.tw];exact htt}
    obtain⟨kz,hkz⟩:∃k,(k,z)∈D.hs:=by{rcases hy with⟨h1,h2⟩|⟨h1,h2⟩;rw[h1];exact⟨_,N.he⟩;rw[h1];exact⟨_,N.hte⟩}
    obtain⟨ky,hky⟩:∃k,(k,y)∈D.hs:=by{rcases hy with⟨h1,h2⟩|⟨h1,h2⟩;rw[h2];exact⟨_,N.hte⟩;rw[h2];exact⟨_,N.he⟩}
    have N1':=N1.sameX hX;obtain⟨pz,vz,hvz,hoz⟩:∃p v,(p,v)∈D.vs/\(D.E z).org=some v:=by{rcases hy with⟨h1,h2⟩|⟨h1,h2⟩;rw[h1];exact⟨_,_,N.hv,N.ho⟩;rw[h1];exact⟨_,_,N1'.hv,N1'.ho⟩}
    obtain⟨py,vy,hvy,hoy⟩:∃p v,(p,v)∈D.vs/\(D.E y).org=some v:=by{rcases hy with⟨h1,h2⟩|⟨h1,h2⟩;rw[h2];exact⟨_,_,N1'.hv,N1'.ho⟩;rw[h2];exact⟨_,_,N.hv,N.ho⟩}
    refine(FC) ?_;intro hnd;have n0:(ids D.LL).Nodup:=aeO (sT) hnd;obtain⟨D1,eD1,uD1,nD1,kD1⟩:=mU hkz n0 (λx=>x.x_ true);have hX1:fL D D1:=eD1▸GZ _ _ _;obtain⟨D2,eD2,uD2,nD2,kD2⟩:=mU (hX1.hs▸hky) nD1 (λx=>x.x_ true);have hX2:fL D D2:=hX1.trans (eD2▸GZ _ _ _);obtain⟨D3,eD3,uD3,nD3,kD3⟩:=mi (hX2.vs▸hvz) nD2 (λx=>x.x_ true) (λ_=>rfl);have hX3:fL D D3:=hX2.trans (eD3▸GY _ _ _);obtain⟨D4,eD4,uD4,nD4,kD4⟩:=mi (hX3.vs▸hvy) nD3 (λx=>x.x_ true) (λ_=>rfl);have hX4:fL D D4:=hX3.trans (eD4▸GY _ _ _);have hD4:D4=DL D z y vz vy:=by{rw[eD4,eD3,eD2,eD1];rfl}
    have hkz1:(kz,z)∈D1.hs:=hX1.hs▸hkz;have hkz2:(kz,z)∈D2.hs:=hX2.hs▸hkz;have hkz3:(kz,z)∈D3.hs:=hX3.hs▸hkz;have hky3:(ky,y)∈D3.hs:=hX3.hs▸hky;have hkz4:(kz,z)∈D4.hs:=hX4.hs▸hkz;have hsq4:(D4.E z).sq=(d.E z).sq:=by rw[hX4.sq,hX.sq]
    refine cI (d.E z).sq.fact (λhp al=>al (bN d) mA _ (hX.hs▸hkz))<|(bJ)<|(Fy) ?_;refine cS ab O (cs:=(D.E z).enc) (cs':=((D.E z).x_ true).enc) O O O O O O O (cf.right uD1)<|(qC)<|(Fy) ?_;refine az ab O O O (ct (bj (mT (cK hkz1)) O O) (v':=aF y) (by rw[hX1.tw,hztw];rfl)) O<|(Fy) ?_;refine cS ab O (cs:=(D1.E y).enc) (cs':=((D1.E y).x_ true).enc) O O O O O O O (cf.right uD2)<|(qC)<|(Fy) ?_;refine az ab O O O (ct (bj (mT (cK hkz2)) O O) (v':=aF vz) (by rw[hX2.org,hoz];rfl)) O<|(Fy) ?_;refine cS ab O (cs:=(D2.V vz).enc) (cs':=((D2.V vz).x_ true).enc) O O O O O O O (cf.right uD3)<|(qC)<|(Fy) ?_;refine az ab O O O (ct (bj (mT (cK hkz3)) O O) (v':=aF y) (by rw[hX3.tw,hztw];rfl)) O<|(Fy) ?_;refine az ab O O O (ct (bj (mT (cK hky3)) O O) (v':=aF vy) (by rw[hX3.org,hoy];rfl)) O<|(Fy) ?_;refine cS ab O (cs:=(D3.V vy).enc) (cs':=((D3.V vy).x_ true).enc) O O O O O O O (cf.right uD4)<|(aN) ?_;refine cz cw 8 [6,7] [7]<|(qD)<|(kQ) ?_;refine cC O (iL O O)<|(iU) ?_;refine ac O (aK ab O O O (NZ (jp (k:=5) (m:=2) (bD (mT (cK hkz4)))) (show _=(d.E z).sq.cells by rw[<-hsq4];rfl)) O O) ?_;refine ac O (λkX=>aj eA call103 (LY (p:=(d.E z).sq.p) (l:=(d.E z).sq.l) (cp:=(d.E z).sq.cp)) kX)<|(dT)<|(eD) ?_;intro b66;refine(dU) ?_;refine di (e:=90) (size:=2) (news:=[(d.E z).sq].flatMap Sq.cells) ab O O O O O O O (B:=B1) tA h7 O (bD mA) O O dp (by show(es.length+1)*32<=_;omega) O λv' B' hs'=>?_;have hs2:aJ 90 2 v' (es++[z]).length ((oy d (es++[z])).flatMap Sq.cells) B':=by{have e0:oy d (es++[z])=oy d es++[(d.E z).sq]:=(by simp[oy]);rw[e0,aW,ft];exact hs'}
    obtain⟨p2,c2,rfl⟩:=hs2.shape;refine(rJ)<|(gn)<|(aN)<|(ir) ?_;exact⟨(seen++[i],D4,(p2,c2),B',es++[z]),by dsimp only;rw[aW];simp only[dZ];omega,⟨h5.snoc hns hil,by{rw[hD4];exact h6.take R he hxf hst N0.ht hy (by rw[<-hX.org];exact hoz) (by rw[<-hX.org];exact hoy) ⟨kz,hX.hs▸hkz⟩},hs2⟩,lA,kA,fA,hA⟩
  ·intro hc19;refine(OB) ?_;exact⟨(seen++[i],D,(p1,c1),B1,es),by dsimp only;rw[aW];simp only[dZ];omega,⟨h5.snoc hns hil,h6.skip (fs:=fs) he hc19,h7⟩,lA,kA,fA,hA⟩
 ·intro hc14;have hall:=ho.all (by simpa using hc14);obtain rfl:o=none:=by simpa using hc14
  have hps:(oy d es).length=es.length:=by simp
  refine cI (gK (oy d es)) (λhp al=>λq hq=>by{obtain⟨e,he,rfl⟩:=aM.1 hq;obtain⟨k,hk⟩:=(h6.es1 e he).1;exact al (bN d) mA _ hk})<|(y9)<|(gG)<|(rE)<|(iW)<|aS eA call228 (ach (v:= .slice p1 es.length c1) (B:=B1) (ps:=oy d es) (r:=r5) (by rw[hps];exact h7) aa) λv' Fs' L' ⟨e4,B2,qs,hqp,hsl,e5⟩=>?_;subst e4;subst e5;have hql:qs.length=es.length:=hqp.length_eq.trans hps;rw[<-hql] at hsl;refine cL (gK qs) (λhp al=>λq hq=>al (gK (oy d es)) mA q (hqp.mem_iff.1 hq)) ?_;refine xJ hsl tA<|(Jd)<|(bO)<|aH [bF 2 (.slice p1 qs.length c1) qs.length (qs.flatMap Sq.cells),gK qs] D.LL ?_;exact⟨D,es,p1,c1,qs,⟨h6.same,h6.es1,h6.nd,λi hi=>h6.all i (hall i (by{have:=nL.1 hi;omega})),h6.xx,h6.xt,h6.vx,by simp;omega⟩,hqp,by{rw[hql];rfl},O,O⟩
end Go.Proofs
namespace Go.V
section
variable {P:Program} {c:bC} {n:Nat} {ops:Array Oper} {Fs:List an} {L:List ae} {f:Fm} {Q:bG} {rest:List Oper}
variable {d:Nat} {ty:TypeId} {ps:String} {aft:Array Edge}
theorem ah2 {k:FuncId} {fv:Operand} {first captured:List Value} {xs:List Operand} {ats:Array TypeId} {vs:List Value} (hfv:ap f fv= .b (.func (.func k) first.toArray captured.toArray))
  (hxs:jv f xs vs) (hcall:∀(args:Array Value) (w:World),(callFunc k args).run P w= .ok (.enter k args) w)
  {Fs1:List an} {Q1:Value->List an->Prop} {av:List Value} (hargs:NF (first++(vs++captured)) av) (hs:ai P k av.toArray Fs1 [] (λv Fs' L'=>Q1 v Fs'/\L'=[])) (hF:∀x∈Fs1,x∈Fs) (hd:Nat.blt d n=true)
  (kont:∀v Fs',Q1 v Fs'->ak P c n ops (Fs'++Fs) L (aT f d v) rest Q):
  ak P c n ops Fs L f (⟨some d,.call ⟨.value fv,xs.toArray,ats⟩,ty,ps,aft,none⟩::rest) Q:=
 Nl hfv hxs hcall hargs hs hF .none hd λv Fs' L' ⟨hq,hl⟩=>by
  subst hl;rw[jz];exact kont v Fs' hq
end
end Go.V
namespace Go.Proofs
open Tryz
open Go.V Go.Edges
variable {d:DS} {dr:Nat} {fs:List Nat} {p:Option Addr} {cp:Nat}
theorem adU:(prog.info? 107).map (·.desc)=some (.slice 95):=by kernel_rfl
theorem adS:prog.packed 107=false:=by kernel_rfl
theorem adR:(prog.info? 95).isSome=true:=by kernel_rfl
theorem adT (w:World):(Extern.Rtype.kind 95).run prog w= .ok 25 w:=by kernel_rfl
theorem ajt (hfc:d.fc=mQ p fs cp) (hdr:d.dr=dr) (hb:fs.length<=1099511627776):
  ai prog 160 [aF dr,gE 125 [] []].toArray [wh p fs cp,gR fs] d.LL
   (λw Fs' L'=>(w= .tuple #[.slice none 0 0,.nilIface]/\Fs'=[])/\L'=d.LL):=by
 subst hdr;refine am func160 λ_=>(ba)<|(qF) ?_;intro r3;refine(gb)<|(fo)<|(nH) ?_;intro r6;refine(AU)<|(Fy) ?_;refine az ab O O O (ct (bj (mT (It (fL.refl d))) O O) hfc) O<|(gW)<|aU [(4,5),(8,12),(18,65)] (λ(i:Nat)=>i<=fs.length) (λi=>[(18,iv i)]) (λ_=>[]) (λ_=>[]) (λi=>fs.length-i) (0) (bf _) ?_;intro i fr h5;refine(cM)<|ao ?_ ?_
 ·intro hc19;have hlt:i<fs.length:=by have:=of_decide_eq_true hc19;omega
  obtain⟨x,hx⟩:∃x,fs[i]? =some x:=⟨_,aG hlt⟩;refine(ix) ?_;refine cU (size:=1) (i:=i) ab O O O O O aa mA aa (flat_take (F:=nE) (λ_ _=>O) hx) O λ_ _=>(fM) ?_;refine Ut (fs:=fs) (x:=x) mA (bn hx) λvx=>(ub) ?_;refine cz cw 13 [] []<|(qD)<|(mE) ?_;refine ac O (aK ab O O O (ND (vx:=vx) mA) O O) ?_;refine ac O (λkX=>ah2 O eA call125 nA (Aj (b:=false) (c:=false)) fA O (λv Fs' ⟨e1,e2⟩=>by subst e1;subst e2;exact kX))<|(Xw)<|(bh)<|(vw)<|(vw)<|(iV)<|(jY)<|(vE)<|(zi)<|(lO) ?_;exact⟨i+1,oA,aa,lA,kA,fA,hA⟩
 ·intro hc19;refine(y9)<|(gG)<|(rE)<|(iW)<|aS eA call228 (K4 (t:=107) (e:=95) (ke:=25) (lf:=229) (p:=none) (cp:=0) (lcv:=[be r6]) (L:=d.LL) call229 adU adS adR adT) λv' Fs' L' ⟨e4,e5⟩=>?_;subst e4;subst e5;refine(Jd)<|(gb)<|(bO)<|aH [] d.LL ?_;exact gk
theorem ajs (hv:∀p v,(p,v)∈d.vs->(d.V v).s=true->(d.V v).x=true) (hdr:d.dr=dr) (hb:d.vs.length<=1099511627776):
  ai prog 162 [aF dr,gE 125 [] []].toArray [] d.LL
   (λw Fs' L'=>∃q c,(w= .slice q 0 c/\Fs'=[])/\L'=d.LL):=by
 subst hdr;have hml:(eL d.vs).length=d.vs.length:=by simp
 refine am func162 λ_=>(Jl)<|(Fy) ?_;refine az ab O O O (bj (mT (It (fL.refl d))) O O) O ?_;refine Ng ab O O O (eo (kvs:=eL d.vs) (mT (Gp (fL.refl d)))) (by rw[hml];omega) O ?_;refine pk (e:=79) (size:=2) ab O O O O O O (zl:=[aw 0,aw 0]) nA O (l:=0) (cp:=(eL d.vs).length) O O (bf _) O (by show(eL d.vs).length*16<=_;omega) O λv0 B0 hs0=>?_;obtain⟨p0,c0,rfl⟩:=hs0.shape;refine(nH) ?_;intro r5;refine(gn)<|(AU)<|(Fy) ?_;refine az ab O O O (bj (mT (It (fL.refl d))) O O) O ?_;refine uS ab O O O (eo (kvs:=eL d.vs) (mT (Gp (fL.refl d)))) O λri=>(dF)<|aU [(7,7),(22,48)] (λ(x:List Nat)=>eO (eL d.vs).length x) (λ_=>[]) (λ_=>[]) (λx=>[(ri,jH d.vm (eL d.vs).length x)]) (λx=>(eL d.vs).length-x.length) ([]) (eO.nil) ?_;intro seen fr h5;have hle:=h5.le;refine(ba) ?_;refine uU (m:=d.vm) (kvs:=eL d.vs) (seen:=seen) O (eo (mT (Gp (fL.refl d)))) mA (λ_=>uA) O O λo ho=>?_;refine sC O (uM o) O<|(cn)<|ao ?_ ?_
 ·intro hc23;obtain⟨⟨i,q⟩,rfl⟩:=uE.1 hc23;obtain⟨hq,hns,hil⟩:=ho.one i q rfl;have hlt:=h5.lt_of hns hil;obtain⟨⟨p,v⟩,he,rfl⟩:=sd (F:=λe:Pt×Nat=>(pv e.1,aF e.2)) rfl hq;have hpv:(p,v)∈d.vs:=bn he;refine(uf) ?_;refine uV (m:=d.vm) (kvs:=eL d.vs) (seen:=seen) (i:=i) O (eo (mT (Gp (fL.refl d)))) mA hq O<|(kR)<|(bR) ?_;rcases zO (d.V v).s with hs|hs
  ·refine(CR) ?_;refine aK ab O O O (NZ (jp (k:=5) (m:=2) (bD (mT (jQ hpv)))) (show _=[Value.bool (d.V v).s,.bool false] by rfl)) O O ?_;refine dj O eA call125 nA (Aj (b:=(d.V v).s) (c:=false)) λv' Fs' L' ⟨⟨e1,e2⟩,e3⟩=>?_;rw[hs] at e1;subst e1;subst e2;subst e3;refine(ic)<|(zr)<|(iQ) ?_;refine ah O O (az ab O O O (ct (bj (mT (jQ hpv)) O O) (v':= .bool true) (by rw[hv p v hpv hs])) O<|(JB)<|(fD)<|(gH)<|(ir) ?_);exact⟨seen++[i],by rw[aW];simp only[dZ];omega,h5.snoc hns hil,lA,kA,fA,hA⟩
  ·refine(CR) ?_;refine aK ab O O O (NZ (jp (k:=5) (m:=2) (bD (mT (jQ hpv)))) (show _=[Value.bool (d.V v).s,.bool false] by rfl)) O O ?_;refine dj O eA call125 nA (Aj (b:=(d.V v).s) (c:=false)) λv' Fs' L' ⟨⟨e1,e2⟩,e3⟩=>?_;rw[hs] at e1;subst e1;subst e2;subst e3;refine(Jc)<|(gH)<|(ir) ?_;exact⟨seen++[i],by rw[aW];simp only[dZ];omega,h5.snoc hns hil,lA,kA,fA,hA⟩
 ·intro hc23;obtain rfl:o=none:=by simpa using hc23
  refine(y9)<|(gG)<|(rE)<|(iW)<|aS eA call228 (K4 (t:=205) (e:=79) (ke:=25) (lf:=234) (p:=p0) (cp:=c0) (lcv:=[be r5]) (L:=d.LL) call234 Gj Bt XV Bu) λv' Fs' L' ⟨e4,e5⟩=>?_;subst e4;subst e5;refine(Jd)<|(dH) ?_;refine pk (e:=84) (size:=6) ab O O O O O O nA O (l:=0) (cp:=0) O O (bf _) O bz O ?_;intro v1 B1 hs1;obtain⟨p1,c1,rfl⟩:=hs1.shape;refine(rD)<|(gG)<|(gW)<|aU [(8,8),(10,10),(58,67)] (λ(i:Nat)=>i=0) (λi=>[(58,iv i),(8,.slice p1 0 c1)]) (λ_=>[]) (λ_=>[]) (λi=>0) (0) (rfl) ?_;intro i fr2 h6;refine(cM) ?_;refine gz O (λhc59=>absurd hc59 ((by subst h6;simp))) (λhc59=>(CU)<|(bO)<|aH [] d.LL ?_);exact⟨p1,c1,⟨O,O⟩,O⟩
end Go.Proofs
namespace Go.Proofs
open Tryz
open Go.V Go.Edges
variable {d:DS} {dr:Nat} {fs:List Nat} {p:Option Addr} {cp:Nat}
def hZ:List (List Pt)->GM
 |[]=> .gc []
 |[l]=> .ls l
 |l::m::ls=> .mls (l::m::ls)
theorem Yb {D:DS} {es:List Nat} (R:CI d fs) (hv:∀p v,(p,v)∈d.vs->(d.V v).s=true->∃k r,(k,r)∈d.hs/\(d.E r).s=true/\(d.E r).org=some v) (hE:pV d D (List.range d.hs.length) es):
  ∀p v,(p,v)∈D.vs->(D.V v).s=true->(D.V v).x=true:=by
 intro p v hpv hs;have hX:=hE.same;rw[hX.vs] at hpv;rw[hX.vS] at hs;obtain⟨k,r,hr,hrs,hro⟩:=hv p v hpv hs;obtain⟨i,hi⟩:=lg hr;obtain⟨kt,kh,p3,v3,t,h3,f3,f4,N⟩:=R.nbr k r hr;have htt:=R.tt k r t hr N.ht;rcases hE.all i (nL.2 (da hi)) _ hi hrs with h|⟨u,hu,h⟩
 ·exact(hE.vx r h t N.ht).1 v hro
 ·rw[N.ht] at hu;cases hu;exact(hE.vx t h r htt).2 v hro
theorem Vs {hp:PH} {p:Option Addr} {qs:List Sq} {c:Nat} (h1:(bF 2 (.slice p qs.length c) qs.length (qs.flatMap Sq.cells)).p hp) (h2:(gK qs).p hp) (hb:qs.length<=1048576):(bQ p (qs.map (·.l)) c).p hp:=
 ⟨qs,⟨rfl,by simpa using hb⟩,by{have e:(qs.map (·.l)).length=qs.length:=(cP _);show(bF 2 (.slice p (qs.map (·.l)).length c) (qs.map (·.l)).length (qs.flatMap Sq.cells)).p hp;rw[e];exact h1},h2⟩
theorem ajv (R:CI d fs) (hv:∀p v,(p,v)∈d.vs->(d.V v).s=true->∃k r,(k,r)∈d.hs/\(d.E r).s=true/\(d.E r).org=some v) (hfc:d.fc=mQ p fs cp) (hdr:d.dr=dr) (hb:fs.length<=1099511627776) (hb2:d.hs.length<=4294967295) (hb3:d.vs.length<=1099511627776)
  (hqb:∀(D:DS) (es:List Nat) (qs:List Sq),pV d D (List.range d.hs.length) es->qs.Perm (oy d es)->qs.length<=1048576):
  ai prog 143 [aF dr,gE 125 [] []].toArray [bN d,wh p fs cp,gR fs] d.LL
   (λw Fs' L'=>∃(D:DS) (es:List Nat) (qs:List Sq) (u:Value),(pV d D (List.range d.hs.length) es/\qs.Perm (oy d es))/\w= .tuple #[gv (hZ (qs.map (·.l))) u,.nilIface]/\Fs'=[aE (hZ (qs.map (·.l))) u]/\L'=[]):=by
 subst hdr;refine am func143 λ_=>(wL) ?_;intro r4;refine(iz)<|aS eA call160 (ajt (d:=d) hfc O hb) λv' Fs' L' ⟨⟨e4,e5⟩,e6⟩=>?_;subst e4;subst e5;subst e6;refine(wC)<|(iC)<|(wA)<|(fb)<|aS eA call161 (aju (d:=d) R O hb2) λv' Fs' L' ⟨D,es,p2,c2,qs,hE,hqp,e4,e5,e6⟩=>?_;subst e4;subst e5;subst e6;have hX:=hE.same;have hql:qs.length<=1048576:=hqb D es qs hE hqp;have hcase:qs=[]\/qs.length=1\/2<=qs.length:=by{rcases qs with _|⟨a,_|⟨b,l⟩⟩;exact .inl rfl;exact .inr (.inl rfl);exact .inr (.inr dK)}
 refine(iz)<|aS eA call162 (ajs (d:=D) (Yb R hv hE) hX.dr (by rw[hX.vs];exact hb3)) λv' Fs' L' ⟨q,c,⟨e4,e5⟩,e6⟩=>?_;subst e4;subst e5;subst e6;refine(nz)<|(bJ)<|(dH)<|(AS)<|(wR)<|(gm)<|(wR)<|(gm)<|(bt)<|(gL)<|(ce) ?_;rcases hcase with rfl|h0|h0
 ·refine(aY)<|(sO)<|(ic)<|(zq)<|(Xr)<|(fD)<|(wR)<|(gm)<|(bt)<|(gL)<|(bJ)<|(sO)<|(ic)<|(zq)<|(Xr)<|(fD)<|(ic)<|(zq) ?_;refine ah O O (HV O O O<|(fD)<|(bt)<|(gL)<|(bJ)<|(dH)<|(aB)<|(dH)<|(qA)<|(dH)<|(dm) ?_);refine pk (e:=61) (size:=2) ab O O O O O O nA O (l:=0) (cp:=0) O O (bf _) O bz O ?_;intro v1 B1 hs1;obtain⟨p1,c1,rfl⟩:=hs1.shape;refine(nu)<|aU [(10,10),(12,12),(44,53)] (λ(i:Nat)=>i=0) (λi=>[(44,iv i),(10,.slice p1 0 c1)]) (λ_=>[]) (λ_=>[]) (λi=>0) (0) (rfl) ?_;intro i fr h6;refine(cM) ?_;refine gz O (λhc45=>absurd hc45 ((by subst h6;simp))) (λhc45=>(eG)<|(eE)<|(gW)<|aU [(10,10),(14,14),(56,65)] (λ(i:Nat)=>i=0) (λi=>[(56,iv i),(10,.slice p1 0 c1)]) (λ_=>[]) (λ_=>[]) (λi=>0) (0) (rfl) ?_);intro i1 fr1 h61;refine(cM) ?_;refine gz O (λhc57=>absurd hc57 ((by subst h61;simp))) (λhc57=>(eG)<|(eE)<|(gW)<|aU [(10,10),(16,16),(68,77)] (λ(i:Nat)=>i=0) (λi=>[(68,iv i),(10,.slice p1 0 c1)]) (λ_=>[]) (λ_=>[]) (λi=>0) (0) (rfl) ?_);intro i2 fr2 h62;refine(cM) ?_;refine gz O (λhc69=>absurd hc69 ((by subst h62;simp))) (λhc69=>(jh) ?_);refine cI (dA p1 [] c1) (λhp _=>⟨[],⟨O,bf _⟩,⟨O,.inl ⟨p1,c1,O,O⟩⟩,λ_ h=>nomatch h⟩) ?_;refine(aY)<|aI eA call64 (Hp (p:=p1) (gs:=[]) (cp:=c1)) λv1 Fs1 ⟨p3,c3,e7,e8⟩=>?_;subst e7;subst e8;refine aI eA call53 (Au (gs:=[])) λv1 Fs1 ⟨u,e7,e8⟩=>?_;subst e7;subst e8;refine dP (φ:=u.oneCell'=true) (λhp al=>dE (al (aE (.gc []) u) mA)) λhu=>(de)<|(mJ)<|aH [aE (.gc []) u] [] ?_;exact⟨D,es,[],u,⟨hE,hqp⟩,O,O,O⟩
 ·refine(aY)<|(sO)<|(ic)<|(zq) ?_;refine ah O O (aL O O (iT (p:=(qs.length:Int)>0) aa) O<|(Xb) ?_);refine aL O O (iT (p:=(qs.length:Int)=1) aa) O<|(vE)<|(ce) ?_;obtain⟨q0,rfl⟩:=Ke.1 h0;refine cI q0.fact (λhp al=>al (gK [q0]) mA q0 (.head _))<|(aY) ?_;refine cU (size:=2) (i:=0) ab O O O O O aa mA aa (flat_take (F:=Sq.cells) (l:=[q0]) (i:=0) (x:=q0) (λ_ _=>O) O) O λ_ _=>?_;refine aK ab O O O (aR (xs:=q0.cells) mA) O O ?_;refine aI eA call43 (yE (q:=q0)) λv1 Fs1 ⟨u,e7,e8⟩=>?_;subst e7;subst e8;refine dP (φ:=u.oneCell'=true) (λhp al=>dE (al (aE (.ls q0.l) u) mA)) λhu=>(de)<|(bO)<|(vv)<|aH [aE (.ls q0.l) u] [] ?_;exact⟨D,es,[q0],u,⟨hE,hqp⟩,O,O,O⟩
 ·refine(aY)<|(sO)<|(ic)<|(zq) ?_;refine ah O O (aL O O (iT (p:=(qs.length:Int)>0) aa) O<|(Xb) ?_);refine aL O O (iF (p:=(qs.length:Int)=1) aa) O<|(gH)<|(ce) ?_;refine cI (bQ p2 (qs.map (·.l)) c2) (λhp al=>Vs (al (bF 2 (.slice p2 qs.length c2) qs.length (qs.flatMap Sq.cells)) mA) (al (gK qs) mA) hql) ?_;have hgl:hZ (qs.map (·.l))= .mls (qs.map (·.l)):=by{match qs,h0 with|a::b::l,_=>rfl}
  have hnew:ai prog 109 [.slice p2 qs.length c2].toArray [bQ p2 (qs.map (·.l)) c2] [] (rQ (qs.map (·.l))):=by{have h:ai prog 109 [.slice p2 (qs.map (·.l)).length c2].toArray [bQ p2 (qs.map (·.l)) c2] [] (rQ (qs.map (·.l))):=BN;rw[cP] at h;exact h}
  refine(aY)<|aI eA call109 (hnew) λv1 Fs1 ⟨p3,c3,e7,e8⟩=>?_;subst e7;subst e8;refine aI eA call49 (yD (lss:=qs.map (·.l))) λv1 Fs1 ⟨u,e7,e8⟩=>?_;subst e7;subst e8;refine dP (φ:=u.oneCell'=true) (λhp al=>dE (al (aE (.mls (qs.map (·.l))) u) mA)) λhu=>(de)<|(mJ)<|aH [aE (.mls (qs.map (·.l))) u] [] ?_;exact⟨D,es,qs,u,⟨hE,hqp⟩,by rw[hgl];rfl,by rw[hgl],rfl⟩
end Go.Proofs
namespace Go.Proofs
open Tryz
open Go.V Go.Edges
variable {x:Nat} {a b:Pt} {q:Sq} {p:Option Addr} {l:List Pt} {cp:Nat} {lss:List (List Pt)}
theorem TL (hx:x<ju):ai prog 315 [aw x,iv 0].toArray [] [] (Is (.bool false)):=by
 have hg:fJ x 9218868437227405311=false:=by
  rw[aji hx bz];have:x<9218868437227405312:=hx;exact decide_eq_false aa
 have hx2:x<9223372036854775808:=by have:x<9218868437227405312:=hx;omega
 refine am func315 λ_=>(wB)<|(kT)<|(vE)<|(aY)<|aj eA call179 (Oc hx2)<|(cF) ?_;refine ly O O (by show some (fJ x 9218868437227405311)=some false;rw[hg]) O<|cV
theorem Yj (ha:b6 a):ai prog 237 [pv a].toArray [] [] (Is .nilIface):=by
 have n1:ai prog 264 [aw a.1].toArray [] [] (Is (.bool false)):=by have h:=HI (x:=a.1);rw[U9 ha.1 ha.1] at h;simpa using h
 have n2:ai prog 264 [aw a.2].toArray [] [] (Is (.bool false)):=by have h:=HI (x:=a.2);rw[U9 ha.2 ha.2] at h;simpa using h
 refine am func237 λ_=>(au) ?_;intro _;refine(bR)<|(fR)<|aj eA call264 (n1)<|(aB)<|(vA) ?_;refine ah O O (aj eA call264 (n2)<|(pJ)<|(ce)<|(fR)<|aj eA call315 (TL ha.1)<|(aB)<|(vA) ?_);refine ah O O (aj eA call315 (TL ha.2)<|(pJ)<|(ba)<|cV)
theorem Yk (hl:∀x∈l,b6 x):ai prog 238 [jF p l cp].toArray [gF p l cp] [] (Is .nilIface):=by
 refine tu (.head _) (λ_ h=>(uX h).2) λhb=>?_;simp only[maxLen] at hb;refine am func238 λ_=>(au) ?_;intro _;refine(rL)<|aj eA call98 (jB (l:=l))<|(oQ)<|aU [(2,2),(4,5),(8,23)] (λ(i:Nat)=>i<=l.length) (λi=>[(4,iv i)]) (λ_=>[]) (λ_=>[]) (λi=>l.length-i) (0) (bf _) ?_;intro i fr h5;refine(lN)<|ao ?_ ?_
 ·intro hc10;have hlt:i<l.length:=by have:=of_decide_eq_true hc10;omega
  obtain⟨y,hy⟩:∃x,l[i]? =some x:=⟨_,aG hlt⟩;refine(mB)<|aj eA call131 (iO hy)<|aj eA call237 (Yj (hl y (bn hy)))<|(cF)<|(wA)<|(zb) ?_;refine dD (m:=((i+1:Nat):Int)) O O aa ⟨aa,aa⟩ O ?_;refine(bt) ?_;exact⟨i+1,oA,aa,lA,kA,fA,hA⟩
 ·intro hc10;exact(y9)<|cV
structure sU (l:List Pt):Prop where
 nn:∀x∈l,b6 x
 two:∃a b,l[0]? =some a/\l[1]? =some b/\a≠b
theorem YF (h:sU l):ai prog 239 [jF p l cp].toArray [gF p l cp] [] (Is (.bool true)):=by
 obtain⟨hnn,a,b,ha,hb1,hne⟩:=h;have hna:=hnn a (bn ha);have hnb:=hnn b (bn hb1);have h1:=da hb1;refine tu (.head _) (λ_ h=>(uX h).2) λhb=>?_;simp only[maxLen] at hb;refine am func239 λ_=>(au) ?_;intro _;refine(rL)<|aj eA call98 (jB (l:=l))<|(iC) ?_;refine aL O O (iF (p:=(l.length:Int)=0) aa) O<|(gH)<|(cR)<|aj eA call131 (iO (i:=0) ha)<|(aq) ?_;intro r4;refine(dS)<|(vD)<|aU [(2,2),(5,5),(12,21)] (λ(i:Nat)=>i=1) (λi=>[(5,iv i)]) (λ_=>[]) (λ_=>[]) (λi=>0) (1) (rfl) ?_;intro i fr h5;subst h5;refine(lL) ?_;refine aL O O (iT (p:=((1:Nat):Int)<(l.length:Int)) aa) O<|(vE)<|(CP)<|(JJ)<|(vr) ?_;refine ac O (λkX=>aj eA call131 (iO (i:=1) hb1) kX)<|(jf) ?_;refine ac O (vY O O qV (λw=>Vv hnb hna w) O)<|(pH) ?_;refine gz O (λhc21=>?_) (λhc21=>absurd hc21 ((by simp[Ne.symm hne])));exact(mI)<|(ul)<|(nD)<|gk
theorem Qe (h:sU q.l):ai prog 165 [q.v].toArray [q.fact] [] (Is .nilIface):=by
 have h1:1<q.l.length:=by obtain⟨_,_,b,_,hb,_⟩:=h;exact da hb
 refine tu (.head _) (λ_ h=>(uX h).2) λhb=>?_;simp only[maxLen] at hb;refine am func165 λ_=>(au) ?_;intro _;refine(rD)<|(eK)<|aj eA call98 (jB (l:=q.l)) ?_;refine aL O O (iF (p:=(q.l.length:Int)=0) aa) O<|(gH)<|(ce)<|(ba)<|(eK)<|aj eA call238 (Yk (p:=q.p) (l:=q.l) (cp:=q.cp) h.nn)<|(cF)<|(wA)<|(ce)<|(ba)<|(eK)<|aj eA call239 (YF (p:=q.p) (l:=q.l) (cp:=q.cp) h)<|(oR)<|(wI)<|cV
end Go.Proofs
namespace Go.Proofs
open Tryz
open Go.V Go.Edges
variable {q:Sq} {p:Option Addr} {l:List Pt} {cp:Nat} {lss:List (List Pt)} {v:Value}
theorem Yl (h:∀l∈lss,sU l):ai prog 168 [jb p lss cp].toArray [bQ p lss cp] [] (Is .nilIface):=by
 refine(wK) ?_;intro qs hqs hb;have hql:qs.length=lss.length:=by rw[<-hqs,cP]
 refine am func168 λ_=>(au) ?_;intro _;refine(pG)<|aU [(2,5),(9,23)] (λ(i:Nat)=>i<=lss.length) (λi=>[(9,iv i)]) (λ_=>[]) (λ_=>[]) (λi=>lss.length-i) (0) (bf _) ?_;intro i fr h5;refine(cM)<|ao ?_ ?_
 ·intro hc10;have hlt:i<qs.length:=by have:=of_decide_eq_true hc10;omega
  obtain⟨q1,hq1⟩:∃x,qs[i]? =some x:=⟨_,aG hlt⟩;have hqm:=bn hq1;have hv1:sU q1.l:=h _ (by rw[<-hqs];exact aM.2 ⟨q1,hqm,rfl⟩);refine cI q1.fact (λhp al=>al q1.fact (mT (aM.2 ⟨q1,hqm,O⟩)))<|(rK) ?_;refine cU (size:=2) (i:=i) ab O O O O O aa mA aa (flat_take (F:=Sq.cells) (λ_ _=>O) hq1) O λ_ _=>?_;refine aK ab O O O (aR (xs:=q1.cells) mA) O O<|(aq) ?_;intro r4;refine(gb)<|(wO)<|aj eA call165 (Qe (q:=q1) hv1)<|(cF)<|(wA)<|(lO) ?_;exact⟨i+1,oA,aa,lA,kA,fA,hA⟩
 ·intro hc10;exact(y9)<|cV
theorem Yo:ai prog 163 [pn p [] cp].toArray [dA p [] cp] [] (Is .nilIface):=by
 refine am func163 λ_=>(au) ?_;intro _;refine(pG)<|aU [(2,5),(9,23)] (λ(i:Nat)=>i=0) (λi=>[(9,iv i)]) (λ_=>[]) (λ_=>[]) (λi=>0) (0) (rfl) ?_;intro i fr h5;refine(cM) ?_;refine gz O (λhc10=>absurd hc10 ((by subst h5;simp))) (λhc10=>(y9)<|cV)
theorem Yn (h:sU l):ai prog 145 [gv (.ls l) v].toArray [aE (.ls l) v] [] (Is .nilIface):=by
 refine am func145 λ_=>(au) ?_;intro _;refine(fP)<|(dF)<|(pL)<|aI eA call29 (qQ (l:=l)) λv1 Fs1 ⟨q,e1,e2,e3⟩=>?_;subst e2;subst e3;subst e1;refine aj eA call165 (Qe (q:=q) h)<|mG
theorem Ym (h:∀l∈lss,sU l):ai prog 145 [gv (.mls lss) v].toArray [aE (.mls lss) v] [] (Is .nilIface):=by
 refine am func145 λ_=>(au) ?_;intro _;refine(fP)<|(ot)<|(pL)<|aI eA call35 (qP (lss:=lss)) λv1 Fs1 ⟨p,cp,e2,e3⟩=>?_;subst e2;subst e3;refine aj eA call168 (Yl h)<|mG
theorem Yp:ai prog 145 [gv (.gc []) v].toArray [aE (.gc []) v] [] (Is .nilIface):=by
 refine am func145 λ_=>(au) ?_;intro _;refine(fP)<|(dF)<|(pO)<|aI eA call39 (sb (gs:=[])) λv1 Fs1 ⟨p,cp,e2,e3⟩=>?_;subst e2;subst e3;refine aj eA call163 (Yo)<|mG
theorem Yi (h:∀l∈lss,sU l):ai prog 145 [gv (hZ lss) v].toArray [aE (hZ lss) v] [] (Is .nilIface):=by
 match lss,h with
 |[],_=>exact Yp
 |[l],h=>exact Yn (h l (.head _))
 |a::b::l,h=>exact Ym h
end Go.Proofs
namespace Go.Proofs
open Tryz
open Go.V Go.Edges
variable {q:Sq} {p:Option Addr} {l:List Pt} {cp:Nat} {lss:List (List Pt)} {v:Value}
def tY:List (List Pt)->Value->List an->Prop
 |[],v,F=>v=HJ/\F=[]
 |[l],v,F=>∃p cp,v=HK p l cp/\F=[gF p l cp]
 |l::m::ls,v,F=>∃p cp,v=xG 5 p (l::m::ls) cp/\F=[nj p (l::m::ls) cp]
theorem adM:ai prog 38 [pn p [] cp].toArray [dA p [] cp] [] (Is HJ):=by
 refine am func38 λ_=>(au) ?_;intro _;refine(aq) ?_;intro _;refine(gu)<|aj eA call94 (UY)<|(I1)<|(cN)<|(aq) ?_;intro r3;refine(dS)<|(vD)<|aU [(4,4),(9,23)] (λ(i:Nat)=>i=0) (λi=>[(4,iv i)]) (λ_=>[]) (λ_=>[]) (λi=>0) (0) (rfl) ?_;intro i fr h5;refine(eE)<|(eH)<|aj eA call95 (Al (gs:=[]))<|(kU) ?_;refine gz O (λhc12=>absurd hc12 ((by subst h5;simp))) (λhc12=>(y9)<|(gq)<|rN)
theorem adL (hb:l.length<=1048576):ai prog 15 [gv (.ls l) v].toArray [aE (.ls l) v] [] (λv Fs' L'=>tY [l] v Fs'/\L'=[]):=by
 refine am func15 λ_=>(au) ?_;intro _;refine(aq) ?_;intro _;refine(cn)<|(cR)<|aj eA call25 (lz (g:= .ls l) (v:=v))<|(dF)<|(Ft)<|aI eA call29 (qQ (l:=l)) λv1 Fs1 ⟨q,e1,e2,e3⟩=>?_;subst e2;subst e3;subst e1;refine aI eA call28 (Sa (p:=q.p) (l:=q.l) (cp:=q.cp) hb) λv1 Fs1 ⟨p1,c1,e1,e2⟩=>?_;subst e1;subst e2;refine(eF)<|(vv)<|aH [gF p1 q.l c1] [] ?_;exact⟨⟨p1,c1,O,O⟩,O⟩
theorem adK {a b:List Pt} {ls:List (List Pt)} (hg:lx (a::b::ls)):ai prog 15 [gv (.mls (a::b::ls)) v].toArray [aE (.mls (a::b::ls)) v] [] (λv Fs' L'=>tY (a::b::ls) v Fs'/\L'=[]):=by
 refine am func15 λ_=>(au) ?_;intro _;refine(aq) ?_;intro _;refine(cn)<|(cR)<|aj eA call25 (lz (g:= .mls (a::b::ls)) (v:=v))<|(ot)<|(Ft)<|aI eA call35 (qP (lss:=a::b::ls)) λv1 Fs1 ⟨p,cp,e2,e3⟩=>?_;subst e2;subst e3;refine aI eA call34 (adI hg) λv1 Fs1 ⟨p1,c1,e1,e2⟩=>?_;subst e1;subst e2;refine(eF)<|(vv)<|aH [nj p1 (a::b::ls) c1] [] ?_;exact⟨⟨p1,c1,O,O⟩,O⟩
theorem adN:ai prog 15 [gv (.gc []) v].toArray [aE (.gc []) v] [] (λv Fs' L'=>tY [] v Fs'/\L'=[]):=by
 refine am func15 λ_=>(au) ?_;intro _;refine(aq) ?_;intro _;refine(cn)<|(cR)<|aj eA call25 (lz (g:= .gc []) (v:=v))<|(ud)<|(OB)<|(cR)<|aI eA call39 (sb (gs:=[])) λv1 Fs1 ⟨p,cp,e2,e3⟩=>?_;subst e2;subst e3;refine aj eA call38 (adM)<|rN
theorem R9 (hg:lx lss):ai prog 15 [gv (hZ lss) v].toArray [aE (hZ lss) v] [] (λv Fs' L'=>tY lss v Fs'/\L'=[]):=by
 match lss,hg with
 |[],_=>exact adN
 |[l],h=>exact adL (h.2 l (.head _)).2
 |a::b::l,h=>exact adK h
theorem UW {w:Value} {F:List an} (hg:lx lss) (h:tY lss w F):ai prog 16 [w].toArray F [] (rR (hZ lss)):=by
 match lss,hg,h with
 |[],_,⟨e1,e2⟩=>subst e1;subst e2;exact aiA
 |[l],hg,⟨p,c,e1,e2⟩=>subst e1;subst e2;exact aiC (hg.2 l (.head _)).1 (hg.2 l (.head _)).2
 |a::b::l,hg,⟨p,c,e1,e2⟩=>subst e1;subst e2;exact aiB hg dK
end Go.Proofs
namespace Go.Proofs
open Tryz
open Go.V Go.Edges
variable {q:Sq} {p:Option Addr} {l:List Pt} {cp y:Nat} {lss:List (List Pt)} {v:Value}
def GV (a b:Pt):Option Nat:=(jE a b).bind λu=>(mo u u).bind Av
def xE (l:List Pt):Nat->Option Nat
 |0=>some 0
 |k+1=>(xE l k).bind λs=>(l[k]?).bind λa=>(l[k+1]?).bind λb=>(GV a b).bind λy=>qm s y
def EC (l:List Pt):Option Nat:=xE l (l.length-1)
theorem Tf {l:List Pt}:∀{n k y:Nat},k<=n->xE l n=some y->∃z,xE l k=some z
 |0,k,y,h,e=>by
  obtain rfl:k=0:=by omega
  exact⟨_,e⟩
 |n+1,k,y,h,e=>by
  by_cases h1:k=n+1
  ·subst h1;exact⟨y,e⟩
  ·simp only[xE,jO] at e;obtain⟨s,hs,_⟩:=e;exact Tf aa hs
theorem Th (h:EC q.l=some y):ai prog 70 [q.v].toArray [q.fact] [] (Is (aw y)):=by
 refine tu (.head _) (λ_ h=>(uX h).2) λhb=>?_;simp only[maxLen] at hb;refine am func70 λ_=>(au) ?_;intro _;refine(fo)<|(fo)<|(eK)<|aj eA call98 (jB (l:=q.l))<|(oQ)<|aU [(3,3),(5,8),(12,33)] (λ(x:Nat×Nat)=>x.1<=q.l.length-1/\xE q.l x.1=some x.2) (λx=>[(3,aw x.2),(5,iv x.1)]) (λ_=>[]) (λ_=>[]) (λx=>q.l.length-x.1) ((0,0)) (⟨bf _,O⟩) λ⟨i,s⟩ fr ⟨h5,h6⟩=>?_;dsimp only at h5 h6;refine(eE) ?_;refine dD (m:=((i+1:Nat):Int)) O O aa ⟨aa,aa⟩ O ?_;refine(aB)<|(kU)<|ao ?_ ?_
 ·intro hc15;have hlt:i+1<q.l.length:=by have:=of_decide_eq_true hc15;omega
  obtain⟨a,ha⟩:∃x,q.l[i]? =some x:=⟨_,aG aa⟩;obtain⟨b,hb1⟩:∃x,q.l[i+1]? =some x:=⟨_,aG hlt⟩;obtain⟨z,hz⟩:=Tf (k:=i+1) aa h;have hz':=hz;simp only[xE,h6,lh,ha,hb1,GV,jO] at hz';obtain⟨w,⟨u,hu,e,he,hw⟩,hadd⟩:=hz';refine(ix)<|(eK)<|(aB)<|aj eA call131 (iO ha)<|(aq) ?_;intro r6;refine(ug)<|(eK)<|(aB) ?_;refine dD (m:=((i+1:Nat):Int)) O O aa ⟨aa,aa⟩ O ?_;refine aj eA call131 (iO hb1)<|(aq) ?_;intro r7;refine(cu)<|(gM)<|aj eA call132 (z0 hu)<|(aq) ?_;intro r8;refine(y7)<|aj eA call133 (afH he hw) ?_;refine fh O O (hadd) O<|(iR)<|(aY) ?_;refine dD (m:=((i+1:Nat):Int)) O O aa ⟨aa,aa⟩ O ?_;refine(bt) ?_;exact⟨(i+1,z),oA,⟨by dsimp only;omega,hz⟩,lA,kA,fA,hA⟩
 ·intro hc15;have hge:i=q.l.length-1:=by have:=of_decide_eq_false hc15;omega
  have hsy:s=y:=by{rw[hge] at h6;exact iD (h6.symm.trans h)}
  subst hsy;exact(CU)<|cV
def uP (lss:List (List Pt)):Nat->Option Nat
 |0=>some 0
 |k+1=>(uP lss k).bind λs=>(lss[k]?).bind λl=>(EC l).bind λy=>qm s y
theorem Tj {lss:List (List Pt)}:∀{n k y:Nat},k<=n->uP lss n=some y->∃z,uP lss k=some z
 |0,k,y,h,e=>by
  obtain rfl:k=0:=by omega
  exact⟨_,e⟩
 |n+1,k,y,h,e=>by
  by_cases h1:k=n+1
  ·subst h1;exact⟨y,e⟩
  ·simp only[uP,jO] at e;obtain⟨s,hs,_⟩:=e;exact Tj aa hs
theorem afI (h:uP lss lss.length=some y):ai prog 72 [jb p lss cp].toArray [bQ p lss cp] [] (Is (aw y)):=by
 refine(wK) ?_;intro qs hqs hb;have hql:qs.length=lss.length:=by rw[<-hqs,cP]
 refine am func72 λ_=>(au) ?_;intro _;refine(fo)<|(pG)<|aU [(3,3),(5,5),(9,17)] (λ(x:Nat×Nat)=>x.1<=lss.length/\uP lss x.1=some x.2) (λx=>[(3,aw x.2),(9,iv x.1)]) (λ_=>[]) (λ_=>[]) (λx=>lss.length-x.1) ((0,0)) (⟨bf _,O⟩) λ⟨i,s⟩ fr ⟨h5,h6⟩=>?_;dsimp only at h5 h6;refine(cM)<|ao ?_ ?_
 ·intro hc10;have hlt:i<qs.length:=by have:=of_decide_eq_true hc10;dsimp only at this;omega
  obtain⟨q1,hq1⟩:∃x,qs[i]? =some x:=⟨_,aG hlt⟩;have hqm:=bn hq1;have hl1:lss[i]? =some q1.l:=by rw[<-hqs,iY,hq1];rfl
  refine cI q1.fact (λhp al=>al q1.fact (mT (aM.2 ⟨q1,hqm,O⟩))) ?_;obtain⟨z,hz⟩:=Tj (k:=i+1) aa h;have hz':=hz;simp only[uP,h6,lh,hl1,jO] at hz';obtain⟨w,hw,hadd⟩:=hz';refine(ix) ?_;refine cU (size:=2) (i:=i) ab O O O O O aa mA aa (flat_take (F:=Sq.cells) (λ_ _=>O) hq1) O λ_ _=>?_;refine aK ab O O O (aR (xs:=q1.cells) mA) O O<|(aq) ?_;intro r5;refine(y7)<|aj eA call70 (Th (q:=q1) hw) ?_;refine fh O O (hadd) O<|(jr) ?_;exact⟨(i+1,z),oA,⟨by dsimp only;omega,hz⟩,lA,kA,fA,hA⟩
 ·intro hc10;have hge:i=lss.length:=by have:=of_decide_eq_false hc10;dsimp only at this;omega
  have hsy:s=y:=by{rw[hge] at h6;exact iD (h6.symm.trans h)}
  subst hsy;exact(CU)<|cV
end Go.Proofs
namespace Go.Proofs
open Tryz
open Go.V Go.Edges
variable {q:Sq} {p:Option Addr} {l:List Pt} {cp y:Nat} {lss:List (List Pt)} {v w:Value} {g:GM}
theorem aeW (h0:0<lss.length) (hl:∀l∈lss,0<l.length):ai prog 129 [jb p lss cp].toArray [bQ p lss cp] [] (Is (.bool false)):=by
 refine(wK) ?_;intro qs hqs hb;have hql:qs.length=lss.length:=by rw[<-hqs,cP]
 obtain⟨q1,hq1⟩:∃x,qs[0]? =some x:=⟨_,aG aa⟩;have hqm:=bn hq1;have hq0:0<q1.l.length:=hl _ (by rw[<-hqs];exact aM.2 ⟨q1,hqm,rfl⟩);have he:ai prog 115 [q1.v].toArray [q1.fact] [] (Is (.bool false)):=by
  have h:=EA (q:=q1);rw[decide_eq_false (show¬(q1.l.length:Int)=0 by omega)] at h;exact h
 refine am func129 λ_=>(au) ?_;intro _;refine(pG)<|aU [(2,2),(4,4),(8,15)] (λ(i:Nat)=>i=0) (λi=>[(8,iv i)]) (λ_=>[]) (λ_=>[]) (λi=>0) (0) (rfl) ?_;intro i fr h5;subst h5;refine cI q1.fact (λhp al=>al q1.fact (mT (aM.2 ⟨q1,hqm,O⟩)))<|(cM) ?_;refine gz O (λhc9=>?_) (λhc9=>absurd hc9 ((by rw[decide_eq_true (show((0:Nat):Int)<(lss.length:Int) by omega)];simp)));refine(ix) ?_;refine cU (size:=2) (i:=0) ab O O O O O aa mA aa (flat_take (F:=Sq.cells) (λ_ _=>O) hq1) O λ_ _=>?_;refine aK ab O O O (aR (xs:=q1.cells) mA) O O<|(aq) ?_;intro r4;exact(wO)<|aj eA call115 (he)<|(oR)<|(vE)<|(mI)<|(ul)<|(nD)<|gk
theorem aiH:ai prog 113 [pn p [] cp].toArray [dA p [] cp] [] (Is (.bool true)):=by
 refine am func113 λ_=>(au) ?_;intro _;refine(pG)<|aU [(2,2),(4,4),(8,15)] (λ(i:Nat)=>i=0) (λi=>[(8,iv i)]) (λ_=>[]) (λ_=>[]) (λi=>0) (0) (rfl) ?_;intro i fr h5;refine(cM) ?_;refine gz O (λhc9=>absurd hc9 ((by subst h5;simp))) (λhc9=>(y9)<|cV)
theorem ajG (h0:0<l.length):ai prog 66 [gv (.ls l) v].toArray [aE (.ls l) v] [] (Is (.bool false)):=by
 refine am func66 λ_=>(au) ?_;intro _;refine(fP)<|(dF)<|(pL)<|aI eA call29 (qQ (l:=l)) λv1 Fs1 ⟨q,e1,e2,e3⟩=>?_;subst e2;subst e3;subst e1;have he:ai prog 115 [q.v].toArray [q.fact] [] (Is (.bool false)):=by{have h:=EA (q:=q);rw[decide_eq_false (show¬(q.l.length:Int)=0 by omega)] at h;exact h}
 refine aj eA call115 (he)<|mG
theorem ajF (h0:0<lss.length) (hl:∀l∈lss,0<l.length):ai prog 66 [gv (.mls lss) v].toArray [aE (.mls lss) v] [] (Is (.bool false)):=by
 refine am func66 λ_=>(au) ?_;intro _;refine(fP)<|(ot)<|(pL)<|aI eA call35 (qP (lss:=lss)) λv1 Fs1 ⟨p,cp,e2,e3⟩=>?_;subst e2;subst e3;refine aj eA call129 (aeW h0 hl)<|mG
theorem ajH:ai prog 66 [gv (.gc []) v].toArray [aE (.gc []) v] [] (Is (.bool true)):=by
 refine am func66 λ_=>(au) ?_;intro _;refine(fP)<|(dF)<|(pO)<|aI eA call39 (sb (gs:=[])) λv1 Fs1 ⟨p,cp,e2,e3⟩=>?_;subst e2;subst e3;refine aj eA call113 (aiH)<|mG
theorem TM {k:Int} {b:Bool} (hk:decide (k=0)=b):ai prog 67 [.agg #[iv k,v]].toArray [] [] (Is (.bool b)):=by
 subst hk;refine am func67 λ_=>(au) ?_;intro _;exact(fP)<|(kT)<|cV
theorem TK {k:Int} {b:Bool} (hk:decide (k=2)=b):ai prog 69 [.agg #[iv k,v]].toArray [] [] (Is (.bool b)):=by
 subst hk;refine am func69 λ_=>(au) ?_;intro _;exact(fP)<|(kT)<|cV
theorem agy {k:Int} {b:Bool} (hk:decide (k=5)=b):ai prog 71 [.agg #[iv k,v]].toArray [] [] (Is (.bool b)):=by
 subst hk;refine am func71 λ_=>(au) ?_;intro _;exact(fP)<|(kT)<|cV
def ED:List (List Pt)->Option Nat
 |[]=>some 0
 |[l]=>EC l
 |l::m::ls=>uP (l::m::ls) (l::m::ls).length
theorem afM (h0:0<l.length) (h:EC l=some y):ai prog 21 [gv (.ls l) v].toArray [aE (.ls l) v] [] (Is (aw y)):=by
 refine am func21 λ_=>(au) ?_;intro _;refine(nz)<|(cR)<|aj eA call66 (ajG h0)<|(bt)<|(gL)<|(cR)<|aj eA call67 (TM (k:=2) (b:=false) O)<|(bt)<|(gL)<|(cR)<|aj eA call69 (TK (k:=2) (b:=true) O)<|(bt)<|(pF)<|(cR)<|aI eA call29 (qQ (l:=l)) λv1 Fs1 ⟨q,e1,e2,e3⟩=>?_;subst e2;subst e3;subst e1;refine aj eA call70 (Th (q:=q) h)<|mG
theorem afL (h0:0<lss.length) (hl:∀l∈lss,0<l.length) (h:uP lss lss.length=some y):ai prog 21 [gv (.mls lss) v].toArray [aE (.mls lss) v] [] (Is (aw y)):=by
 refine am func21 λ_=>(au) ?_;intro _;refine(nz)<|(cR)<|aj eA call66 (ajF h0 hl)<|(bt)<|(gL)<|(cR)<|aj eA call67 (TM (k:=5) (b:=false) O)<|(bt)<|(gL)<|(cR)<|aj eA call69 (TK (k:=5) (b:=false) O)<|(bt)<|(gL)<|(cR)<|aj eA call71 (agy (k:=5) (b:=true) O)<|(bt)<|(pF)<|(cR)<|aI eA call35 (qP (lss:=lss)) λv1 Fs1 ⟨p,cp,e2,e3⟩=>?_;subst e2;subst e3;refine aj eA call72 (afI h)<|mG
theorem afN:ai prog 21 [gv (.gc []) v].toArray [aE (.gc []) v] [] (Is (aw 0)):=by
 refine am func21 λ_=>(au) ?_;intro _;exact(nz)<|(cR)<|aj eA call66 (ajH)<|(bt)<|(pF)<|(ba)<|mG
theorem afJ (hg:lx lss) (h:ED lss=some y):ai prog 21 [gv (hZ lss) v].toArray [aE (hZ lss) v] [] (Is (aw y)):=by
 match lss,hg,h with
 |[],_,h=>cases h;exact afN
 |[l],hg,h=>exact afM (hg.2 l (.head _)).1 h
 |a::b::l,hg,h=>exact afL dK (λl hl=>(hg.2 l hl).1) h
theorem afG {F:List an} (hg:lx lss) (hw:tY lss w F) (h:ED lss=some y):ai prog 9 [w].toArray F [] (Is (aw y)):=by
 have hw0:=UW hg hw;obtain⟨a,b,c,e,rfl⟩:∃a b c e,w= .agg #[a,b,c,e]:=by
  match lss,hw with
  |[],⟨h,_⟩=>exact⟨_,_,_,_,h⟩
  |[l],⟨_,_,h,_⟩=>exact⟨_,_,_,_,h⟩
  |_::_::_,⟨_,_,h,_⟩=>exact⟨_,_,_,_,h⟩
 refine am func9 λ_=>(au) ?_;intro _;refine(fo)<|(gq)<|aI eA call16 (hw0) λv1 Fs1 ⟨u,e2,e3⟩=>?_;subst e2;subst e3;refine aj eA call21 (afJ hg h)<|cV
end Go.Proofs
namespace Go.V
section
variable {P:Program} {c:bC} {n:Nat} {ops:Array Oper} {Fs:List an} {L:List ae} {f:Fm} {Q:bG} {rest:List Oper}
variable {d:Nat} {ty:TypeId} {ps:String} {aft:Array Edge}
theorem sw {k:FuncId} {x:Operand} {name:String} {t:TypeId} {u:Value} {xs:List Operand} {ats:Array TypeId} {vs:List Value} (hx:ap f x= .b (.iface t u)) (hxs:jv f xs vs)
  (hm:∀w:World,(method (P.types.size+Made.depth) t u name).run P w= .ok (k,u) w) (hcall:∀(args:Array Value) (w:World),(callFunc k args).run P w= .ok (.enter k args) w)
  {Fs1:List an} {L1 R:List ae} {Q1:cZ} (hs:ai P k (u::vs).toArray Fs1 L1 Q1) (hF:∀x∈Fs1,x∈Fs) (hT:bv L L1 R) (hd:Nat.blt d n=true)
  (kont:∀v Fs' L',Q1 v Fs' L'->ak P c n ops (Fs'++Fs) (R++L') (aT f d v) rest Q):
  ak P c n ops Fs L f (⟨some d,.call ⟨.invoke x name,xs.toArray,ats⟩,ty,ps,aft,none⟩::rest) Q:=
 Nk rfl (bU hd) (λh w sa al=>⟨w,by
  have hmm:(List.map (λx=>(ap f x).v) xs)=vs:=hxs.map;have e0:(#[Value.iface t u]++vs.toArray)[0]? =some (Value.iface t u):=by simp
  have e1:(#[Value.iface t u]++vs.toArray).extract 1 (#[Value.iface t u]++vs.toArray).size=vs.toArray:=by
   apply xc;simp
  have e2: #[u]++vs.toArray=(u::vs).toArray:=by apply xc;simp
  simp only[Bx.v_b,execOp,resolve,hx,bo,bS,bV,invoke,nN,hmm,e0,e1,callMethod,run_program,hm,e2];rw[hcall],rfl⟩) hs hF hT kont
end
end Go.V
namespace Go.Proofs
open Tryz
open Go.V
theorem SY (v:Value) (w:World):(Go.method (prog.types.size+Made.depth) 419 v "Len").run prog w= .ok (472,v) w:=by kernel_rfl
theorem Hv (v:Value) (w:World):(Go.method (prog.types.size+Made.depth) 419 v "Less").run prog w= .ok (473,v) w:=by kernel_rfl
theorem Hu (v:Value) (w:World):(Go.method (prog.types.size+Made.depth) 419 v "Swap").run prog w= .ok (476,v) w:=by kernel_rfl
theorem afc (v:Value) (w:World):(Go.method (prog.types.size+Made.depth) 419 v "Push").run prog w= .ok (475,v) w:=by kernel_rfl
theorem afd (v:Value) (w:World):(Go.method (prog.types.size+Made.depth) 419 v "Pop").run prog w= .ok (474,v) w:=by kernel_rfl
end Go.Proofs
namespace Go.V
section
variable {P:Program} {c:bC} {n:Nat} {ops:Array Oper} {Fs:List an} {L:List ae} {f:Fm} {Q:bG} {rest:List Oper}
variable {ty:TypeId} {ps:String} {aft:Array Edge} {aC:Nat->Option TI} {x y:Operand} {T:TypeId}
theorem sp {β:Type} (Tb:bZ P aC) {ti:TI} (ht:aC T=some ti) {F:β->List Value} {k:Nat} (hk:∀x,(F x).length=k) {l:List β} {tl:List Value} {j:Nat} (e:β) {r o:Nat} {v:Value} {t':TypeId} {L':List ae}
  (hx:ap f x= .b (.pointer (some ⟨r,o,none⟩))) (ho:o=j*k) (hy:ap f y= .b v) (hv:v.cells=(F e).toArray) (hsz:ti.sz=k) (h1:gN (F e)=true) (hj:j<l.length)
  (hu:cf L r (.cells (l.flatMap F++tl).toArray t' (0,0)) (.cells ((l.set j e).flatMap F++tl).toArray t' (0,0)) L') (K:ak P c n ops Fs L' f rest Q):
  ak P c n ops Fs L f (⟨none,.store T x y,ty,ps,aft,none⟩::rest) Q:=by
 subst ho;have hl:(l.flatMap F).length=l.length*k:=kJ λy _=>hk y;have hle:(j+1)*k<=l.length*k:=gI _ hj;rw[lU] at hle;exact cS Tb ht (cs:=l.flatMap F++tl) (cs':=(l.set j e).flatMap F++tl) hx hy hv (by rw[hk];exact hsz) h1 (by rw[zL,hk,aW];omega) (by
  have h2:(l.flatMap F++tl).take (j*k)++F e++(l.flatMap F++tl).drop (j*k+(F e).length)=(l.set j e).flatMap F++tl:=by
   rw[hk,vJ aa,Bj aa,<-Cl (λy _=>hk y) hj];simp only[cG]
  exact h2.symm) hu K
end
theorem aJ.rowF {β:Type} {F:β->List Value} {k e:Nat} (hk:∀x,(F x).length=k) {ps:List β} {v:Value} {B:List ae} (h:aJ e k v ps.length (ps.flatMap F) B) (h0:0<ps.length):
  ∃g cap tl,v= .slice (some ⟨g,0,none⟩) ps.length cap/\B=[(g,.cells (ps.flatMap F++tl).toArray e (0,0))]/\
  ∀qs:List β,qs.length=ps.length->aJ e k v qs.length (qs.flatMap F) [(g,.cells (qs.flatMap F++tl).toArray e (0,0))]:=by
 have fl:∀l:List β,(l.flatMap F).length=l.length*k:=λl=>kJ λy _=>hk y;obtain⟨g,cap,cur,rfl,rfl,h1,h2,h3,h4⟩:=aJ.one h h0;have hc:cur.toList=ps.flatMap F++cur.toList.drop (ps.length*k):=by rw[<-h4,gf]
 refine⟨g,cap,cur.toList.drop (ps.length*k),O,?_,λqs hq=>?_⟩
 ·have:cur=(ps.flatMap F++cur.toList.drop (ps.length*k)).toArray:=by apply xc;simpa using hc
  rw[<-this]
 ·have hql:=fl qs;have hm:=gI k h1;refine⟨aa,.inr ⟨g,cap,_,by rw[hq],rfl,aa,h2,?_,?_⟩⟩
  ·simp only[ox,aW,jx,vO,hql,hq];omega
  ·show List.take (qs.length*k) (qs.flatMap F++cur.toList.drop (ps.length*k))=_;rw[vJ aa,eQ aa]
theorem aJ.cut {β:Type} {F:β->List Value} {k e:Nat} (hk:∀x,(F x).length=k) {ps:List β} {x:β} {g cap:Nat} {B:List ae} (h:aJ e k (.slice (some ⟨g,0,none⟩) (ps++[x]).length cap) (ps++[x]).length ((ps++[x]).flatMap F) B):
  aJ e k (.slice (some ⟨g,0,none⟩) ps.length cap) ps.length (ps.flatMap F) B:=by
 have fl:∀l:List β,(l.flatMap F).length=l.length*k:=λl=>kJ λy _=>hk y;obtain⟨g',cap',cur,e1,rfl,h1,h2,h3,h4⟩:=aJ.one h dK;cases e1;refine⟨fl ps,.inr ⟨g,cap,cur,O,O,by simp at h1;omega,h2,h3,?_⟩⟩;have hle:ps.length*k<=(ps++[x]).length*k:=gI _ dK;have h7:=congrArg (List.take (ps.length*k)) h4;rw[Kl,Br hle] at h7;rw[h7,ft,vJ (by rw[fl];exact bg _),<-fl ps,dg]
end Go.V
namespace Go.Proofs
open Tryz
open Go.V
abbrev QE:=Nat×Nat
abbrev VE (x:QE):Value:= .pointer (some ⟨x.1,0+x.2*6,none⟩)
abbrev oI (x:QE):List Value:=[VE x]
def E2 (x:QE):an where
 p h:=∃(el:List RE) (m:Value),(el.length=4/\x.2<4)/\(aO x.1 0 (el.flatMap RE.enc++[m])).p h
 mono:=λhle ⟨el,m,h1,h2⟩=>⟨el,m,h1,an.mono _ hle h2⟩
def fQ (qs:List QE):an where
 p h:=∀x∈qs,(E2 x).p h
 mono:=λhle k x hx=>an.mono _ hle (k x hx)
abbrev xp (rq:Nat) (ob:bH) (p:Option Addr) (qs:List QE) (cp:Nat):ae:=(rq,.cells #[.slice p qs.length cp,.float .f64 ob.1,.float .f64 ob.2.1,.float .f64 ob.2.2.1,.float .f64 ob.2.2.2] 417 (0,0))
structure QL (rq:Nat) (ob:bH) (qs:List QE) (L:List ae):Prop where
 mk'::
 ex:∃p cp B,aJ 420 1 (.slice p qs.length cp) qs.length (qs.flatMap oI) B/\L=xp rq ob p qs cp::B
variable {rq:Nat} {ob:bH} {qs:List QE} {L:List ae} {i j:Nat} {b b':bH}
theorem RX (h:QL rq ob qs L) (hb:qs.length<=16777216):ai prog 472 [aF rq].toArray [] L (λv Fs' L'=>(v=iv qs.length/\Fs'=[])/\L'=L):=by
 obtain⟨p,cp,B,hs,rfl⟩:=h.ex;refine am func472 λ_=>(Jl)<|(CO)<|(dW)<|(dH)<|(bO)<|aH [] (xp rq ob p qs cp::B) ?_;exact gk
theorem VQ:ai prog 477 [Fc b,Fc b'].toArray [] [] A4:=by
 refine am func477 λ_=>(au) ?_;intro _;refine(cg) ?_;intro _;refine(fP)<|(dW)<|(jV) ?_;intro _;refine(zk)<|(jV) ?_;intro _;refine(Ju)<|(Ju)<|(fP)<|(dW)<|(jV) ?_;intro _;refine(zk)<|(jV) ?_;intro _;refine(Ju)<|(Ju)<|(iz)<|(jV) ?_;intro _;refine(dG)<|(jV) ?_;intro _;refine(jV) ?_;intro _;exact I7
end Go.Proofs
namespace Go.Proofs
open Tryz
open Go.V
variable {rq:Nat} {ob:bH} {qs:List QE} {L:List ae} {i j:Nat} {b b':bH} {x y:QE}
theorem Q5 {P:Program} {Fs:List an} {L:List ae} {fid:FuncId} {args:Array Value} {R:cZ} (hm:fQ qs∈Fs) (hx:x∈qs)
  (K:∀(el:List RE) (m:Value) (e:RE),el.length=4->el[x.2]? =some e->ai P fid args (aO x.1 0 (el.flatMap RE.enc++[m])::Fs) L R):ai P fid args Fs L R:=
 z7 (α:=List RE×Value) (φ:=λy=>y.1.length=4/\x.2<4) (G:=λy=>[aO x.1 0 (y.1.flatMap RE.enc++[y.2])]) (λhp al=>by
  obtain⟨el,m,h1,h2⟩:=al _ hm x hx;exact⟨(el,m),h1,.cons h2 (λ_ hh=>nomatch hh)⟩) λ⟨el,m⟩ ⟨h1,h2⟩=>by
   dsimp only at h1 h2;exact K el m _ h1 (aG aa)
theorem G6 (h:QL rq ob qs L) (hi:qs[i]? =some x) (hj:qs[j]? =some y):ai prog 473 [aF rq,iv i,iv j].toArray [fQ qs] L (λv Fs' L'=>(∃b,v= .bool b/\Fs'=[])/\L'=L):=by
 obtain⟨p,cp,B,hs,rfl⟩:=h.ex;have hli:=da hi;have hlj:=da hj;obtain⟨g,cap,tl,e1,rfl,_⟩:=aJ.rowF (F:=oI) (k:=1) (λ_=>rfl) hs aa;cases e1;have hmax:cp<=maxLen:=by obtain⟨g',cap',cur,e2,_,_,h2,_⟩:=aJ.one hs aa;cases e2;exact h2
 simp only[maxLen] at hmax;have hcn:qs.length<=cp:=by obtain⟨g',cap',cur,e2,_,h2,_⟩:=aJ.one hs aa;cases e2;exact h2
 refine Q5 (.head _) (bn hi) λel m e h1 he=>?_;refine Q5 (.tail _ (.head _)) (bn hj) λel2 m2 e2 h2 he2=>?_;refine am func473 λ_=>(ba)<|(bR) ?_;refine cz cw 15 [14] []<|(vu)<|(bh) ?_;refine ac O (bp (s:=1) (i:=i) ab O O O O O aa aa O) ?_;refine ac O (az ab O O O (jo (F:=oI) (k:=1) (i:=0) (io mA) (λ_ _=>O) hi O aa) O)<|(fa) ?_;refine ac O (aK ab O O O (Il (i:=0) (m:=4) (xs:=el) (aR mA) (qq el) he O aa) O O)<|(mE)<|(Xq)<|(dT)<|aI eA call477 (VQ (b:=e.b) (b':=ob)) λv1 Fs1 ⟨r1,e3,e4⟩=>?_;subst e3;subst e4;refine(iy)<|(bR) ?_;refine cz cw 15 [14] []<|(vu)<|(bh) ?_;refine ac O (bp (s:=1) (i:=j) ab O O O O O aa aa O) ?_;refine ac O (az ab O O O (jo (F:=oI) (k:=1) (i:=0) (io mA) (λ_ _=>O) hj O aa) O)<|(fa) ?_;refine ac O (aK ab O O O (Il (i:=0) (m:=4) (xs:=el2) (aR mA) (qq el2) he2 O aa) O O)<|(mE)<|(Xq)<|(dT)<|aI eA call477 (VQ (b:=e2.b) (b':=ob)) λv1 Fs1 ⟨r2,e3,e4⟩=>?_;subst e3;subst e4;refine(iy)<|(iz)<|(ns)<|(bO)<|aH [] [xp rq ob (some ⟨g,0,none⟩) qs cp,(g,.cells (qs.flatMap oI++tl).toArray 420 (0,0))] ?_;exact vk
theorem G5 (h:QL rq ob qs L) (hi:qs[i]? =some x) (hj:qs[j]? =some y):ai prog 476 [aF rq,iv i,iv j].toArray [] L (λv Fs' L'=>(v= .tuple #[]/\Fs'=[])/\QL rq ob ((qs.set i y).set j x) L'):=by
 obtain⟨p,cp,B,hs,rfl⟩:=h.ex;have hli:=da hi;have hlj:=da hj;obtain⟨g,cap,tl,e1,rfl,hall⟩:=aJ.rowF (F:=oI) (k:=1) (λ_=>rfl) hs aa;cases e1;have hfin:=hall ((qs.set i y).set j x) dK;have hl1:(qs.set i y).length=qs.length:=by simp
 have hl2:((qs.set i y).set j x).length=qs.length:=by simp
 refine am func476 λ_=>?_;refine cz cw 28 [25,27] [25,27]<|(vu)<|(bh)<|(kQ)<|(vG)<|(iS)<|(kQ)<|(vu)<|(bh) ?_;refine ac O (bp (s:=1) (i:=j) ab O O O O O aa aa O) ?_;refine ac O (az ab O O O (jo (F:=oI) (k:=1) (i:=0) (io mA) (λ_ _=>O) hj O aa) O)<|(kQ)<|(vG)<|(rH) ?_;refine ac O (bp (s:=1) (i:=i) ab O O O O O aa aa O) ?_;refine ac O (az ab O O O (jo (F:=oI) (k:=1) (i:=0) (io mA) (λ_ _=>O) hi O aa) O) ?_;refine ac O (bp (s:=1) (i:=i) ab O O O O O aa aa O) ?_;refine cC O (bp (s:=1) (i:=j) ab O O O O O aa aa O)<|(dT) ?_;refine sp (F:=oI) (k:=1) (l:=qs) (j:=i) (tl:=tl) ab O (λ_=>O) y O aa O O O O hli uA ?_;refine mj (.norm ⟨⟨undef,O⟩,(sN) ?_⟩);refine sp (F:=oI) (k:=1) (l:=qs.set i y) (j:=j) (tl:=tl) ab O (λ_=>O) x O aa O O O O aa uA ?_;refine mj (.norm ⟨⟨undef,O⟩,(um)<|(lJ) ?_⟩);exact .norm (.nil) (L':=[xp rq ob (some ⟨g,0,none⟩) ((qs.set i y).set j x) cp,(g,.cells (((qs.set i y).set j x).flatMap oI++tl).toArray 420 (0,0))]) gy (by rw[xp,xp,hl2];exact gx _) ⟨⟨O,O⟩,⟨_,_,_,hl2▸hfin,O⟩⟩
end Go.Proofs
namespace Go.Proofs
open Tryz
open Go.V
variable {rq:Nat} {ob:bH} {qs:List QE} {L:List ae} {i j:Nat} {b b':bH} {x y:QE}
abbrev Ik (x:QE):Value:= .iface 420 (VE x)
theorem adr (h:QL rq ob qs L) (hb:qs.length<=16777216):ai prog 475 [aF rq,Ik x].toArray [] L (λv Fs' L'=>(v= .tuple #[]/\Fs'=[])/\QL rq ob (qs++[x]) L'):=by
 obtain⟨p,cp,B,hs,rfl⟩:=h.ex;refine am func475 λ_=>?_;refine cz cw 9 [7,8] [8]<|(kQ)<|(kQ)<|(vG)<|(rH) ?_;refine ac O (UA ab O O O O)<|(dT)<|(eD) ?_;intro b11;refine(dU) ?_;refine di (e:=420) (size:=1) (news:=[x].flatMap oI) ab O O O O O O O (B:=B) tA hs O (bD mA) O O dp (by show(qs.length+1)*8<=_;omega) O λv' B' hs'=>?_;rw[<-ft] at hs';have hs2:aJ 420 1 v' (qs++[x]).length ((qs++[x]).flatMap oI) B':=by rw[aW];exact hs'
 obtain⟨p2,c2,rfl⟩:=hs2.shape;refine(rJ)<|(Fy) ?_;refine cS ab O (cs:=[.slice p qs.length cp,.float .f64 ob.1,.float .f64 ob.2.1,.float .f64 ob.2.2.1,.float .f64 ob.2.2.2]) (cs':=[.slice p2 (qs++[x]).length c2,.float .f64 ob.1,.float .f64 ob.2.1,.float .f64 ob.2.2.1,.float .f64 ob.2.2.2]) O O O O O O O uA<|(lJ)<|ed [] (xp rq ob p2 (qs++[x]) c2::B') ?_;exact⟨⟨O,O⟩,⟨_,_,_,hs2,O⟩⟩
theorem ads (h:QL rq ob (qs++[x]) L) (hb:qs.length<=16777216):ai prog 474 [aF rq].toArray [] L (λv Fs' L'=>(v=Ik x/\Fs'=[])/\QL rq ob qs L'):=by
 obtain⟨p,cp,B,hs,rfl⟩:=h.ex;have hlen:(qs++[x]).length=qs.length+1:=by simp
 obtain⟨g,cap,tl,e1,rfl,hall⟩:=aJ.rowF (F:=oI) (k:=1) (λ_=>rfl) hs aa;cases e1;have hcn:(qs++[x]).length<=cp/\cp<=maxLen:=by obtain⟨g',cap',cur,e2,_,h2,h3,_⟩:=aJ.one hs aa;cases e2;exact⟨h2,h3⟩
 simp only[maxLen] at hcn;have hcut:=aJ.cut (F:=oI) (k:=1) (λ_=>rfl) hs;have hx:(qs++[x])[qs.length]? =some x:=by simp
 refine am func474 λ_=>(ba)<|(bR)<|(AR)<|(vu)<|(vu)<|(zp)<|(AQ) ?_;refine ac O (bp (s:=1) (i:=qs.length) ab O O O O O aa aa O) ?_;refine ac O (az ab O O O (jo (F:=oI) (k:=1) (i:=0) (io mA) (λ_ _=>O) hx O aa) O)<|(jY)<|(bR)<|(AR)<|(zn)<|(vG)<|(iS)<|(vu)<|(zp)<|(AQ) ?_;refine ac O (qi (size:=1) ab O O O O .none (.some O (l:=qs.length) aa) aa aa aa O)<|(jY)<|(Fy) ?_;refine cS ab O (cs:=[.slice (some ⟨g,0,none⟩) (qs++[x]).length cp,.float .f64 ob.1,.float .f64 ob.2.1,.float .f64 ob.2.2.1,.float .f64 ob.2.2.2]) (cs':=[.slice (some ⟨g,0,none⟩) qs.length cp,.float .f64 ob.1,.float .f64 ob.2.1,.float .f64 ob.2.2.1,.float .f64 ob.2.2.2]) O O O O O O O uA<|(qC)<|(rE)<|(bO)<|aH [] (xp rq ob (some ⟨g,0,none⟩) qs cp::[(g,.cells ((qs++[x]).flatMap oI++tl).toArray 420 (0,0))]) ?_;exact⟨⟨O,O⟩,⟨_,_,_,hcut,O⟩⟩
end Go.Proofs
