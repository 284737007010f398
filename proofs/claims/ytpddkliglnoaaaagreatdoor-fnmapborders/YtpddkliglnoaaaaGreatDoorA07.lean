/- Part 7 of the proof that FnMapBorders returns true for every input that its row lets in. No further condition. -/
import Derived.Test.YtpddkliglnoaaaaGreatDoorA06
set_option linter.all false
set_option autoImplicit true
set_option relaxedAutoImplicit true
namespace Go.Proofs
open Tryz
open Go.V Go.Sort
variable {β:Type} [Inhabited β] {S:SF β}
theorem Ua (x y:Nat):EO .geq (x:Int) (y:Int)=some (decide (x>=y)):=by simp[EO]
theorem LC (hS:kq S):∀(k a b limit:Nat) (d:Array β),b-a<k->a<=b->b<=S.n->limit<=1000->S.Ok d->
  ai prog 314 [S.v,iv a,iv b,iv limit].toArray S.G (S.LL d) (AG S (pdq S.lt d a b limit true true))
 |0,_,_,_,_,h,_,_,_,_=>absurd h (iZ _)
 |k+1,a0,b0,limit0,d0,hk,hab0,hb0,hli0,hd0=>by
  have hsm:=hS.small;obtain⟨R,hR⟩:∃R,pdq S.lt d0 a0 b0 limit0 true true=R:=⟨_,rfl⟩;rw[hR];refine am func314 λ_=>(au) ?_;intro _;refine(eZ)<|(wG)<|aU [(1,3),(8,129)] (λ(x:Nat×Nat×Nat×Bool×Bool×Array β)=>(x.1<=x.2.1/\x.2.1<=S.n/\x.2.1-x.1<=k/\x.2.2.1<=1000)/\S.Ok x.2.2.2.2.2/\pdq S.lt x.2.2.2.2.2 x.1 x.2.1 x.2.2.1 x.2.2.2.1 x.2.2.2.2.1=R) (λx=>[(1,iv x.1),(2,iv x.2.1),(3,iv x.2.2.1),(8,.bool x.2.2.2.1),(9,.bool x.2.2.2.2.1)]) (λ_=>[]) (λx=>S.LL x.2.2.2.2.2) (λx=>x.2.1-x.1) ((a0,b0,limit0,true,true,d0)) (⟨⟨hab0,hb0,oA,hli0⟩,hd0,hR⟩) λ⟨a,b,limit,wb,wp,d⟩ fr ⟨⟨hab,hb,hbk,hli⟩,hd,h6⟩=>?_;dsimp only at hab hb hbk hli hd h6;refine(gU)<|(fb) ?_;refine ew (m:=((b-a:Nat):Int)) O O Dh iA O<|(iC)<|(C5)<|(aN)<|ao ?_ ?_
  ·intro hc23;have h12:b-a<=12:=by have:=of_decide_eq_true hc23;omega
   rw[ad1 h12] at h6;refine(cR)<|(dG)<|aS eA call370 (ag5 (a:=a) (b:=b) hS hd hab hb) λv Fs' L' ⟨e1,e2,e3⟩=>?_;subst e1;rw[h6] at e2 e3;subst e3;refine(aN)<|(AW)<|aH [] (S.LL R) ?_;exact⟨O,e2,O⟩
  ·intro hc23;have h12:¬b-a<=12:=by have:=of_decide_eq_false hc23;omega
   refine(bX)<|(eE)<|(kT)<|(aN)<|ao ?_ ?_
   ·intro hc29;have h0:limit=0:=by have:=of_decide_eq_true hc29;dsimp only at this;omega
    rw[ad2 h12 h0] at h6;refine(cR)<|(dG)<|aS eA call371 (ahp (a:=a) (b:=b) hS hd aa hb) λv Fs' L' ⟨e1,e2,e3⟩=>?_;subst e1;rw[h6] at e2 e3;subst e3;refine(aN)<|(AW)<|aH [] (S.LL R) ?_;exact⟨O,e2,O⟩
   ·intro hc29;have h0:limit≠0:=by have:=of_decide_eq_false hc29;dsimp only at this;omega
    refine(om)<|jl (S.LL d) [(3,3),(34,41)] (λ(x:Nat×Array β)=>x.1<=1000/\S.Ok x.2/\x.2=(if !wb then breakPatterns d a b else d)/\x.1=(if !wb then limit-1 else limit)) (λx=>[(3,iv x.1)]) (λ_=>[]) (λx=>S.LL x.2) ?_ ?_
    ·refine(bJ)<|(Ja)<|ao ?_ ?_
     ·intro hc35;refine(cR)<|(dG)<|aS eA call372 (akV (a:=a) (b:=b) hS hd aa hb) λv Fs' L' ⟨e1,e2,e3⟩=>?_;subst e1;subst e3;refine(aN)<|(aY) ?_;refine ew (m:=((limit-1:Nat):Int)) O O Dh iA O<|(bt) ?_;exact⟨(limit-1,breakPatterns d a b),⟨oA,e2,by rw[if_pos hc35],by rw[if_pos hc35]⟩,lA,kA,fA,hA⟩
     ·intro hc35;refine(bX) ?_;exact⟨(limit,d),⟨oA,hd,by rw[if_neg (by rw[hc35];decide)],by rw[if_neg (by rw[hc35];decide)]⟩,lA,kA,fA,hA⟩
    ·intro⟨lim1,d1⟩ gg1 ⟨hl1,ho1,e1,el⟩;dsimp only at hl1 ho1 e1 el;have hpr:=adP (lt:=S.lt) (d:=d1) (a:=a) (b:=b) aa;obtain⟨c,hc⟩:∃c,c=choosePivot S.lt d1 a b:=⟨_,rfl⟩;rw[<-hc] at hpr;refine(cR)<|(dG)<|aS eA call373 (adO (a:=a) (b:=b) hS ho1 aa hb) λv Fs' L' ⟨⟨e4,e5⟩,e6⟩=>?_;subst e5;subst e6;rw[<-hc] at e4;subst e4;refine(wC)<|(bR)<|jl (S.LL d1) [(11,12),(49,60)] (λ(x:Nat×Hint×Array β)=>(a<=x.1/\x.1<b)/\S.Ok x.2.2/\x.2.2=(if c.2= .decreasing then reverseRange d1 a b else d1)/\x.1=(if c.2= .decreasing then(b-1)-(c.1-a) else c.1)/\x.2.1=(if c.2= .decreasing then Hint.increasing else c.2)) (λx=>[(11,iv x.1),(12,iv (Cd x.2.1))]) (λ_=>[]) (λx=>S.LL x.2.2) ?_ ?_
     ·refine(bJ)<|(kT)<|(aN)<|ao ?_ ?_
      ·intro hc50;have hdec:c.2= .decreasing:=by have:=of_decide_eq_true hc50;revert this;cases c.2<;>simp[Cd]
       refine(cR)<|(dG)<|aS eA call374 (ac9 (a:=a) (b:=b) hS ho1 aa hb) λv Fs' L' ⟨e4,e5,e6⟩=>?_;subst e4;subst e6;refine(qC) ?_;refine ew (m:=((b-1:Nat):Int)) O O Dh iA O<|(dG) ?_;refine ew (m:=((c.1-a:Nat):Int)) O O Dh iA O ?_;refine ew (m:=((b-1-(c.1-a):Nat):Int)) O O aa iA O<|(bt)<|(cJ)<|(bt) ?_;exact⟨(b-1-(c.1-a),.increasing,reverseRange d1 a b),⟨⟨oA,oA⟩,e5,by rw[if_pos hdec],by rw[if_pos hdec],by rw[if_pos hdec]⟩,lA,kA,fA,hA⟩
      ·intro hc50;have hdec:¬c.2= .decreasing:=by have:=of_decide_eq_false hc50;revert this;cases c.2<;>simp[Cd]
       refine(bX) ?_;exact⟨(c.1,c.2,d1),⟨hpr,ho1,by rw[if_neg hdec],by rw[if_neg hdec],by rw[if_neg hdec]⟩,lA,kA,fA,hA⟩
     ·intro⟨pivot,hint,d2⟩ gB ⟨hpv,ho2,e2,ep,eh⟩;dsimp only at hpv ho2 e2 ep eh;obtain⟨pi,epi⟩:∃pi,pi=if wb&&wp&&hint= .increasing then partialInsertionSort S.lt d2 a b else(d2,false):=⟨_,rfl⟩
      have H:FK S.lt d a b limit wb wp d1 lim1 d2 pivot hint pi:=⟨h12,h0,e1,el,hc▸e2,hc▸ep,hc▸eh,epi⟩;refine(ce)<|jl (S.LL d2) [(61,72)] (λ(x:Array β)=>S.Ok x/\pi=(x,false)) (λx=>[]) (λ_=>[]) (λx=>S.LL x) ?_ ?_
      ·refine(ce) ?_;rcases wb with _|_<;>rcases wp with _|_
       ·refine(cO)<|(jK)<|(gm)<|(aB)<|(wP)<|(gH) ?_;exact⟨d2,⟨ho2,by rw[epi,if_neg dK]⟩,lA,kA,fA,hA⟩
       ·refine(cO)<|(jK)<|(gm)<|(aB)<|(wP)<|(gH) ?_;exact⟨d2,⟨ho2,by rw[epi,if_neg dK]⟩,lA,kA,fA,hA⟩
       ·refine(cO)<|(fN)<|(fD)<|(aB)<|(wP)<|(gH) ?_;exact⟨d2,⟨ho2,by rw[epi,if_neg dK]⟩,lA,kA,fA,hA⟩
       ·refine(cO)<|(fN)<|(fD)<|(ic)<|(I0)<|(fm)<|ao ?_ ?_
        ·intro hc68;have hinc:hint= .increasing:=by have:=of_decide_eq_true hc68;revert this;cases hint<;>simp[Cd]
         have e5:pi=partialInsertionSort S.lt d2 a b:=by rw[epi,if_pos (by simp[hinc])]
         refine(cR)<|(dG)<|aS eA call375 (ad9 (a:=a) (b:=b) hS ho2 aa hb) λv Fs' L' ⟨q1,q2,q3,q4⟩=>?_;subst q2;rw[<-e5] at q1 q3 q4;subst q1;subst q4;refine(aN)<|ao ?_ ?_
         ·intro hc72;rw[adZ H hc72] at h6;refine(AW)<|aH [] (S.LL pi.1) ?_;exact⟨O,h6▸q3,by rw[h6]⟩
         ·intro hc72;refine(bX) ?_;exact⟨pi.1,⟨q3,mN O hc72⟩,lA,kA,fA,hA⟩
        ·intro hc68;have hinc:¬hint= .increasing:=by have:=of_decide_eq_false hc68;revert this;cases hint<;>simp[Cd]
         refine(bX) ?_;exact⟨d2,⟨ho2,by rw[epi,if_neg (by simp[hinc])]⟩,lA,kA,fA,hA⟩
      ·intro d3 gC ⟨ho3,hpi⟩;refine(ce)<|jl (S.LL d3) [(1,1),(13,13),(73,89)] (λ(_:Unit)=>(a>0&&!S.lt d3[a-1]! d3[pivot]!)=false) (λ_=>[(1,iv a)]) (λ_=>[]) (λ_=>S.LL d3) ?_ ?_
       ·refine(ce) ?_;rcases xe a with h00|h00
        ·refine(aY) ?_;refine aL O O (by show some (decide _)=some false;simp;omega) O<|(oq)<|(jK)<|(pJ) ?_;exact⟨(),by simp[h00],lA,kA,fA,hA⟩
        ·refine(aY) ?_;refine aL O O (by show some (decide _)=some true;simp;omega) O<|(aB)<|(vA)<|(fN)<|(ON)<|(fN) ?_;refine ah O O (dj O eA hS.lessE (NF.refl _) (hS.less d3 ho3 _ _ (a-1) pivot aa O aa aa) λv Fs' L' ⟨⟨q1,q2⟩,q3⟩=>?_);subst q1;subst q2;subst q3;refine(JB)<|(fm)<|ao ?_ ?_
         ·intro hc83;have hce:(a>0&&!S.lt d3[a-1]! d3[pivot]!)=true:=by simp only[eI,decide_eq_true_eq];exact⟨h00,hc83⟩
          obtain⟨⟨mid,d4⟩,hpe⟩:∃r,partitionEqual S.lt d3 a b pivot=r:=⟨_,rfl⟩;refine(cR)<|(mD)<|aS eA call376 (aef (a:=a) (b:=b) (pv:=pivot) hS ho3 aa hb aa) λv Fs' L' ⟨q1,q2,q3,q4,q5,q6⟩=>?_;subst q2;rw[hpe] at q1 q3 q4 q5 q6;dsimp only at q1 q3 q4 q5 q6;subst q1;subst q4;rw[ad3 H hpi hce hpe ⟨q5,q6⟩] at h6;refine(cF)<|(bt)<|(zi)<|(ir) ?_;exact⟨(mid,b,lim1,wb,wp,d4),oA,⟨⟨oA,oA,oA,hl1⟩,q3,h6⟩,lA,kA,fA,hA⟩
         ·intro hc83;refine(bX) ?_;exact⟨(),by simp only[Bool.and_eq_false_iff];exact .inr hc83,lA,kA,fA,hA⟩
       ·intro u0 gD hcf;obtain⟨⟨mid,al,d4⟩,hpt⟩:∃r,partition S.lt d3 a b pivot=r:=⟨_,rfl⟩;refine(cR)<|(mD)<|aS eA call377 (ad7 (a:=a) (b:=b) (pv:=pivot) hS ho3 aa hb aa) λv Fs' L' ⟨q1,q2,q3,q4,q5,q6⟩=>?_;subst q2;rw[hpt] at q1 q3 q4 q5 q6;dsimp only at q1 q3 q4 q5 q6;subst q1;subst q4;refine(wC)<|(cF)<|(iz) ?_;refine ew (m:=((mid-a:Nat):Int)) O O aa iA O<|(dG) ?_;refine ew (m:=((b-mid:Nat):Int)) O O Dh iA O<|(gb)<|(cF) ?_;refine pj (m:=(((b-a)/8:Nat):Int)) O O aa aa aa iA O<|(iz)<|(kU)<|ao ?_ ?_
        ·intro hc109;have hlt:mid-a<b-mid:=by have:=of_decide_eq_true hc109;omega
         rw[ad0 H hpi hcf hpt ⟨q5,q6⟩ hlt] at h6;refine(fb) ?_;refine aL O O (Ua (mid-a) ((b-a)/8)) O<|(rL)<|(mD)<|aS eA call314 (LC hS k a mid lim1 d4 aa aa aa hl1 q3) λv Fs' L' ⟨w1,w2,w3⟩=>?_;subst w1;subst w3;refine(aN)<|(sL) ?_;exact⟨(mid+1,b,lim1,decide (mid-a>=(b-a)/8),al,pdq S.lt d4 a mid lim1 true true),oA,⟨⟨oA,oA,oA,hl1⟩,w2,h6⟩,lA,kA,fA,hA⟩
        ·intro hc109;have hlt:¬mid-a<b-mid:=by have:=of_decide_eq_false hc109;omega
         rw[adY H hpi hcf hpt ⟨q5,q6⟩ hlt] at h6;refine(fb) ?_;refine aL O O (Ua (b-mid) ((b-a)/8)) O<|(rL)<|(aB)<|(dm)<|(dG)<|aS eA call314 (LC hS k (mid+1) b lim1 d4 aa aa aa hl1 q3) λv Fs' L' ⟨w1,w2,w3⟩=>?_;subst w1;subst w3;refine(lK) ?_;exact⟨(a,mid,lim1,decide (b-mid>=(b-a)/8),al,pdq S.lt d4 (mid+1) b lim1 true true),oA,⟨⟨oA,oA,oA,hl1⟩,w2,h6⟩,lA,kA,fA,hA⟩
end Go.Proofs
namespace Go.V
theorem GS {P:Program} {w:World} {r o:Nat} {cur:Array Value} {T:TypeId} {vs:List Value} (hg:w.heap[r]? =some (.cells cur T (0,0))) (hf:o+vs.length<=cur.size) (h1:∀v∈vs,v.oneCell'=true):
  w.setCells r o vs=w.setRow r (cur.toList.take o++vs++cur.toList.drop (o+vs.length)).toArray:=by
 have ha:=run_storeCells_at (P:=P) r o T vs 0 cur w hg (by simpa using hf) h1;have hb:=run_storeCells_cells (P:=P) r o vs 0 w (λj hj=>by
  have:o+0+j<cur.size:=by omega
  simp[World.cell?,hg];omega) (λj hj=>by simp[World.frozen?,hg]) h1
 rw[ha] at hb;simp only[wY] at hb;injection hb with _ e
 exact e.symm
variable {β:Type} [Inhabited β]
theorem G0 {F:β->List Value} {k:Nat} (hk:∀x,(F x).length=k) {l:List β} {tl:List Value} {i:Nat} (hi:i<l.length) (x:β):
  (l.flatMap F++tl).take (i*k)++F x++(l.flatMap F++tl).drop (i*k+(F x).length)=(l.set i x).flatMap F++tl:=by
 have hl:(l.flatMap F).length=l.length*k:=kJ λy _=>hk y;have hle:(i+1)*k<=l.length*k:=gI _ hi;rw[lU] at hle;rw[hk,vJ aa,Bj aa,<-Cl (λy _=>hk y) hi];simp only[cG]
end Go.V
namespace Go.Proofs
open Tryz
open Go.V Go.Sort Go.Extern Go.Lib
variable {β:Type} [Inhabited β]
abbrev dq (F:β->List Value) (tl:List Value) (e g:Nat) (d:Array β):ae:=(g,.cells (d.toList.flatMap F++tl).toArray e (0,0))
theorem GE (d:Array β) (i j:Nat) (hi:i<d.size) (hj:j<d.size):(swp d i j).toList=(d.toList.set i d[j]!).set j d[i]! :=by
 simp[swp]
theorem KF {F:β->List Value} {tl:List Value} {e k g n cap sf:Nat} {gS:Bool} {ie:TypeInfo} {M:List ae} (hk:∀x,(F x).length=k) (h1:∀x,∀v∈F x,v.oneCell'=true)
  (hx:∀args W,(callFunc sf args).run prog W=((ReflectliteSwapper.swap gS args).run prog W).andThen λv w'=> .ok (.value v) w')
  (hie:prog.info? e=some ie) (hs:ie.size=k) (hagg:∀w,(isAgg e).run prog w= .ok true w)
  (d:Array β) (hd:d.size=n) (x y:Int) (i j:Nat) (ex:x=i) (ey:y=j) (hi:i<n) (hj:j<n):
  IJ prog sf ([]++([iv x,iv y]++[Value.slice (some ⟨g,0,none⟩) n cap,typeHandle prog e])).toArray (dq F tl e g d::M) (λv L'=>v= .tuple #[]/\L'=dq F tl e g (swp d i j)::M):=by
 subst ex;subst ey;subst hs;intro h w sa;have hg:=sa.own _ (.head _);simp only at hg;have hl:∀l:List β,(l.flatMap F++tl).length=l.length*ie.size+tl.length:=λl=>by rw[aW,kJ λy _=>hk y]
 have hcell:∀q,q<n->∀u v,(F d[q]!)[u]? =some v->w.cell? ⟨g,0+q*ie.size+u,none⟩=some v:=λq hq u v hv=>by
  have hrow:=tM (Fs:=[]) (L:=dq F tl e g d::M) (r:=g) (off:=q*ie.size) (j:=q) (x:=d[q]!) (io (.head _)) (λy _=>hk y) (by simp[hd,hq]) rfl;have:=hrow h w sa (λ_ hh=>nomatch hh) u v hv;simpa using this
 have hfz:∀a,w.frozen? ⟨g,a,none⟩=false:=λa=>by simp[World.frozen?,hg]
 have hrun:=run_swap_cells (P:=prog) gS e ie hie hagg g 0 n cap i j hi hj (F d[i]!) (F d[j]!) (hk _) (hk _) (h1 _) (h1 _) w (hcell i hi) (hcell j hj) (λ_ _=>hfz _) (λ_ _=>hfz _);have hdl:d.toList.length=n:=by simpa using hd
 have hin:(i+1)*ie.size<=n*ie.size:=gI _ hi;have hjn:(j+1)*ie.size<=n*ie.size:=gI _ hj;rw[lU] at hin hjn;have e1:=GS (P:=prog) (o:=0+i*ie.size) (vs:=F d[j]!) hg (by have:=hl d.toList;rw[hdl] at this;simp only[ox,hk];omega) (h1 _);rw[gX,G0 hk aa] at e1;have hg2:=setRow_heap w g _ ((d.toList.set i d[j]!).flatMap F++tl).toArray e (0,0) hg;have e2:=GS (P:=prog) (o:=0+j*ie.size) (vs:=F d[i]!) hg2 (by have:=hl (d.toList.set i d[j]!);rw[Ko,hdl] at this;simp only[ox,hk];omega) (h1 _);rw[gX,G0 hk (by rw[Ko];omega),<-GE d i j aa aa] at e2;rw[gX,gX,e1,e2] at hrun;refine⟨.tuple #[],(w.setRow g ((d.toList.set i d[j]!).flatMap F++tl).toArray).setRow g ((swp d i j).toList.flatMap F++tl).toArray,dq F tl e g (swp d i j)::M,?_,⟨O,O⟩,?_⟩
 ·rw[hx];have:([]++([iv (i:Int),iv (j:Int)]++[Value.slice (some ⟨g,0,none⟩) n cap,typeHandle prog e])).toArray= #[.int .i64 i,.int .i64 j,.slice (some ⟨g,0,none⟩) n cap,typeHandle prog e]:=rfl;rw[this,hrun];rfl
 ·have re:dN ⟨h,w,ids (dq F tl e g d::M)⟩ h (dq F tl e g d::M) w:=⟨PH.le_refl _,sa,Fr.refl _ _,⟨λr hr=> .inl hr,λp hp=> .inl (aM.2 ⟨p,hp,rfl⟩)⟩⟩;have r1:=re.set (w':=w.setRow g ((d.toList.set i d[j]!).flatMap F++tl).toArray) (L':=(g,.cells ((d.toList.set i d[j]!).flatMap F++tl).toArray e (0,0))::M) .here rfl rfl rfl (by simp[World.setRow]) hg2 (λk hk=>by
   simp only[World.setRow,zU];rw[if_neg aa])
  have hg3:=setRow_heap (w.setRow g ((d.toList.set i d[j]!).flatMap F++tl).toArray) g _ ((swp d i j).toList.flatMap F++tl).toArray e (0,0) hg2;have r2:=r1.set (w':=(w.setRow g ((d.toList.set i d[j]!).flatMap F++tl).toArray).setRow g ((swp d i j).toList.flatMap F++tl).toArray) (L':=dq F tl e g (swp d i j)::M) .here rfl rfl rfl (by simp[World.setRow]) hg3 (λk hk=>by
   simp only[World.setRow,zU];rw[if_neg aa])
  exact⟨r2.sat,r2.fr,r2.new⟩
end Go.Proofs
namespace Go.V
section
variable {P:Program} {c:bC} {n:Nat} {ops:Array Oper} {Fs:List an} {L:List ae} {f:Fm} {Q:bG} {rest:List Oper}
variable {d:Nat} {ty:TypeId} {ps:String} {aft:Array Edge}
theorem ahX {k:FuncId} {xs:List Operand} {ats:Array TypeId} {vs:List Value} {v:Nat->Value} {cs:Array Value} {t:TypeId} (hxs:jv f xs vs) (hcall:∀w:World,(callFunc k vs.toArray).run P w= .ok (.value (v w.heap.size)) (w.alloc (.cells cs t))) (hd:Nat.blt d n=true)
  (K:∀r,ak P c n ops Fs ((r,.cells cs t)::L) (aT f d (v r)) rest Q):
  ak P c n ops Fs L f (⟨some d,.call ⟨.value (.func k),xs.toArray,ats⟩,ty,ps,aft,none⟩::rest) Q:=
 mX rfl (bU hd) λh w re al=>⟨_,_,Fs,_,h,by
  have hm:(List.map (λx=>(ap f x).v) xs)=vs:=hxs.map;have he:(ap f (.func k)).v= .func (.func k) #[] #[]:=rfl;simp only[execOp,resolve,he,Deferred.ofValue,bo,bS,bV,invoke,nN,hm];have:=hcall w;simpa using this,re.push _,al,K _⟩
theorem ahV {k:FuncId} {xs:List Operand} {ats:Array TypeId} {vs:List Value} {v:Value} (hxs:jv f xs vs) (hcall:∀h w,jU h L w->cr Fs h->(callFunc k vs.toArray).run P w= .ok (.value v) w) (hd:Nat.blt d n=true)
  (K:ak P c n ops Fs L (aT f d v) rest Q):
  ak P c n ops Fs L f (⟨some d,.call ⟨.value (.func k),xs.toArray,ats⟩,ty,ps,aft,none⟩::rest) Q:=
 dh rfl (bU hd) v (λh w sa al=>by
  have hm:(List.map (λx=>(ap f x).v) xs)=vs:=hxs.map;have he:(ap f (.func k)).v= .func (.func k) #[] #[]:=rfl;simp only[execOp,resolve,he,Deferred.ofValue,bo,bS,bV,invoke,nN,hm];have:=hcall h w sa al;simpa using this) K
end
end Go.V
namespace Go.Proofs
open Tryz
open Go.V Go.Sort Go.Extern Go.Lib
variable {β:Type} [Inhabited β] {S:SF β} {d:Array β}
theorem xk (hS:kq S) (hd:S.Ok d) {t e:TypeId} {i:TypeInfo} {p:Option Addr} {cap:Nat} (hi:prog.info? t=some i) (hde:i.desc= .slice e) (hpk:prog.packed t=false)
  (hsw:∀w,(callFunc 311 #[.iface t (.slice p S.n cap)]).run prog w= .ok (.value (.func (.func S.sf) S.sfv.toArray S.scv.toArray)) w):
  ai prog 228 [.iface t (.slice p S.n cap),.func (.func S.lf) S.lfv.toArray S.lcv.toArray].toArray S.G (S.LL d) (AG S (pdq S.lt d 0 S.n (bitsLen S.n) true true)):=by
 have hsm:=hS.small;have hbl:=WF hsm;have hv:∀w,(callFunc 310 #[.iface t (.slice p S.n cap)]).run prog w= .ok (.value (.agg #[typeHandle prog t,.pointer (some ⟨w.heap.size,0,none⟩),.int .u64 151])) (w.alloc (.cells #[.slice p S.n cap] t)):=λw=>by
  rw[run_callFunc_extern func310 br br br (e:=λargs=>Extern.ReflectliteValue.unpack (args.getD 0 (.tuple #[]))) br,
   show Sem.run prog ((λargs:Array Value=>Extern.ReflectliteValue.unpack (args.getD 0 (.tuple #[]))) #[.iface t (.slice p S.n cap)]) w=_ from run_valueOf_slice t e i hi hde p S.n cap w]
  rfl
 have hlen:∀(a:Addr) (w:World),w.cell? a=some (.slice p S.n cap)->(callFunc 312 #[.agg #[typeHandle prog t,.pointer (some a),.int .u64 151]]).run prog w= .ok (.value (iv S.n)) w:=λa w ha=>by
  rw[run_callFunc_extern func312 br br br (e:=Extern.ReflectliteValue.method (Extern.ReflectliteValue.valueError "reflectlite.Value.Len" 0) Extern.ReflectliteValue.len) br,
   run_valueLen_slice t e i hi hde hpk a p S.n cap w ha]
  rfl
 refine am func228 λ_=>(bJ) ?_;refine ahX (v:=λr=> .agg #[typeHandle prog t,.pointer (some ⟨r,0,none⟩),.int .u64 151]) eA hv O λr9=>(aq) ?_;intro r4;refine(cu)<|(bJ) ?_;refine As eA (hsw) O<|(fo) ?_;(first|refine su ab O O O mA O O ?_|refine aK ab O O O (oD (k:=3) mA) O O ?_);refine ahV eA (λh w sa al=>hlen _ w (by have:=LH (Fs:=[]) (L:=_) (r:=r9) (o:=0) (v:= .slice p S.n cap) (mA) O h w sa (λ_ hh=>nomatch hh);exact this)) O ?_;refine(cF)<|(FD)<|aj eA call313 (WM hsm)<|(bt)<|(cO)<|(cN)<|(dG)<|aS eA call314 (LC hS (S.n+1) 0 S.n (bitsLen S.n) d (by omega) (bf _) (bg _) (by omega) hd) λv Fs' L' ⟨e1,e2,e3⟩=>?_;subst e1;subst e3;refine(lJ)<|ed [] (S.LL (pdq S.lt d 0 S.n (bitsLen S.n) true true)) ?_;exact⟨O,e2,O⟩
end Go.Proofs
namespace Go.Proofs
open Tryz
open Go.V Go.Sort Go.Extern Go.Lib
theorem GD {β:Type} [Inhabited β] {d:Array β} {i j:Nat} (hi:i<d.size) (hj:j<d.size):(swp d i j).toList.Perm d.toList:=by
 rw[GE d i j hi hj];have:=perm_set_set d.toList i j (by simpa using hi) (by simpa using hj);simpa[hi,hj] using this
theorem By {β:Type} [Inhabited β] {d:Array β} {i:Nat} (hi:i<d.size):swp d i i=d:=by
 apply xc;rw[GE d i i hi hi,List.set_set];have e:d[i]! =d.toList[i]'(by simpa using hi):=by simp[hi]
 rw[e,List.set_getElem_self]
def kd (a x:Pt):Nat:=match AB a x with
 |some v=>bif Ieee.Datum.isNaN (FloatKind.f64.decode v) then 0 else v
 |none=>0
def yy (a x:Pt):Prop:=∃v,AB a x=some v/\Ieee.Datum.isNaN (FloatKind.f64.decode v)=false
def rz (a x y:Pt):Bool:=jn (kd a x) (kd a y)
abbrev bL (r T:Nat) (cs:List Value):ae:=(r,.cells cs.toArray T (0,0))
variable {ln:Ln} {rl rc g n cap:Nat} {tl:List Value} {d:Array Pt}
abbrev AC (ln:Ln) (rl rc g n cap:Nat):List ae:=[bL rl 223 (km ln),bL rc 205 [.slice (some ⟨g,0,none⟩) n cap]]
theorem V6 (hd:d.size=n) (hn:n<=4294967295) (hk:∀x∈d.toList,yy ln.1 x) (x y:Int) (i j:Nat) (ex:x=i) (ey:y=j) (hi:i<n) (hj:j<n):
  ai prog 343 [iv x,iv y,be rl,be rc].toArray [] (dq pE tl 79 g d::AC ln rl rc g n cap)
   (λv Fs' L'=>(v= .bool (rz ln.1 d[i]! d[j]!)/\Fs'=[])/\L'=dq pE tl 79 g d::AC ln rl rc g n cap):=by
 subst ex;subst ey;obtain⟨p,hp⟩:∃p,d[i]! =p:=⟨_,rfl⟩;obtain⟨q,hq⟩:∃q,d[j]! =q:=⟨_,rfl⟩;have hpi:d.toList[i]? =some p:=by rw[<-hp];simp[hd,hi]
 have hqj:d.toList[j]? =some q:=by rw[<-hq];simp[hd,hj]
 obtain⟨u,hu,hu2⟩:=hk p (bn hpi);obtain⟨v,hv,hv2⟩:=hk q (bn hqj);have e1:kd ln.1 p=u:=by simp[kd,hu,hu2]
 have e2:kd ln.1 q=v:=by simp[kd,hv,hv2]
 rw[hp,hq,rz,e1,e2];refine am func343 λ_=>(ba)<|(bR)<|(CX)<|(iU)<|(OJ)<|(qD)<|(bh) ?_;refine ac O (bp (s:=2) (i:=i) ab O O O O O aa aa O) ?_;refine ac O (aK ab O O O (tM (F:=pE) (k:=2) (io mA) (λ_ _=>O) hpi aa) O O) ?_;refine ac O (λkX=>aj eA call344 (VX hu) kX)<|(jY)<|(bR)<|(CX)<|(iU)<|(OJ)<|(qD)<|(bh) ?_;refine ac O (bp (s:=2) (i:=j) ab O O O O O aa aa O) ?_;refine ac O (aK ab O O O (tM (F:=pE) (k:=2) (io mA) (λ_ _=>O) hqj aa) O O) ?_;refine ac O (λkX=>aj eA call344 (VX hv) kX)<|(jY)<|(iz)<|(ns)<|(bO)<|aH [] (dq pE tl 79 g d::AC ln rl rc g n cap) ?_;exact gk
theorem XV:(prog.info? 79).isSome=true:=by kernel_rfl
theorem PW:(prog.info? 79).map (·.size)=some 2:=by kernel_rfl
theorem PY:(prog.info? 79).map (λi=>(i.hasPointers,i.bytes))=some (false,16):=by kernel_rfl
theorem Gj:(prog.info? 205).map (·.desc)=some (.slice 79):=by kernel_rfl
theorem Bt:prog.packed 205=false:=by kernel_rfl
theorem P0 (w:World):(isAgg 79).run prog w= .ok true w:=by kernel_rfl
theorem Bu (w:World):(Extern.Rtype.kind 79).run prog w= .ok 25 w:=by kernel_rfl
theorem QF:prog.funcs.findIdx? (·.name== "internal/reflectlite" ++ ".Swapper$" ++toString 1)=some 359:=by kernel_rfl
theorem KH:prog.funcs.findIdx? (·.name== "internal/reflectlite" ++ ".Swapper$" ++toString 2)=some 360:=by kernel_rfl
theorem KG:prog.funcs.findIdx? (·.name== "internal/reflectlite" ++ ".Swapper$" ++toString 9)=some 367:=by kernel_rfl
end Go.Proofs
namespace Go.Proofs
open Tryz
open Go.V Go.Sort Go.Extern Go.Lib
variable {ln:Ln} {rl rc g n cap:Nat} {tl:List Value} {d:Array Pt} {ps:List Pt}
def Ct (ln:Ln) (rl rc n sf:Nat) (scv:List Value) (LL:Array Pt->List ae) (ps:List Pt):SF Pt where
 lf:=343
 sf:=sf
 lfv:=[]
 lcv:=[be rl,be rc]
 sfv:=[]
 scv:=scv
 G:=[]
 LL:=LL
 lt:=rz ln.1
 n:=n
 Ok:=λd=>d.size=n/\d.toList.Perm ps
theorem KI (args:Array Value) (W:World):(callFunc 367 args).run prog W=((ReflectliteSwapper.swap false args).run prog W).andThen λv w'=> .ok (.value v) w':=
 run_callFunc_extern func367 br br br br args W
def KJ:Array Value->Sem Value:=fun
 | #[.int .i64 0,.int .i64 0]=>pure (.tuple #[])
 |_=>ReflectliteSwapper.outOfRange
theorem KM (args:Array Value) (W:World):(callFunc 360 args).run prog W=((KJ args).run prog W).andThen λv w'=> .ok (.value v) w':=
 run_callFunc_extern (e:=KJ) func360 br br br br args W
theorem KL (W:World):(KJ #[.int .i64 0,.int .i64 0]).run prog W= .ok (.tuple #[]) W:=rfl
theorem xi {t e k f n cap:Nat} {p:Option Addr} {i ie:TypeInfo} (hi:prog.info? t=some i) (hd:i.desc= .slice e) (hie:prog.info? e=some ie) {ke:Nat} (hke:∀w,(Extern.Rtype.kind e).run prog w= .ok ke w)
  (hk:swapperK n ie ke=k) (hf:prog.funcs.findIdx? (·.name== "internal/reflectlite" ++ ".Swapper$" ++toString k)=some f) (w:World):
  (callFunc 311 #[.iface t (.slice p n cap)]).run prog w= .ok (.value (.func (.func f) #[] (if k<=2 then #[] else #[.slice p n cap,typeHandle prog e]))) w:=by
 subst hk;rw[run_callFunc_extern func311 br br br (e:=ReflectliteSwapper.swapper "internal/reflectlite" (ReflectliteValue.valueError "Swapper")) br,
  run_swapper_slice t e i ie hi hd hie ke hke p n cap f hf w]
 rfl
theorem Sj (x:Pt):∀v∈pE x,v.oneCell'=true:=λv hv=>by
 rcases bm.1 hv with rfl|hv
 ·rfl
 ·rcases bm.1 hv with rfl|hv
  ·rfl
  ·cases hv
theorem akf (h2:2<=n) (hn:n<=4294967295) (hk:∀x∈ps,yy ln.1 x):
  kq (Ct ln rl rc n 367 [Value.slice (some ⟨g,0,none⟩) n cap,typeHandle prog 79] (λd=>dq pE tl 79 g d::AC ln rl rc g n cap) ps) where
 lessE:=call343
 less:=λd hd x y i j ex ey hi hj=>V6 hd.1 hn (λx hx=>hk x (hd.2.mem_iff.1 hx)) x y i j ex ey hi hj
 swap:=λd hd x y i j ex ey hi hj=>by
  obtain⟨ie,hie,hs⟩:=iE.1 PW;exact KF (F:=pE) (k:=2) (λ_=>O) Sj KI hie hs P0 d hd.1 x y i j ex ey hi hj
 size:=λd hd=>hd.1
 ok:=λd hd i j hi hj=>⟨by simp[swp,hd.1],(GD (hd.1.symm▸hi) (hd.1.symm▸hj)).trans hd.2⟩
 small:=hn
theorem akd (hk:∀x∈ps,yy ln.1 x):
  kq (Ct ln rl rc 1 360 [] (λd=>dq pE tl 79 g d::AC ln rl rc g 1 cap) ps) where
 lessE:=call343
 less:=λd hd x y i j ex ey hi hj=>V6 hd.1 (show 1<=4294967295 by decide) (λx hx=>hk x (hd.2.mem_iff.1 hx)) x y i j ex ey hi hj
 swap:=λd hd x y i j ex ey hi hj=>by
  have hd1:d.size=1:=hd.1;have hi':i<1:=hi;have hj':j<1:=hj;obtain rfl:i=0:=by omega
  obtain rfl:j=0:=by omega
  subst ex;subst ey;rw[By aa];intro h w sa;refine⟨.tuple #[],w,_,?_,⟨O,O⟩,sa,Fr.refl _ _,⟨λr hr=> .inl hr,λp hp=> .inl (aM.2 ⟨p,hp,O⟩)⟩⟩;have hh:(callFunc 360 #[.int .i64 0,.int .i64 0]).run prog w= .ok (.value (.tuple #[])) w:=by rw[KM,KL];rfl
  exact hh
 size:=λd hd=>hd.1
 ok:=λd hd i j hi hj=>by
  have hd1:d.size=1:=hd.1;have hi':i<1:=hi;have hj':j<1:=hj;obtain rfl:i=0:=by omega
  obtain rfl:j=0:=by omega
  rw[By aa];exact hd
 small:=by show 1<=4294967295;decide
theorem ake {LL:Array Pt->List ae}:kq (Ct ln rl rc 0 359 [] LL ps) where
 lessE:=call343
 less:=λd hd x y i j ex ey hi hj=>absurd hi (iZ _)
 swap:=λd hd x y i j ex ey hi hj=>absurd hi (iZ _)
 size:=λd hd=>hd.1
 ok:=λd hd i j hi hj=>absurd hi (iZ _)
 small:=by show 0<=4294967295;decide
structure FQ (a:Pt) (ps qs:List Pt):Prop where
 perm:qs.Perm ps
 sorted:SWO (rz a)->qs.Pairwise λx y=>rz a y x=false
theorem VZ {a:Pt} {d:Array Pt} (hd:d.size=n) (hq:(pdq (rz a) d 0 n (bitsLen n) true true).toList.Perm d.toList):FQ a d.toList (pdq (rz a) d 0 n (bitsLen n) true true).toList:=by
 refine⟨hq,λhO=>?_⟩;subst hd;have h:=(pdq_sorts (rz a) hO d 0 d.size (bitsLen d.size) true true (bf _) (bg _) (Or.inl rfl)).2;generalize pdq (rz a) d 0 d.size (bitsLen d.size) true true=r at h hq;have hsz:r.size=d.size:=by simpa using hq.length_eq
 rw[List.pairwise_iff_getElem];intro i j hi hj hij;have:=h i j (bf _) hij (by simpa[hsz] using hj);have hi':i<r.size:=by simpa using hi
 have hj':j<r.size:=by simpa using hj
 simpa[hi',hj'] using this
end Go.Proofs
namespace Go.Proofs
open Tryz
open Go.V Go.Sort Go.Extern Go.Lib
variable {ln:Ln} {rl rc:Nat} {cs:List Pt} {v:Value} {B:List ae}
theorem pg {P:Program} {fid:Nat} {args:Array Value} {Fs:List an} {L:List ae} {Q Q':cZ} (hs:ai P fid args Fs L Q) (hq:∀v Fs' L',Q v Fs' L'->Q' v Fs' L'):ai P fid args Fs L Q':=λh w sa al=>
 (hs h w sa al).mono λe w' he=>by
  cases e with
  |returned v=>
   obtain⟨Fs',L',h',q,hr⟩:=he;exact⟨Fs',L',h',hq _ _ _ q,hr⟩
  |panicked ch=>exact he
  |outgrown=>exact he
theorem gj.row (h:gj v cs B) (h0:0<cs.length):∃g cap tl,v= .slice (some ⟨g,0,none⟩) cs.length cap/\B=[dq pE tl 79 g cs.toArray]/\∀qs:List Pt,qs.length=cs.length->gj v qs [dq pE tl 79 g qs.toArray]:=by
 obtain⟨g,cap,cur,rfl,rfl,h1,h2,h3,h4⟩:=aJ.one h h0;have hl:(bl cs).length=cs.length*2:=by rw[mY];omega
 have hc:cur.toList=bl cs++cur.toList.drop (cs.length*2):=by rw[<-h4,gf]
 refine⟨g,cap,cur.toList.drop (cs.length*2),O,?_,λqs hq=>?_⟩
 ·have:cur=(cs.toArray.toList.flatMap pE++cur.toList.drop (cs.length*2)).toArray:=by apply xc;simpa[bl] using hc
  rw[dq,<-this]
 ·have hql:(bl qs).length=qs.length*2:=by rw[mY];omega
  refine⟨hql,.inr ⟨g,cap,_,by rw[hq],rfl,aa,h2,?_,?_⟩⟩
  ·have e1:(qs.toArray.toList.flatMap pE).length=qs.length*2:=hql;simp only[ox,aW,jx,vO,e1];have:=gI 2 h1;omega
  ·have e1:(qs.toArray.toList.flatMap pE).length=qs.length*2:=hql;rw[vJ aa,eQ aa];rfl
theorem acj (h0:gj v cs B) (hb:cs.length<=4294967295) (hk:∀x∈cs,yy ln.1 x):
  ai prog 228 [.iface 205 v,gE 343 [] [be rl,be rc]].toArray [] (B++[bL rl 223 (km ln),bL rc 205 [v]])
   (λ_ Fs' L'=>Fs'=[]/\∃B' qs,FQ ln.1 cs qs/\gj v qs B'/\L'=B'++[bL rl 223 (km ln),bL rc 205 [v]]):=by
 obtain⟨i,hi,hde⟩:=iE.1 Gj;obtain⟨ie,hie,hs⟩:=iE.1 PY;obtain⟨hp,hby⟩:ie.hasPointers=false/\ie.bytes=16:=by simpa using hs
 rcases dL cs.length 1 with hz|h1
 ·have hnil:cs=[]:=Bn.1 aa;subst hnil;obtain⟨p,cap,rfl⟩:=h0.shape;have hs:=xk (S:=Ct ln rl rc 0 359 [] (λ_=>B++[bL rl 223 (km ln),bL rc 205 [.slice p 0 cap]]) []) (d:= #[]) (p:=p) (cap:=cap) ake ⟨rfl,.refl _⟩ hi hde Bt (xi hi hde hie Bu (show swapperK 0 ie 25=1 by simp[swapperK]) QF);exact pg hs λv Fs' L' ⟨q1,q2,q3⟩=>⟨q1,B,[],⟨.refl _,λ_=> .nil⟩,h0,q3⟩
 ·obtain⟨g,cap,tl,rfl,rfl,hall⟩:=h0.row h1;rcases dL cs.length 2 with h1'|h2
  ·have e1:cs.length=1:=by omega
   rw[e1] at hall ⊢;have hs:=xk (S:=Ct ln rl rc 1 360 [] (λd=>dq pE tl 79 g d::AC ln rl rc g 1 cap) cs) (d:=cs.toArray) (p:=some ⟨g,0,none⟩) (cap:=cap) (akd hk) ⟨by simpa using e1,.refl _⟩ hi hde Bt (xi hi hde hie Bu (show swapperK 1 ie 25=2 by simp[swapperK]) KH);refine pg hs λv Fs' L' ⟨q1,q2,q3⟩=>⟨q1,_,_,VZ (a:=ln.1) (d:=cs.toArray) (show cs.toArray.size=1 from e1) q2.2,hall _ (q2.2.length_eq.trans e1),q3⟩
  ·have hs:=xk (S:=Ct ln rl rc cs.length 367 [Value.slice (some ⟨g,0,none⟩) cs.length cap,typeHandle prog 79] (λd=>dq pE tl 79 g d::AC ln rl rc g cs.length cap) cs) (d:=cs.toArray) (p:=some ⟨g,0,none⟩) (cap:=cap) (akf h2 hb hk) ⟨rfl,.refl _⟩ hi hde Bt (xi hi hde hie Bu (show swapperK cs.length ie 25=9 by
     have a1:(cs.length==0)=false:=by rw[beq_eq_false_iff_ne];omega
     have a2:(cs.length==1)=false:=by rw[beq_eq_false_iff_ne];omega
     simp only[swapperK,a1,a2,hp,hby];rfl) KG)
   refine pg hs λv Fs' L' ⟨q1,q2,q3⟩=>⟨q1,_,_,VZ (a:=ln.1) (d:=cs.toArray) O q2.2,hall _ q2.2.length_eq,q3⟩
end Go.Proofs
namespace Go.Proofs
open Tryz
open Go.V
inductive pU {α:Type} (R:α->Ln->List Pt->α->Prop):α->List Ln->List Pt->α->Prop where
 |nil {s}:pU R s [] [] s
 |cons {s m s' ln cs qs ls out}:R s ln cs m->FQ ln.1 cs qs->pU R m ls out s'->pU R s (ln::ls) (ln.1::(uq qs++out)) s'
theorem pU.snoc {α:Type} {R:α->Ln->List Pt->α->Prop} {s m s':α} {ls:List Ln} {out cs qs:List Pt} {ln:Ln} (h:pU R s ls out m) (h1:R m ln cs s') (h2:FQ ln.1 cs qs):pU R s (ls++[ln]) (out++(ln.1::uq qs)) s':=by
 induction h with
 |nil=>have:=pU.cons h1 h2 (.nil (R:=R) (s:=s'));simpa using this
 |cons a b _ ih=>have:=pU.cons a b (ih h1);simpa using this
theorem acG {l:List Pt} {i:Nat} {a b:Pt} (ha:l[i]? =some a) (hb:l[i+1]? =some b) (h:aV a b=false):(a,b)∈bK l:=by
 induction l generalizing i with
 |nil=>cases ha
 |cons x l ih=>
  cases l with
  |nil=>cases hb
  |cons y l=>
   cases i with
   |zero=>
    cases ha;cases hb;simp[bK,h]
   |succ i=>
    have:=ih (i:=i) ha hb;simp only[bK];split
    ·exact this
    ·exact .tail _ this
theorem aj9 {p:Option Addr} {n cap:Nat} {cs:List Pt} {B:List ae} (h:gj (.slice p n cap) cs B):gj (.slice (if cap=0 then p else p.map (·.add (0*2))) (0-0) (cap-0)) [] B:=by
 rcases h.2 with⟨e,h1,h2⟩|⟨g,cap',cur,e,h1,h2,h3,h4,h5⟩
 ·cases e;subst h2;exact⟨rfl,.inl ⟨rfl,rfl,rfl⟩⟩
 ·cases e;subst h1;refine⟨O,.inr ⟨g,cap,cur,?_,O,bf _,h3,h4,by simp[bl]⟩⟩;by_cases h0:cap=0<;>simp[h0,Addr.add]
def zG {α:Type} (LL:α->List ae) (R:α->Ln->List Pt->α->Prop) (G:List an) (fn:Nat) (fv cv:List Value) (okl:Ln->Prop):Prop:=
 ∀(s:α) (ln:Ln) (v0:Value) (B0:List ae),okl ln->gj v0 [] B0->ai prog fn (fv++([dM ln.1 ln.2,v0]++cv)).toArray G (B0++LL s) (λv Fs' L'=>∃s' cs B',R s ln cs s'/\gj v cs B'/\Fs'=[]/\L'=B'++LL s')
def Df {α:Type} (R:α->Ln->List Pt->α->Prop) (okl:Ln->Prop) (C:Nat):Prop:=∀s ln cs s',okl ln->R s ln cs s'->cs.length<=C/\∀x∈cs,yy ln.1 x
variable {α:Type} {LL:α->List ae} {R:α->Ln->List Pt->α->Prop} {G:List an} {fn C:Nat} {fv cv:List Value} {okl:Ln->Prop} {s:α} {q:Sq}
def wq (R:α->Ln->List Pt->α->Prop) (s:α) (l l':List Pt) (s':α):Prop:=∃out,pU R s (bK l) out s'/\l'=out++l.getLast?.toList
theorem K5 {l:List Pt} {x:Pt} {v:Value} {B:List ae} (h:aJ 45 1 v (2*l.length+2) (bl l++[aw x.1,aw x.2]) B):aJ 45 1 v (2*(l++[x]).length) (bl (l++[x])) B:=by
 have e:bl l++[aw x.1,aw x.2]=bl (l++[x]):=by simp[bl]
 rw[e] at h;rw[aW];exact h
theorem RN (hc:∀(args:Array Value) (w:World),(callFunc fn args).run prog w= .ok (.enter fn args) w) (hcb:zG LL R G fn fv cv okl) (hfew:Df R okl C) (hok:∀x∈bK q.l,okl x) (hC:C<=1048576) (hb:q.l.length<=1048576) (hbc:q.l.length*(C+1)<=4294967296):
  ai prog 283 [q.v,gE fn fv cv].toArray (q.fact::G) (LL s) (λv Fs' L'=>∃(s':α) (q':Sq),wq R s q.l q'.l s'/\q'.l.length<=q.l.length*(C+1)+1/\v=q'.v/\Fs'=[q'.fact]/\L'=LL s'):=by
 refine am func283 λ_=>(au) ?_;intro _;refine(aq) ?_;intro r4;refine(eZ)<|(fo)<|(nH) ?_;intro r6;refine(gu)<|aj eA call84 (tN (q:=q))<|(aq) ?_;intro r7;refine(wO)<|aj eA call98 (jB (l:=q.l))<|(oQ)<|aU [(5,5),(9,11),(13,13),(19,66)] (λ(x:Nat×(Value×List ae)×(Value×List ae×List Pt)×List Pt×α)=>x.1<=q.l.length/\aJ 45 1 x.2.1.1 (2*x.2.2.2.1.length) (bl x.2.2.2.1) x.2.1.2/\gj x.2.2.1.1 x.2.2.1.2.2 x.2.2.1.2.1/\pU R s (bK (q.l.take x.1)) x.2.2.2.1 x.2.2.2.2/\x.2.2.2.1.length<=x.1*(C+1)) (λx=>[(9,iv x.1),(5,x.2.1.1)]) (λ_=>[]) (λx=>bL r6 205 [x.2.2.1.1]::(x.2.1.2++(x.2.2.1.2.1++LL x.2.2.2.2))) (λx=>q.l.length-x.1) ((0,(.slice none 0 0,[]),(.slice none 0 0,[],[]),[],s)) (⟨bf _,aJ.nil 45 1,aJ.nil 79 2,by simpa[bK] using pU.nil,Nat.zero_le _⟩) λ⟨i,⟨v1,B1⟩,⟨v2,B2,cs0⟩,out,t⟩ fr ⟨h5,h6,h7,h8,h9⟩=>?_;dsimp only at h5 h6 h7 h8 h9;refine(lN)<|ao ?_ ?_
 ·intro hc21;have hlt:i<q.l.length:=by have:=of_decide_eq_true hc21;dsimp only at this;omega
  obtain⟨b,hb'⟩:∃x,q.l[i]? =some x:=⟨_,aG hlt⟩;have hmul:(i+1)*(C+1)<=q.l.length*(C+1):=gI _ hlt;have hmul2:(i+1)*(C+1)=i*(C+1)+(C+1):=lU _ _;refine(CP) ?_;rcases i with _|i
  ·refine(mH)<|(aB)<|aj eA call286 (UQ (l:=q.l))<|(x5) ?_;intro r10;refine(de)<|(iC)<|(oR)<|(vE)<|(zi)<|(jM) ?_;exact⟨(0+1,(v1,B1),(v2,B2,cs0),out,t),oA,⟨oA,h6,h7,by simpa[bK,dO hb'] using h8,by dsimp only;omega⟩,lA,kA,fA,hA⟩
  ·refine(mH)<|(aB) ?_;obtain⟨a,ha⟩:∃x,q.l[i]? =some x:=⟨_,aG aa⟩;have e6:bK (q.l.take (i+1+1))=bK (q.l.take (i+1))++(if aV a b then [] else [(a,b)]):=by rw[dO hb',dO ha,cG];exact Lb _ a b
   refine aj eA call286 (UP ha hb')<|(x5) ?_;intro r10;refine(de)<|(iC)<|(Ja)<|ao ?_ ?_
   ·intro hc31;have e7:bK (q.l.take (i+1+1))=bK (q.l.take (i+1)):=by rw[e6];simp at hc31;simp[hc31]
    refine(zi)<|(jM) ?_;exact⟨(i+1+1,(v1,B1),(v2,B2,cs0),out,t),oA,⟨oA,h6,h7,by dsimp only;rw[e7];exact h8,by dsimp only;omega⟩,lA,kA,fA,hA⟩
   ·intro hc31;have heq:aV a b=false:=by simpa using hc31
    have e7:bK (q.l.take (i+1+1))=bK (q.l.take (i+1))++[(a,b)]:=by rw[e6];simp[heq]
    have hokl:=hok _ (acG ha hb' heq);obtain⟨p2,n2,cap2,rfl⟩:∃p n c,v2= .slice p n c:=by obtain⟨p,c,e⟩:=h7.shape;exact⟨p,_,c,e⟩
    refine(Fu)<|(pN)<|(eD) ?_;intro b39;refine di (e:=45) (size:=1) (news:=[aw a.1,aw a.2]) ab O O O O O O O (B:=B1) tA h6 O (bD mA) O O dp (by show(2*out.length+2)*8<=_;omega) O λv3 B3 hs3=>?_;have hs3':=K5 (x:=a) hs3;refine(fo)<|(gG) ?_;refine ER ab O O O (l:=0) (h:=0) O .none (.some O O) (bg _) (bf _) O<|(gn)<|(qC)<|(gq)<|(gG) ?_;refine dj O eA hc (NF.refl _) (hcb t (a,b) _ B2 hokl (aj9 h7)) λv4 Fs' L' ⟨t',cs,B4,hR,hs4,e2,e3⟩=>?_;subst e2;subst e3;obtain⟨hcl,hck⟩:=hfew _ _ _ _ hokl hR;obtain⟨p4,cap4,rfl⟩:=hs4.shape;refine(gn)<|(Jd)<|(rE)<|(iW)<|aS eA call228 (acj (ln:=(a,b)) (rl:=r10) (rc:=r6) hs4 aa hck) λv5 Fs' L' ⟨e1,B5,qs,hcd,hs5,e2⟩=>?_;subst e1;subst e2;have hqs:=hcd.perm.length_eq;have huq:=DJ qs;refine(Jd)<|aS eA call335 (Qk hs5 aa) λv6 Fs' B6 ⟨hs6,e1⟩=>?_;subst e1;obtain⟨p6,cap6,rfl⟩:=hs6.shape;refine(gn)<|(Jd)<|(gW)<|aU [(5,5),(13,13),(55,66)] (λ(y:Nat×(Value×List ae)×List Pt)=>y.1<=(uq qs).length/\aJ 45 1 y.2.1.1 (2*y.2.2.length) (bl y.2.2) y.2.1.2/\y.2.2=out++(a::(uq qs).take y.1)) (λy=>[(55,iv y.1),(5,y.2.1.1)]) (λ_=>[]) (λy=>y.2.1.2) (λy=>(uq qs).length-y.1) ((0,(v3,B3),out++[a])) (⟨bf _,hs3',by simp⟩) λ⟨k,⟨v7,B7⟩,out7⟩ fr1 ⟨g5,g6,g7⟩=>?_;dsimp only at g5 g6 g7;refine(cM)<|ao ?_ ?_
    ·intro hc56;have hlt1:k<(uq qs).length:=by have:=of_decide_eq_true hc56;dsimp only at this;omega
     obtain⟨x,hx⟩:∃x,(uq qs)[k]? =some x:=⟨_,aG hlt1⟩;have hl7:out7.length=out.length+(k+1):=by rw[g7];simp;omega
     obtain⟨g,cap',cur,e8,rfl,hc1,hc2,hc3,hc4⟩:=aJ.one hs6 aa;cases e8;refine(ix) ?_;refine bp (s:=2) (i:=k) ab O O O O O aa aa O ?_;refine aK ab O O O (fK (F:=pE) (k:=2) (iI mA hc4) (λ_ _=>O) hx aa) O O<|(aq) ?_;intro r13;refine(cu)<|(aY)<|(zk)<|(eD) ?_;intro b64;refine di (e:=45) (size:=1) (news:=[aw x.1,aw x.2]) ab O O O O O O O (B:=B7) tA g6 O (bD mA) O O dp (by show(2*out7.length+2)*8<=_;omega) O λv8 B8 hs8=>(jr) ?_;exact⟨(k+1,(v8,B8),out7++[x]),oA,⟨oA,K5 hs8,by dsimp only;rw[g7,dO hx];simp⟩,lA,kA,fA,hA⟩
    ·intro hc56;have hge1:k=(uq qs).length:=by have:=of_decide_eq_false hc56;dsimp only at this;omega
     rw[hge1,dg] at g7;have hl7:out7.length=out.length+((uq qs).length+1):=by rw[g7];simp
     refine(eG)<|(jM) ?_;exact⟨(i+1+1,(v7,B7),(.slice p6 (uq qs).length cap6,B6,uq qs),out7,t'),oA,⟨oA,g6,hs6,by dsimp only;rw[e7,g7];exact h8.snoc hR hcd,by dsimp only;omega⟩,lA,kA,fA,hA⟩
 ·intro hc21;have hge:i=q.l.length:=by have:=of_decide_eq_false hc21;dsimp only at this;omega
  subst hge;rw[dg] at h8;refine(eG)<|(eE)<|(sJ)<|ao ?_ ?_
  ·intro hc68;have hpos:=of_decide_eq_true hc68;obtain⟨z,hz⟩:∃z,q.l[q.l.length-1]? =some z:=⟨_,aG aa⟩;have hlast:q.l.getLast?.toList=[z]:=by rw[F5,hz];rfl
   refine(cR)<|(aB) ?_;refine ew (m:=((q.l.length-1:Nat):Int)) O O aa iA O ?_;refine aj eA call131 (iO hz)<|(aq) ?_;intro r14;refine(cu)<|(aY)<|(zk)<|(eD) ?_;intro b78;refine di (e:=45) (size:=1) (news:=[aw z.1,aw z.2]) ab O O O O O O O (B:=B1) tA h6 O (bD mA) O O dp (by show(2*out.length+2)*8<=_;omega) O λv3 B3 hs3=>?_;have hF:=K5 (x:=z) hs3;obtain⟨p3,c3,rfl⟩:=hF.shape;refine(bR) ?_;refine eN hF tA<|(aY)<|(OO)<|(Fo)<|(eF)<|aH [gF p3 (out++[z]) c3] (LL t) ?_;exact⟨t,⟨p3,out++[z],c3⟩,⟨out,h8,by rw[hlast]⟩,by simp only[aW,dZ];omega,O,O,O⟩
  ·intro hc68;have hpos:=of_decide_eq_false hc68;have hnil:q.l=[]:=Bn.1 aa;have hlast:q.l.getLast?.toList=[]:=by rw[hnil];rfl
   have hF:=h6;obtain⟨p3,c3,rfl⟩:=hF.shape;refine(om) ?_;refine eN hF tA<|(aY)<|(OO)<|(Fo)<|(eF)<|aH [gF p3 out c3] (LL t) ?_;exact⟨t,⟨p3,out,c3⟩,⟨out,h8,by rw[hlast,jz]⟩,by dsimp only;omega,O,O,O⟩
end Go.Proofs
namespace Go.Proofs
open Tryz
open Go.V
inductive oK {α:Type} (R:α->Ln->List Pt->α->Prop):α->List (List Pt)->List (List Pt)->α->Prop where
 |nil {s}:oK R s [] [] s
 |snoc {s m s' ls ls' l l'}:oK R s ls ls' m->wq R m l l' s'->oK R s (ls++[l]) (ls'++[l']) s'
theorem oK.len {α:Type} {R:α->Ln->List Pt->α->Prop} {s s':α} {ls ls':List (List Pt)} (h:oK R s ls ls' s'):ls'.length=ls.length:=by
 induction h with
 |nil=>rfl
 |snoc _ _ ih=>simp[ih]
def x9 (okl:Ln->Prop) (C:Nat) (l:List Pt):Prop:=(∀x∈bK l,okl x)/\l.length<=1048576/\l.length*(C+1)<=4294967296
variable {α:Type} {LL:α->List ae} {R:α->Ln->List Pt->α->Prop} {G:List an} {fn C:Nat} {fv cv:List Value} {okl:Ln->Prop} {s:α} {q:Sq}
variable {p:Option Addr} {cp:Nat} {lss:List (List Pt)} {gs:List GM} {g:GM} {v:Value}
theorem Lm (hc:∀(args:Array Value) (w:World),(callFunc fn args).run prog w= .ok (.enter fn args) w) (hcb:zG LL R G fn fv cv okl) (hfew:Df R okl C) (hC:C<=1048576) (hok:∀l∈lss,x9 okl C l):
  ai prog 193 [jb p lss cp,gE fn fv cv].toArray (bQ p lss cp::G) (LL s) (λv Fs' L'=>∃(s':α) (p':Option Addr) (outs:List (List Pt)) (cp':Nat),oK R s lss outs s'/\v=jb p' outs cp'/\Fs'=[bQ p' outs cp']/\L'=LL s'):=by
 refine(wK) ?_;intro qs hq hb;have hql:qs.length=lss.length:=by rw[<-hq];simp
 refine am func193 λ_=>(au) ?_;intro _;refine(aq) ?_;intro r4;refine(gu)<|aj eA call58 (xr (lss:=lss))<|(cF) ?_;refine pk (e:=90) (size:=2) ab O O O O O O nA O O O (bg _) O (by show lss.length*32<=_;omega) O λv0 B0 hs=>?_;rw[rX (F:=Sq.cells) (zl:=[.int .u8 0,.slice none 0 0]) (k:=2) (⟨none,[],0⟩:Sq) rfl rfl bz] at hs;obtain⟨p0,cap,e0⟩:=hs.shape;subst e0;refine(oQ)<|aU [(7,7),(12,24)] (λ(x:Nat×List ae×List Sq×List (List Pt)×α)=>x.1<=lss.length/\x.2.2.1.length=lss.length/\(x.2.2.1.take x.1).map (·.l)=x.2.2.2.1/\aJ 90 2 (.slice p0 lss.length cap) lss.length (x.2.2.1.flatMap Sq.cells) x.2.1/\oK R s (lss.take x.1) x.2.2.2.1 x.2.2.2.2) (λx=>[(7,iv x.1)]) (λx=>(x.2.2.1.take x.1).map Sq.fact) (λx=>x.2.1++LL x.2.2.2.2) (λx=>lss.length-x.1) ((0,B0,List.replicate lss.length ⟨none,[],0⟩,[],s)) (⟨bf _,by simp,rfl,hs,.nil⟩) λ⟨i,B1,ws,outs,t⟩ fr ⟨hi,hwl,hag,hs1,hst⟩=>?_;dsimp only at hi hwl hag hs1 hst;refine(lN)<|ao ?_ ?_
 ·intro hc14;have hlt:i<lss.length:=by have:=of_decide_eq_true hc14;dsimp only at this;omega
  obtain⟨l,hli⟩:∃l,lss[i]? =some l:=⟨_,aG hlt⟩;obtain⟨w0,hwi⟩:∃w0,ws[i]? =some w0:=⟨_,aG aa⟩;obtain⟨g,cap',cur,e5,rfl,hc1,hc2,hc3,hc4⟩:=hs1.one aa;cases e5;obtain⟨hok1,hok2,hok3⟩:=hok l (bn hli);refine(j5)<|(cO)<|(eH)<|(aB)<|aI eA call59 (vW hli) λv1 Fs1 ⟨q1,e1,e2,e3⟩=>?_;subst e1;subst e2;subst e3;refine(aB)<|aS eA call283 (RN (q:=q1) (s:=t) hc hcb hfew hok1 hC hok2 hok3) λv Fs' L' ⟨t',q',h1,h2,e1,e2,e3⟩=>?_;subst e1;subst e2;subst e3;refine bp (s:=2) (i:=i) ab O O O O O aa aa O ?_;refine uQ (i:=i) (size:=2) (vs:=q'.cells) ab O hs1 O O O O O O hlt (λ_=>uA) λcur2 hs2=>?_;rw[tI (F:=Sq.cells) q' (λ_ _=>rfl) hwi] at hs2;refine(Jb) ?_;exact⟨(i+1,_,ws.set i q',outs++[q'.l],t'),oA,⟨oA,by simpa using hwl,by dsimp only;rw[Gz aa,dX,hag];rfl,hs2,by dsimp only;rw[dO hli];exact hst.snoc h1⟩,lA,kA,BR mA sA,hA⟩
 ·intro hc14;have hge:i=lss.length:=by have:=of_decide_eq_false hc14;dsimp only at this;omega
  have hti:ws.take i=ws:=eQ aa;have hws:ws.map (·.l)=outs:=by rw[hti] at hag;exact hag
  have hst':oK R s lss outs t:=by rw[hge,dg] at hst;exact hst
  have hol:outs.length=lss.length:=hst'.len;have hnew:ai prog 109 [.slice p0 lss.length cap].toArray [bQ p0 outs cap] [] (rQ outs):=by rw[<-hol];exact BN (p:=p0) (lss:=outs) (cp:=cap)
  refine(jh) ?_;refine eN hs1 tA ?_;refine cI (bQ p0 outs cap) (λhp al=>⟨ws,⟨hws,by rw[hol];exact hb⟩,by have h0:=al _ (Bh _);rw[<-hol] at h0;exact h0,λy hy=>al y.fact (.tail _ (bq _ (aM.2 ⟨y,by dsimp only;rw[hti];exact hy,O⟩)))⟩)<|(aY)<|aI eA call109 (hnew) λv3 Fs3 ⟨p3,cp3,e6,e7⟩=>?_;subst e6;subst e7;refine(eF)<|aH [bQ p3 outs cp3] (LL t) ?_;exact⟨t,p3,outs,cp3,hst',O,O,O⟩
end Go.Proofs
namespace Go.Proofs
open Tryz
open Go.V
variable {p:Option Addr} {cp:Nat} {gs:List GM}
theorem ae8 {α β:Type} {f:α->β} {ws:List α} {j:Nat} {x y:α} (h:ws[j]? =some x) (e:f y=f x):(ws.set j y).map f=ws.map f:=by
 induction ws generalizing j with
 |nil=>cases h
 |cons a ws ih=>
  cases j with
  |zero=>cases h;simp[e]
  |succ j=>simp only[J4,dV,ih h]
theorem Hp:ai prog 64 [qW p gs.length cp].toArray [dA p gs cp] [] (FJ gs):=by
 rcases xe gs.length with h0|hpos
 ·have e:gs=[]:=ow h0;subst e;refine nT (dA none [] 0) (λhp _=>⟨[],⟨O,bf _⟩,⟨O,.inl ⟨none,0,O,O⟩⟩,λ_ h=>nomatch h⟩) ?_;refine am func64 λ_=>(wL) ?_;intro _;refine(AU)<|(sO)<|(vq)<|(iw)<|(gV)<|aH [dA none [] 0] [] ?_;exact⟨⟨none,0,O,O⟩,O⟩
 ·refine(CT) ?_;intro xs hq hb;have hql:xs.length=gs.length:=by rw[<-hq];simp
  refine am func64 λ_=>(wL) ?_;intro _;refine(AU)<|(sO)<|(aN) ?_;refine gz O (λhc9=>absurd hc9 (by have:=of_decide_eq_true hc9;omega)) (λhc9=>(bX)<|(ba)<|(nu)<|aU [(3,3),(5,5),(13,21)] (λi=>i<=gs.length) (λi=>[(13,.int .i64 i),(3,.int .u8 (if i=0 then 3 else 0))]) (λ_=>[]) (λ_=>[]) (λi=>gs.length-i) (0) (bf _) ?_);intro i fr hi;refine(cM)<|ao ?_ ?_
  ·intro hc14;have hlt:i<gs.length:=by have:=of_decide_eq_true hc14;omega
   obtain⟨x,hqi⟩:∃q,xs[i]? =some q:=⟨_,aG aa⟩;refine(ix) ?_;refine dP (φ:=∀x∈xs,x.2.oneCell'=true) (λhp al x hx=>dE (al (aE x.1 x.2) (.tail _ (bq _ (aM.2 ⟨x,hx,O⟩))))) λhone=>?_;have hgc:∀y∈dz x,y.oneCell'=true:=by simp[dz,hone x (qR hqi)]
   refine cU (size:=2) (i:=i) ab O O O O O aa mA aa (flat_take (λ_ _=>O) hqi) O λ_ _=>?_;refine aK ab O O O (aR (xs:=dz x) mA) O O<|(aq) ?_;intro r5;refine M8 ab O O O O (by simp only[gN,kD];exact hgc) uA Ba<|(aN)<|(js) ?_;refine cL (aE x.1 x.2) (λhp al=>al _ (.tail _ (.tail _ (bq _ (aM.2 ⟨x,qR hqi,O⟩))))) ?_;refine aj eA call122 (aiJ (g:=x.1) (v:=x.2))<|(Ow)<|(jr) ?_;exact⟨i+1,oA,aa,lA,kA,fA,hA⟩
  ·intro hc14;have hge:i=gs.length:=by have:=of_decide_eq_false hc14;omega
   have e3:(if i=0 then(3:Int) else 0)=0:=if_neg aa
   first|rw[e3]|(dsimp only;rw[e3])
   refine(CU) ?_;refine dP (φ:=∀x∈xs,x.2.oneCell'=true) (λhp al x hx=>dE (al (aE x.1 x.2) (.tail _ (bq _ (aM.2 ⟨x,hx,O⟩))))) λhone=>?_;refine HY (e:=61) (size:=2) ab O O O O O O O .none (aJ.nil 61 2) O mA hpos (Em λx hx=>by simp[dz,gN,hone x hx]) dp (by show(0+gs.length)*24<=_;omega) O λv' B' hs=>?_;rw[gX,j6] at hs;obtain⟨g,cap,cur,rfl,rfl,hc1,hc2,hc3,hc4⟩:=hs.one hpos;refine(nu)<|aU [(6,6),(26,38)] (λ(x:Nat×Array Value×List (GM×Value))=>x.1<=gs.length/\x.2.2.map (·.1)=gs/\aJ 61 2 (.slice (some ⟨g,0,none⟩) gs.length cap) gs.length (x.2.2.flatMap dz) [(g,.cells x.2.1 61 (0,0))]) (λx=>[(26,.int .i64 x.1)]) (λx=>x.2.2.map (λx=>aE x.1 x.2)) (λx=>[(g,.cells x.2.1 61 (0,0))]) (λx=>gs.length-x.1) ((0,cur,xs)) (⟨bf _,hq,hs⟩) λ⟨j,cur1,ws⟩ fr1 ⟨hj,hw,hs1⟩=>?_;dsimp only at hj hw hs1;refine(cM)<|ao ?_ ?_
   ·intro hc27;have hlt1:j<gs.length:=by have:=of_decide_eq_true hc27;dsimp only at this;omega
    have hwl:ws.length=gs.length:=by rw[<-hw];simp
    obtain⟨x,hx⟩:∃q,ws[j]? =some q:=⟨_,aG aa⟩;refine(rK)<|(bt)<|(aY)<|(mD) ?_;refine bp (s:=2) (i:=j) ab O O O O O aa aa O ?_;refine aK ab O O O (K6 hs1 mA (λ_ _=>O) hx) O O<|(aB) ?_;refine cL (aE x.1 x.2) (λhp al=>al _ (bq _ (aM.2 ⟨x,qR hx,O⟩))) ?_;refine aI eA call123 (U5 _ x.1 x.2 (bg _)) λv1 Fs1 ⟨u,e1,e2⟩=>?_;subst e1;subst e2;refine dP (φ:=u.oneCell'=true) (λhp al=>dE (al (aE x.1 u) (.head _))) λhu=>?_;refine bp (s:=2) (i:=j) ab O O O O O aa aa O ?_;refine uQ (i:=j) (size:=2) (vs:=dz (x.1,u)) ab O hs1 O O O O O (by simp[dz,gN,hu]) hlt1 (λ_=>uA) λcur2 hs2=>?_;rw[tI (F:=dz) (x.1,u) (λ_ _=>rfl) hx] at hs2;refine(rM) ?_;exact⟨(j+1,cur2,ws.set j (x.1,u)),oA,⟨oA,by dsimp only;rw[ae8 (f:=λ(x:GM×Value)=>x.1) (y:=(x.1,u)) hx rfl];exact hw,hs2⟩,lA,kA,ae2 mA sA,hA⟩
   ·intro hc27;refine(jh) ?_;refine eN hs1 tA ?_;refine cI (dA (some ⟨g,0,none⟩) gs cap) (λhp al=>⟨ws,⟨hw,hb⟩,al _ (.head _),λy hy=>al (aE y.1 y.2) (.tail _ (bq _ (aM.2 ⟨y,hy,O⟩)))⟩)<|(cO)<|(iw)<|aH [dA (some ⟨g,0,none⟩) gs cap] [] ?_;exact ww
end Go.Proofs
namespace Go.Proofs
open Tryz
open Go.V
inductive jq {α:Type} (R:α->Ln->List Pt->α->Prop):α->GM->GM->α->Prop where
 |ls {s s' l l'}:wq R s l l' s'->jq R s (.ls l) (.ls l') s'
 |mls {s s' l l'}:oK R s l l' s'->jq R s (.mls l) (.mls l') s'
 |gc0 {s}:jq R s (.gc []) (.gc []) s
 |snoc {s m s' g g' gs gs'}:jq R s (.gc gs) (.gc gs') m->jq R m g g' s'->jq R s (.gc (gs++[g])) (.gc (gs'++[g'])) s'
theorem jq.len {α:Type} {R:α->Ln->List Pt->α->Prop} {s s':α} {g g':GM} (h:jq R s g g' s'):∀{gs gs':List GM},g= .gc gs->g'= .gc gs'->gs'.length=gs.length:=by
 induction h with
 |ls _=>intro _ _ e _;cases e
 |mls _=>intro _ _ e _;cases e
 |gc0=>intro _ _ e e';cases e;cases e';rfl
 |snoc _ _ ih _=>intro _ _ e e';cases e;cases e';simp[ih rfl rfl]
inductive A7 (okl:Ln->Prop) (C:Nat):GM->Prop where
 |ls {l}:x9 okl C l->A7 okl C (.ls l)
 |mls {lss}:(∀l∈lss,x9 okl C l)->A7 okl C (.mls lss)
 |gc {gs}:(∀g∈gs,A7 okl C g)->A7 okl C (.gc gs)
variable {α:Type} {LL:α->List ae} {R:α->Ln->List Pt->α->Prop} {G:List an} {fn C:Nat} {fv cv:List Value} {okl:Ln->Prop} {s:α} {q:Sq}
variable {p:Option Addr} {cp:Nat} {lss:List (List Pt)} {gs:List GM} {g:GM} {v:Value}
abbrev OX (LL:α->List ae) (R:α->Ln->List Pt->α->Prop) (s:α) (g:GM):cZ:=λv Fs' L'=>∃(s':α) (g':GM) (u:Value),jq R s g g' s'/\v=gv g' u/\Fs'=[aE g' u]/\L'=LL s'
theorem adl (IH:∀g∈gs,∀(v:Value) (s:α),ai prog 192 [gv g v,gE fn fv cv].toArray (aE g v::G) (LL s) (OX LL R s g)):
  ai prog 282 [pn p gs cp,gE fn fv cv].toArray (dA p gs cp::G) (LL s) (λv Fs' L'=>∃(s':α) (p':Option Addr) (outs:List GM) (cp':Nat),jq R s (.gc gs) (.gc outs) s'/\v=pn p' outs cp'/\Fs'=[dA p' outs cp']/\L'=LL s'):=by
 refine(CT) ?_;intro xs hq hb;have hql:xs.length=gs.length:=by rw[<-hq];simp
 refine nT (dA p gs cp) (λhp al=>al _ (.tail _ (bI _ (.head _)))) ?_;refine am func282 λ_=>(au) ?_;intro _;refine(aq) ?_;intro r4;refine(gu)<|aj eA call95 (Al (gs:=gs))<|(cF) ?_;refine pk (e:=61) (size:=2) ab O O O O O O nA O O O (bg _) O (by show gs.length*24<=_;omega) O λv0 B0 hs=>?_;rw[rX (F:=dz) (zl:=[.int .i64 0,.nilIface]) (k:=2) (GM.gc [],.nilIface) rfl rfl bz] at hs;obtain⟨p0,cap,e0⟩:=hs.shape;subst e0;refine(oQ)<|aU [(7,7),(12,24)] (λ(x:Nat×List ae×List (GM×Value)×List GM×α)=>x.1<=gs.length/\x.2.2.1.length=gs.length/\(x.2.2.1.take x.1).map (·.1)=x.2.2.2.1/\aJ 61 2 (.slice p0 gs.length cap) gs.length (x.2.2.1.flatMap dz) x.2.1/\jq R s (.gc (gs.take x.1)) (.gc x.2.2.2.1) x.2.2.2.2) (λx=>[(7,iv x.1)]) (λx=>(x.2.2.1.take x.1).map (λx=>aE x.1 x.2)) (λx=>x.2.1++LL x.2.2.2.2) (λx=>gs.length-x.1) ((0,B0,List.replicate gs.length (GM.gc [],.nilIface),[],s)) (⟨bf _,by simp,rfl,hs,.gc0⟩) λ⟨i,B1,ws,outs,t⟩ fr ⟨hi,hwl,hag,hs1,hst⟩=>?_;dsimp only at hi hwl hag hs1 hst;refine(lN)<|ao ?_ ?_
 ·intro hc14;have hlt:i<gs.length:=by have:=of_decide_eq_true hc14;dsimp only at this;omega
  obtain⟨x,hgi⟩:∃x,gs[i]? =some x:=⟨_,aG hlt⟩;obtain⟨w0,hwi⟩:∃w0,ws[i]? =some w0:=⟨_,aG aa⟩;obtain⟨g,cap',cur,e5,rfl,hc1,hc2,hc3,hc4⟩:=hs1.one aa;cases e5;refine(j5)<|(cO)<|(eH)<|(aB)<|aI eA call96 (Ci hgi) λv2 Fs1 ⟨u0,e2,e3⟩=>?_;subst e2;subst e3;refine(aB)<|aS eA call192 (IH x (bn hgi) u0 t) λv1 Fs1 L1 ⟨t',g',u,hst1,e1,e2,e3⟩=>?_;subst e1;subst e2;subst e3;refine dP (φ:=u.oneCell'=true) (λhp al=>dE (al (aE g' u) (.head _))) λhu=>?_;refine bp (s:=2) (i:=i) ab O O O O O aa aa O ?_;refine uQ (i:=i) (size:=2) (vs:=dz (g',u)) ab O hs1 O O O O O (by simp[dz,gN,hu]) hlt (λ_=>uA) λcur2 hs2=>?_;rw[tI (F:=dz) (g',u) (λ_ _=>rfl) hwi] at hs2;refine(Jb) ?_;exact⟨(i+1,_,ws.set i (g',u),outs++[g'],t'),oA,⟨oA,by simpa using hwl,by dsimp only;rw[Gz aa,dX,hag];rfl,hs2,by dsimp only;rw[dO hgi];exact hst.snoc hst1⟩,lA,kA,BR mA sA,hA⟩
 ·intro hc14;have hge:i=gs.length:=by have:=of_decide_eq_false hc14;dsimp only at this;omega
  have hti:ws.take i=ws:=eQ aa;have hws:ws.map (·.1)=outs:=by rw[hti] at hag;exact hag
  have hst':jq R s (.gc gs) (.gc outs) t:=by rw[hge,dg] at hst;exact hst
  have hol:outs.length=gs.length:=hst'.len rfl rfl;have hnew:ai prog 64 [.slice p0 gs.length cap].toArray [dA p0 outs cap] [] (FJ outs):=by rw[<-hol];exact Hp (p:=p0) (gs:=outs) (cp:=cap)
  refine(jh) ?_;refine eN hs1 tA ?_;refine cI (dA p0 outs cap) (λhp al=>⟨ws,⟨hws,by rw[hol];exact hb⟩,by have h0:=al _ (Bh _);rw[<-hol] at h0;exact h0,λy hy=>al (aE y.1 y.2) (.tail _ (bq _ (aM.2 ⟨y,by dsimp only;rw[hti];exact hy,O⟩)))⟩)<|(aY)<|aI eA call64 (hnew) λv3 Fs3 ⟨p3,cp3,e6,e7⟩=>?_;subst e6;subst e7;refine(eF)<|aH [dA p3 outs cp3] (LL t) ?_;exact⟨t,p3,outs,cp3,hst',O,O,O⟩
end Go.Proofs
namespace Go.Proofs
open Tryz
open Go.V
variable {α:Type} {LL:α->List ae} {R:α->Ln->List Pt->α->Prop} {G:List an} {fn C:Nat} {fv cv:List Value} {okl:Ln->Prop}
theorem DY (hc:∀(args:Array Value) (w:World),(callFunc fn args).run prog w= .ok (.enter fn args) w) (hcb:zG LL R G fn fv cv okl) (hfew:Df R okl C) (hC:C<=1048576):∀(k:Nat) (g:GM) (v:Value) (s:α),SizeOf.sizeOf g<=k->A7 okl C g->
  ai prog 192 [gv g v,gE fn fv cv].toArray (aE g v::G) (LL s) (OX LL R s g)
 |0,g,v,s,h,_=>by cases g<;>simp at h
 |k+1,.ls l,v,s,h,ha=>by
  have hal:x9 okl C l:=by cases ha with|ls h1=>exact h1
  refine am func192 λ_=>(au) ?_;intro _;refine(aq) ?_;intro r4;refine(gu)<|aj eA call25 (lz (g:= .ls l) (v:=v))<|(dF)<|(Ft)<|aI eA call29 (qQ (l:=l)) λv1 Fs1 ⟨q,e1,e2,e3⟩=>?_;subst e2;subst e3;subst e1;refine(aB)<|aS eA call283 (RN (q:=q) (s:=s) hc hcb hfew hal.1 hC hal.2.1 hal.2.2) λv1 Fs1 L1 ⟨s',q',h1,h2,e1,e2,e3⟩=>?_;subst e1;subst e2;subst e3;refine aI eA call43 (yE (q:=q')) λv2 Fs2 ⟨u,e4,e5⟩=>?_;subst e4;subst e5;refine dP (φ:=u.oneCell'=true) (λhp al=>dE (al (aE _ u) (.head _))) λhu=>(wM)<|aH [aE (.ls q'.l) u] (LL s') ?_;exact⟨s',.ls q'.l,u,.ls h1,O,O,O⟩
 |k+1,.mls lss,v,s,h,ha=>by
  have hal:∀l∈lss,x9 okl C l:=by cases ha with|mls h1=>exact h1
  refine am func192 λ_=>(au) ?_;intro _;refine(aq) ?_;intro r4;refine(gu)<|aj eA call25 (lz (g:= .mls lss) (v:=v))<|(ot)<|(pO)<|aI eA call35 (qP (lss:=lss)) λv1 Fs1 ⟨p,cp,e2,e3⟩=>?_;subst e2;subst e3;refine(aB)<|aS eA call193 (Lm (p:=p) (lss:=lss) (cp:=cp) (s:=s) hc hcb hfew hC hal) λv1 Fs1 L1 ⟨s',p3,outs,cp3,h1,e1,e2,e3⟩=>?_;subst e1;subst e2;subst e3;refine aI eA call49 (yD (lss:=outs)) λv2 Fs2 ⟨u,e4,e5⟩=>?_;subst e4;subst e5;refine dP (φ:=u.oneCell'=true) (λhp al=>dE (al (aE _ u) (.head _))) λhu=>(wM)<|aH [aE (.mls outs) u] (LL s') ?_;exact⟨s',.mls outs,u,.mls h1,O,O,O⟩
 |k+1,.gc gs,v,s,h,ha=>by
  have hal:∀g∈gs,A7 okl C g:=by cases ha with|gc h1=>exact h1
  have IH:∀g∈gs,∀(v:Value) (s:α),ai prog 192 [gv g v,gE fn fv cv].toArray (aE g v::G) (LL s) (OX LL R s g):=λg hg v s=>DY hc hcb hfew hC k g v s (by have:=vN hg;simp at h;omega) (hal g hg);refine am func192 λ_=>(au) ?_;intro _;refine(aq) ?_;intro r4;refine(gu)<|aj eA call25 (lz (g:= .gc gs) (v:=v))<|(dF)<|(pO)<|aI eA call39 (sb (gs:=gs)) λv1 Fs1 ⟨p,cp,e2,e3⟩=>?_;subst e2;subst e3;refine(aB)<|aS eA call282 (adl (p:=p) (cp:=cp) (s:=s) IH) λv1 Fs1 L1 ⟨s',p3,outs,cp3,h1,e1,e2,e3⟩=>?_;subst e1;subst e2;subst e3;refine aI eA call53 (Au (gs:=outs)) λv2 Fs2 ⟨u,e4,e5⟩=>?_;subst e4;subst e5;refine dP (φ:=u.oneCell'=true) (λhp al=>dE (al (aE _ u) (.head _))) λhu=>(wM)<|aH [aE (.gc outs) u] (LL s') ?_;exact⟨s',.gc outs,u,h1,O,O,O⟩
end Go.Proofs
namespace Go.Proofs
open Tryz
open Go.V
variable {w rm:Nat} {m:NM} {a b x:Pt} {bk:Bk} {cs:List Pt} {v0:Value} {B:List ae}
theorem GL {l:List Pt} {x:Pt} {v:Value} {B:List ae} (h:aJ 79 2 v (l.length+1) (bl l++[aw x.1,aw x.2]) B):gj v (l++[x]) B:=by
 have e:bl l++[aw x.1,aw x.2]=bl (l++[x]):=by simp[bl]
 rw[e] at h;unfold gj;rw[aW];exact h
def oe (ln:Ln) (cs:List Pt) (y:Pt):List Pt:=if(aV y ln.1||aV y ln.2)=true then cs else cs++[y]
theorem Sx (h:kN w x=some bk) (hb:xB bk.1/\xB bk.2) (h0:gj v0 cs B) (hl:cs.length<=16777216):ai prog 199 [v0,xu w rm,dM a b,pv x].toArray [] (B++[hG rm m])
  (λv Fs' L'=>∃B',gj v (oe (a,b) cs (eM m bk x).1) B'/\Fs'=[]/\L'=B'++[hG rm (eM m bk x).2]):=by
 obtain⟨y,hy⟩:∃y,y=(eM m bk x).1:=⟨_,rfl⟩;rw[<-hy];refine am func199 λ_=>(au) ?_;intro _;refine(cg) ?_;intro _;refine(cg) ?_;intro _;refine(bt)<|(gM)<|aS eA call182 (T4 (w:=w) (rm:=rm) (m:=m) (p:=x) h hb) λv Fs' L' ⟨⟨e1,e2⟩,e3⟩=>?_;subst e2;subst e3;rw[<-hy] at e1;subst e1;refine(dS)<|(cR)<|(eK) ?_;refine xL O O qV (λw=>qo 9998 w _ _ _ _) O<|(aB) ?_;refine fY (t:=16) O (λhg16=>?_) (λhg16=>?_)
 ·refine(zc)<|(fm)<|ao ?_ ?_
  ·intro hc21;have he:oe (a,b) cs y=cs:=by{unfold oe;rw[if_pos];simp_all [aV]}
   refine(bJ)<|(mJ)<|aH [] (B++[hG rm (eM m bk x).2]) ?_;exact⟨B,by rw[he];exact h0,O,O⟩
  ·intro hc21;have he:oe (a,b) cs y=cs++[y]:=by{unfold oe;rw[if_neg];simp_all [aV]}
   refine(Fu)<|(eH)<|(eD) ?_;intro b25;refine di (e:=79) (size:=2) (news:=[aw y.1,aw y.2]) ab O O O O O O O (B:=B) tA h0 O (bD mA) O O dp (by show(cs.length+1)*16<=_;omega) O λv3 B3 hs3=>?_;refine ak.perm ?_ (bv.perm (A:=B3++[hG rm (eM m bk x).2]) tA);refine(bO)<|aH [] (B3++[hG rm (eM m bk x).2]) ?_;exact⟨B3,by rw[he];exact GL hs3,O,O⟩
 ·refine(zw)<|(iQ)<|(zw) ?_;refine ah O O (xL O O qV (λw=>qo 9998 w _ _ _ _) O<|(vt)<|ao ?_ ?_)
  ·intro hc21;have he:oe (a,b) cs y=cs:=by{unfold oe;rw[if_pos];simp_all [aV]}
   refine(bJ)<|(mJ)<|aH [] (B++[hG rm (eM m bk x).2]) ?_;exact⟨B,by rw[he];exact h0,O,O⟩
  ·intro hc21;have he:oe (a,b) cs y=cs++[y]:=by{unfold oe;rw[if_neg];simp_all [aV]}
   refine(Fu)<|(eH)<|(eD) ?_;intro b25;refine di (e:=79) (size:=2) (news:=[aw y.1,aw y.2]) ab O O O O O O O (B:=B) tA h0 O (bD mA) O O dp (by show(cs.length+1)*16<=_;omega) O λv3 B3 hs3=>?_;refine ak.perm ?_ (bv.perm (A:=B3++[hG rm (eM m bk x).2]) tA);refine(bO)<|aH [] (B3++[hG rm (eM m bk x).2]) ?_;exact⟨B3,by rw[he];exact GL hs3,O,O⟩
end Go.Proofs
namespace Go.V
theorem xJ {P:Program} {c:bC} {n:Nat} {ops:Array Oper} {rest:List Oper} {Fs:List an} {L:List ae} {f:Fm} {Q:bG} {e size k:Nat} {v:Value} {xs:List Value} {B R:List ae} (hs:aJ e size v k xs B) (hT:bv L B R) (K:ak P c n ops (bF size v k xs::Fs) R f rest Q):ak P c n ops Fs L f rest Q:=by
 rcases hs.2 with⟨e1,e2,e3⟩|⟨g,cap,cur,e1,e2,h3,h4,h5,h6⟩
 ·subst e3;refine⟨λa h0 w ag re al=>K.out a h0 w ag ((re.perm hT.perm).perm dK) (.cons ⟨hs.1,.inl ⟨none,0,e1,e2⟩⟩ al)⟩
 ·subst e2;refine⟨λa _ w ag re al=>K.out a _ w ag (re.freeze hT) (.cons ⟨hs.1,.inr ⟨g,0,cap,e1,⟨h3,h4⟩,cur,e,(0,0),by simp,?_⟩⟩ (al.mono (EW re hT)))⟩;rw[Dz,hs.1];exact h6
end Go.V
namespace Go.Proofs
open Tryz
open Go.V
variable {g1 g2:GM} {u1 u2:Value} {p:Option Addr} {lss:List (List Pt)} {cp r3 r4 r5:Nat}
theorem Qx {hp:PH} {g1 g2 g3:GM} {u1 u2 u3:Value} {r:Nat} (h:(bF 2 (.slice (some ⟨r,0,none⟩) 3 3) 3 ([(g1,u1),(g2,u2),(g3,u3)].flatMap dz)).p hp) (h1:(aE g1 u1).p hp) (h2:(aE g2 u2).p hp) (h3:(aE g3 u3).p hp):
  (dA (some ⟨r,0,none⟩) [g1,g2,g3] 3).p hp:=by
 refine⟨[(g1,u1),(g2,u2),(g3,u3)],⟨O,by show 3<=1048576;decide⟩,h,λy hy=>?_⟩;rcases bm.1 hy with rfl|hy
 ·exact h1
 ·rcases bm.1 hy with rfl|hy
  ·exact h2
  ·rcases bm.1 hy with rfl|hy
   ·exact h3
   ·cases hy
theorem WR (h1:u1.oneCell'=true) (h2:u2.oneCell'=true):ai prog 174 [be r3,be r4,be r5].toArray [aE g1 u1,aE g2 u2,bQ p lss cp]
  [bL r3 61 (dz (g1,u1)),bL r4 61 (dz (g2,u2)),bL r5 104 [.slice p lss.length cp,.int .u8 0]]
  (λv Fs' L'=>∃u,v=gv (.gc [g1,g2,.mls lss]) u/\Fs'=[aE (.gc [g1,g2,.mls lss]) u]/\L'=[bL r3 61 (dz (g1,u1)),bL r4 61 (dz (g2,u2)),bL r5 104 [.slice p lss.length cp,.int .u8 0]]):=by
 refine am func174 λ_=>(wL) ?_;intro _;refine(cn) ?_;refine cz cw 7 [3,4,5,6] []<|(Xx)<|(Xx)<|(Xx)<|(dT)<|aI eA call49 (yD (p:=p) (lss:=lss) (cp:=cp)) λv1 Fs1 ⟨u3,e1,e2⟩=>?_;subst e1;subst e2;refine(dU)<|(eD) ?_;intro b8;refine(dU) ?_;have hs8:aJ 61 2 (.slice (some ⟨b8,0,none⟩) 3 3) 3 ([(g1,u1),(g2,u2),(GM.mls lss,u3)].flatMap dz) [(b8,.cells ([(g1,u1),(g2,u2),(GM.mls lss,u3)].flatMap dz).toArray 61 (0,0))]:=⟨rfl,.inr ⟨b8,3,_,rfl,rfl,bg _,by decide,rfl,rfl⟩⟩;refine xJ hs8 tA ?_;refine cL (dA (some ⟨b8,0,none⟩) [g1,g2,.mls lss] 3) (λhp al=>Qx (al _ (.head _)) (al (aE g1 u1) mA) (al (aE g2 u2) mA) (al (aE (.mls lss) u3) mA)) ?_;refine aI eA call64 (Hp (p:=some ⟨b8,0,none⟩) (gs:=[g1,g2,.mls lss]) (cp:=3)) λv4 Fs4 ⟨p4,cp4,e6,e7⟩=>?_;subst e6;subst e7;refine(dU)<|aI eA call53 (Au (p:=p4) (gs:=[g1,g2,.mls lss]) (cp:=cp4)) λv5 Fs5 ⟨u5,e8,e9⟩=>?_;subst e8;subst e9;refine dP (φ:=u5.oneCell'=true) (λhp al=>dE (al (aE _ u5) (.head _))) λhu5=>(iy)<|(eF)<|aH [aE (.gc [g1,g2,.mls lss]) u5] [bL r3 61 (dz (g1,u1)),bL r4 61 (dz (g2,u2)),bL r5 104 [.slice p lss.length cp,.int .u8 0]] ?_;exact⟨u5,O,O,O⟩
end Go.Proofs
namespace Go.Proofs
open Tryz
open Go.V
abbrev IM (rc ru:Nat) (s:Int×Nat):List ae:=[bL rc 3 [iv s.1],bL ru 45 [aw s.2]]
def lX (x:Nat):Nat:=(jd (x+1) x).getD 0
def Ei (x:Nat):Prop:=x<9223372036854775808/\(jd (x+1) x).isSome=true
def Qn (p:Pt):Prop:=Ei p.1/\Ei p.2
def IL (s:Int×Nat) (p:Pt) (s':Int×Nat):Prop:=s'.1=IntKind.i64.wrap (s.1+1)/\s'.2=iN s.2 (iN (lX p.1) (lX p.2))
theorem Qo {x:Nat} (h:Ei x):jd (x+1) x=some (lX x):=by
 obtain⟨y,hy⟩:=uE.1 h.2;simp[lX,hy]
theorem YD {rc ru:Nat}:yW (IM rc ru) IL [] 176 [] [be rc,be ru] Qn (λ_=> .tuple #[]):=by
 intro s p hp;show ai prog 176 [pv p,be rc,be ru].toArray [] (IM rc ru s) _;refine am func176 λ_=>(au) ?_;intro _;refine(Jd) ?_;refine No O O O O<|(gn)<|(aN)<|(vF)<|(qD)<|(iS) ?_;refine ac O (λkX=>aj eA call179 (Oc hp.1.1) kX) ?_;refine ac O (λkX=>aj eA call178 (Ql hp.1.1 (Qo hp.1)) kX)<|(iS) ?_;refine ac O (λkX=>aj eA call179 (Oc hp.2.1) kX) ?_;refine ac O (λkX=>aj eA call178 (Ql hp.2.1 (Qo hp.2)) kX) ?_;refine ac O (λkX=>aj eA call177 (yM (x:=lX p.1) (y:=lX p.2)) kX) ?_;refine ac O (λkX=>aj eA call177 (yM (x:=s.2) (y:=iN (lX p.1) (lX p.2))) kX)<|(jY)<|(gn)<|(lJ)<|ed [] (IM rc ru (IntKind.i64.wrap (s.1+1),iN s.2 (iN (lX p.1) (lX p.2)))) ?_;exact⟨_,⟨O,O⟩,O,O,O⟩
end Go.Proofs
namespace Go.V
theorem Gr {κ:Type} {g:κ->Nat} {ob ob':κ->Obj}:∀{ks:List κ} {k:κ},k∈ks->(ks.map g).Nodup->(∀j∈ks,g j≠g k->ob' j=ob j)->cf (ks.map λj=>(g j,ob j)) (g k) (ob k) (ob' k) (ks.map λj=>(g j,ob' j))
 |a::ks,k,hk,hn,h=>by
  have hn':=la.1 hn;rcases bm.1 hk with e|hk'
  ·subst e;have htail:ks.map (λj=>(g j,ob' j))=ks.map λj=>(g j,ob j):=Bc λj hj=>by
    rw[h j (.tail _ hj) (λe=>hn'.1 (e▸aM.2 ⟨j,hj,rfl⟩))]
   simp only[dV,htail];exact .here
  ·have:ob' a=ob a:=h a (.head _) λe=>hn'.1 (e▸aM.2 ⟨k,hk',rfl⟩);simp only[dV,this];exact .there (Gr hk' hn'.2 λj hj=>h j (.tail _ hj))
theorem cf.left {A A' B:List ae} {r:Nat} {o o':Obj} (h:cf A r o o' A'):cf (A++B) r o o' (A'++B):=by
 induction h with
 |here=>exact .here
 |there _ ih=>exact .there ih
theorem HM (A B:List ae):ids (A++B)=ids A++ids B:=by simp[ids]
theorem BO {A B:List ae} (h:(ids (A++B)).Nodup):(ids A).Nodup:=by rw[HM] at h;exact(uF.1 h).1
theorem yz {A B:List ae} (h:(ids (A++B)).Nodup):(ids B).Nodup:=by rw[HM] at h;exact(uF.1 h).2.1
theorem mh {a:ae} {B:List ae} (h:(ids (a::B)).Nodup):(ids B).Nodup:=(la.1 h).2
theorem Cc {κ:Type} {g:κ->Nat} {ob:κ->Obj} (ks:List κ):ids (ks.map λj=>(g j,ob j))=ks.map g:=by simp[ids]
section
variable {P:Program} {c:bC} {n:Nat} {ops:Array Oper} {Fs:List an} {L:List ae} {f:Fm} {Q:bG} {rest:List Oper} {code:Code}
theorem Nc (k:(ids L).Nodup->ak P c n ops Fs L f rest Q):ak P c n ops Fs L f rest Q:=⟨λa h w ag re al=>(k re.sat.nodup).out a h w ag re al⟩
theorem aih (k:(ids L).Nodup->Go P c n Fs L f code Q):Go P c n Fs L f code Q:=⟨λa h w ag re al=>(k re.sat.nodup).out a h w ag re al⟩
theorem ab8 {fid:FuncId} {args:Array Value} {R:cZ} (k:(ids L).Nodup->ai P fid args Fs L R):ai P fid args Fs L R:=λhp w sa al=>k sa.nodup hp w sa al
variable {ty:TypeId} {ps:String} {aft:Array Edge} {aC:Nat->Option TI} {x y:Operand} {T:TypeId}
theorem cS (Tb:bZ P aC) {ti:TI} (ht:aC T=some ti) {r o:Nat} {v:Value} {cs cs' vs:List Value} {t':TypeId} {L':List ae}
  (hx:ap f x= .b (.pointer (some ⟨r,o,none⟩))) (hy:ap f y= .b v) (hv:v.cells=vs.toArray) (hsz:ti.sz=vs.length) (h1:gN vs=true) (hfit:Nat.ble (o+vs.length) cs.length=true)
  (he:cs'=cs.take o++vs++cs.drop (o+vs.length))
  (hu:cf L r (.cells cs.toArray t' (0,0)) (.cells cs'.toArray t' (0,0)) L') (k:ak P c n ops Fs L' f rest Q):
  ak P c n ops Fs L f (⟨none,.store T x y,ty,ps,aft,none⟩::rest) Q:=
 Ar Tb ht hx hy hv (by simpa using hsz) (by simpa[gN,kD] using h1) hu (by simpa using Nat.ble_eq.mp hfit) (by subst he;simp) k
end
end Go.V
namespace Go.Proofs
open Go.V
abbrev El (o:Option Nat):Value:= .pointer (o.map λr=>⟨r,0,none⟩)
abbrev aF (r:Nat):Value:= .pointer (some ⟨r,0,none⟩)
structure cq where
 org:Option Nat
 tw:Option Nat
 inc:Option Nat
 nx:Option Nat
 pv:Option Nat
 sq:Sq
 a:Bool
 s:Bool
 x:Bool
abbrev cq.enc (e:cq):List Value:=[El e.org,El e.tw,El e.inc,El e.nx,El e.pv,.int .u8 0,xj e.sq.p e.sq.l e.sq.cp,.bool e.a,.bool false,.bool false,.bool false,.bool e.s,.bool false,.bool e.x]
structure dw where
 co:Pt
 im:Nat
 a:Bool
 s:Bool
 li:Bool
 lb:Bool
 x:Bool
abbrev dw.enc (v:dw):List Value:=[.float .f64 v.co.1,.float .f64 v.co.2,.map (some v.im),.bool v.a,.bool false,.bool v.s,.bool false,.bool v.li,.bool v.lb,.bool false,.bool false,.bool v.x]
abbrev PP:=Pt×Pt
structure DS where
 fc:Value
 dr:Nat
 hm:Nat
 vm:Nat
 hs:List (PP×Nat)
 vs:List (Pt×Nat)
 E:Nat->cq
 V:Nat->dw
 M:Nat->List Nat
abbrev lr (k:PP):Value:=tq k.1.1 k.1.2 k.2.1 k.2.2
abbrev fB (hs:List (PP×Nat)):List (Value×Value):=hs.map λe=>(lr e.1,aF e.2)
abbrev eL (vs:List (Pt×Nat)):List (Value×Value):=vs.map λe=>(pv e.1,aF e.2)
abbrev gO (l:List Nat):List (Value×Value):=l.map λe=>(aF e,.agg #[])
abbrev eB (E:Nat->cq) (hs:List (PP×Nat)):List ae:=hs.map λh=>(h.2,.cells (E h.2).enc.toArray 281 (0,0))
abbrev vB (V:Nat->dw) (vs:List (Pt×Nat)):List ae:=vs.map λv=>(v.2,.cells (V v.2).enc.toArray 256 (0,0))
abbrev iB (V:Nat->dw) (M:Nat->List Nat) (vs:List (Pt×Nat)):List ae:=vs.map λv=>((V v.2).im,bW (gO (M v.2)))
abbrev DS.dB (d:DS):ae:=(d.dr,.cells #[d.fc,.map (some d.hm),.map (some d.vm)] 249 (0,0))
abbrev DS.LL (d:DS):List ae:=d.dB::(d.hm,bW (fB d.hs))::(d.vm,bW (eL d.vs))::(vB d.V d.vs++(iB d.V d.M d.vs++eB d.E d.hs))
def b6 (p:Pt):Prop:=p.1<ju/\p.2<ju
def DS.modE (d:DS) (r:Nat) (g:cq->cq):DS:={d with E:=λj=>if j=r then g (d.E r) else d.E j}
def DS.modV (d:DS) (r:Nat) (g:dw->dw):DS:={d with V:=λj=>if j=r then g (d.V r) else d.V j}
theorem Mb {d:DS} {k:PP} {r:Nat} {g:cq->cq} (hr:(k,r)∈d.hs) (hn:(ids d.LL).Nodup):
  cf d.LL r (.cells (d.E r).enc.toArray 281 (0,0)) (.cells (g (d.E r)).enc.toArray 281 (0,0)) (d.modE r g).LL:=by
 have h1:=yz (A:=iB d.V d.M d.vs) (yz (A:=vB d.V d.vs) (mh (mh (mh hn))));rw[Cc] at h1;have:=Gr (g:=λh:PP×Nat=>h.2) (ob:=λh=> .cells (d.E h.2).enc.toArray 281 (0,0)) (ob':=λh=> .cells ((d.modE r g).E h.2).enc.toArray 281 (0,0)) hr h1 λj hj hne=>by
  simp only[DS.modE];rw[if_neg hne]
 have e:((d.modE r g).E r)=g (d.E r):=by simp[DS.modE]
 simp only[e] at this;exact .there (.there (.there (.right (.right this))))
theorem xz {d:DS} {k:Pt} {r:Nat} {g:dw->dw} (hg:∀v,(g v).im=v.im) (hr:(k,r)∈d.vs) (hn:(ids d.LL).Nodup):
  cf d.LL r (.cells (d.V r).enc.toArray 256 (0,0)) (.cells (g (d.V r)).enc.toArray 256 (0,0)) (d.modV r g).LL:=by
 have h1:=BO (B:=iB d.V d.M d.vs++eB d.E d.hs) (mh (mh (mh hn)));rw[Cc] at h1;have:=Gr (g:=λh:Pt×Nat=>h.2) (ob:=λh=> .cells (d.V h.2).enc.toArray 256 (0,0)) (ob':=λh=> .cells ((d.modV r g).V h.2).enc.toArray 256 (0,0)) hr h1 λj hj hne=>by
  simp only[DS.modV];rw[if_neg hne]
 have e:((d.modV r g).V r)=g (d.V r):=by simp[DS.modV]
 simp only[e] at this;have e2:iB (d.modV r g).V (d.modV r g).M (d.modV r g).vs=iB d.V d.M d.vs:=by
  refine(FE) ?_;intro j _;have:((d.modV r g).V j.2).im=(d.V j.2).im:=by
   simp only[DS.modV];split
   ·rename_i h;rw[hg,h]
   ·rfl
  rw[this];rfl
 have e3:(d.modV r g).LL=d.dB::(d.hm,bW (fB d.hs))::(d.vm,bW (eL d.vs))::(vB (d.modV r g).V d.vs++(iB d.V d.M d.vs++eB d.E d.hs)):=by
  unfold DS.LL;rw[e2];rfl
 rw[e3];exact .there (.there (.there (.left this)))
def kH (l:List Nat) (e:Nat):List Nat:=if e∈l then l else l++[e]
theorem To (l:List Nat) (e:Nat):jS (gO l) (aF e) (.agg #[])=gO (kH l e):=by
 have hin:∀a b:Nat,aF a=aF b->a=b:=λa b h=>by simpa using h
 unfold kH;by_cases h:e∈l
 ·rw[if_pos h];have:∀l:List Nat,e∈l->jS (gO l) (aF e) (.agg #[])=gO l:=by
   intro l h
   induction l with
   |nil=>cases h
   |cons a l ih=>
    by_cases ha:e=a
    ·subst ha;simp[gO,jS]
    ·have hm:e∈l:=by rcases bm.1 h with h|h;exact absurd h ha;exact h
     have:=ih hm;simp only[gO,dV,jS] at this ⊢;have hne:¬aF e=aF a:=λx=>ha (hin _ _ x);simp only[hne,if_false,this]
  exact this l h
 ·rw[if_neg h];have hg:fe (l.map λe=>(aF e,Value.agg #[])) (aF e)=none:=by
   have:=Ap (K:=aF) (V:=λ_:Unit=>Value.agg #[]) hin (l.map λe=>(e,())) e;simp only[w8,uG] at this;rw[this];have:(l.map λe=>(e,())).find? (λx=>decide (x.1=e))=none:=by
    simp only[zQ,aM];rintro _ ⟨b,hb,rfl⟩ hd;have:b=e:=by simpa using hd
    subst this;exact h hb
   rw[this];rfl
  rw[gO,EE _ _ _ (MB hg)];simp[gO]
def DS.modM (d:DS) (v e:Nat):DS:={d with M:=λj=>if j=v then kH (d.M v) e else d.M j}
theorem SH {d:DS} {k:Pt} {v e:Nat} (hr:(k,v)∈d.vs) (hn:(ids d.LL).Nodup):
  cf d.LL (d.V v).im (bW (gO (d.M v))) (bW (gO (kH (d.M v) e))) (d.modM v e).LL:=by
 have h0:=mh (mh (mh hn));have h1:=BO (B:=eB d.E d.hs) (yz (A:=vB d.V d.vs) h0);rw[Cc] at h1;have h2:=BO (B:=iB d.V d.M d.vs++eB d.E d.hs) h0;rw[Cc] at h2;have:=Gr (g:=λh:Pt×Nat=>(d.V h.2).im) (ob:=λh=>bW (gO (d.M h.2))) (ob':=λh=>bW (gO ((d.modM v e).M h.2))) hr h1 λj hj hne=>by
  simp only[DS.modM];rw[if_neg (λx=>hne (by rw[x]))]
 have e1:((d.modM v e).M v)=kH (d.M v) e:=by simp[DS.modM]
 simp only[e1] at this;exact .there (.there (.there (.right (.left this))))
def qU (hs:List (PP×Nat)) (k:PP):Option Nat:=(hs.find? λe=>decide (e.1=k)).map (·.2)
def lW (vs:List (Pt×Nat)) (k:Pt):Option Nat:=(vs.find? λe=>decide (e.1=k)).map (·.2)
theorem agk (a b:PP) (h:lr a=lr b):a=b:=by
 simp only[lr,tq,F6] at h;have h1:a.1.1=b.1.1/\a.1.2=b.1.2/\a.2.1=b.2.1/\a.2.2=b.2.2:=by simpa using h
 exact mN (mN h1.1 h1.2.1) (mN h1.2.2.1 h1.2.2.2)
theorem yu (a b:Pt) (h:pv a=pv b):a=b:=by
 simp only[pv,xy,F6] at h;have h1:a.1=b.1/\a.2=b.2:=by simpa using h
 exact mN h1.1 h1.2
theorem M4 (hs:List (PP×Nat)) (k:PP):fe (fB hs) (lr k)=(qU hs k).map aF:=by
 rw[Ap agk];simp only[qU,Py,uG]
theorem Kz (vs:List (Pt×Nat)) (k:Pt):fe (eL vs) (pv k)=(lW vs k).map aF:=by
 rw[Ap yu];simp only[lW,Py,uG]
theorem Ue {hs:List (PP×Nat)} {k:PP} {r:Nat} (h:qU hs k=some r):(k,r)∈hs:=by
 simp only[qU,iE] at h;obtain⟨e,h1,rfl⟩:=h;have h2:=Km h1;have h3:e.1=k:=by simpa using List.find?_some h1
 rw[<-h3];exact h2
theorem Bv {vs:List (Pt×Nat)} {k:Pt} {r:Nat} (h:lW vs k=some r):(k,r)∈vs:=by
 simp only[lW,iE] at h;obtain⟨e,h1,rfl⟩:=h;have h2:=Km h1;have h3:e.1=k:=by simpa using List.find?_some h1
 rw[<-h3];exact h2
theorem MF {Fs:List an} {L:List ae} {k:PP} {hs:List (PP×Nat)} (hk:b6 k.1/\b6 k.2) (h:∀e∈hs,b6 e.1.1/\b6 e.1.2):sZ TA Fs L (lr k::(fB hs).map (·.1)):=λ_ _ _ _ u hu=>by
 rcases bm.1 hu with rfl|hm
 ·exact⟨_,_,_,_,O,hk.1,hk.2⟩
 ·rw[w8] at hm;obtain⟨e,he,rfl⟩:=aM.1 hm;exact⟨_,_,_,_,O,(h e he).1,(h e he).2⟩
theorem BX {β:Type} {V:β->Value} {Fs:List an} {L:List ae} {k:Pt} {vs:List (Pt×β)} (hk:b6 k) (h:∀e∈vs,b6 e.1):sZ MK Fs L (pv k::(vs.map λe=>(pv e.1,V e.2)).map (·.1)):=λ_ _ _ _ u hu=>by
 rcases bm.1 hu with rfl|hm
 ·exact⟨_,_,O,hk⟩
 ·rw[w8] at hm;obtain⟨e,he,rfl⟩:=aM.1 hm;exact⟨_,_,O,h e he⟩
theorem cK {d:DS} {k:PP} {r:Nat} (h:(k,r)∈d.hs):(r,Obj.cells (d.E r).enc.toArray 281 (0,0))∈d.LL:= .tail _ (.tail _ (.tail _ (bI _ (bI _ (aM.2 ⟨_,h,rfl⟩)))))
theorem jQ {d:DS} {k:Pt} {r:Nat} (h:(k,r)∈d.vs):(r,Obj.cells (d.V r).enc.toArray 256 (0,0))∈d.LL:= .tail _ (.tail _ (.tail _ (bq _ (aM.2 ⟨_,h,rfl⟩))))
theorem Ht {d:DS} {k:Pt} {r:Nat} (h:(k,r)∈d.vs):((d.V r).im,bW (gO (d.M r)))∈d.LL:= .tail _ (.tail _ (.tail _ (bI _ (bq _ (aM.2 ⟨_,h,rfl⟩)))))
end Go.Proofs
namespace Go.Proofs
open Tryz
open Go.V
structure s7 where
 v:Value
 B:List ae
 cs:List Pt
 h:gj v cs B
def s7.ok (n:Nat) (s:s7):Prop:=s.cs.length+n<=16777216
abbrev E8 (b5:Nat) (s:s7):List ae:=bL b5 205 [s.v]::s.B
def Ol (pts:List Pt) (ln:Ln) (s:s7) (i:Int) (s':s7):Prop:=s'.cs=s.cs\/∃y,y∈pts/\tC (vT y) (ia ln)=true/\(aV ln.1 y||aV ln.2 y)=false/\s'.cs=s.cs++[y]
abbrev Lt (r13 b4 r9:Nat) (p:Option Addr) (pts:List Pt) (cp rt:Nat) (ln:Ln) (u:Nat):List an:=[aO r13 0 [Ac p pts cp,aF rt],Co p pts cp,aO b4 0 (km ln),aO r9 0 [aw u]]
variable {a b c:Pt} {r:Bool}
theorem HO (h:(aV a c||aV b c)=r):ai prog 190 [dM a b,pv c].toArray [] [] (Is (.bool r)):=by subst h;exact ahu
variable {r13 b4 r9 b5 cp rt u w:Nat} {p:Option Addr} {pts:List Pt} {ln:Ln}
theorem adv (hu:jm u 4647714815446351872=some w):JQ (rA pts) s7.ok (λ_=>[]) (E8 b5) (Ol pts ln) (Lt r13 b4 r9 p pts cp rt ln u) 189 [] [be r13,be b4,be r9,be b5] (ia ln):=by
 intro n s bx i hn hS hov;obtain⟨k,y,e1,hy,e2⟩:=hS;dsimp only at e1 e2;subst e1;subst e2;have hlt:=da hy;have hym:=bn hy;unfold s7.ok at hn;obtain⟨v0,B0,cs,h0⟩:=s;dsimp only at hn;show ai prog 189 [iv (k:Int),be r13,be b4,be r9,be b5].toArray ([]++Lt r13 b4 r9 p pts cp rt ln u) (bL b5 205 [v0]::B0) _;refine am func189 λ_=>(y8)<|(cQ)<|(qz) ?_;refine cU (size:=2) (i:=k) ab O O O O O aa mA aa (flat_take (F:=λp:Pt=>[aw p.1,aw p.2]) (λ_ _=>O) hy) O λ_ _=>(uk)<|(aq) ?_;intro r7;refine(de) ?_;obtain⟨he0,he⟩:∃b,(aV ln.1 y||aV ln.2 y)=b:=⟨_,rfl⟩;refine(cn)<|(ce) ?_;rcases he0 with _|_
 ·refine cz cw 12 [7,10,11] []<|(CZ)<|(jf) ?_;refine ac O (λkX=>aj eA call190 (HO he) kX)<|(Xw)<|(bh) ?_;refine ac O (by first|exact λkX=>ah O O (su ab O O O mA O O kX)|exact λkX=>ah O O (aK ab O O O (oD (k:=2) mA) O O kX)) ?_;refine ac O (λkX=>ah O O (aK ab O O O (aR mA) O O kX)) ?_;refine ac O (λkX=>ah O O (az ab O O O (mm mA) O kX)) ?_;refine ac O (λkX=>ah O O (fh O O (hu) O kX))<|(dT) ?_;refine ah O O (aI eA call191 (aj5 (p:=y) (a:=ln.1) (b:=ln.2)) λv1 Fs1 ⟨x,e1,e2⟩=>?_);subst e1;subst e2;refine(dU)<|(IX)<|(dU) ?_;refine Up O O O O<|(iy)<|(aN)<|ao ?_ ?_
  ·intro hc24;refine(cJ)<|(gG)<|(eH)<|(eD) ?_;intro b27;refine di (e:=79) (size:=2) (news:=[aw y.1,aw y.2]) ab O O O O O O O (B:=B0) tA h0 O (bD mA) O O dp (by show(cs.length+1)*16<=_;omega) O λv3 B3 hs3=>?_;obtain⟨p3,c3,e3⟩:=hs3.shape;subst e3;refine ak.perm ?_ (bv.perm (A:=bL b5 205 [v0]::B3) tA);refine(gn)<|(eZ)<|(bO)<|aH [] (E8 b5 ⟨_,B3,cs++[y],GL hs3⟩) ?_;exact⟨⟨_,B3,cs++[y],GL hs3⟩,⟨.inr ⟨y,hym,hov,he,O⟩,by unfold s7.ok;simp only[aW,cE,kC];omega⟩,O,O,O⟩
  ·intro hc24;refine(bX)<|(mI)<|aH [] (E8 b5 ⟨v0,B0,cs,h0⟩) ?_;exact⟨⟨v0,B0,cs,h0⟩,⟨.inl O,by unfold s7.ok;dsimp only;omega⟩,O,O,O⟩
 ·refine(AR)<|(CZ)<|(jf) ?_;refine ac O (λkX=>aj eA call190 (HO he) kX)<|(Xw)<|(bh)<|(qE)<|(jN)<|(jY)<|(gH)<|(mI)<|aH [] (E8 b5 ⟨v0,B0,cs,h0⟩) ?_;exact⟨⟨v0,B0,cs,h0⟩,⟨.inl O,by unfold s7.ok;dsimp only;omega⟩,O,O,O⟩
end Go.Proofs
namespace Go.Proofs
open Tryz
open Go.V
variable {r13 b4 r9 b5 cp rt u w z:Nat} {p:Option Addr} {pts:List Pt} {ln:Ln} {V:bH->List Int} {a:Addr}
def lI (pts:List Pt) (z:Nat) (_:Unit) (ln:Ln) (cs:List Pt) (_:Unit):Prop:=cs.length<=z/\∀y∈cs,y∈pts/\tC (vT y) (ia ln)=true/\(aV ln.1 y||aV ln.2 y)=false
theorem adu {s s':s7} {l:List Int} (h:Steps (Ol pts ln) s l s'):∃cs,s'.cs=s.cs++cs/\cs.length<=l.length/\∀y∈cs,y∈pts/\tC (vT y) (ia ln)=true/\(aV ln.1 y||aV ln.2 y)=false:=by
 induction h with
 |nil=>exact⟨[],by simp,bg _,λ_ h=>nomatch h⟩
 |cons h1 _ ih=>
  obtain⟨cs,e,hl,hc⟩:=ih;rcases h1 with e1|⟨y,h2,h3,h4,e1⟩
  ·exact⟨cs,by rw[e,e1],by simp only[cE];omega,hc⟩
  ·refine⟨y::cs,by rw[e,e1];simp,by simp only[cE];omega,λx hx=>?_⟩;rcases bm.1 hx with rfl|hx
   ·exact⟨h2,h3,h4⟩
   ·exact hc x hx
abbrev Ed (r13 r9:Nat) (p:Option Addr) (pts:List Pt) (cp rt:Nat) (u:Nat) (V:bH->List Int) (z:Nat) (a:Addr):List an:=[aO r13 0 [Ac p pts cp,aF rt],Co p pts cp,lE (rA pts) rt V z,aO r9 0 [aw u],aO 1 0 [iH a]]
theorem Lx (hu:jm u 4647714815446351872=some w) (hz:z<=16777216):zG (λ_:Unit=>[]) (lI pts z) (Ed r13 r9 p pts cp rt u V z a) 186 [] [be r13,be r9] (λ_=>True):=by
 intro s ln v0 B0 _ h0;show ai prog 186 [dM ln.1 ln.2,v0,be r13,be r9].toArray (Ed r13 r9 p pts cp rt u V z a) (B0++[]) _;refine uL (φ:=∀q,(V q).length<=z) (λhp al=>λq=>Lg (al (lE (rA pts) rt V z) (.tail _ (.tail _ (.head _)))) q) λhVz=>?_;rw[jz];obtain⟨p0,c0,e0⟩:=h0.shape;subst e0;refine am func186 λ_=>(au) ?_;intro b4;refine(qF) ?_;intro b5;refine(bR) ?_;refine dl (r:=b4) tA<|(JH)<|(zx) ?_;refine cC O (az ab O O O (cY (j:=1) (aR (xs:=[Ac p pts cp,aF rt]) mA) O) O)<|(zu) ?_;refine cC O (λkX=>aj eA call188 (Ms (a:=ln.1) (b:=ln.2)) kX) ?_;refine cC O (Nf eA eA O)<|(dT)<|aS eA call187 (RV (a:=a) (S:=rA pts) (ok:=s7.ok) (n:=0) (FF:=λ_=>[]) (LL:=E8 b5) (R:=Ol pts ln) (G:=Lt r13 b4 r9 p pts cp rt ln u) (r:=rt) (V:=V) (z:=z) (s:=⟨_,B0,[],h0⟩) call189 (adv hu) (by unfold s7.ok;have:=hVz (ia ln);simp only[kC];omega)) λv1 Fs1 L1 ⟨⟨v3,B3,cs3,h3⟩,⟨hst,hok⟩,e1,e2,e3⟩=>?_;subst e1;subst e2;subst e3;obtain⟨cs,e4,hl,hc⟩:=adu hst;dsimp only at e4;rw[j6] at e4;subst e4;refine(rJ)<|(Jd)<|(bO) ?_;exact .ret (.cons (lZ O) (.nil)) (L':=B3++[]) gy (by rw[jz];repeat (first|exact gx _|apply pd)) ⟨(),cs3,B3,⟨tc hl (hVz _),hc⟩,h3,O,O⟩
end Go.Proofs
namespace Go.Proofs
open Tryz
open Go.V
def kO (w:Nat) (ln:Ln) (x:Pt) (st:List Pt×NM):List Pt×NM:=match kN w x with
 |some bk=>(oe ln st.1 (eM st.2 bk x).1,(eM st.2 bk x).2)
 |none=>st
def il (w:Nat) (ln other:Ln) (st:List Pt×NM):List Pt×NM:=match nR ln other with
 |some (some (p,q))=>
  let st1:=if(aV ln.1 p||aV ln.2 p)=true then st else kO w ln p st
  if aV p q=true\/(aV ln.1 q||aV ln.2 q)=true then st1 else kO w ln q st1
 |_=>st
def Hk (w:Nat) (x:Pt):Prop:=∃bk,kN w x=some bk/\xB bk.1/\xB bk.2
def En (w:Nat) (ln other:Ln):Prop:=∃r,nR ln other=some r/\∀p q,r=some (p,q)->Hk w p/\Hk w q
structure rT where
 v:Value
 B:List ae
 cs:List Pt
 h:gj v cs B
 m:NM
def rT.ok (n:Nat) (s:rT):Prop:=s.cs.length+2*n<=16777216
abbrev Cu (b5 rm:Nat) (s:rT):List ae:=bL b5 205 [s.v]::(s.B++[hG rm s.m])
def OU (w:Nat) (lns:List Ln) (ln:Ln) (s:rT) (i:Int) (s':rT):Prop:=∃(k:Nat) (other:Ln),i=(k:Int)/\lns[k]? =some other/\(s'.cs,s'.m)=il w ln other (s.cs,s.m)
abbrev Mn (r15 b4 r12:Nat) (p:Option Addr) (lns:List Ln) (cp rt:Nat) (ln:Ln) (w rm:Nat):List an:=[aO r15 0 [EB p lns cp,aF rt],NG p lns cp,aO b4 0 (km ln),aO r12 0 [aw w,.map (some rm)]]
theorem N9 (ln:Ln) (cs:List Pt) (y:Pt):(oe ln cs y).length<=cs.length+1:=by
 unfold oe;split<;>simp
theorem Vw {a b x y:Nat} {r:Bool} (h:(cX a x&&cX b y)=r) (w:World):(Op.equalIn 10000 79 (xy a b) (xy x y)).run prog w= .ok r w:=by rw[<-h];exact qo 9998 w a b x y
theorem KZ {w:Nat} {ln o:Ln} {st:List Pt×NM} (h:nR ln o=some none):il w ln o st=st:=by unfold il;rw[h]
theorem KY {w:Nat} {ln o:Ln} {st:List Pt×NM} {p q:Pt} (h:nR ln o=some (some (p,q))):il w ln o st=if aV p q=true\/(aV ln.1 q||aV ln.2 q)=true then(if(aV ln.1 p||aV ln.2 p)=true then st else kO w ln p st) else kO w ln q (if(aV ln.1 p||aV ln.2 p)=true then st else kO w ln p st):=by unfold il;rw[h]
variable {r15 b4 r12 b5 cp rt u w rm:Nat} {p:Option Addr} {lns:List Ln} {ln:Ln} {x:Pt} {st:List Pt×NM}
theorem IE {bk:Bk} (h:kN w x=some bk):kO w ln x st=(oe ln st.1 (eM st.2 bk x).1,(eM st.2 bk x).2):=by unfold kO;rw[h]
theorem afx (hok:∀o∈lns,En w ln o):JQ (vH lns) rT.ok (λ_=>[]) (Cu b5 rm) (OU w lns ln) (Mn r15 b4 r12 p lns cp rt ln w rm) 197 [] [be r15,be b4,be b5,be r12] (ia ln):=by
 intro n s bx i hn hS _;obtain⟨k,o,e1,hy,e2⟩:=hS;dsimp only at e1 e2;subst e1;have hlt:=da hy;obtain⟨r,hsym,hr⟩:=hok o (bn hy);unfold rT.ok at hn;obtain⟨v0,B0,cs,h0,m⟩:=s;dsimp only at hn;show ai prog 197 [iv (k:Int),be r15,be b4,be b5,be r12].toArray ([]++Mn r15 b4 r12 p lns cp rt ln w rm) (bL b5 205 [v0]::(B0++[hG rm m])) _;obtain⟨p0,c0,e0⟩:=h0.shape;subst e0;rcases r with _|⟨x,y⟩
 ·refine am func197 λ_=>(y8)<|(cQ)<|(qz) ?_;refine cU (size:=4) (i:=k) ab O O O O O aa mA aa (flat_take (F:=km) (λ_ _=>O) hy) O λ_ _=>?_;refine aK ab O O O (aR (xs:=km o) mA) O O<|(aq) ?_;intro r7;refine(ug) ?_;refine aK ab O O O (aR (xs:=km ln) mA) O O<|(gq)<|aj eA call198 (QC hsym)<|(aq) ?_;intro r8;refine(dS)<|(fR)<|(oR)<|(gH)<|(mI)<|aH [] (Cu b5 rm ⟨_,B0,cs,h0,m⟩) ?_;exact⟨⟨_,B0,cs,h0,m⟩,⟨⟨k,o,O,hy,(KZ hsym).symm⟩,by unfold rT.ok;dsimp only;omega⟩,O,O,O⟩
 ·obtain⟨⟨bx,hbx,hbx2⟩,⟨by_,hby,hby2⟩⟩:=hr x y rfl;obtain⟨st1,hst1⟩:∃st1,st1=(if(aV ln.1 x||aV ln.2 x)=true then(cs,m) else kO w ln x (cs,m)):=⟨_,rfl⟩;obtain⟨st2,hst2⟩:∃st2,st2=(if aV x y=true\/(aV ln.1 y||aV ln.2 y)=true then st1 else kO w ln y st1):=⟨_,rfl⟩;have hstep:il w ln o (cs,m)=st2:=by rw[KY hsym,hst2,hst1]
  have hl1:st1.1.length<=cs.length+1:=by
   rw[hst1];split
   ·exact PM _
   ·rw[IE hbx];exact N9 _ _ _
  have hl2:st2.1.length<=cs.length+2:=by
   rw[hst2];split
   ·omega
   ·rw[IE hby];have:=N9 ln st1.1 (eM st1.2 by_ y).1;dsimp only;omega
  obtain⟨ex,hex⟩:∃b,(aV ln.1 x||aV ln.2 x)=b:=⟨_,rfl⟩;obtain⟨ey,hey⟩:∃b,(aV ln.1 y||aV ln.2 y)=b:=⟨_,rfl⟩;obtain⟨exy,hexy⟩:∃b,(cX x.1 y.1&&cX x.2 y.2)=b:=⟨_,rfl⟩;refine am func197 λ_=>(y8)<|(cQ)<|(qz) ?_;refine cU (size:=4) (i:=k) ab O O O O O aa mA aa (flat_take (F:=km) (λ_ _=>O) hy) O λ_ _=>?_;refine aK ab O O O (aR (xs:=km o) mA) O O<|(aq) ?_;intro r7;refine(ug) ?_;refine aK ab O O O (aR (xs:=km ln) mA) O O<|(gq)<|aj eA call198 (QC hsym)<|(aq) ?_;intro r8;refine(dS)<|(fR)<|(oR)<|(vE)<|(ce)<|(ba) ?_;refine aK ab O O O (aR (xs:=km ln) mA) O O<|(eK)<|aj eA call190 (HO hex)<|(Ja)<|jl (bL b5 205 [.slice p0 cs.length c0]::(B0++[hG rm m])) [(25,30)] (λ(z:Value×List ae)=>gj z.1 st1.1 z.2) (λ_=>[]) (λ_=>[]) (λz=>bL b5 205 [z.1]::(z.2++[hG rm st1.2])) ?_ ?_
  ·refine ao ?_ ?_
   ·intro hc24;rw[if_neg (by rw[hex];simpa using hc24),IE hbx] at hst1;subst hst1;refine(cJ)<|(gG)<|(uk) ?_;refine aK ab O O O (aR (xs:=km ln) mA) O O<|(eK)<|aS eA call199 (Sx (w:=w) (rm:=rm) (m:=m) (a:=ln.1) (b:=ln.2) (cs:=cs) hbx hbx2 h0 aa) λv3 Fs3 L3 ⟨B3,hB3,e4,e5⟩=>?_;subst e4;subst e5;obtain⟨p3,c3,e3⟩:=hB3.shape;subst e3;refine(gn)<|(aN) ?_;exact⟨(_,B3),hB3,lA,kA,fA,hA⟩
   ·intro hc24;rw[if_pos (by rw[hex];simpa using hc24)] at hst1;subst hst1;refine(bX) ?_;exact⟨(_,B0),h0,lA,kA,fA,hA⟩
  ·intro⟨v1,B1⟩ fj h1;dsimp only at h1;obtain⟨p1,c1,e1⟩:=h1.shape;subst e1;refine(ce) ?_;rcases exy with _|_
   ·refine(cJ)<|(eK)<|(eK) ?_;refine vY O O qV (λw=>Vw hexy w) O<|(aB) ?_;refine ah O O (aK ab O O O (aR (xs:=km ln) mA) O O<|(iQ)<|(zw) ?_);refine ah O O (aj eA call190 (HO hey)<|(JB)<|(fm)<|ao ?_ ?_)
    ·intro hc42;rw[if_neg (by rw[hey];intro hh;rcases hh with hh|hh;(exact absurd hexy (by rw[show(cX x.1 y.1&&cX x.2 y.2)=true from hh];decide));(rw[hh] at hc42;cases hc42)),IE hby] at hst2;subst hst2;refine(cJ)<|(gG)<|(uk) ?_;refine aK ab O O O (aR (xs:=km ln) mA) O O<|(eK)<|aS eA call199 (Sx (w:=w) (rm:=rm) (m:=st1.2) (a:=ln.1) (b:=ln.2) (cs:=st1.1) hby hby2 h1 aa) λv3 Fs3 L3 ⟨B3,hB3,e4,e5⟩=>?_;subst e4;subst e5;obtain⟨p3,c3,e3⟩:=hB3.shape;subst e3;refine(gn)<|(eZ)<|(bO)<|aH [] (Cu b5 rm ⟨_,B3,oe ln st1.1 (eM st1.2 by_ y).1,hB3,(eM st1.2 by_ y).2⟩) ?_;exact⟨⟨_,B3,oe ln st1.1 (eM st1.2 by_ y).1,hB3,(eM st1.2 by_ y).2⟩,⟨⟨k,o,O,hy,hstep.symm⟩,by unfold rT.ok;dsimp only at hl2 ⊢;omega⟩,O,O,O⟩
    ·intro hc42;rw[if_pos (.inr (by rw[hey];simpa using hc42))] at hst2;subst hst2;refine(bX)<|(mI)<|aH [] (Cu b5 rm ⟨_,B1,_,h1,st2.2⟩) ?_;exact⟨⟨_,B1,_,h1,st2.2⟩,⟨⟨k,o,O,hy,hstep.symm⟩,by unfold rT.ok;dsimp only at hl2 ⊢;omega⟩,O,O,O⟩
   ·refine(cJ)<|(eK)<|(eK) ?_;rw[if_pos (.inl hexy)] at hst2;subst hst2;refine vY O O qV (λw=>Vw hexy w) O<|(Jc)<|(gH)<|(mI)<|aH [] (Cu b5 rm ⟨_,B1,_,h1,st2.2⟩) ?_;exact⟨⟨_,B1,_,h1,st2.2⟩,⟨⟨k,o,O,hy,hstep.symm⟩,by unfold rT.ok;dsimp only at hl2 ⊢;omega⟩,O,O,O⟩
end Go.Proofs
namespace Go.Proofs
open Tryz
open Go.V
variable {r15 b4 r12 b5 cp rt u w z rm:Nat} {p:Option Addr} {lns:List Ln} {ln:Ln} {V:bH->List Int} {a:Addr}
def ji (w:Nat) (lns:List Ln) (ln:Ln) (l:List Int) (st:List Pt×NM):List Pt×NM:=l.foldl (λst i=>match lns[i.toNat]? with|some o=>il w ln o st|none=>st) st
theorem afv {s s':rT} {l:List Int} (h:Steps (OU w lns ln) s l s'):(s'.cs,s'.m)=ji w lns ln l (s.cs,s.m):=by
 induction h with
 |nil=>rfl
 |@cons s m s' i l h1 _ ih=>
  obtain⟨k,o,e1,e2,e3⟩:=h1;rw[ih,e3,e1];unfold ji;rw[Dy,xa,e2]
theorem alr (x:Pt) (st:List Pt×NM):(kO w ln x st).1.length<=st.1.length+1:=by
 unfold kO;split
 ·exact N9 _ _ _
 ·exact PM _
theorem abO (o:Ln) (st:List Pt×NM):(il w ln o st).1.length<=st.1.length+2:=by
 have h1:∀(c:Prop) [Decidable c] (x:Pt) (st:List Pt×NM),(if c then st else kO w ln x st).1.length<=st.1.length+1:=λc _ x st=>by
  split
  ·exact PM _
  ·exact alr x st
 cases h:nR ln o with
 |none=>unfold il;rw[h];exact Kd _ _
 |some r=>
  rcases r with _|⟨p,q⟩
  ·rw[KZ h];exact Kd _ _
  ·rw[KY h];have h2:=h1 (aV p q=true\/(aV ln.1 q||aV ln.2 q)=true) q (if(aV ln.1 p||aV ln.2 p)=true then st else kO w ln p st);have h3:=h1 ((aV ln.1 p||aV ln.2 p)=true) p st;omega
theorem Gq:∀(l:List Int) (st:List Pt×NM),(ji w lns ln l st).1.length<=st.1.length+2*l.length
 |[],st=>bg _
 |i::l,st=>by
  unfold ji;rw[Dy];have ih:=Gq l (match lns[i.toNat]? with|some o=>il w ln o st|none=>st);unfold ji at ih;have:(match lns[i.toNat]? with|some o=>il w ln o st|none=>st).1.length<=st.1.length+2:=by
   split
   ·exact abO _ _
   ·exact Kd _ _
  simp only[cE];omega
def JL (w:Nat) (lns:List Ln) (V:bH->List Int) (m:NM) (ln:Ln) (cs:List Pt) (m':NM):Prop:=(cs,m')=ji w lns ln (V (ia ln)) ([],m)
abbrev BU (r15 r12:Nat) (p:Option Addr) (lns:List Ln) (cp rt:Nat) (w rm:Nat) (V:bH->List Int) (z:Nat) (a:Addr):List an:=[aO r15 0 [EB p lns cp,aF rt],NG p lns cp,lE (vH lns) rt V z,aO r12 0 [aw w,.map (some rm)],aO 1 0 [iH a]]
theorem afw (hz:z<=8388608):zG (λm:NM=>[hG rm m]) (JL w lns V) (BU r15 r12 p lns cp rt w rm V z a) 196 [] [be r15,be r12] (λln=>∀o∈lns,En w ln o):=by
 intro m ln v0 B0 hok h0;show ai prog 196 [dM ln.1 ln.2,v0,be r15,be r12].toArray (BU r15 r12 p lns cp rt w rm V z a) (B0++[hG rm m]) _;refine uL (φ:=∀q,(V q).length<=z) (λhp al=>λq=>Lg (al (lE (vH lns) rt V z) (.tail _ (.tail _ (.head _)))) q) λhVz=>?_;obtain⟨p0,c0,e0⟩:=h0.shape;subst e0;refine am func196 λ_=>(au) ?_;intro b4;refine(qF) ?_;intro b5;refine(bR) ?_;refine dl (r:=b4) tA<|(JH)<|(zx) ?_;refine cC O (az ab O O O (cY (j:=1) (aR (xs:=[EB p lns cp,aF rt]) mA) O) O) ?_;refine cC O (aK ab O O O (aR (xs:=km ln) mA) O O) ?_;refine cC O (λkX=>aj eA call188 (Ms (a:=ln.1) (b:=ln.2)) kX) ?_;refine cC O (Nf eA eA O)<|(dT)<|aS eA call187 (RV (a:=a) (S:=vH lns) (ok:=rT.ok) (n:=0) (FF:=λ_=>[]) (LL:=Cu b5 rm) (R:=OU w lns ln) (G:=Mn r15 b4 r12 p lns cp rt ln w rm) (r:=rt) (V:=V) (z:=z) (s:=⟨_,B0,[],h0,m⟩) call197 (afx hok) (by unfold rT.ok;have:=hVz (ia ln);simp only[kC];omega)) λv1 Fs1 L1 ⟨⟨v3,B3,cs3,h3,m3⟩,⟨hst,hok3⟩,e1,e2,e3⟩=>?_;subst e1;subst e2;subst e3;have hvis:=afv hst;dsimp only at hvis;refine(rJ)<|(Jd)<|(bO) ?_;exact .ret (.cons (lZ O) (.nil)) (L':=B3++[hG rm m3]) gy (by repeat (first|exact gx _|apply pd)) ⟨m3,cs3,B3,hvis,h3,O,O⟩
end Go.Proofs
namespace Go.Proofs
open Go.V
structure wr (w:Nat) (aZ NodeOk:Pt->Prop):Prop where
 bk:∀p,NodeOk p->Hk w p
 lat:∀p,aZ p->NodeOk p
 sep:∀p q b b',aZ p->aZ q->kN w p=some b->kN w q=some b'->b'∈offs b->q=p
 ll:∀ln o:Ln,aZ ln.1->aZ ln.2->aZ o.1->aZ o.2->aV ln.1 ln.2=false->aV o.1 o.2=false->∃r,nR ln o=some r/\∀p q,r=some (p,q)->NodeOk p/\NodeOk q
 d2:∀a x,NodeOk a->NodeOk x->yy a x
 ulp:∀p,aZ p->Qn p
 fin:∃F:List Pt,F.length<=61/\∀p,aZ p->p∈F
variable {w u rm:Nat} {aZ NodeOk:Pt->Prop}
def sX (w:Nat) (aZ:Pt->Prop) (m:NM):Prop:=(∀e∈m,aZ e.2/\kN w e.2=some e.1)/\(m.map (·.1)).Nodup
theorem af1:sX w aZ []:=⟨(λ_ h=>nomatch h),Gd⟩
theorem LS {m:NM} {b:Bk} {q:Pt} (h:qc m b=some q):(b,q)∈m:=by
 simp only[qc,iE] at h;obtain⟨e,h1,rfl⟩:=h;have h2:=Km h1;have h3:e.1=b:=by simpa using List.find?_some h1
 rw[<-h3];exact h2
theorem aeC (N:wr w aZ NodeOk) {m:NM} (hm:sX w aZ m) {p:Pt} (hp:aZ p) {b:Bk} (hb:kN w p=some b):(eM m b p).1=p/\sX w aZ (eM m b p).2/\(eM m b p).2.length<=m.length+1:=by
 unfold eM;cases h:(offs b).findSome? (qc m) with
 |none=>
  refine⟨O,⟨λe he=>?_,?_⟩,by simp⟩
  ·rcases bB.1 he with he|he
   ·exact hm.1 e he
   ·simp at he;subst he;exact⟨hp,hb⟩
  ·have hno:b∉m.map (·.1):=λhb'=>by
    obtain⟨e,he,e1⟩:=aM.1 hb';have h1:=F7.1 h b (by simp[offs]);unfold qc at h1;rw[PQ,zQ] at h1;exact h1 e he (by simpa using e1)
   rw[dX];refine uF.2 ⟨hm.2,by simp,λa ha c hc e=>?_⟩;simp at hc;subst hc;subst e;exact hno ha
 |some q=>
  obtain⟨b',hb',hq⟩:=Ds h;have h1:=hm.1 _ (LS hq);exact⟨N.sep p q b b' hp h1.1 hb h1.2 hb',hm,PM _⟩
theorem af2 (N:wr w aZ NodeOk) {m:NM} (hm:sX w aZ m):m.length<=61:=by
 obtain⟨F,hF,hin⟩:=N.fin;have hnd:(m.map (·.2)).Nodup:=by
  have h1:=hm.2;rw[zR,Dk] at h1 ⊢;refine(Gg.1 h1).imp ?_;rintro a b ⟨ha,hb,hne⟩ e;have e1:=(hm.1 a ha).2;have e2:=(hm.1 b hb).2;rw[e,e2] at e1;exact hne (iD e1).symm
 have h2:=tj hnd (l₂:=F) (λx hx=>by
  obtain⟨e,he,rfl⟩:=aM.1 hx;exact hin _ (hm.1 e he).1)
 rw[cP] at h2;omega
theorem aeB {P:Pt->Prop} {m:NM} (hm:∀e∈m,P e.2) {p:Pt} (hp:P p) (b:Bk):P (eM m b p).1/\∀e∈(eM m b p).2,P e.2:=by
 unfold eM;cases h:(offs b).findSome? (qc m) with
 |none=>
  refine⟨hp,λe he=>?_⟩;rcases bB.1 he with he|he
  ·exact hm e he
  ·simp at he;subst he;exact hp
 |some q=>
  obtain⟨b',hb',hq⟩:=Ds h;exact⟨hm _ (LS hq),hm⟩
abbrev Ho (w:Nat) (aZ:Pt->Prop) (rm:Nat) (m:{m:NM//sX w aZ m}):List ae:=[hG rm m.1]
def y4 (w:Nat) (aZ:Pt->Prop) (m:{m:NM//sX w aZ m}) (p:Pt) (m':{m:NM//sX w aZ m}):Prop:=aZ p/\∃b,kN w p=some b/\m'.1=(eM m.1 b p).2/\m'.1.length<=m.1.length+1
theorem LV (N:wr w aZ NodeOk):yW (Ho w aZ rm) (y4 w aZ) [] 182 [xu w rm] [] aZ pv:=by
 intro m p hp;obtain⟨b,hb,hm⟩:=N.bk p (N.lat p hp);obtain⟨h1,h2,h3⟩:=aeC N m.2 hp hb;refine λh w0 sa al=>(T4 (w:=w) (rm:=rm) (m:=m.1) (p:=p) hb hm h w0 sa al).mono λe w' he=>?_;cases e with
 |returned v=>
  obtain⟨Fs',L',h',⟨⟨e1,e2⟩,e3⟩,hle,hal,hsa,hfr,hnw⟩:=he;exact⟨Fs',L',h',⟨⟨_,h2⟩,⟨hp,b,hb,O,h3⟩,by rw[e1,h1],e2,e3⟩,hle,hal,hsa,hfr,hnw⟩
 |panicked ch=>exact he.elim
 |outgrown=>exact he.elim
theorem LR {s s':{m:NM//sX w aZ m}} {l:List Pt} (h:jT (y4 w aZ) s l s'):s'.1.length<=s.1.length+l.length:=by
 induction h with
 |nil=>exact Kd _ _
 |cons h1 _ ih=>
  obtain⟨_,_,_,_,h4⟩:=h1;simp only[cE];omega
end Go.Proofs
namespace Go.Proofs
open Go.V
variable {w u rm:Nat} {aZ NodeOk:Pt->Prop}
inductive s6 (Pr:Pt->Prop):GM->Prop where
 |ls {l}:(∀x∈l,Pr x)->s6 Pr (.ls l)
 |mls {lss}:(∀l∈lss,∀x∈l,Pr x)->s6 Pr (.mls lss)
 |gc {gs}:(∀g∈gs,s6 Pr g)->s6 Pr (.gc gs)
inductive mL (Pr:List Pt->Prop):GM->Prop where
 |ls {l}:Pr l->mL Pr (.ls l)
 |mls {lss}:(∀l∈lss,Pr l)->mL Pr (.mls lss)
 |gc {gs}:(∀g∈gs,mL Pr g)->mL Pr (.gc gs)
theorem KA:∀{l:List Pt} {x:Pt},x∈uq l->x∈l:=by
 have h:∀(l:List Pt) (a x:Pt),x∈lk a l->x∈l:=by
  intro l
  induction l with
  |nil=>intro a x h;exact h
  |cons b l ih=>
   intro a x h;unfold lk at h;split at h
   ·exact .tail _ (ih b x h)
   ·rcases bm.1 h with rfl|h
    ·exact .head _
    ·exact .tail _ (ih b x h)
 intro l x hx;cases l with
 |nil=>exact hx
 |cons a l=>
  rcases bm.1 hx with rfl|hx
  ·exact .head _
  ·exact .tail _ (h l a x hx)
theorem vR:∀{l:List Pt} {s:Ln},s∈bK l->s.1∈l/\s.2∈l/\aV s.1 s.2=false
 |[],s,h=>by cases h
 |[a],s,h=>by cases h
 |a::b::l,s,h=>by
  unfold bK at h;have tl:s∈bK (b::l)->s.1∈a::b::l/\s.2∈a::b::l/\aV s.1 s.2=false:=λh=>by
   obtain⟨h1,h2,h3⟩:=vR h;exact⟨.tail _ h1,.tail _ h2,h3⟩
  split at h
  ·exact tl h
  ·rename_i hne;rcases bm.1 h with rfl|h
   ·exact⟨.head _,.tail _ (.head _),by simpa using hne⟩
   ·exact tl h
theorem afs {α:Type} {R:α->Ln->List Pt->α->Prop} {Pr:Pt->Prop} {okl:Ln->Prop} (hR:∀s ln cs s',okl ln->R s ln cs s'->∀x∈cs,Pr x) {s s':α} {ls:List Ln} {out:List Pt} (h:pU R s ls out s') (h1:∀ln∈ls,okl ln/\Pr ln.1):∀x∈out,Pr x:=by
 induction h with
 |nil=>intro x hx;cases hx
 |@cons s m s' ln cs qs ls out h2 h3 _ ih=>
  intro x hx;obtain⟨k1,k2⟩:=h1 ln (.head _);rcases bm.1 hx with rfl|hx
  ·exact k2
  ·rcases bB.1 hx with hx|hx
   ·exact hR _ _ _ _ k1 h2 x (h3.perm.mem_iff.1 (KA hx))
   ·exact ih (λln hln=>h1 ln (.tail _ hln)) x hx
theorem RP {α:Type} {R:α->Ln->List Pt->α->Prop} {Pr:Pt->Prop} {okl:Ln->Prop} (hR:∀s ln cs s',okl ln->R s ln cs s'->∀x∈cs,Pr x) {s s':α} {l l':List Pt} (h:wq R s l l' s') (h1:∀x∈l,Pr x) (h2:∀ln∈bK l,okl ln):∀x∈l',Pr x:=by
 obtain⟨out,h3,rfl⟩:=h;intro x hx;rcases bB.1 hx with hx|hx
 ·exact afs hR h3 (λln hln=>⟨h2 ln hln,h1 _ (vR hln).1⟩) x hx
 ·have:l.getLast? =some x:=by simpa using hx
  exact h1 x (J9 this)
theorem Lo {α:Type} {R:α->Ln->List Pt->α->Prop} {Pr:Pt->Prop} {okl:Ln->Prop} (hR:∀s ln cs s',okl ln->R s ln cs s'->∀x∈cs,Pr x) {s s':α} {ls ls':List (List Pt)} (h:oK R s ls ls' s'):(∀l∈ls,(∀x∈l,Pr x)/\∀ln∈bK l,okl ln)->∀l∈ls',∀x∈l,Pr x:=by
 induction h with
 |nil=>intro _ l hl;cases hl
 |snoc _ h2 ih=>
  intro h l hl;rcases bB.1 hl with hl|hl
  ·exact ih (λl hl=>h l (bq _ hl)) l hl
  ·simp at hl;subst hl;have:=h _ (bI _ (.head _));exact RP hR h2 this.1 this.2
theorem RT {α:Type} {R:α->Ln->List Pt->α->Prop} {Pr:Pt->Prop} {okl:Ln->Prop} (hR:∀s ln cs s',okl ln->R s ln cs s'->∀x∈cs,Pr x) {s s':α} {g g':GM} (h:jq R s g g' s'):mL (λl=>(∀x∈l,Pr x)/\∀ln∈bK l,okl ln) g->s6 Pr g':=by
 induction h with
 |ls h=>
  intro k;cases k with
  |ls k=>exact .ls (RP hR h k.1 k.2)
 |mls h=>
  intro k;cases k with
  |mls k=>exact .mls (Lo hR h k)
 |gc0=>intro _;exact .gc λ_ h=>nomatch h
 |snoc _ _ ih1 ih2=>
  intro k;cases k with
  |gc k=>
   have h1:=ih1 (.gc λg hg=>k g (bq _ hg));have h2:=ih2 (k _ (bI _ (.head _)));cases h1 with
   |gc h1=>
    refine .gc λg hg=>?_;rcases bB.1 hg with hg|hg
    ·exact h1 g hg
    ·simp at hg;subst hg;exact h2
mutual
theorem ahz {Pr:Pt->Prop}:∀{g:GM},s6 Pr g->∀x∈g.pts,Pr x
 |.ls l,.ls h,x,hx=>h x (by simpa only[GM.pts] using hx)
 |.mls lss,.mls h,x,hx=>by
  simp only[GM.pts] at hx;obtain⟨l,hl,hx⟩:=xb.1 hx;exact h l hl x hx
 |.gc gs,.gc h,x,hx=>by simp only[GM.pts] at hx;exact Ug h x hx
theorem Ug {Pr:Pt->Prop}:∀{gs:List GM},(∀g∈gs,s6 Pr g)->∀x∈fH gs,Pr x
 |[],_,x,hx=>by simp[fH] at hx
 |g::gs,h,x,hx=>by
  simp only[fH] at hx;rcases bB.1 hx with hx|hx
  ·exact ahz (h g (.head _)) x hx
  ·exact Ug (λg hg=>h g (.tail _ hg)) x hx
end
mutual
theorem UN {Pr:Pt->Prop}:∀{g:GM},s6 Pr g->∀s∈g.lns,Pr s.1/\Pr s.2/\aV s.1 s.2=false
 |.ls l,.ls h,s,hs=>by
  simp only[GM.lns] at hs;obtain⟨h1,h2,h3⟩:=vR hs;exact⟨h _ h1,h _ h2,h3⟩
 |.mls lss,.mls h,s,hs=>by
  simp only[GM.lns] at hs;obtain⟨l,hl,hs⟩:=mO.1 hs;obtain⟨h1,h2,h3⟩:=vR hs;exact⟨h l hl _ h1,h l hl _ h2,h3⟩
 |.gc gs,.gc h,s,hs=>by simp only[GM.lns] at hs;exact UO h s hs
theorem UO {Pr:Pt->Prop}:∀{gs:List GM},(∀g∈gs,s6 Pr g)->∀s∈nW gs,Pr s.1/\Pr s.2/\aV s.1 s.2=false
 |[],_,s,hs=>by simp[nW] at hs
 |g::gs,h,s,hs=>by
  simp only[nW] at hs;rcases bB.1 hs with hs|hs
  ·exact UN (h g (.head _)) s hs
  ·exact UO (λg hg=>h g (.tail _ hg)) s hs
end
abbrev qy (NodeOk:Pt->Prop):={m:NM//∀e∈m,NodeOk e.2}
def qG (w:Nat) (NodeOk:Pt->Prop) (lns:List Ln) (V:bH->List Int) (m:qy NodeOk) (ln:Ln) (cs:List Pt) (m':qy NodeOk):Prop:=JL w lns V m.1 ln cs m'.1
def xq (NodeOk:Pt->Prop) (lns:List Ln) (ln:Ln):Prop:=NodeOk ln.1/\∀o∈lns,∃r,nR ln o=some r/\∀p q,r=some (p,q)->NodeOk p/\NodeOk q
theorem alq {ln:Ln} {x:Pt} {st:List Pt×NM} (hx:NodeOk x) (h:(∀y∈st.1,NodeOk y)/\∀e∈st.2,NodeOk e.2):(∀y∈(kO w ln x st).1,NodeOk y)/\∀e∈(kO w ln x st).2,NodeOk e.2:=by
 unfold kO;split
 ·rename_i bk hb;obtain⟨h1,h2⟩:=aeB (P:=NodeOk) h.2 hx bk;refine⟨λy hy=>?_,h2⟩;dsimp only at hy;unfold oe at hy;split at hy
  ·exact h.1 y hy
  ·rcases bB.1 hy with hy|hy
   ·exact h.1 y hy
   ·simp at hy;subst hy;exact h1
 ·exact h
theorem abN {ln o:Ln} {st:List Pt×NM} (ho:∃r,nR ln o=some r/\∀p q,r=some (p,q)->NodeOk p/\NodeOk q) (h:(∀y∈st.1,NodeOk y)/\∀e∈st.2,NodeOk e.2):(∀y∈(il w ln o st).1,NodeOk y)/\∀e∈(il w ln o st).2,NodeOk e.2:=by
 obtain⟨r,h1,h2⟩:=ho;rcases r with _|⟨p,q⟩
 ·rw[KZ h1];exact h
 ·obtain⟨hp,hq⟩:=h2 p q rfl;rw[KY h1];have k:∀(c:Prop) [Decidable c] (x:Pt) (hx:NodeOk x) (st:List Pt×NM),((∀y∈st.1,NodeOk y)/\∀e∈st.2,NodeOk e.2)->(∀y∈(if c then st else kO w ln x st).1,NodeOk y)/\∀e∈(if c then st else kO w ln x st).2,NodeOk e.2:=λc _ x hx st h=>by
   split
   ·exact h
   ·exact alq hx h
  exact k _ q hq _ (k _ p hp _ h)
theorem Ky {ln:Ln} {lns:List Ln} (ho:∀o∈lns,∃r,nR ln o=some r/\∀p q,r=some (p,q)->NodeOk p/\NodeOk q):∀(l:List Int) (st:List Pt×NM),((∀y∈st.1,NodeOk y)/\∀e∈st.2,NodeOk e.2)->(∀y∈(ji w lns ln l st).1,NodeOk y)/\∀e∈(ji w lns ln l st).2,NodeOk e.2
 |[],_,h=>h
 |i::l,st,h=>by
  unfold ji;rw[Dy];have ih:=Ky ho l (match lns[i.toNat]? with|some o=>il w ln o st|none=>st);unfold ji at ih;refine ih ?_;split
  ·rename_i o he;exact abN (ho o (bn he)) h
  ·exact h
variable {r15 r12 cp rt z:Nat} {p:Option Addr} {lns:List Ln} {V:bH->List Int} {a:Addr}
theorem Mp (N:wr w aZ NodeOk) (hz:z<=8388608):zG (λm:qy NodeOk=>[hG rm m.1]) (qG w NodeOk lns V) (BU r15 r12 p lns cp rt w rm V z a) 196 [] [be r15,be r12] (xq NodeOk lns):=by
 intro m ln v0 B0 hok h0;have hok':∀o∈lns,En w ln o:=λo ho=>by
  obtain⟨r,h1,h2⟩:=hok.2 o ho;exact⟨r,h1,λp q e=>⟨N.bk p (h2 p q e).1,N.bk q (h2 p q e).2⟩⟩
 refine λh w0 sa al=>(afw (w:=w) (lns:=lns) (V:=V) (r15:=r15) (r12:=r12) (p:=p) (cp:=cp) (rt:=rt) (rm:=rm) (z:=z) (a:=a) hz m.1 ln v0 B0 hok' h0 h w0 sa al).mono λe w' he=>?_;cases e with
 |returned v=>
  obtain⟨Fs',L',h',⟨m',cs,B',hc,hB,e1,e2⟩,hle,hal,hsa,hfr,hnw⟩:=he;have hn:=Ky (w:=w) hok.2 (V (ia ln)) ([],m.1) ⟨(λ_ h=>nomatch h),m.2⟩;have hc':(cs,m')=ji w lns ln (V (ia ln)) ([],m.1):=hc;rw[<-hc'] at hn;exact⟨Fs',L',h',⟨⟨m',hn.2⟩,cs,B',hc,hB,e1,e2⟩,hle,hal,hsa,hfr,hnw⟩
 |panicked ch=>exact he.elim
 |outgrown=>exact he.elim
theorem S8 {m m':qy NodeOk} {ln:Ln} {cs:List Pt} (hok:xq NodeOk lns ln) (h:qG w NodeOk lns V m ln cs m'):∀x∈cs,NodeOk x:=by
 have hn:=Ky (w:=w) hok.2 (V (ia ln)) ([],m.1) ⟨(λ_ h=>nomatch h),m.2⟩;have hc':(cs,m'.1)=ji w lns ln (V (ia ln)) ([],m.1):=h;rw[<-hc'] at hn;exact hn.1
theorem Mo (N:wr w aZ NodeOk) (hVz:∀q,(V q).length<=z):Df (qG w NodeOk lns V) (xq NodeOk lns) (2*z):=by
 intro m ln cs m' hok h;refine⟨?_,λx hx=>N.d2 _ _ hok.1 (S8 hok h x hx)⟩;have h1:=Gq (w:=w) (lns:=lns) (ln:=ln) (V (ia ln)) ([],m.1);have hc':(cs,m'.1)=ji w lns ln (V (ia ln)) ([],m.1):=h;rw[<-hc'] at h1;have:=hVz (ia ln);simp only[kC] at h1;omega
end Go.Proofs
