/- Part 2 of the proof that FnMapBorders returns true for every input that its row lets in. No further condition. -/
import Derived.Test.YtpddkliglnoaaaaGreatDoorA01
set_option linter.all false
set_option autoImplicit true
set_option relaxedAutoImplicit true
namespace Go.V
theorem mem_ready {ops:List Oper} {listed:Array Bool} {i:Nat} (h:i∈Region.ready .any ops.toArray listed):
  ∃o,ops[i]? =some o/\listed.getD i true=false/\∀j∈fC o,listed.getD j false=true:=by
 unfold Region.ready at h;obtain⟨h1,h2⟩:=uJ.1 h;simp only[eI,zJ] at h2;obtain⟨h3,h4⟩:=h2;have hi:i<ops.length:=by simp at h1;exact h1
 have ho:ops[i]? =some ops[i]:=aG hi;refine⟨ops[i],ho,h3,λj hj=>?_⟩;have ho':ops.toArray[i]? =some ops[i]:=by simp[hi]
 rw[ho'] at h4;simp only[pX,mM] at h4;unfold fC at hj;obtain⟨e,he,rfl⟩:=aM.1 hj;obtain⟨he1,he2⟩:=uJ.1 he;have:=(Di.1 h4) e (Kc.1 he1);simpa[he2] using this
theorem G2 {ops:List Oper} {listed:Array Bool} {i:Nat} {o:Oper} (ho:ops[i]? =some o) (h1:listed.getD i true=false) (h2:∀j∈fC o,listed.getD j false=true):
  i∈Region.ready .any ops.toArray listed:=by
 unfold Region.ready;have hi:i<ops.length:=by
  rcases dL i ops.length with l|g
  ·exact l
  ·rw[gZ g] at ho;cases ho
 refine uJ.2 ⟨by simpa using hi,?_⟩;have ho':ops.toArray[i]? =some o:=by simpa using ho
 rw[ho',h1];simp only[Bool.not_false,Bool.true_and,pX,mM];refine Di.2 ?_;intro e he;cases hb:Region.binds .any e with
 |false=>simp
 |true=>
  have:=h2 e.on (aM.2 ⟨e,uJ.2 ⟨Kc.2 he,hb⟩,rfl⟩);simp[this]
theorem kI {listed:Array Bool} {i j:Nat} (b:Bool) (hi:i<listed.size):(listed.setIfInBounds i true).getD j b=if j=i then true else listed.getD j b:=by
 simp only[gY];by_cases e:j=i
 ·subst e;simp[hi]
 ·rw[PS (λh=>e h.symm),if_neg e]
def left (N:Nat) (listed:Array Bool):Nat:=((List.range N).filter λi=>!listed.getD i true).length
theorem Tl {N:Nat} {listed:Array Bool} (h:left N listed=0):∀i,i<N->listed.getD i true=true:=by
 intro i hi;have:=ow h;cases e:listed.getD i true with
 |true=>rfl
 |false=>
  have hm:i∈(List.range N).filter λi=>!listed.getD i true:=uJ.2 ⟨by simpa using hi,by simp[e]⟩;rw[this] at hm;cases hm
theorem Tm {N:Nat} {listed:Array Bool} {i:Nat} (hs:listed.size=N) (hi:i<N) (h:listed.getD i true=false):left N (listed.setIfInBounds i true)+1=left N listed:=by
 unfold left;have fp:∀(p:Nat->Bool) (x:Nat) (l:List Nat),p x=true->(x::l).filter p=x::l.filter p:=λp x l h=>Bi h;have fn:∀(p:Nat->Bool) (x:Nat) (l:List Nat),p x=false->(x::l).filter p=l.filter p:=λp x l h=>Kp (by rw[h];exact Bool.false_ne_true);have key:∀(l:List Nat),l.Nodup->i∈l->(l.filter λj=>!(listed.setIfInBounds i true).getD j true).length+1=(l.filter λj=>!listed.getD j true).length:=by
  intro l
  induction l with
  |nil=>intro _ h;cases h
  |cons x l ih=>
   intro nd hm;have nd':=la.1 nd;have hsz:i<listed.size:=by omega
   by_cases e:x=i
   ·subst e;have hno:∀j∈l,(!(listed.setIfInBounds x true).getD j true)=!listed.getD j true:=λj hj=>by
     have hne:¬j=x:=λe2=>nd'.1 (by rw[<-e2];exact hj);rw[kI _ hsz,if_neg hne]
    have h1:(!(listed.setIfInBounds x true).getD x true)=false:=by rw[kI _ hsz,if_pos rfl];rfl
    have h2:(!listed.getD x true)=true:=by rw[h];rfl
    rw[fn _ _ _ h1,fp _ _ _ h2,cE,List.filter_congr hno]
   ·have hm':i∈l:=by
     cases hm with
     |head=>exact absurd rfl e
     |tail _ m=>exact m
    have ih':=ih nd'.2 hm';have hx:(!(listed.setIfInBounds i true).getD x true)=!listed.getD x true:=by rw[kI _ hsz,if_neg e]
    cases hb:(!listed.getD x true) with
    |true=>rw[fp _ _ _ (hx.trans hb),fp _ _ _ hb,cE,cE];omega
    |false=>rw[fn _ _ _ (hx.trans hb),fn _ _ _ hb];exact ih'
 exact key _ PF (by simpa using hi)
theorem yR {ops:List Oper} {listed:Array Bool} (hcl:∀i o,ops[i]? =some o->listed.getD i false=true->∀j∈fC o,listed.getD j false=true):
  ∀(k i:Nat) (o:Oper),ops[i]? =some o->(∀j∈fC o,listed.getD j false=true)->∀j∈lF ops k i,listed.getD j false=true
 |0,_,_,_,_,j,hj=>by cases hj
 |k+1,i,o,ho,hb,j,hj=>by
  unfold lF at hj;rw[ho] at hj;rcases bB.1 hj with h|h
  ·exact hb j h
  ·obtain⟨x,hx,hj'⟩:=mO.1 h;cases hox:ops[x]? with
   |none=>
    cases k with
    |zero=>cases hj'
    |succ k=>unfold lF at hj';rw[hox] at hj';cases hj'
   |some p=>exact yR hcl k x p hox (hcl x p hox (hb x hx)) j hj'
end Go.V
namespace Go.V
section
variable {P:Program} {c:bC} {n:Nat} {pre zs:List Oper} {Fs:List an} {L:List ae} {Q:bG} {E C:List Nat} {Ev:List (Nat×Value)}
theorem yO {listed:Array Bool} {i:Nat} (hi:i<listed.size):listed.getD i false=listed.getD i true:=by
 simp[gY,hi]
end
end Go.V
namespace Go.V
def z8:List Nat->Bool
 |[]=>true
 |[_]=>true
 |i::j::r=>Nat.blt i j&&z8 (j::r)
theorem DO:∀(l:List Nat),z8 l=true->l.Pairwise (·<·)
 |[],_=> .nil
 |[_],_=>by simp
 |i::j::r,h=>by
  simp only[z8,eI] at h;have ih:=DO (j::r) h.2;have hij:=vM.mp h.1;refine oW.2 ⟨λx hx=>?_,ih⟩;cases hx with
  |head=>exact hij
  |tail _ m=>exact Nat.lt_trans hij ((oW.1 ih).1 x m)
def DF (ops:List Oper) (m:Nat):Nat->List Oper->Bool
 |_,[]=>true
 |j,o::r=>(List.range (m+j)).all (λi=>(fC o).contains i||(lF ops 6 (m+j)).contains i)&&DF ops m (j+1) r
theorem Kr (ops:List Oper) (m:Nat):∀(zs:List Oper) (j0:Nat),DF ops m j0 zs=true->∀(j:Nat) (o:Oper),zs[j]? =some o->∀i,i<m+(j0+j)->i∈fC o\/i∈lF ops 6 (m+(j0+j))
 |[],_,_,j,o,h=>by simp at h
 |p::r,j0,hz,j,o,h=>by
  simp only[DF,eI] at hz;cases j with
  |zero=>
   simp at h;subst h;intro i hi;have:=kD.1 hz.1 i (by simpa using hi);simpa using this
  |succ j=>
   have:=Kr ops m r (j0+1) hz.2 j o (by simpa using h);intro i hi;have h2:=this i aa;rw[show j0+(j+1)=j0+1+j from by omega];exact h2
end Go.V
namespace Go.V
def aJ (e size:Nat) (v:Value) (n:Nat) (xs:List Value) (B:List ae):Prop:=
 xs.length=n*size/\((v= .slice none 0 0/\n=0/\B=[])\/
  ∃g cap cur,v= .slice (some ⟨g,0,none⟩) n cap/\B=[(g,.cells cur e (0,0))]/\n<=cap/\cap<=maxLen/\cur.size=cap*size/\cur.toList.take (n*size)=xs)
theorem aJ.nil (e size:Nat):aJ e size (.slice none 0 0) 0 [] []:=⟨by simp,.inl ⟨rfl,rfl,rfl⟩⟩
theorem acW {P:Program} (w:World) (t ty e:TypeId) (i:TypeInfo) (z:Value) (size:Nat) (ht:P.underlying t=some (.slice e)) (hi:P.info? e=some i) (hz:i.zero=some z)
  (hsize:i.size=size) (hzs:z.cells.size=size) (v:Value) (n:Nat) (xs:List Value) (B:List ae) (hown:aJ e size v n xs B) (hB:∀p∈B,w.heap[p.1]? =some p.2)
  (a:Addr) (m c:Nat) (news:List Value) (hl:news.length=m*size) (hnews:∀j u,news[j]? =some u->w.cell? (a.add j)=some u) (h1:∀u∈news,u.oneCell'=true)
  (h63:n+m<=maxLen) (hbytes:(n+m)*i.bytes<=140737488355328):
  ∃v' w',(Builtin.append_ #[t,t] ty #[v,.slice (some a) m c]).run P w= .ok v' w'/\
   ((v'=v/\w'=w/\m=0/\v= .slice none 0 0)\/
    (∃g cap cur cur',B=[(g,.cells cur e (0,0))]/\w'=w.setRow g cur'/\aJ e size v' (n+m) (xs++news) [(g,.cells cur' e (0,0))]/\v= .slice (some ⟨g,0,none⟩) n cap)\/
    (∃cur',w'=(w.drew).alloc (.cells cur' e)/\aJ e size v' (n+m) (xs++news) [(w.heap.size,.cells cur' e (0,0))])):=by
 subst hsize;have hsmall:n+m<=9223372036854775807:=by simp only[maxLen] at h63;omega
 have hlen:(xs++news).length=(n+m)*i.size:=by rw[aW,hown.1,hl,Gh]
 have grown:∀(old:Nat),old<n+m->aJ e i.size (.slice (some ⟨w.heap.size,0,none⟩) (n+m) (grownCap w (n+m) old e)) (n+m) (xs++news)
   [(w.heap.size,.cells (xs.toArray++news.toArray++Builtin.zeroCells z.cells (grownCap w (n+m) old e-(n+m))) e (0,0))]:=by
  intro old ho;have hge:=grownCap_ge w (n+m) old e;have hcm:grownCap w (n+m) old e<=maxLen:=grownCap_le_maxLen w (n+m) old e h63;refine⟨hlen,.inr ⟨w.heap.size,_,_,O,O,hge,hcm,?_,?_⟩⟩
  ·simp only[Pk,ox,size_zeroCells,hzs,hown.1,hl,<-Gh];congr 1;omega
  ·simp only[J8,cG];rw[<-cG,<-hlen];exact J7
 rcases hown.2 with⟨rfl,rfl,rfl⟩|⟨g,cap,cur,rfl,rfl,hnc,hcm,hcs,htake⟩
 ·have hx:xs=[]:=ow (by simpa using hown.1);subst hx;by_cases hm:m=0
  ·subst hm;have hn:news=[]:=ow (by simpa using hl);subst hn;refine⟨.slice none 0 0,w,?_,.inl ⟨O,O,O,O⟩⟩;simp[Builtin.append_,run_underlying ht,sizeOf,typeInfo,hi,Builtin.lenOf,Builtin.firstCells,loadCells,loadCellsFrom]
  ·have hr:=run_append_nil (P:=P) w t ty e i z ht hi hz a m c news hl hnews aa aa (by have hb:=hbytes;simp only[gX] at hb;omega);have hgr:=grown 0 aa;simp only[gX,j6,Array.empty_append] at hgr ⊢;exact⟨_,_,hr,.inr (.inr ⟨_,O,hgr⟩)⟩
 ·have hg:w.heap[g]? =some (.cells cur e (0,0)):=hB _ (.head _);by_cases hroom:n+m<=cap
  ·have hfit:n*i.size+news.length<=cur.size:=by rw[hl,hcs,<-Gh];exact gI _ hroom
   have hr:=run_append_room (P:=P) w t ty e i ht hi g n cap cur hg a m c news hl hnews h1 hroom hfit;refine⟨_,_,hr,.inr (.inl ⟨g,cap,cur,_,O,O,⟨hlen,.inr ⟨g,cap,_,O,O,hroom,hcm,?_,?_⟩⟩,O⟩)⟩
   ·simp only[ox,aW,lV,jx,vO];omega
   ·rw[htake,<-hlen];exact J7
  ·have holds:∀j u,xs[j]? =some u->w.cell? ((⟨g,0,none⟩:Addr).add j)=some u:=by
    intro j u hu;rw[nk,gX];rw[<-htake,uK] at hu;split at hu
    ·simp only[World.cell?,hg];simpa using hu
    ·cases hu
   have hr:=run_append_grow (P:=P) w t ty e i z ht hi hz ⟨g,0,none⟩ n cap xs hown.1 holds a m c news hl hnews aa aa (growslice_fits aa hbytes);exact⟨_,_,hr,.inr (.inr ⟨_,O,grown cap aa⟩)⟩
theorem bv.own {L A R:List ae} (ht:bv L A R) {p:ae} (h:p∈A):p∈L:=ht.perm.mem_iff.2 (bq _ h)
theorem dN.sub {c:bC} {h:PH} {L L':List ae} {w:World} (re:dN c h L w) (hs:List.Sublist L' L):dN c h L' w:=
 ⟨re.le,re.sat.sub hs,re.fr,⟨re.new.imm,λp hp=>re.new.own p (hs.subset hp)⟩⟩
section
variable {P:Program} {c:bC} {n:Nat} {ops:Array Oper} {Fs:List an} {L:List ae} {f:Fm} {Q:bG} {rest:List Oper}
variable {d:Nat} {ty:TypeId} {ps:String} {aft:Array Edge} {aC:Nat->Option TI} {x y:Operand} {T T':TypeId}
theorem ts {t:Nat} {i:TI} (g:Of P t i) {td:TypeDesc} (h:i.desc=td):P.underlying t=some td:=by
 have:=g.desc default;rw[h] at this;unfold underlying at this;simp only[bo] at this;cases e:P.underlying t with
 |none=>
  exfalso;simp only[program,Sem.run,Result.andThen,e,stuck] at this;cases this
 |some u=>
  simp only[program,Sem.run,Result.andThen,e,bS] at this;cases this;rfl
theorem di (Tb:bZ P aC) {ti te:TI} (ht:aC T=some ti) (hk:ti.kind=1) {e:Nat} (hel:ti.elT=e) (hte:aC e=some te) {size:Nat} (hsz:te.sz=size) (hzc:te.zero.v.cells.size=size)
  {v:Value} {k:Nat} {xs:List Value} {B R:List ae} (hx:ap f x= .b v) (hB:bv L B R) (hown:aJ e size v k xs B)
  {r o m cap:Nat} {news:List Value} (hy:ap f y= .b (.slice (some ⟨r,o,none⟩) m cap)) (hc:fS Fs L r o news) (hl:news.length=m*size) (h1:gN news=true)
  (h63:k+m<=maxLen) (hby:(k+m)*te.bytes<=140737488355328) (hd:Nat.blt d n=true)
  (K:∀v' B',aJ e size v' (k+m) (xs++news) B'->ak P c n ops Fs (R++B') (aT f d v') rest Q):
  ak P c n ops Fs L f (⟨some d,.call ⟨.builtin .append, #[x,y], #[T,T]⟩,ty,ps,aft,none⟩::rest) Q:=by
 refine mX O (bU hd) λh w re al=>?_;subst hel;obtain⟨hdesc,_⟩:=(Tb T ti ht).el hk;have hu:=ts (Tb T ti ht) hdesc;obtain⟨inf,hinf,hi1,hi2,hi3⟩:=(Tb _ te hte).info;have hp:=hB.perm;obtain⟨v',w',hr,hcase⟩:=acW (P:=P) w T ty ti.elT inf te.zero.v size hu hinf hi3 (hi1.trans hsz) hzc v k xs B hown (λp hm=>re.sat.own p (hB.own hm)) ⟨r,o,none⟩ m cap news hl
  (λj u hj=>by rw[nk];exact hc h w re.sat al j u hj) (kD.mp h1) h63 (by rw[hi2];exact hby)
 have hrun:(execOp (λx=>(ap f x).v) ⟨some d,.call ⟨.builtin .append, #[x,y], #[T,T]⟩,ty,ps,aft,none⟩).run P w= .ok (.value v') w':=by
  simp only[execOp,resolve,bo,bS,bV,invoke,builtin,nN,dV,th,hx,hy,Bx.v_b,hr]
 rcases hcase with⟨e1,e2,e3,e4⟩|⟨g,cp,cur,cur',e1,e2,e3,e4⟩|⟨cur',e1,e2⟩
 ·subst e1;subst e2;subst e3;refine⟨_,_,Fs,R++B,h,hrun,re.perm (hp.trans yh),al,K _ _ ?_⟩;have hn:news=[]:=ow (by simpa using hl);subst hn;simpa using hown
 ·subst e1;subst e2;have hpe:L.Perm ((g,.cells cur ti.elT (0,0))::R):=hp;have re1:=re.perm hpe;have hown1:=re1.sat.own (g,.cells cur ti.elT (0,0)) (.head _);simp only at hown1;have re2:=re1.set (w':=w.setRow g cur') (o':= .cells cur' ti.elT (0,0)) .here rfl rfl rfl dK (setRow_heap w g cur cur' _ (0,0) hown1) (λk hk=>setRow_other w g k cur' hk);exact⟨_,_,Fs,R++[(g,.cells cur' ti.elT (0,0))],h,hrun,re2.perm (yh (l₁:=[_])),al,K _ _ e3⟩
 ·subst e1;have reR:dN c h R w:=(re.perm hp).sub (List.sublist_append_right _ _);have re2:=(reR.draw (w.drawn+1)).push (.cells cur' ti.elT);exact⟨_,_,Fs,R++[(w.heap.size,.cells cur' ti.elT (0,0))],h,hrun,re2.perm (yh (l₁:=[_])),al,K _ _ e2⟩
end
end Go.V
namespace Go.V
section
variable {P:Program} {c:bC} {n:Nat} {Fs:List an} {L:List ae} {f:Fm} {Q:bG}
inductive Hl (f:Fm):List (Nat×Value)->Prop where
 |nil:Hl f []
 |cons {i v r}:f i= .b v->Hl f r->Hl f ((i,v)::r)
theorem DK {f:Fm}:∀{l:List (Nat×Value)},Hl f l->rY f l=f
 |[],_=>rfl
 |(i,v)::l,h=>by
  cases h with
  |cons h1 h2=>
   simp only[rY,DK h2];funext t;simp only[aT];cases hb:Nat.beq t i with
   |true=>rw[nO hb,h1];rfl
   |false=>rfl
theorem ak.weaken {ops:Array Oper} {rest:List Oper} {Fs':List an} {L':List ae} (h:ak P c n ops Fs' L' f rest Q) (hF:∀x∈Fs',x∈Fs) (hL:List.Sublist L' L):ak P c n ops Fs L f rest Q:=
 ⟨λa hp w ag re al=>h.out a hp w ag (re.sub hL) λx hx=>al x (hF x hx)⟩
theorem Go.perm {code:Code} {L':List ae} (h:Go P c n Fs L' f code Q) (hL:L.Perm L'):Go P c n Fs L f code Q:=
 ⟨λa hp w ag re al=>h.out a hp w ag (re.perm hL) al⟩
theorem ak.perm {ops:Array Oper} {rest:List Oper} {L':List ae} (h:ak P c n ops Fs L' f rest Q) (hL:L.Perm L'):ak P c n ops Fs L f rest Q:=
 ⟨λa hp w ag re al=>h.out a hp w ag (re.perm hL) al⟩
theorem yL {code:Code} {α:Type} {φ:α->Prop} {G:α->List an} (h:∀hp,cr Fs hp->∃y,φ y/\cr (G y) hp) (k:∀y,φ y->Go P c n (G y++Fs) L f code Q):Go P c n Fs L f code Q:=
 ⟨λa hp w ag re al=>by
  obtain⟨y,h1,h2⟩:=h hp al;exact(k y h1).out a hp w ag re (h2.append al)⟩
theorem qX {ops:Array Oper} {rest:List Oper} {α:Type} {φ:α->Prop} {G:α->List an} (h:∀hp,cr Fs hp->∃y,φ y/\cr (G y) hp) (k:∀y,φ y->ak P c n ops (G y++Fs) L f rest Q):ak P c n ops Fs L f rest Q:=
 ⟨λa hp w ag re al=>by
  obtain⟨y,h1,h2⟩:=h hp al;exact(k y h1).out a hp w ag re (h2.append al)⟩
theorem z7 {fid:FuncId} {args:Array Value} {R:cZ} {α:Type} {φ:α->Prop} {G:α->List an} (h:∀hp,cr Fs hp->∃y,φ y/\cr (G y) hp) (k:∀y,φ y->ai P fid args (G y++Fs) L R):ai P fid args Fs L R:=
 λhp w sa al=>by
  obtain⟨y,h1,h2⟩:=h hp al;exact k y h1 hp w sa (h2.append al)
def aO (r o:Nat) (xs:List Value):an where
 p h:=∃cs T fz,h r=some (.cells cs T fz)/\(cs.toList.drop o).take xs.length=xs
 mono:=λhle ⟨cs,T,fz,h1,h2⟩=>⟨cs,T,fz,hle _ _ h1,h2⟩
theorem aR {r o:Nat} {xs:List Value} (hm:aO r o xs∈Fs):fS Fs L r o xs:=by
 intro h w sa al j v hv;obtain⟨cs,T,fz,h1,h2⟩:=al _ hm;have hw:=sa.imm _ _ h1;have hj:j<xs.length:=by
  rcases dL j xs.length with l|g
  ·exact l
  ·rw[gZ g] at hv;cases hv
 rw[<-h2,uK,if_pos hj,vL] at hv;simp only[World.cell?,hw];simpa using hv
theorem jp {r o k:Nat} {xs:List Value} (h:fS Fs L r o xs) {m:Nat}:fS Fs L r (o+k) ((xs.drop k).take m):=by
 intro hp w sa al j v hv;rw[uK] at hv;split at hv
 ·rw[vL] at hv;have:=h hp w sa al (k+j) v hv;rw[Dj];exact this
 ·cases hv
theorem cY {r o j:Nat} {v:Value} {xs:List Value} (h:fS Fs L r o xs) (hv:xs[j]? =some v):uz Fs L r (o+j) v:=λhp w sa al=>h hp w sa al j v hv
theorem dN.freeze {h:PH} {w:World} {r:Nat} {o:Obj} {R:List ae} (re:dN c h L w) (hT:bv L [(r,o)] R):dN c (λk=>bif Nat.beq k r then some o else h k) R w:=by
 have hp:=hT.perm;have re':=re.perm hp;have hown:=re'.sat.own (r,o) (.head _);have hnone:=re'.sat.apart (r,o) (.head _);have hnd:=la.1 re'.sat.nodup;have hle:PH.le h (λk=>bif Nat.beq k r then some o else h k):=by
  intro k x hx;cases hb:Nat.beq k r with
  |true=>rw[nO hb] at hx;simp only at hnone;rw[hnone] at hx;cases hx
  |false=>simpa[hb] using hx
 have hR:=re'.sub (List.sublist_cons_self _ R);refine⟨PH.le_trans re.le hle,⟨λk x hx=>?_,hR.sat.own,hR.sat.nodup,λp hp=>?_⟩,re.fr,⟨λk hk=>?_,hR.new.own⟩⟩
 ·cases hb:Nat.beq k r with
  |true=>
   rw[hb] at hx;simp only[cond_true] at hx;cases hx;rw[nO hb];exact hown
  |false=>rw[hb] at hx;exact re.sat.imm k x hx
 ·have hne:p.1≠r:=λe=>hnd.1 (aM.2 ⟨p,hp,e⟩);have hb:Nat.beq p.1 r=false:=by
   cases hb:Nat.beq p.1 r
   ·rfl
   ·exact absurd (nO hb) hne
  simp only[hb,cond_false];exact hR.sat.apart p hp
 ·cases hb:Nat.beq k r with
  |true=>
   rw[nO hb];exact .inr (re'.new.own (r,o) (.head _))
  |false=>rw[hb] at hk;exact re.new.imm k hk
theorem U1 {h:PH} {r:Nat} {cs:Array Value} {T:TypeId} {fz:Nat×Nat}:(aO r 0 cs.toList).p (λk=>bif Nat.beq k r then some (.cells cs T fz) else h k):=
 ⟨cs,T,fz,by simp,by rw[Dz,dg]⟩
theorem EW {h:PH} {w:World} {r:Nat} {o:Obj} {R:List ae} (re:dN c h L w) (hT:bv L [(r,o)] R):PH.le h (λk=>bif Nat.beq k r then some o else h k):=by
 have hnone:=(re.perm hT.perm).sat.apart (r,o) (.head _);intro k x hx;cases hb:Nat.beq k r with
 |true=>rw[nO hb] at hx;simp only at hnone;rw[hnone] at hx;cases hx
 |false=>simpa[hb] using hx
theorem dl {code:Code} {r:Nat} {cs:Array Value} {T:TypeId} {fz:Nat×Nat} {R:List ae} (hT:bv L [(r,.cells cs T fz)] R) (k:Go P c n (aO r 0 cs.toList::Fs) R f code Q):Go P c n Fs L f code Q:=
 ⟨λa _ w ag re al=>k.out a _ w ag (re.freeze hT) (.cons U1 (al.mono (EW re hT)))⟩
theorem xK {ops:Array Oper} {rest:List Oper} {r:Nat} {cs:Array Value} {T:TypeId} {fz:Nat×Nat} {R:List ae} (hT:bv L [(r,.cells cs T fz)] R) (k:ak P c n ops (aO r 0 cs.toList::Fs) R f rest Q):ak P c n ops Fs L f rest Q:=
 ⟨λa _ w ag re al=>k.out a _ w ag (re.freeze hT) (.cons U1 (al.mono (EW re hT)))⟩
def bF (size:Nat) (v:Value) (n:Nat) (xs:List Value):an where
 p h:=xs.length=n*size/\((∃q cp,v= .slice q 0 cp/\n=0)\/∃g o cap,v= .slice (some ⟨g,o,none⟩) n cap/\(n<=cap/\cap<=maxLen)/\(aO g o xs).p h)
 mono:=λhle ⟨h1,h2⟩=>⟨h1,h2.imp id λ⟨g,o,cap,e,hc,h⟩=>⟨g,o,cap,e,hc,(aO g o xs).mono hle h⟩⟩
theorem GK {P:Program} {Fs:List an} {L:List ae} {fid:FuncId} {args:Array Value} {R:cZ} {size:Nat} {v:Value} {k:Nat} {xs:List Value} (hm:bF size v k xs∈Fs) (h0:0<k)
  (K:∀g o cap,v= .slice (some ⟨g,o,none⟩) k cap->k<=cap->cap<=maxLen->xs.length=k*size->ai P fid args (aO g o xs::Fs) L R):ai P fid args Fs L R:=λhp w sa al=>by
 obtain⟨h1,h2⟩:=al _ hm;rcases h2 with⟨q,cp,e,e'⟩|⟨g,o,cap,e,⟨hc,hx⟩,h⟩
 ·omega
 ·exact K g o cap e hc hx h1 hp w sa (.cons h al)
theorem tu {P:Program} {Fs:List an} {L:List ae} {fid:FuncId} {args:Array Value} {R:cZ} {F:an} {φ:Prop} (hm:F∈Fs) (hφ:∀hp,F.p hp->φ) (K:φ->ai P fid args Fs L R):ai P fid args Fs L R:=λhp w sa al=>K (hφ hp (al _ hm)) hp w sa al
theorem uX {size:Nat} {v:Value} {k:Nat} {xs:List Value} {hp:PH} (h:(bF size v k xs).p hp):xs.length=k*size/\k<=maxLen:=by
 obtain⟨h1,h2⟩:=h;refine⟨h1,?_⟩;rcases h2 with⟨q,cp,e,e'⟩|⟨g,o,cap,e,⟨hc,hx⟩,h⟩<;>omega
theorem eN {code:Code} {e size k:Nat} {v:Value} {xs:List Value} {B R:List ae} (hs:aJ e size v k xs B) (hT:bv L B R) (K:Go P c n (bF size v k xs::Fs) R f code Q):Go P c n Fs L f code Q:=by
 rcases hs.2 with⟨e1,e2,e3⟩|⟨g,cap,cur,e1,e2,h3,h4,h5,h6⟩
 ·subst e3;refine⟨λa h0 w ag re al=>K.out a h0 w ag ((re.perm hT.perm).perm dK) (.cons ⟨hs.1,.inl ⟨none,0,e1,e2⟩⟩ al)⟩
 ·subst e2;refine⟨λa _ w ag re al=>K.out a _ w ag (re.freeze hT) (.cons ⟨hs.1,.inr ⟨g,0,cap,e1,⟨h3,h4⟩,cur,e,(0,0),by simp,?_⟩⟩ (al.mono (EW re hT)))⟩;rw[Dz,hs.1];exact h6
end
end Go.V
namespace Go.V
section
variable {P:Program} {c:bC} {n:Nat} {ops:Array Oper} {Fs:List an} {L:List ae} {f:Fm} {Q:bG} {rest:List Oper}
variable {d:Nat} {ty:TypeId} {ps:String} {aft:Array Edge} {aC:Nat->Option TI} {x y:Operand} {T T':TypeId} {op:Op} {dst:Option Tmp}
theorem PV {a:Act} (ag:Ag n a f) {g t:Nat} {b:Bool} (hg:(ops[g]?).bind (·.dst)=some t) (hb:f t= .b (.bool b)):yielded ops a.tmps g=some b:=by
 have h1:=ag.get t;rw[hb,Bx.v_b] at h1;unfold yielded;rw[hg];simp only[lh];cases e:a.tmps[t]? with
 |none=>simp[gY,e,undef] at h1
 |some v=>
  simp only[gY,e,mM] at h1;subst h1;rfl
theorem ah {g t:Nat} {b:Bool} (hg:(ops[g]?).bind (·.dst)=some t) (hb:f t= .b (.bool b)) (k:ak P c n ops Fs L f (⟨dst,op,ty,ps,aft,none⟩::rest) Q):
  ak P c n ops Fs L f (⟨dst,op,ty,ps,aft,some (g,b)⟩::rest) Q:=by
 refine⟨λa h w ag re al=>?_⟩;have hk:=k.out a h w ag re al;have hy:=PV (ops:=ops) ag hg hb;unfold wpList at hk ⊢;have e1:Region.wanted ⟨dst,op,ty,ps,aft,some (g,b)⟩ (yielded ops a.tmps)=true:=by simp[Region.wanted,hy]
 have e2:Region.wanted ⟨dst,op,ty,ps,aft,none⟩ (yielded ops a.tmps)=true:=rfl;rw[e2] at hk;rw[e1];exact hk
theorem Uk {g t:Nat} {b b':Bool} (hg:(ops[g]?).bind (·.dst)=some t) (hb:f t= .b (.bool b')) (hne:(b'==b)=false) (hd:∀i,dst=some i->i<n)
  (k:ak P c n ops Fs L (gh f dst undef) rest Q):ak P c n ops Fs L f (⟨dst,op,ty,ps,aft,some (g,b)⟩::rest) Q:=
 ahC rfl (λ_ ag=>PV (ops:=ops) ag hg hb) hne hd k
theorem ah4 (Tb:bZ P aC) {ti te:TI} (ht:aC T=some ti) (hk:ti.kind=1) {e:Nat} (hel:ti.elT=e) (hte:aC e=some te) {len size:Nat} (hsz:te.sz=size) (hp0:Nat.blt 0 size=true)
  {zl:List Value} (hz:NF (xS te.zero.v) zl) (hzl:Nat.beq zl.length size=true) (hbig:Nat.ble (len*size) 16777216=true)
  {parts:List (Nat×Operand)} {pv:List (Nat×Value)} (hp:uw f parts pv)
  (hb:Cm ((List.range len).map λi=>(i*size,size)) ((List.range (len*size)).map λi=>zl.getD (i%size) undef) pv=true)
  {cs:List Value} (hn:NF (Cn ((List.range len).map λi=>(i*size,size)) ((List.range (len*size)).map λi=>zl.getD (i%size) undef) pv) cs) (hd:Nat.blt d n=true)
  (hpl:pv.all (λp=>Nat.blt p.1 len)=true)
  (k:∀r,ak P c n ops Fs ((r,.cells cs.toArray e)::L) (aT f d (.slice (some ⟨r,0,none⟩) len len)) rest Q):
  ak P c n ops Fs L f (⟨some d,.buildSlice T len parts.toArray,ty,ps,aft,none⟩::rest) Q:=by
 refine mX O (bU hd) λh w re al=>?_;subst hel;obtain⟨hdesc,hsr⟩:=(Tb T ti ht).el hk;have h1:=(Tb T ti ht).desc w;rw[hdesc] at h1;have h2:=(Tb _ te hte).sz w;rw[hsz] at h2;have h3:=(Tb _ te hte).zero w;have hm:(List.map (λp:Nat×Operand=>(p.1,(ap f p.2).v)) parts)=pv:=hp.map;have e:=hn.eq;have hpos:=vM.mp hp0;have hzl':=nO hzl;have hzz:te.zero.v.cells=zl.toArray:=by rw[Fb,hz.eq]
 have hfill:=Ib _ pv _ hb;rw[e] at hfill;have hplace:∀pv':List (Nat×Value),pv'.all (λp=>Nat.blt p.1 len)=true->∀z:Array Value,Instr.fill (λi=>some (i*size,size)) z pv'=Instr.fill (λi=>((List.range len).map λi=>(i*size,size))[i]?) z pv':=by
  intro pv'
  induction pv' with
  |nil=>intro _ _;rfl
  |cons p r ih=>
   intro hall z;obtain⟨i,v⟩:=p;simp only[List.all_cons,eI] at hall;have hi:i<len:=vM.mp hall.1;unfold Instr.fill;have:((List.range len).map λi=>(i*size,size))[i]? =some (i*size,size):=by simp[hi]
   rw[this];simp only;split
   ·rfl
   ·exact ih hall.2 _
 have hfill2:=hplace pv hpl ((List.range (len*size)).map λi=>zl.getD (i%size) undef).toArray;rw[hfill] at hfill2;have hzero:(Array.range (len*size)).map (te.zero.v.cells[·%te.zero.v.cells.size]!)=((List.range (len*size)).map λi=>zl.getD (i%size) undef).toArray:=by
  rw[hzz];apply xc;simp only[J1,J5,ox,hzl'];refine Bc ?_;intro i _;have:i%size<zl.length:=by rw[hzl'];exact nI _ hpos
  simp[this]
 have hbig':¬(len*size>2^24):=by have:=zL.mp hbig;omega
 refine⟨_,_,Fs,_,h,?_,re.push _,al,k _⟩;simp only[execOp,Instr.buildSlice,bo,h1,bV,h2,hbig',if_false,nN,hm];by_cases h0:len*size=0
 ·simp only[h0,if_true];rw[h0] at hfill2;have hz1:(List.map (λi=>zl.getD (i%size) undef) (List.range 0)).toArray= #[]:=rfl;rw[hz1] at hfill2;have hz0:(Array.map (λx=>(#[]:Array Value)[x%(#[]:Array Value).size]!) (Array.range 0))= #[]:=by apply xc;simp
  simp only[bS,bV,hz0,hfill2,newRow,newObj,bo,Sem.run]
 ·simp only[h0,if_false,bo,h3,bV,bS,hzero,hfill2,newRow,newObj,Sem.run]
end
end Go.V
namespace Go.V
def jA (zl:List Value) (sz n:Nat):List Value:=(List.range (n*sz)).map λi=>zl.getD (i%sz) undef
theorem PU (zl:List Value) (sz n:Nat):(jA zl sz n).length=n*sz:=by simp[jA]
theorem XU (zl:List Value) (sz l c:Nat) (h:l<=c):(jA zl sz c).take (l*sz)=jA zl sz l:=by
 unfold jA;rw[<-List.map_take,List.take_range,Br (gI _ h)]
section
variable {P:Program} {c:bC} {n:Nat} {ops:Array Oper} {Fs:List an} {L:List ae} {f:Fm} {Q:bG} {rest:List Oper}
variable {d:Nat} {ty:TypeId} {ps:String} {aft:Array Edge} {aC:Nat->Option TI} {x y:Operand} {T T':TypeId} {op:Op} {dst:Option Tmp}
theorem pk (Tb:bZ P aC) {ti te:TI} (ht:aC T=some ti) (hk:ti.kind=1) {e:Nat} (hel:ti.elT=e) (hte:aC e=some te) {size:Nat} (hsz:te.sz=size) (hp0:Nat.blt 0 size=true)
  {zl:List Value} (hz:NF (xS te.zero.v) zl) (hzl:Nat.beq zl.length size=true) {l cp:Nat} {ki kj:IntKind} (hx:ap f x= .b (.int ki l)) (hy:ap f y= .b (.int kj cp)) (hle:l<=cp)
  (hb0:Nat.blt 0 te.bytes=true) (hbig:cp*te.bytes<=140737488355328) (hd:Nat.blt d n=true)
  (k:∀v B,aJ e size v l (jA zl size l) B->ak P c n ops Fs (B++L) (aT f d v) rest Q):
  ak P c n ops Fs L f (⟨some d,.makeSlice T x y,ty,ps,aft,none⟩::rest) Q:=by
 refine mX O (bU hd) λh w re al=>?_;subst hel;obtain⟨hdesc,hsr⟩:=(Tb T ti ht).el hk;have hu:=ts (Tb T ti ht) hdesc;obtain⟨inf,hinf,hi1,hi2,hi3⟩:=(Tb _ te hte).info;have hpos:=vM.mp hp0;have hbp:=vM.mp hb0;have hzl':=nO hzl;have hzz:te.zero.v.cells=zl.toArray:=by rw[Fb,hz.eq]
 have hcp:cp<=140737488355328:=tc (Nat.le_mul_of_pos_right cp hbp) hbig;have hzero:madeCells te.zero.v.cells (cp*size)=(jA zl size cp).toArray:=by
  rw[hzz];apply xc;simp only[madeCells,jA,J1,J5,ox,hzl'];refine Bc ?_;intro i _;have:i%size<zl.length:=by rw[hzl'];exact nI _ hpos
  simp[this]
 have hbig2:((inf.bytes:Int)*(cp:Int))<=281474976710656:=by
  rw[hi2,J0];have:((cp*te.bytes:Nat):Int)<=(140737488355328:Nat):=Int.ofNat_le.2 hbig;rw[Int.natCast_mul] at this;omega
 have hr:=run_make (P:=P) w T ti.elT inf te.zero.v hu hinf hi3 ki kj l cp aa aa hbig2 aa;rw[xa,xa,hi1.trans hsz,hzero] at hr;refine⟨.slice (some ⟨w.heap.size,0,none⟩) l cp,_,Fs,_,h,?_,re.push _,al,k _ [(w.heap.size,.cells (jA zl size cp).toArray ti.elT)] ⟨PU _ _ _,.inr ⟨_,cp,_,O,O,hle,by unfold maxLen;omega,by simp[PU],?_⟩⟩⟩
 ·simp only[execOp,bo,hx,hy,Bx.v_b,hr,bV,bS];rfl
 ·simp only[List.toList_toArray];exact XU zl size l cp hle
end
end Go.V
namespace Go.V
theorem mP {a:an} {r Fs:List an} (h:a∈Fs) (k:∀x∈r,x∈Fs):∀x∈a::r,x∈Fs:=λx hx=>by
 cases hx with
 |head=>exact h
 |tail _ m=>exact k x m
@[simp] theorem amb {k:IntKind} {a:Int}:(Value.int k a).oneCell'=true:=rfl
@[simp] theorem amd {k:FloatKind} {a:Nat}:(Value.float k a).oneCell'=true:=rfl
@[simp] theorem ame {a:Bool}:(Value.bool a).oneCell'=true:=rfl
@[simp] theorem al8 {a:Option Addr}:(Value.pointer a).oneCell'=true:=rfl
@[simp] theorem al7 {a:Option Addr} {n c:Nat}:(Value.slice a n c).oneCell'=true:=rfl
@[simp] theorem amc {T:TypeId} {v:Value}:(Value.iface T v).oneCell'=true:=rfl
@[simp] theorem al9:(Value.nilIface).oneCell'=true:=rfl
@[simp] theorem ama {a:Option Nat}:(Value.map a).oneCell'=true:=rfl
end Go.V
namespace Go.V
open Go.ChangeMaps (setBlock)
def alS (P:Program) (T:TypeId) (w:World) (u v:Value) (b:Bool):Prop:=∀d,(Op.equalIn (d+4) T u v).run P w= .ok b w
structure qH (P:Program) (T:TypeId) (S:World->Value->Prop):Prop where
 eq:∀w u v,S w u->S w v->∃b,alS P T w u v b/\(b=true↔u=v)
 chk:∀w u,S w u->∀e d,(Instr.checkKey e (d+4) T u).run P w= .ok () w
 bits:∀w u,S w u->Instr.sameBits 10000 u u=true
 desc:∃td,(∀w,(underlying T).run P w= .ok td w)/\∀a b,Instr.sameNow td a b=none
def fZ:Nat->List (Value×Value)->List MapEntry
 |_,[]=>[]
 |i,p::r=>{key:=p.1,val:=p.2,born:=i}::fZ (i+1) r
def bW (kvs:List (Value×Value)):Obj:= .map (fZ 0 kvs).toArray kvs.length
theorem VA:∀(kvs:List (Value×Value)) (i:Nat),(fZ i kvs).length=kvs.length
 |[],_=>rfl
 |_::r,i=>by simp[fZ,VA r]
theorem AA:∀(kvs:List (Value×Value)) (i j:Nat),(fZ i kvs)[j]? =(kvs[j]?).map λp=>{key:=p.1,val:=p.2,born:=i+j}
 |[],_,_=>by simp[fZ]
 |p::r,i,0=>by simp[fZ]
 |p::r,i,j+1=>by
  simp only[fZ,List.getElem?_cons_succ,AA r (i+1) j];congr 1;funext q;congr 1;omega
theorem VB:∀(a b:List (Value×Value)) (i:Nat),fZ i (a++b)=fZ i a++fZ (i+a.length) b
 |[],b,i=>by simp[fZ]
 |p::a,b,i=>by simp only[pY,fZ,VB a b (i+1),cE];rw[Nat.add_right_comm,Dj]
open Classical in
noncomputable def iK:List (Value×Value)->Value->Option Nat
 |[],_=>none
 |p::r,u=>if u=p.1 then some 0 else(iK r u).map (·+1)
open Classical in
noncomputable def fe:List (Value×Value)->Value->Option Value
 |[],_=>none
 |p::r,u=>if u=p.1 then some p.2 else fe r u
open Classical in
noncomputable def jS:List (Value×Value)->Value->Value->List (Value×Value)
 |[],u,v=>[(u,v)]
 |p::r,u,v=>if u=p.1 then(p.1,v)::r else p::jS r u v
section
variable {P:Program} {T:TypeId} {S:World->Value->Prop}
theorem RG (K:qH P T S) (w:World) (u:Value) (hu:S w u):∀(kvs:List (Value×Value)) (i j:Nat),(∀p∈kvs,S w p.1)->
  (Instr.findAsking T u (fZ i kvs) j).run P w= .ok ((iK kvs u).bind λk=>(kvs[k]?).map λp=>(j+k,p.2)) w
 |[],i,j,_=>by simp[fZ,Instr.findAsking,iK]
 |p::r,i,j,h=>by
  obtain⟨b,hb,hb'⟩:=K.eq w u p.1 hu (h p (.head _));have he:(Op.equal T u p.1).run P w= .ok b w:=hb 9996;simp only[fZ,Instr.findAsking,bo,he,bV];cases b with
  |true=>
   have:=hb'.1 rfl;simp[iK,this]
  |false=>
   have hne:u≠p.1:=λe=>by have:=hb'.2 e;cases this
   simp only[ld,if_false,iK,hne];rw[RG K w u hu r (i+1) (j+1) λq hq=>h q (.tail _ hq)];congr 1;cases iK r u with
   |none=>rfl
   |some k=>simp;rw[Nat.add_comm k 1,<-Dj]
theorem ajd {td:TypeDesc} (h:∀a b,Instr.sameNow td a b=none) (u:Value):∀(es:List MapEntry) (i:Nat),Instr.findNow td u es i=if es=[] then some none else none
 |[],_=>rfl
 |e::es,i=>by simp[Instr.findNow,h]
theorem RF (K:qH P T S) (w:World) (u:Value) (hu:S w u) (kvs:List (Value×Value)) (hS:∀p∈kvs,S w p.1):
  (Instr.findKey T u (fZ 0 kvs)).run P w= .ok ((iK kvs u).bind λk=>(kvs[k]?).map λp=>(k,p.2)) w:=by
 obtain⟨td,h1,h2⟩:=K.desc;simp only[Instr.findKey,bo,h1,bV,ajd h2];have:=RG K w u hu kvs 0 0 hS;simp only[gX] at this;cases kvs with
 |nil=>simp[fZ,iK]
 |cons p r=>
  rw[if_neg (by simp[fZ])];exact this
theorem Tq:∀(kvs:List (Value×Value)) (u:Value),((iK kvs u).bind λk=>(kvs[k]?).map λp=>(k,p.2))=(iK kvs u).bind λk=>(fe kvs u).map λv=>(k,v)
 |[],u=>rfl
 |p::r,u=>by
  by_cases h:u=p.1
  ·simp[iK,fe,h]
  ·have ih:=Tq r u;simp only[iK,fe,h,if_false];cases hk:iK r u with
   |none=>rfl
   |some k=>
    rw[hk] at ih;simp only[lh,pX,List.getElem?_cons_succ] at ih ⊢;cases hr:r[k]? with
    |none=>rw[hr] at ih;cases hg:fe r u with
     |none=>rfl
     |some v=>rw[hg] at ih;cases ih
    |some q=>rw[hr] at ih;cases hg:fe r u with
     |none=>rw[hg] at ih;cases ih
     |some v=>rw[hg] at ih;simp at ih ⊢;exact ih
theorem MC:∀(kvs:List (Value×Value)) (u:Value),(iK kvs u).isSome=(fe kvs u).isSome
 |[],u=>rfl
 |p::r,u=>by
  by_cases h:u=p.1
  ·simp[iK,fe,h]
  ·simp[iK,fe,h,MC r u]
theorem Tp:∀(kvs:List (Value×Value)) (u:Value) (k:Nat),iK kvs u=some k->∃p,kvs[k]? =some p/\p.1=u/\jS kvs u=λv=>kvs.set k (p.1,v)
 |[],u,k,h=>by cases h
 |p::r,u,k,h=>by
  by_cases e:u=p.1
  ·simp only[iK,e,if_true,xd] at h;subst h;exact⟨p,O,e.symm,by funext v;simp[jS,e]⟩
  ·simp only[iK,e,if_false] at h;cases hk:iK r u with
   |none=>rw[hk] at h;cases h
   |some j=>
    rw[hk] at h;simp only[pX,xd] at h;subst h;obtain⟨q,h1,h2,h3⟩:=Tp r u j hk;exact⟨q,by simpa using h1,h2,by funext v;simp[jS,e,h3]⟩
theorem EE:∀(kvs:List (Value×Value)) (u v:Value),iK kvs u=none->jS kvs u v=kvs++[(u,v)]
 |[],u,v,_=>rfl
 |p::r,u,v,h=>by
  by_cases e:u=p.1
  ·simp[iK,e] at h
  ·simp only[iK,e,if_false] at h;have:iK r u=none:=by cases hk:iK r u with
    |none=>rfl
    |some k=>rw[hk] at h;cases h
   simp[jS,e,EE r u v this]
theorem ae9 (kvs:List (Value×Value)) (k:Nat) (p:Value×Value) (v:Value) (h:kvs[k]? =some p):
  Obj.map ((fZ 0 kvs).toArray.modify k λe=>{e with key:=p.1,val:=v}) kvs.length=bW (kvs.set k (p.1,v)):=by
 unfold bW;rw[Ko];congr 1;apply xc;apply uH;intro i;simp only[Array.toList_modify,List.getElem?_modify,AA,s9];by_cases e:k=i
 ·subst e;have hl:k<kvs.length:=by
   rcases dL k kvs.length with l|g
   ·exact l
   ·rw[gZ g] at h;cases h
  simp[h,hl]
 ·simp[e]
def vh (Fs:List an) (L:List ae) (r:Nat) (kvs:List (Value×Value)):Prop:=∀h w,jU h L w->cr Fs h->w.heap[r]? =some (bW kvs)
theorem eo {Fs:List an} {L:List ae} {r:Nat} {kvs:List (Value×Value)} (hm:(r,bW kvs)∈L):vh Fs L r kvs:=λ_ _ sa _=>sa.own _ hm
def sD (r:Nat) (kvs:List (Value×Value)):an where
 p h:=h r=some (bW kvs)
 mono hle h:=hle _ _ h
theorem EX {Fs:List an} {L:List ae} {r:Nat} {kvs:List (Value×Value)} (hm:sD r kvs∈Fs):vh Fs L r kvs:=λ_ _ sa al=>sa.imm _ _ (al _ hm)
def sZ (S:World->Value->Prop) (Fs:List an) (L:List ae) (us:List Value):Prop:=∀h w,jU h L w->cr Fs h->∀u∈us,S w u
end
section
variable {P:Program} {c:bC} {n:Nat} {ops:Array Oper} {Fs:List an} {L:List ae} {f:Fm} {Q:bG} {rest:List Oper}
variable {d:Nat} {ty:TypeId} {ps:String} {aft:Array Edge} {aC:Nat->Option TI} {x y z:Operand} {T T':TypeId} {op:Op} {dst:Option Tmp} {KT ET:TypeId} {S:World->Value->Prop}
variable {kvs:List (Value×Value)} {r:Nat} {u v:Value}
theorem ahN (hd:Nat.blt d n=true) (k:∀r,ak P c n ops Fs ((r,bW [])::L) (aT f d (.map (some r))) rest Q):
  ak P c n ops Fs L f (⟨some d,.makeMap T none,ty,ps,aft,none⟩::rest) Q:=
 mX rfl (bU hd) λh w re al=>⟨.map (some w.heap.size),_,Fs,_,h,by
  simp only[execOp,Instr.makeMap,bo,JV,newObj,Sem.run,Result.andThen,bS,bind,pure];rfl,re.push _,al,k _⟩
theorem ahM (Tb:bZ P aC) {ti:TI} (ht:aC T=some ti) (hm:ti.desc= .map KT ET) {ki:IntKind} {a:Int} (hx:ap f x= .b (.int ki a)) (hd:Nat.blt d n=true)
  (k:∀r,ak P c n ops Fs ((r,bW [])::L) (aT f d (.map (some r))) rest Q):
  ak P c n ops Fs L f (⟨some d,.makeMap T (some x),ty,ps,aft,none⟩::rest) Q:=
 mX rfl (bU hd) λh w re al=>⟨.map (some w.heap.size),_,Fs,_,h,by
  have h1:=(Tb T ti ht).desc w;rw[hm] at h1;simp only[execOp,Instr.makeMap,bo,pX,hx,Bx.v_b,h1,bV,asInt,asIntOf,bS,newObj,Sem.run];rfl,re.push _,al,k _⟩
theorem RD (Tb:bZ P aC) {ti te:TI} (ht:aC T=some ti) (hm:ti.desc= .map KT ET) (hte:aC ET=some te) (K:qH P KT S) {w:World} (hw:w.heap[r]? =some (bW kvs)) (hu:S w u) (hk:∀p∈kvs,S w p.1) (ok:Bool):
  (Instr.lookup T (.map (some r)) u ok).run P w= .ok (if ok then .tuple #[(fe kvs u).getD te.zero.v,.bool (fe kvs u).isSome] else(fe kvs u).getD te.zero.v) w:=by
 have h1:=(Tb T ti ht).desc w;rw[hm] at h1;have hz:=(Tb ET te hte).zero w;have hf:=RF K w u hu kvs hk;rw[Tq] at hf;have hi:=MC kvs u;simp only[Instr.lookup,bo,h1,bV,getObj,Sem.run,hw,bW,bS,K.chk w u hu _ 9996,hf];cases hx:iK kvs u with
 |none=>
  rw[hx] at hi;have hg:fe kvs u=none:=by cases hg:fe kvs u with
   |none=>rfl
   |some v=>rw[hg] at hi;cases hi
  simp[hg,hz]
 |some k=>
  rw[hx] at hi;cases hg:fe kvs u with
  |none=>rw[hg] at hi;cases hi
  |some v=>simp
theorem ahP (Tb:bZ P aC) {ti te:TI} (ht:aC T=some ti) (hm:ti.desc= .map KT ET) (hte:aC ET=some te) {zv:Value} (hz:te.zero= .b zv) (K:qH P KT S) (hx:ap f x= .b (.map (some r))) (hy:ap f y= .b u)
  (hmap:vh Fs L r kvs) (hS:sZ S Fs L (u::kvs.map (·.1))) (hd:Nat.blt d n=true)
  (k:ak P c n ops Fs L (aT f d (.tuple #[(fe kvs u).getD zv,.bool (fe kvs u).isSome])) rest Q):
  ak P c n ops Fs L f (⟨some d,.lookup T x y true,ty,ps,aft,none⟩::rest) Q:=
 dh rfl (bU hd) _ (λh w sa al=>by
  have hk:=hS h w sa al;simp only[execOp,hx,hy,Bx.v_b,bo,RD Tb ht hm hte K (hmap h w sa al) (hk u (.head _)) (λp hp=>hk p.1 (.tail _ (aM.2 ⟨p,hp,rfl⟩))) true,hz,bV];rfl) k
theorem ahQ (Tb:bZ P aC) {ti te:TI} (ht:aC T=some ti) (hm:ti.desc= .map KT ET) (hte:aC ET=some te) {zv:Value} (hz:te.zero= .b zv) (K:qH P KT S) (hx:ap f x= .b (.map (some r))) (hy:ap f y= .b u)
  (hmap:vh Fs L r kvs) (hS:sZ S Fs L (u::kvs.map (·.1))) (hd:Nat.blt d n=true)
  (k:ak P c n ops Fs L (aT f d ((fe kvs u).getD zv)) rest Q):
  ak P c n ops Fs L f (⟨some d,.lookup T x y false,ty,ps,aft,none⟩::rest) Q:=
 dh rfl (bU hd) _ (λh w sa al=>by
  have hk:=hS h w sa al;simp only[execOp,hx,hy,Bx.v_b,bo,RD Tb ht hm hte K (hmap h w sa al) (hk u (.head _)) (λp hp=>hk p.1 (.tail _ (aM.2 ⟨p,hp,rfl⟩))) false,hz,bV];rfl) k
theorem ahL (Tb:bZ P aC) {ti:TI} (ht:aC T=some ti) (hm:ti.desc= .map KT ET) (K:qH P KT S) (hx:ap f x= .b (.map (some r))) (hy:ap f y= .b u) (hv:ap f z= .b v)
  {L':List ae} (hU:cf L r (bW kvs) (bW (jS kvs u v)) L') (hS:sZ S Fs L (u::kvs.map (·.1)))
  (k:ak P c n ops Fs L' f rest Q):
  ak P c n ops Fs L f (⟨none,.mapUpdate T x y z,ty,ps,aft,none⟩::rest) Q:=
 Uo rfl VL λh w re al=>by
  have hkk:=hS h w re.sat al;have hu:S w u:=hkk u (.head _);have hk:∀p∈kvs,S w p.1:=λp hp=>hkk p.1 (.tail _ (aM.2 ⟨p,hp,rfl⟩));have hw:=re.sat.own _ hU.mem;simp only at hw;have h1:=(Tb T ti ht).desc w;rw[hm] at h1;have hf:=RF K w u hu kvs hk;have hck:(Instr.checkKey false 10000 KT u).run P w= .ok () w:=K.chk w u hu _ 9996;refine⟨setBlock w r (bW (jS kvs u v)),Fs,L',h,?_,?_,al,k⟩
  ·simp only[execOp,hx,hy,hv,Bx.v_b,bo,Instr.mapUpdate,h1,bV,getObj,Sem.run,hw,bW,hck,hf];cases hi:iK kvs u with
   |none=>
    rw[EE kvs u v hi];simp only[Option.bind_none,setObj,Sem.run,hw,bW];congr 1;unfold setBlock;congr 2;simp[VB,fZ]
   |some k=>
    obtain⟨p,hp,hpu,hput⟩:=Tp kvs u k hi;subst hpu;have hget:(fZ 0 kvs).toArray[k]? =some {key:=p.1,val:=p.2,born:=k}:=by simp[AA,hp]
    have hks:(Instr.keyThatStays p.1 p.1).run P w= .ok p.1 w:=by simp[Instr.keyThatStays,K.bits w p.1 hu]
    have hset:=ae9 kvs k p v hp;simp only[lh,hp,pX,hget,mM,hks,bV,setObj,Sem.run,hw,bW,bo];unfold bW at hset;rw[hput];rw[hset];rfl
  ·refine re.set hU O O O ?_ ?_ λj hj=>?_
   ·simp[setBlock]
   ·simp only[setBlock];have:r<w.heap.size:=by
     rcases dL r w.heap.size with l|g
     ·exact l
     ·simp[oU g] at hw
    simp[this]
   ·simp only[setBlock];rw[PS aa]
theorem Ng (Tb:bZ P aC) {ti:TI} (ht:aC T=some ti) (hm:ti.desc= .map KT ET) (hx:ap f x= .b (.map (some r))) (hmap:vh Fs L r kvs) (hb:kvs.length<=140737488355328) (hd:Nat.blt d n=true)
  (k:ak P c n ops Fs L (aT f d (.int .i64 kvs.length)) rest Q):ak P c n ops Fs L f (⟨some d,.call ⟨.builtin .len, #[x], #[T]⟩,ty,ps,aft,none⟩::rest) Q:=
 dh rfl (bU hd) _ (λh w sa al=>by
  have h1:=(Tb T ti ht).desc w;rw[hm] at h1;have hw:=hmap h w sa al;simp only[execOp,resolve,bo,bS,bV,invoke,builtin,Builtin.len_,nN,dV,th,hx,Bx.v_b];simp[h1,hw,bW,getObj,Sem.run,VA,goInt]) k
end
end Go.V
namespace Go.V
open Go.ChangeMaps (setBlock)
def jH (m n:Nat) (seen:List Nat):Obj:= .mapIter (some m) n seen.toArray n
theorem afS {kvs:List (Value×Value)} {seen:List Nat} {e:MapEntry} (h:e∈(leftOf (fZ 0 kvs).toArray seen.toArray).toList):
  ∃p,kvs[e.born]? =some p/\e.key=p.1/\e.val=p.2/\e.born∉seen/\e.born<kvs.length:=by
 unfold leftOf at h;simp only[Array.toList_filter,uJ] at h;obtain⟨h1,h2⟩:=h;obtain⟨j,hj⟩:=lg h1;rw[AA] at hj;cases hk:kvs[j]? with
 |none=>rw[hk] at hj;cases hj
 |some p=>
  rw[hk] at hj;simp only[pX,xd,gX] at hj;subst hj;refine⟨p,hk,O,O,?_,?_⟩
  ·simpa using h2
  ·rcases dL j kvs.length with l|g
   ·exact l
   ·rw[gZ g] at hk;cases hk
theorem afR {kvs:List (Value×Value)} {seen:List Nat} (h:(leftOf (fZ 0 kvs).toArray seen.toArray).size=0):∀i,i<kvs.length->i∈seen:=by
 intro i hi;have h0:leftOf (fZ 0 kvs).toArray seen.toArray= #[]:=Array.eq_empty_of_size_eq_zero h;unfold leftOf at h0;rw[Array.filter_eq_empty_iff] at h0;have hm:({key:=kvs[i].1,val:=kvs[i].2,born:=i}:MapEntry)∈(fZ 0 kvs).toArray:=by
  have:(fZ 0 kvs)[i]? =some ({key:=kvs[i].1,val:=kvs[i].2,born:=i}:MapEntry):=by
   rw[AA,aG hi];simp
  simpa using List.mem_of_getElem? this
 have:=h0 _ hm;simpa using this
section
variable {P:Program} {c:bC} {n:Nat} {ops:Array Oper} {Fs:List an} {L:List ae} {f:Fm} {Q:bG} {rest:List Oper}
variable {d:Nat} {ty:TypeId} {ps:String} {aft:Array Edge} {aC:Nat->Option TI} {x y z:Operand} {T T':TypeId} {op:Op} {dst:Option Tmp} {KT ET:TypeId} {S:World->Value->Prop}
variable {kvs:List (Value×Value)} {m r:Nat} {u v:Value} {seen:List Nat}
theorem uS (Tb:bZ P aC) {ti:TI} (ht:aC T=some ti) (hm:ti.desc= .map KT ET) (hx:ap f x= .b (.map (some m))) (hmap:vh Fs L m kvs) (hd:Nat.blt d n=true)
  (k:∀r,ak P c n ops Fs ((r,jH m kvs.length [])::L) (aT f d (.pointer (some ⟨r,0,none⟩))) rest Q):
  ak P c n ops Fs L f (⟨some d,.range T x,ty,ps,aft,none⟩::rest) Q:=
 mX rfl (bU hd) λh w re al=>⟨.pointer (some ⟨w.heap.size,0,none⟩),_,Fs,_,h,by
  have h1:=(Tb T ti ht).desc w;rw[hm] at h1;have hw:=hmap h w re.sat al;simp only[execOp,Instr.range,bo,hx,Bx.v_b,h1,bV,getObj,Sem.run,hw,bW,bS,newObj];rfl,re.push (jH m kvs.length []),al,k _⟩
theorem ahJ (hx:ap f x= .b (.pointer (some ⟨r,0,none⟩))) (hmap:vh Fs L m kvs) (hit:(r,jH m kvs.length seen)∈L)
  {Lu:List Nat->List ae} (hU:∀i,cf L r (jH m kvs.length seen) (jH m kvs.length (seen++[i])) (Lu (seen++[i]))) (hd:Nat.blt d n=true)
  (kend:(∀i,i<kvs.length->i∈seen)->ak P c n ops Fs L (aT f d (.tuple #[.bool false])) rest Q)
  (kone:∀(i:Nat) (p:Value×Value),kvs[i]? =some p->i∉seen->i<kvs.length->ak P c n ops Fs (Lu (seen++[i])) (aT f d (.tuple #[.bool true,p.1,p.2])) rest Q):
  ak P c n ops Fs L f (⟨some d,.next x false,ty,ps,aft,none⟩::rest) Q:=
 mX rfl (bU hd) λh w re al=>by
  have hb:=hmap h w re.sat al;have hr:=re.sat.own _ hit;simp only[jH] at hr;have hold:∀x∈(fZ 0 kvs).toArray.toList,x.born<kvs.length:=by
   intro x hx;obtain⟨j,hj⟩:=lg hx;rw[AA] at hj;cases hk:kvs[j]? with
   |none=>rw[hk] at hj;cases hj
   |some p=>
    rw[hk] at hj;simp only[pX,xd,gX] at hj;subst hj;rcases dL j kvs.length with l|g
    ·exact l
    ·rw[gZ g] at hk;cases hk
  rcases run_next_at (P:=P) w ty r m kvs.length kvs.length seen.toArray (fZ 0 kvs).toArray kvs.length hr hb hold (bg _) with⟨h0,hrun⟩|⟨e,he,w1,hw1,hrun⟩
  ·refine⟨_,w,Fs,L,h,?_,re,al,kend (afR h0)⟩;simp only[execOp,bo,hx,Bx.v_b,hrun,bV,bS]
  ·obtain⟨p,h1,h2,h3,h4,h5⟩:=afS he;have re1:dN c h L w1:=by
    rcases hw1 with rfl|rfl
    ·exact re
    ·exact re.draw _
   have hr1:w1.heap[r]? =some (jH m kvs.length seen):=re1.sat.own _ hit;refine⟨.tuple #[.bool true,p.1,p.2],setBlock w1 r (jH m kvs.length (seen++[e.born])),Fs,_,h,?_,?_,al,kone e.born p h1 h4 h5⟩
   ·simp only[execOp,bo,hx,Bx.v_b,hrun,bV,bS,jH,h2,h3];simp
   ·refine re1.set (hU e.born) O O O ?_ ?_ λj hj=>?_
    ·simp[setBlock]
    ·simp only[setBlock];have:r<w1.heap.size:=by
      rcases dL r w1.heap.size with l|g
      ·exact l
      ·simp[oU g] at hr1
     simp[this]
    ·simp only[setBlock];rw[PS aa]
theorem Vz:∀(kvs:List (Value×Value)) (i:Nat),((fZ i kvs).map (·.born)).Nodup/\∀x∈(fZ i kvs).map (·.born),i<=x
 |[],_=>by simp[fZ]
 |p::r,i=>by
  obtain⟨h1,h2⟩:=Vz r (i+1);simp only[fZ,dV,la,bm];refine⟨⟨λh=>by have:=h2 _ h;omega,h1⟩,λx hx=>?_⟩;rcases hx with rfl|h
  ·exact bg _
  ·have:=h2 _ h;omega
theorem uV (hx:ap f x= .b (.pointer (some ⟨r,0,none⟩))) (hmap:vh Fs L m kvs) {i:Nat} (hit:(r,jH m kvs.length (seen++[i]))∈L) {p:Value×Value} (hi:kvs[i]? =some p) (hd:Nat.blt d n=true)
  (k:ak P c n ops Fs L (aT f d (.tuple #[p.1,p.2])) rest Q):
  ak P c n ops Fs L f (⟨some d,.entry x,ty,ps,aft,none⟩::rest) Q:=
 dh rfl (bU hd) _ (λh w sa al=>by
  have hb:=hmap h w sa al;have hr:=sa.own _ hit;simp only[jH] at hr;have he:({key:=p.1,val:=p.2,born:=i}:MapEntry)∈(fZ 0 kvs).toArray.toList:=by
   have:(fZ 0 kvs)[i]? =some ({key:=p.1,val:=p.2,born:=i}:MapEntry):=by rw[AA,hi];simp
   exact bn this
  have hrun:=run_entry_at (P:=P) w r m kvs.length seen.toArray (fZ 0 kvs).toArray kvs.length {key:=p.1,val:=p.2,born:=i} (by rw[hr];simp) hb he (Vz kvs 0).1;simp only[execOp,bo,hx,Bx.v_b,hrun,bV,bS]) k
end
end Go.V
namespace Go.V
section
variable {P:Program} {c:bC} {n:Nat} {ops:Array Oper} {Fs:List an} {L:List ae} {f:Fm} {Q:bG} {rest:List Oper}
variable {d:Nat} {ty:TypeId} {ps:String} {aft:Array Edge} {aC:Nat->Option TI} {x y z:Operand} {T T':TypeId} {op:Op} {dst:Option Tmp}
theorem aJ.one {e size:Nat} {v:Value} {n:Nat} {xs:List Value} {B:List ae} (h:aJ e size v n xs B) (hn:0<n):
  ∃g cap cur,v= .slice (some ⟨g,0,none⟩) n cap/\B=[(g,.cells cur e (0,0))]/\n<=cap/\cap<=maxLen/\cur.size=cap*size/\cur.toList.take (n*size)=xs:=by
 rcases h.2 with⟨_,h0,_⟩|h
 ·omega
 ·exact h
theorem aJ.get {size n cap:Nat} {cur:Array Value} {xs:List Value} (h:cur.toList.take (n*size)=xs) {j:Nat} {v:Value} (hv:xs[j]? =some v):cur[j]? =some v:=by
 rw[<-h,uK] at hv;split at hv
 ·simpa using hv
 ·cases hv
theorem aJ.put {e size g cap n:Nat} {cur:Array Value} {xs:List Value} (h:aJ e size (.slice (some ⟨g,0,none⟩) n cap) n xs [(g,.cells cur e (0,0))]) {i:Nat} (hi:i<n) {vs:List Value} (hv:vs.length=size):
  aJ e size (.slice (some ⟨g,0,none⟩) n cap) n (xs.take (i*size)++vs++xs.drop (i*size+size)) [(g,.cells (cur.toList.take (i*size)++vs++cur.toList.drop (i*size+size)).toArray e (0,0))]:=by
 obtain⟨h1,h2⟩:=h;have hle:i*size+size<=n*size:=by rw[<-lU];exact gI _ hi
 rcases h2 with⟨h3,_⟩|⟨g',cap',cur',h3,h4,h5,h6,h7,h8⟩
 ·cases h3
 ·cases h3;simp only[Bm,yg,PR,and_true,true_and] at h4;subst h4;have hcl:n*size<=cur.toList.length:=by simp only[vO,h7];exact gI _ h5
  refine⟨?_,.inr ⟨g,cap,_,O,O,h5,h6,?_,?_⟩⟩
  ·simp only[aW,lV,jx,h1,hv];omega
  ·simp only[ox,aW,lV,jx,hv];rw[<-h7];simp only[vO] at hcl ⊢;omega
  ·subst h8;simp only[List.toList_toArray];have e1:(List.take (i*size) cur.toList).length=i*size:=by rw[lV];omega
   rw[cG,PE,e1,PE,hv,Kl,Kl,O8,cG];have e2:min (n*size) (i*size)=i*size:=by omega
   have e3:min (i*size) (n*size)=i*size:=by omega
   have e4:List.take (n*size-i*size) vs=vs:=eQ aa;rw[e2,e3,e4,Nat.sub_sub]
theorem uQ (Tb:bZ P aC) {ti:TI} (ht:aC T=some ti) {g i size nn cap e:Nat} {v:Value} {vs xs:List Value} {cur:Array Value} {L':Array Value->List ae}
  (hs:aJ e size (.slice (some ⟨g,0,none⟩) nn cap) nn xs [(g,.cells cur e (0,0))]) (hx:ap f x= .b (.pointer (some ⟨g,0+i*size,none⟩))) (hy:ap f y= .b v) (hv:v.cells.toList=vs) (hsz:ti.sz=size) (hl:vs.length=size) (h1:gN vs=true)
  (hi:i<nn) (hU:∀cur',cf L g (.cells cur e (0,0)) (.cells cur' e (0,0)) (L' cur'))
  (k:∀cur',aJ e size (.slice (some ⟨g,0,none⟩) nn cap) nn (xs.take (i*size)++vs++xs.drop (i*size+size)) [(g,.cells cur' e (0,0))]->ak P c n ops Fs (L' cur') f rest Q):
  ak P c n ops Fs L f (⟨none,.store T x y,ty,ps,aft,none⟩::rest) Q:=by
 have hp:=hs.put hi hl;have hvc:v.cells=vs.toArray:=by apply xc;simpa using hv
 have hle:i*size+size<=cur.size:=by
  rcases hs.2 with⟨h3,_⟩|⟨g',cap',cur',h3,h4,h5,h6,h7,h8⟩
  ·cases h3
  ·cases h3;simp only[Bm,yg,PR,and_true,true_and] at h4;subst h4;rw[h7,<-lU];exact gI _ aa
 refine Ar Tb ht hx hy hvc (by simp[hl,hsz]) (by simpa[gN,kD] using h1) (hU _) (by simp[hl];omega) O ?_;have:=k _ hp;simpa[hl,gX] using this
theorem Cq {g o k m:Nat} {xs ec:List Value} {hp:PH} (h:(aO g o xs).p hp) (hkm:k+m<=xs.length) (he:(xs.drop k).take m=ec):(aO g (o+k) ec).p hp:=by
 obtain⟨cs,T,fz,h1,h2⟩:=h;refine⟨cs,T,fz,h1,?_⟩;have hl:ec.length=m:=by rw[<-he,lV,jx];omega
 rw[hl,<-he]
 conv=>rhs;rw[<-h2]
 rw[O8,Kl,O7,Br aa]
theorem cU (Tb:bZ P aC) {ti:TI} (ht:aC T=some ti) (hk:ti.kind=1) {size nn:Nat} (hs:ti.elS=size) {v:Value} {xs:List Value} (hx:ap f x= .b v) {ki:IntKind} {a:Int} (hy:ap f y= .b (.int ki a)) {i:Nat} (hi:a=i)
  (hm:bF size v nn xs∈Fs) (hlt:i<nn) {ec:List Value} (hec:(xs.drop (i*size)).take size=ec) (hd:Nat.blt d n=true)
  (k:∀r o,ak P c n ops (aO r o ec::Fs) L (aT f d (.pointer (some ⟨r,o,none⟩))) rest Q):
  ak P c n ops Fs L f (⟨some d,.indexAddr T x y,ty,ps,aft,none⟩::rest) Q:=by
 refine qX (φ:=λ(q:Nat×Nat×Nat)=>v= .slice (some ⟨q.1,q.2.1,none⟩) nn q.2.2) (G:=λq=>[aO q.1 (q.2.1+i*size) ec]) (λhp al=>?_) (λq hq=>?_)
 ·obtain⟨h1,h2⟩:=al _ hm;rcases h2 with⟨q,cp,e,e'⟩|⟨g,o,cap,e,hnc,hc⟩
  ·omega
  ·refine⟨(g,o,cap),e,.cons (Cq hc ?_ hec) (λ_ h=>nomatch h)⟩;rw[h1,<-lU];exact gI _ hlt
 ·subst hq;exact bp (i:=i) Tb ht hk hs hx hy hi hlt hd (k _ _)
theorem Nh (Tb:bZ P aC) {ti:TI} (ht:aC T=some ti) (hk:ti.kind=1) {size nn:Nat} {v:Value} {xs:List Value} (hx:ap f x= .b v) (hm:bF size v nn xs∈Fs) (hd:Nat.blt d n=true)
  (k:ak P c n ops Fs L (aT f d (.int .i64 nn)) rest Q):ak P c n ops Fs L f (⟨some d,.call ⟨.builtin .len, #[x], #[T]⟩,ty,ps,aft,none⟩::rest) Q:=by
 refine qX (φ:=λ(q:Option Addr×Nat)=>v= .slice q.1 nn q.2) (G:=λq=>[]) (λhp al=>?_) (λq hq=>?_)
 ·obtain⟨h1,h2⟩:=al _ hm;rcases h2 with⟨q,cp,e,e'⟩|⟨g,o,cap,e,hnc,hc⟩
  ·subst e';exact⟨(q,cp),e,λ_ h=>nomatch h⟩
  ·exact⟨(_,cap),e,λ_ h=>nomatch h⟩
 ·subst hq;exact HT Tb ht hk hx hd k
inductive uB (f:Fm) (dflt:Nat):Option Operand->Nat->Prop where
 |none:uB f dflt none dflt
 |some {x:Operand} {ki:IntKind} {i:Int} {l:Nat}:ap f x= .b (.int ki i)->i=l->uB f dflt (some x) l
theorem BE {P:Program} {w:World} {ki:IntKind} {i l y:Nat} {code:BoundsCode} (h:l<=y):(Instr.sliceBound (.int ki (l:Int)) y code).run P w= .ok l w:=by
 simp only[Instr.sliceBound,asIntOf,bo,bS,bV];rw[if_pos ⟨aa,aa⟩];simp
theorem acV {lo hi:Option Operand} {l h len cap:Nat} (h1:uB f 0 lo l) (h2:uB f len hi h) (hlh:l<=h) (hc:h<=cap) (w:World):
  (Instr.sliceBounds true len cap (lo.map λx=>(ap f x).v) (hi.map λx=>(ap f x).v) none).run P w= .ok (l,h,cap) w:=by
 cases h1 with
 |none=>cases h2 with
  |none=>simp[Instr.sliceBounds]
  |some e2 e2'=>subst e2';simp[Instr.sliceBounds,e2,Bx.v_b,BE (P:=P) (i:=0) hc]
 |some e1 e1'=>subst e1';cases h2 with
  |none=>simp[Instr.sliceBounds,e1,Bx.v_b,BE (P:=P) (i:=0) hlh]
  |some e2 e2'=>subst e2';simp[Instr.sliceBounds,e1,e2,Bx.v_b,BE (P:=P) (i:=0) hlh,BE (P:=P) (i:=0) hc]
theorem ER (Tb:bZ P aC) {ti:TI} (ht:aC T=some ti) (hk:ti.kind=1) {size:Nat} (hs:ti.elS=size) {p:Option Addr} {len cap l h:Nat} {lo hi:Option Operand} (hx:ap f x= .b (.slice p len cap))
  (h1:uB f 0 lo l) (h2:uB f len hi h) (hlh:l<=h) (hc:h<=cap) (hd:Nat.blt d n=true)
  (k:ak P c n ops Fs L (aT f d (.slice (if cap=l then p else p.map (·.add (l*size))) (h-l) (cap-l))) rest Q):
  ak P c n ops Fs L f (⟨some d,.slice T x lo hi none,ty,ps,aft,none⟩::rest) Q:=
 dh rfl (bU hd) _ (λhh w sa al=>by
  have hdesc:=(Tb T ti ht).desc w;obtain⟨he,hsz⟩:=(Tb T ti ht).el hk;rw[he] at hdesc;have hz:=hsz w;rw[hs] at hz;have hb:=acV (P:=P) h1 h2 hlh hc w;simp only[execOp,Instr.sliceAt,Instr.slice,bo,hx,Bx.v_b,hdesc,bV,JV,hb,hz,bS]) k
theorem ahG (Tb:bZ P aC) {ti:TI} (ht:aC T=some ti) (hk:ti.kind=1) {size nn:Nat} (hs:ti.elS=size) {v:Value} {xs:List Value} {l h:Nat} {lo hi:Option Operand} (hx:ap f x= .b v) (hm:bF size v nn xs∈Fs)
  (h1:uB f 0 lo l) (h2:uB f nn hi h) (hlh:l<=h) (hc:h<=nn) (hd:Nat.blt d n=true)
  (k:∀v',ak P c n ops (bF size v' (h-l) ((xs.drop (l*size)).take ((h-l)*size))::Fs) L (aT f d v') rest Q):
  ak P c n ops Fs L f (⟨some d,.slice T x lo hi none,ty,ps,aft,none⟩::rest) Q:=by
 refine qX (φ:=λ(q:Option Addr×Nat)=>v= .slice q.1 nn q.2/\nn<=q.2) (G:=λq=>[bF size (.slice (if q.2=l then q.1 else q.1.map (·.add (l*size))) (h-l) (q.2-l)) (h-l) ((xs.drop (l*size)).take ((h-l)*size))]) (λhp al=>?_) (λq hq=>?_)
 ·obtain⟨e1,e2⟩:=al _ hm;have hlen:((xs.drop (l*size)).take ((h-l)*size)).length=(h-l)*size:=by
   rw[lV,jx,e1,<-Nat.sub_mul];exact Br (gI _ aa)
  rcases e2 with⟨q,cp,e,e'⟩|⟨g,o,cap,e,hnc,hcc⟩
  ·subst e';have hh:h=0:=by omega
   have hl:l=0:=by omega
   subst hh;subst hl;refine⟨(q,cp),⟨e,bf _⟩,.cons ⟨hlen,.inl ⟨_,_,O,O⟩⟩ (λ_ h=>nomatch h)⟩
  ·refine⟨(_,cap),⟨e,hnc.1⟩,.cons ⟨hlen,?_⟩ (λ_ h=>nomatch h)⟩;by_cases h0:h-l=0
   ·left;rw[h0];exact⟨_,_,rfl,rfl⟩
   ·right;have hne:¬cap=l:=by omega
    refine⟨g,o+l*size,cap-l,?_,⟨aa,aa⟩,?_⟩
    ·simp only[hne,if_false,pX,nk]
    ·refine Cq hcc ?_ O;rw[e1,<-Gh];exact gI _ aa
 ·obtain⟨hq,hq2⟩:=hq;subst hq;exact ER Tb ht hk hs hx h1 h2 hlh (tc hc hq2) hd (k _)
end
end Go.V
namespace Go.V
section
variable {P:Program} {c:bC} {n:Nat} {ops:Array Oper} {Fs:List an} {L:List ae} {f:Fm} {Q:bG} {rest:List Oper}
variable {d:Nat} {ty:TypeId} {ps:String} {aft:Array Edge} {aC:Nat->Option TI} {x y z:Operand} {T T' T2 te:TypeId} {op:Op} {dst:Option Tmp} {u v r:Value}
theorem qj {b:BinOp} (hx:ap f x= .b u) (hy:ap f y= .b v) (hg:∀w,(eqGuard b T x y u v).run P w= .ok () w) (hr:∀h w,jU h L w->cr Fs h->(Go.binOp b T u v).run P w= .ok r w) (hd:Nat.blt d n=true)
  (k:ak P c n ops Fs L (aT f d r) rest Q):ak P c n ops Fs L f (⟨some d,.binOp b T x y T',ty,ps,aft,none⟩::rest) Q:=
 dh rfl (bU hd) _ (λh w sa al=>by
  simp only[execOp,hx,hy,Bx.v_b,bo,hg,bV,hr h w sa al,bS]) k
theorem M5 {b:BinOp} {p q:Option Addr} (w:World):(eqGuard b T x y (.pointer p) (.pointer q)).run P w= .ok () w:=by
 cases b<;>simp[eqGuard]
theorem ahZ (Tb:bZ P aC) {ti:TI} (ht:aC T=some ti) (hm:ti.desc= .pointer te) {p:Option Addr} (hx:ap f x= .b (.pointer p)) (hy:ap f y= .b (.pointer none)) (hd:Nat.blt d n=true)
  (k:ak P c n ops Fs L (aT f d (.bool p.isNone)) rest Q):ak P c n ops Fs L f (⟨some d,.binOp .eql T x y T',ty,ps,aft,none⟩::rest) Q:=
 qj hx hy M5 (λh w _ _=>by
  have hu:=ts (Tb T ti ht) hm;have e0:∀d,(Op.equalIn (d+1) T (.pointer p) (.pointer none)).run P w= .ok p.isNone w:=λd=>by
   cases p<;>simp[Op.equalIn,run_underlying hu]
  have e:(Op.equal T (.pointer p) (.pointer none)).run P w= .ok p.isNone w:=e0 9999;simp[Go.binOp,e]) hd k
def EM:Value->Bool
 |.nilIface=>true
 |_=>false
def EI:Value->Bool
 |.nilIface=>true
 |.iface _ _=>true
 |_=>false
def MR:TypeDesc->Bool
 |.interface _=>true
 |_=>false
theorem RH (Tb:bZ P aC) {ti:TI} (ht:aC T=some ti) (hm:MR ti.desc=true) (hi:EI u=true) (w:World):(Op.equal T u .nilIface).run P w= .ok (EM u) w:=by
 cases hd:ti.desc with
 |interface ms=>
  have hu:=ts (Tb T ti ht) hd;have e0:∀d,(Op.equalIn (d+1) T u .nilIface).run P w= .ok (EM u) w:=λd=>by
   cases u<;>first|(cases hi;done)|simp[Op.equalIn,run_underlying hu,EM]
  exact e0 9999
 |_=>rw[hd] at hm;cases hm
theorem Uf {b:BinOp} {u v:Value} (hi:EI u=true) (w:World):(eqGuard b T x (.const v) u .nilIface).run P w= .ok () w:=by
 cases u<;>first|(cases hi;done)|(cases b<;>simp[eqGuard])
theorem Uv (Tb:bZ P aC) {ti:TI} (ht:aC T=some ti) (hm:MR ti.desc=true) (hx:ap f x= .b u) (hi:EI u=true) (hd:Nat.blt d n=true)
  (k:ak P c n ops Fs L (aT f d (.bool (EM u))) rest Q):ak P c n ops Fs L f (⟨some d,.binOp .eql T x (.const .nilIface) T',ty,ps,aft,none⟩::rest) Q:=
 qj hx rfl (Uf hi) (λh w _ _=>by simp[Go.binOp,RH Tb ht hm hi w]) hd k
theorem ahK (Tb:bZ P aC) {ti:TI} (ht:aC T=some ti) (hm:MR ti.desc=true) (hx:ap f x= .b u) (hi:EI u=true) (hd:Nat.blt d n=true)
  (k:ak P c n ops Fs L (aT f d (.bool (!EM u))) rest Q):ak P c n ops Fs L f (⟨some d,.binOp .neq T x (.const .nilIface) T',ty,ps,aft,none⟩::rest) Q:=
 qj hx rfl (Uf hi) (λh w _ _=>by simp[Go.binOp,RH Tb ht hm hi w]) hd k
theorem vZ (Tb:bZ P aC) {i j:TI} (hi:aC T=some i) (hj:aC T'=some j) {kj ki:IntKind} (hj':j.desc= .int kj) {a b:Int} (hx:ap f x= .b (.int ki a)) (hw:kj.wrap a=b) (hd:Nat.blt d n=true)
  (k:ak P c n ops Fs L (aT f d (.int kj b)) rest Q):ak P c n ops Fs L f (⟨some d,.convert T T' x,ty,ps,aft,none⟩::rest) Q:=
 dh rfl (bU hd) _ (λh w sa al=>by
  have h1:=(Tb T i hi).desc w;have h2:=(Tb T' j hj).desc w;rw[hj'] at h2;subst hw;simp only[Bx.v_b,execOp,convert,hx,bo,h1,h2,bV];cases i.desc<;>rfl) k
theorem Uu (Tb:bZ P aC) {i j:TI} (hi:aC T=some i) (hj:aC T'=some j) (hj':j.desc= .int .i64) {a:Nat} {m:Int} (hx:ap f x= .b (.float .f64 a)) (hm:(Ieee.double.read a).toInt .zero=some m) (h64:oS m) (hd:Nat.blt d n=true)
  (k:ak P c n ops Fs L (aT f d (.int .i64 m)) rest Q):ak P c n ops Fs L f (⟨some d,.convert T T' x,ty,ps,aft,none⟩::rest) Q:=
 dh rfl (bU hd) _ (λh w sa al=>by
  have h1:=(Tb T i hi).desc w;have h2:=(Tb T' j hj).desc w;rw[hj'] at h2;have e:(Conv.floatToInt .f64 a .i64).run P w= .ok (.int .i64 m) w:=by
   have hm':(FloatKind.f64.decode a).toInt .zero=some m:=hm;obtain⟨h3,h4⟩:=h64;have h5:IntKind.i64.min<=m/\m<=IntKind.i64.max:=⟨h3,h4⟩;simp only[Conv.floatToInt,hm'];rw[if_pos h5];rfl
  simp only[Bx.v_b,execOp,convert,hx,bo,h1,h2,bV];cases i.desc<;>simp[e]) k
theorem aje (len size:Nat):∀pv':List (Nat×Value),pv'.all (λp=>Nat.blt p.1 len)=true->∀z:Array Value,Instr.fill (λi=>some (i*size,size)) z pv'=Instr.fill (λi=>((List.range len).map λi=>(i*size,size))[i]?) z pv':=by
 intro pv'
 induction pv' with
 |nil=>intro _ _;rfl
 |cons p r ih=>
  intro hall z;obtain⟨i,v⟩:=p;simp only[List.all_cons,eI] at hall;have hi:i<len:=vM.mp hall.1;unfold Instr.fill;have:((List.range len).map λi=>(i*size,size))[i]? =some (i*size,size):=by simp[hi]
  rw[this];simp only;split
  ·rfl
  ·exact ih hall.2 _
theorem HX (Tb:bZ P aC) {ti:TI} (ht:aC T=some ti) (hk:ti.kind=2) {z:Array Value} (hz:ti.zero= .b (.agg z)) {parts:List (Nat×Operand)} {pv:List (Nat×Value)} (hp:uw f parts pv)
  (hb:Cm ((List.range ti.len).map λi=>(i*ti.elS,ti.elS)) z.toList pv=true) {cs:List Value} (hn:NF (Cn ((List.range ti.len).map λi=>(i*ti.elS,ti.elS)) z.toList pv) cs) (hpl:pv.all (λp=>Nat.blt p.1 ti.len)=true) (hd:Nat.blt d n=true)
  (k:ak P c n ops Fs L (aT f d (.agg cs.toArray)) rest Q):ak P c n ops Fs L f (⟨some d,.build T parts.toArray,ty,ps,aft,none⟩::rest) Q:=by
 have e:=hn.eq;refine dh O (bU hd) _ (λh w sa al=>?_) k;have h0:=(Tb T ti ht).zero w;have h1:=(Tb T ti ht).desc w;obtain⟨he,hsz⟩:=(Tb T ti ht).ar hk;rw[he] at h1;have hm:(List.map (λp:Nat×Operand=>(p.1,(ap f p.2).v)) parts)=pv:=hp.map;rw[hz,Bx.v_b] at h0;have hfill:=Ib _ pv z.toList hb;have hpc:=aje ti.len ti.elS pv hpl z;simp only[Array.toArray_toList] at hfill;rw[hfill,e] at hpc;simp only[execOp,Instr.build,bo,h0,h1,bV,nN,hm,hsz,Value.cells,hpc,bS]
theorem HU (Tb:bZ P aC) {ti te':TI} (ht:aC T=some ti) (hk:ti.kind=2) {e:Nat} (hel:ti.elT=e) (hte:aC e=some te') {cs:Array Value} (hx:ap f x= .b (.agg cs)) {ki:IntKind} {a:Int} (hy:ap f y= .b (.int ki a)) {i:Nat} (hi:a=i) (hlt:i<ti.len)
  (ha:te'.agg=true) {size:Nat} (hs:te'.sz=size) {es:Array Value} (hes:(cs.extract (i*size) (i*size+size))=es) (hd:Nat.blt d n=true)
  (k:ak P c n ops Fs L (aT f d (.agg es)) rest Q):ak P c n ops Fs L f (⟨some d,.index T x y,ty,ps,aft,none⟩::rest) Q:=
 dh rfl (bU hd) _ (λh w sa al=>by
  subst hi;subst hel;subst hs;subst hes;have h1:=(Tb T ti ht).desc w;obtain⟨he,h2⟩:=(Tb T ti ht).ar hk;rw[he] at h1;have h3:=(Tb _ te' hte).sz w;have h4:=(Tb _ te' hte).agg w;rw[ha] at h4;have h5:(0:Int)<=(i:Int)/\(i:Int)<(ti.len:Int):=⟨aa,aa⟩;simp only[execOp,Instr.index,bo,hx,hy,Bx.v_b,asIntOf,bS,bV,h1,h5,and_self,if_true,h3,part,h4,xa]) k
theorem Ni (Tb:bZ P aC) {ti te':TI} (ht:aC T=some ti) (hk:ti.kind=2) {e:Nat} (hel:ti.elT=e) (hte:aC e=some te') {cs:Array Value} (hx:ap f x= .b (.agg cs)) {ki:IntKind} {a:Int} (hy:ap f y= .b (.int ki a)) {i:Nat} (hi:a=i) (hlt:i<ti.len)
  (ha:te'.agg=false) {size:Nat} (hs:te'.sz=size) {es:Value} (hes:cs[i*size]? =some es) (hd:Nat.blt d n=true)
  (k:ak P c n ops Fs L (aT f d es) rest Q):ak P c n ops Fs L f (⟨some d,.index T x y,ty,ps,aft,none⟩::rest) Q:=
 dh rfl (bU hd) _ (λh w sa al=>by
  subst hi;subst hel;subst hs;have h1:=(Tb T ti ht).desc w;obtain⟨he,h2⟩:=(Tb T ti ht).ar hk;rw[he] at h1;have h3:=(Tb _ te' hte).sz w;have h4:=(Tb _ te' hte).agg w;rw[ha] at h4;have h5:(0:Int)<=(i:Int)/\(i:Int)<(ti.len:Int):=⟨aa,aa⟩;simp only[execOp,Instr.index,bo,hx,hy,Bx.v_b,asIntOf,bS,bV,h1,h5,and_self,if_true,h3,part,h4,xa,hes,ld,if_false]) k
theorem Up {cc:Operand} {b:Bool} {p q:Value} (hc:ap f cc= .b (.bool b)) (hx:ap f x= .b p) (hy:ap f y= .b q) (hd:Nat.blt d n=true) (k:ak P c n ops Fs L (aT f d (if b then p else q)) rest Q):
  ak P c n ops Fs L f (⟨some d,.pick cc x y,ty,ps,aft,none⟩::rest) Q:=by
 cases b with
 |true=>exact Ce hc hx hd (by simpa using k)
 |false=>exact Cf hc hy hd (by simpa using k)
end
end Go.V
namespace Go.V
def tE:List (Nat×Nat)->Nat->Bool
 |[],_=>false
 |p::r,t=>bif Nat.ble p.1 t&&Nat.ble t p.2 then true else tE r t
def qT (M:List (Nat×Nat)) (f g:Fm):Fm:=λt=>bif tE M t then g t else f t
def kZ (M:List (Nat×Nat)) (f f':Fm):Prop:=∀t,tE M t=false->f' t=f t
theorem TF {M:List (Nat×Nat)} {f:Fm}:kZ M f f:=λ_ _=>rfl
theorem agf {M:List (Nat×Nat)} {f g:Fm}:kZ M f (qT M f g):=λt h=>by simp only[qT,h,cond_false]
theorem ML {M:List (Nat×Nat)} {f f':Fm} {i:Nat} {v:Value} (k:kZ M f f') (hi:tE M i=true):kZ M f (aT f' i v):=λt h=>by
 simp only[aT];cases hb:Nat.beq t i with
 |true=>rw[nO hb,hi] at h;cases h
 |false=>exact k t h
theorem agd {M:List (Nat×Nat)} {f f':Fm} {i:Nat} {v:Value} (k:kZ M f f') (hi:tE M i=true):kZ M f (gh f' (some i) v):=ML k hi
theorem TD {M:List (Nat×Nat)} {f f':Fm}:∀{l:List (Nat×Value)},l.all (λp=>tE M p.1)=true->kZ M f f'->kZ M f (rY f' l)
 |[],_,k=>k
 |(i,v)::l,h,k=>by
  simp only[List.all_cons,eI] at h;exact ML (TD h.2 k) h.1
theorem SU {M:List (Nat×Nat)} {t:Nat}:tE M t=true↔∃p∈M,p.1<=t/\t<=p.2:=by
 induction M with
 |nil=>simp[tE]
 |cons q l ih=>
  simp only[tE,bm,exists_eq_or_imp];rw[<-ih];cases h:Nat.ble q.1 t&&Nat.ble t q.2 with
  |true=>simp only[eI,zL] at h;simp[h]
  |false=>
   have:¬(q.1<=t/\t<=q.2):=λe=>by
    have h1:=Nat.ble_eq_true_of_le e.1;have h2:=Nat.ble_eq_true_of_le e.2;rw[h1,h2] at h;cases h
   simp[this]
theorem age {M M2:List (Nat×Nat)} {f f2 g:Fm} (k:kZ M f f2) (h:M2.all (λp=>M.any λq=>Nat.ble q.1 p.1&&Nat.ble p.2 q.2)=true):kZ M f (qT M2 f2 g):=λt ht=>by
 have:tE M2 t=false:=by
  cases hb:tE M2 t with
  |false=>rfl
  |true=>
   obtain⟨p,hp,h1,h2⟩:=SU.1 hb;obtain⟨q,hq,h3⟩:=List.any_eq_true.1 (kD.1 h p hp);simp only[eI,zL] at h3;rw[SU.2 ⟨q,hq,aa,aa⟩] at ht;cases ht
 simp only[qT,this,cond_false];exact k t ht
theorem M3 {M:List (Nat×Nat)} {f f':Fm} (k:kZ M f f'):qT M f f'=f':=by
 funext t;simp only[qT];cases h:tE M t with
 |true=>rfl
 |false=>exact(k t h).symm
theorem bv.front {L:List ae}:∀{B:List ae},bv (B++L) B L
 |[]=> .none
 |_::B=> .take (bv.front (B:=B))
theorem bv.back {B:List ae}:∀{L:List ae},bv (L++B) B L
 |[]=> .all
 |_::L=> .leave (bv.back (L:=L))
theorem bv.skip {L A R:List ae} (h:bv L A R):∀{B:List ae},bv (B++L) A (B++R)
 |[]=>h
 |_::B=> .leave (bv.skip h (B:=B))
theorem cf.right {L L':List ae} {r:Nat} {o o':Obj} (h:cf L r o o' L'):∀{B:List ae},cf (B++L) r o o' (B++L')
 |[]=>h
 |_::B=> .there (cf.right h (B:=B))
inductive jD:List ae->List ae->Prop where
 |nil {L}:jD L []
 |cons {L R T p}:bv L [p] R->jD R T->jD L (p::T)
 |app {L R T B}:bv L B R->jD R T->jD L (B++T)
 |last {L R T}:bv L T R->jD L T
theorem jD.perm {L T:List ae} (h:jD L T):∃R,L.Perm (T++R):=by
 induction h with
 |@nil L=>exact⟨L,.refl _⟩
 |@cons L R T p ht _ ih=>
  obtain⟨S,hs⟩:=ih;exact⟨S,ht.perm.trans (by simpa using hs)⟩
 |@app L R T B ht _ ih=>
  obtain⟨S,hs⟩:=ih;exact⟨S,ht.perm.trans (by rw[cG];exact DC _ hs)⟩
 |@last L R T ht=>exact⟨R,ht.perm⟩
theorem dN.have {c:bC} {h:PH} {L T:List ae} {w:World} (re:dN c h L w) (hv:jD L T):dN c h T w:=by
 obtain⟨R,hp⟩:=hv.perm;exact(re.perm hp).sub (tm _ _)
theorem Go.have {P:Program} {c:bC} {n:Nat} {Fs:List an} {L:List ae} {f:Fm} {Q:bG} {code:Code} {Fs':List an} {L':List ae} (h:Go P c n Fs' L' f code Q) (hF:∀x∈Fs',x∈Fs) (hL:jD L L'):Go P c n Fs L f code Q:=
 ⟨λa hp w ag re al=>h.out a hp w ag (re.have hL) λx hx=>al x (hF x hx)⟩
section
variable {P:Program} {c:bC} {n:Nat} {Fs:List an} {L:List ae} {f:Fm} {Q:bG}
theorem UF {α:Type} (M:List (Nat×Nat)) (I:α->Prop) (sl:α->List (Nat×Value)) (FF:α->List an) (LL:α->List ae) (μ:α->Nat) (x0:α) {body:Code}
  (hI:I x0) (h1:Hl f (sl x0)) (h2:∀g∈FF x0,g∈Fs) (h3:jD L (LL x0))
  (round:∀x g,I x->Go P c n (FF x) (LL x) (rY (qT M f g) (sl x)) body (oL (λf' Fs' L'=>∃x',μ x'<μ x/\I x'/\Hl f' (sl x')/\kZ M f f'/\(∀g∈FF x',g∈Fs')/\jD L' (LL x')) Q)):
  Go P c n Fs L f (.loop body) Q:=by
 refine⟨λa hp w ag re al=>?_⟩;have key:∀(k:Nat) (x:α) (a:Act) (hp:PH) (w:World) (fc:Fm),μ x=k->I x->Ag n a fc->Hl fc (sl x)->kZ M f fc->dN c hp (LL x) w->cr (FF x) hp->
   ∀(b:Frame) (kk:List Item) (cs:List Frame),∃e a' w',jR c n Q e a' w'/\Arrives P (lone (b.at a (.code body:: .inLoop body::kk)) cs w) b kk cs e a' w':=by
  intro k
  induction k using Nat.strongRecOn with
  |_ k ih=>
   intro x a hp w fc hk hIx ag hh hkeep re al b kk cs;have hr:=(round x fc hIx).out a hp w (by rw[M3 hkeep,DK hh];exact ag) re al b (.inLoop body::kk) cs;obtain⟨e,a1,w1,hq,harr⟩:=hr;cases e with
   |normal=>
    obtain⟨f1,Fs1,L1,hp1,ag1,re1,al1,q⟩:=hq;cases q with
    |norm q=>
     obtain⟨x',hlt,hI',hh',hk',hF',hL'⟩:=q;obtain⟨e2,a2,w2,hq2,harr2⟩:=ih (μ x') (hk▸hlt) x' a1 hp1 w1 f1 rfl hI' ag1 hh' hk' (re1.have hL') (λg hg=>al1 g (hF' g hg)) b kk cs;exact⟨e2,a2,w2,hq2,.of_steps (Steps.trans harr (.one step_inLoop)) harr2⟩
   |panic ch=>exact hq.elim
   |outgrown=>exact hq.elim
   |ret=>
    obtain⟨f1,Fs1,L1,hp1,ag1,re1,al1,q⟩:=hq;cases q with
    |ret q=>exact⟨.ret,a1,w1,⟨f1,Fs1,L1,hp1,ag1,re1,al1,q⟩,.pass (x:= .inLoop body) rfl (λ_ _=> .inl dK) harr⟩
   |exit i=>
    obtain⟨f1,Fs1,L1,hp1,ag1,re1,al1,q⟩:=hq;cases q with
    |exit q=>exact⟨.exit i,a1,w1,⟨f1,Fs1,L1,hp1,ag1,re1,al1,q⟩,.pass (x:= .inLoop body) rfl (λ_ _=> .inl dK) harr⟩
   |goto i=>
    obtain⟨f1,Fs1,L1,hp1,ag1,re1,al1,q⟩:=hq;cases q with
    |goto q=>exact⟨.goto i,a1,w1,⟨f1,Fs1,L1,hp1,ag1,re1,al1,q⟩,.pass (x:= .inLoop body) rfl (λ_ _=> .inl dK) harr⟩
 intro b kk cs;obtain⟨e,a',w',hq,harr⟩:=key _ x0 a hp w f rfl hI ag h1 TF (re.have h3) (λg hg=>al g (h2 g hg)) b kk cs;exact⟨e,a',w',hq,.of_steps (.one step_loop) harr⟩
end
end Go.V
namespace Go.V
section
variable {P:Program} {c:bC} {n:Nat} {Fs:List an} {L:List ae} {f:Fm} {Q:bG}
theorem aii {α:Type} (M:List (Nat×Nat)) (I:α->Prop) (sl:α->List (Nat×Value)) (FF:α->List an) (Lv:α->List ae) (μ:α->Nat) (x0:α) {body:Code} {Lc:List ae}
  (hI:I x0) (h1:Hl f (sl x0)) (h2:∀g∈FF x0,g∈Fs) (h3:bv L (Lv x0) Lc)
  (round:∀x g,I x->Go P c n (FF x++Fs) (Lv x++Lc) (rY (qT M f g) (sl x)) body (oL (λf' Fs' L'=>∃x',μ x'<μ x/\I x'/\Hl f' (sl x')/\kZ M f f'/\(∀g∈FF x'++Fs,g∈Fs')/\jD L' (Lv x'++Lc)) Q)):
  Go P c n Fs L f (.loop body) Q:=
 Go.perm (UF M I sl (λx=>FF x++Fs) (λx=>Lv x++Lc) μ x0 hI h1 (λg hg=>by
  rcases bB.1 hg with h|h
  ·exact h2 g h
  ·exact h) (.last .all) round) h3.perm
end
section
variable {P:Program} {c:bC} {n:Nat} {ops:Array Oper} {Fs:List an} {L:List ae} {f:Fm} {Q:bG} {rest:List Oper}
variable {d:Nat} {ty:TypeId} {ps:String} {aft:Array Edge} {aC:Nat->Option TI} {x y z:Operand} {T T':TypeId} {op:Op} {dst:Option Tmp}
theorem Um (Tb:bZ P aC) {ti:TI} (ht:aC T=some ti) {r o:Nat} {v:Value} {cs vs:Array Value} {l:List Value} {t':TypeId} {L':List ae}
  (hx:ap f x= .b (.pointer (some ⟨r,o,none⟩))) (hy:ap f y= .b (v)) (hu:cf L r (.cells cs t' (0,0)) (.cells l.toArray t' (0,0)) L') (hv:v.cells=vs) (hsz:ti.sz=vs.size) (h1:gN vs.toList=true) (hfit:Nat.ble (o+vs.size) cs.size=true)
  (hn:NF (cs.toList.take o++vs.toList++cs.toList.drop (o+vs.size)) l) (k:ak P c n ops Fs L' f rest Q):
  ak P c n ops Fs L f (⟨none,.store T x y,ty,ps,aft,none⟩::rest) Q:=
 ahE Tb ht hx hy hv hsz h1 hfit hn hu k
theorem fY {t:Nat} {b:Bool} (hb:f t= .b (.bool b)) (h1:b=true->ak P c n ops Fs L (aT f t (.bool true)) rest Q) (h2:b=false->ak P c n ops Fs L (aT f t (.bool false)) rest Q):ak P c n ops Fs L f rest Q:=by
 have e:aT f t (.bool b)=f:=by
  funext j;simp only[aT];cases hj:Nat.beq j t with
  |true=>rw[nO hj,hb];rfl
  |false=>rfl
 cases b with
 |true=>have:=h1 rfl;rw[e] at this;exact this
 |false=>have:=h2 rfl;rw[e] at this;exact this
theorem UC {k:IntKind} {a b r:Int} (hx:ap f x= .b (.int k a)) (hy:ap f y= .b (.int k b)) (hr:k.wrap ((BitVec.ofInt k.bits a)&&&(BitVec.ofInt k.bits b)).toNat=r) (hd:Nat.blt d n=true)
  (K:ak P c n ops Fs L (aT f d (.int k r)) rest Q):ak P c n ops Fs L f (⟨some d,.binOp .and T x y T',ty,ps,aft,none⟩::rest) Q:=
 qj hx hy (λw=>by simp[eqGuard]) (λh w _ _=>by
  subst hr;simp[Go.binOp,Op.intBits]) hd K
theorem aic {k:IntKind} {a:Int} (hx:ap f x= .b (.int k a)) (hy:ap f y= .b (.int k 0)) (hd:Nat.blt d n=true)
  (K:ak P c n ops Fs L (aT f d (.int k 0)) rest Q):ak P c n ops Fs L f (⟨some d,.binOp .and T x y T',ty,ps,aft,none⟩::rest) Q:=
 UC hx hy (by
  have e:BitVec.ofInt k.bits 0=BitVec.ofNat k.bits 0:=by simp
  rw[e,BitVec.and_zero];cases k<;>rfl) hd K
theorem HY (Tb:bZ P aC) {ti te:TI} (ht:aC T=some ti) (hk:ti.kind=1) {e:Nat} (hel:ti.elT=e) (hte:aC e=some te) {size:Nat} (hsz:te.sz=size) (hzc:te.zero.v.cells.size=size)
  {v:Value} {k:Nat} {xs:List Value} {B R:List ae} (hx:ap f x= .b v) (hB:bv L B R) (hown:aJ e size v k xs B)
  {yv:Value} {m:Nat} {news:List Value} (hy:ap f y= .b yv) (hm:bF size yv m news∈Fs) (h0:0<m) (h1:gN news=true)
  (h63:k+m<=maxLen) (hby:(k+m)*te.bytes<=140737488355328) (hd:Nat.blt d n=true)
  (K:∀v' B',aJ e size v' (k+m) (xs++news) B'->ak P c n ops Fs (R++B') (aT f d v') rest Q):
  ak P c n ops Fs L f (⟨some d,.call ⟨.builtin .append, #[x,y], #[T,T]⟩,ty,ps,aft,none⟩::rest) Q:=by
 refine qX (φ:=λ(q:Nat×Nat×Nat)=>yv= .slice (some ⟨q.1,q.2.1,none⟩) m q.2.2/\news.length=m*size) (G:=λq=>[aO q.1 q.2.1 news]) (λhp al=>?_) (λq hq=>?_)
 ·obtain⟨e1,e2⟩:=al _ hm;rcases e2 with⟨_,_,_,e'⟩|⟨g,o,cap,e,_,hc⟩
  ·omega
  ·exact⟨(g,o,cap),⟨e,e1⟩,.cons hc (λ_ h=>nomatch h)⟩
 ·obtain⟨hq,hl⟩:=hq;subst hq;refine di Tb ht hk hel hte hsz hzc hx hB hown hy (aR (bq _ (.head _))) hl h1 h63 hby hd λv' B' hs=>?_;exact(K v' B' hs).weaken (λx hx=>bI _ hx) (gx _)
theorem ah1 (Tb:bZ P aC) {ti te:TI} (ht:aC T=some ti) (hk:ti.kind=1) {e:Nat} (hel:ti.elT=e) (hte:aC e=some te) (hsz:te.sz=1)
  {g k cap:Nat} {cur:Array Value} {xs news:List Value} {L':Array Value->List ae} (hx:ap f x= .b (.slice (some ⟨g,0,none⟩) k cap)) (hown:aJ e 1 (.slice (some ⟨g,0,none⟩) k cap) k xs [(g,.cells cur e (0,0))])
  {yv:Value} (hy:ap f y= .b yv) (hm:bF 1 yv k news∈Fs) (h0:0<k) (h1:gN news=true) (hU:∀cur',cf L g (.cells cur e (0,0)) (.cells cur' e (0,0)) (L' cur')) (hd:Nat.blt d n=true)
  (K:∀cur',aJ e 1 (.slice (some ⟨g,0,none⟩) k cap) k news [(g,.cells cur' e (0,0))]->ak P c n ops Fs (L' cur') (aT f d (.int .i64 k)) rest Q):
  ak P c n ops Fs L f (⟨some d,.call ⟨.builtin .copy, #[x,y], #[T,T]⟩,ty,ps,aft,none⟩::rest) Q:=by
 refine qX (φ:=λ(q:Nat×Nat×Nat)=>yv= .slice (some ⟨q.1,q.2.1,none⟩) k q.2.2/\news.length=k*1) (G:=λq=>[aO q.1 q.2.1 news]) (λhp al=>?_) (λq hq=>?_)
 ·obtain⟨e1,e2⟩:=al _ hm;rcases e2 with⟨_,_,_,e'⟩|⟨g,o,cap,e,_,hc⟩
  ·omega
  ·exact⟨(g,o,cap),⟨e,e1⟩,.cons hc (λ_ h=>nomatch h)⟩
 ·obtain⟨hq,hl⟩:=hq;subst hq;subst hel;have hsz':k<=cap/\cap<=maxLen/\cur.size=cap*1:=by
   rcases hown.2 with⟨h3,_⟩|⟨g',cap',cur',h3,h4,h5,h6,h7,h8⟩
   ·cases h3
   ·cases h3;simp only[Bm,yg,PR,and_true,true_and] at h4;subst h4;exact⟨h5,h6,h7⟩
  have hlen:news.length=k:=by omega
  refine mX O (bU hd) λh w re al=>?_;obtain⟨hdesc,_⟩:=(Tb T ti ht).el hk;have hu:=ts (Tb T ti ht) hdesc;obtain⟨inf,hinf,hi1,_⟩:=(Tb _ te hte).info;have hg:=re.sat.own _ (hU cur).mem;simp only at hg;have hr:=run_copy_row (P:=P) w T T ty ti.elT g 0 k cap ⟨q.1,q.2.1,none⟩ k q.2.2 cur ti.elT news hu (by rw[hinf];simp[hi1,hsz]) hg (by simp[hlen])
   (λj v hv=>by rw[nk];exact aR (L:=L) (bq _ (.head _)) h w re.sat al j v hv) aa (kD.mp h1)
  refine⟨.int .i64 k,w.setRow g (cur.toList.take 0++news++cur.toList.drop (0+news.length)).toArray,Fs,L' (cur.toList.take 0++news++cur.toList.drop (0+news.length)).toArray,h,?_,re.set (hU _) O O O ?_ (setRow_heap w g cur _ _ (0,0) hg) (λk hk=>?_),λF hF=>al F (bI _ hF),K _ ?_⟩
  ·simp only[execOp,resolve,bo,bS,bV,invoke,builtin,nN,dV,th,hx,hy,Bx.v_b,hr];simp[goInt,hlen]
  ·simp[World.setRow]
  ·simp only[World.setRow,zU];rw[if_neg aa]
  ·refine⟨aa,.inr ⟨g,cap,_,O,O,hsz'.1,hsz'.2.1,?_,?_⟩⟩
   ·simp[hlen];omega
   ·simp[hlen]
end
end Go.V
namespace Go.V
end Go.V
namespace Go.V
theorem kJ {α:Type} {F:α->List Value} {k:Nat}:∀{l:List α},(∀y∈l,(F y).length=k)->(l.flatMap F).length=l.length*k
 |[],_=>by simp
 |y::l,h=>by
  rw[dC,aW,h y (.head _),kJ (λz hz=>h z (.tail _ hz)),cE,lU,Nat.add_comm]
theorem Ck {α:Type} {F:α->List Value} {k:Nat}:∀{l:List α} {i:Nat} {x:α},(∀y∈l,(F y).length=k)->l[i]? =some x->((l.flatMap F).drop (i*k)).take k=F x
 |[],i,x,_,h=>by cases h
 |y::l,0,x,hk,h=>by
  cases h;simp only[dC,Kb,Dz];have:=hk y (.head _);rw[vJ aa,eQ aa]
 |y::l,i+1,x,hk,h=>by
  have:=hk y (.head _);simp only[dC,lU];rw[Bf,tn aa,j6];have e:i*k+k-(F y).length=i*k:=by omega
  rw[e];exact Ck (λz hz=>hk z (.tail _ hz)) h
theorem Cl {α:Type} {F:α->List Value} {k:Nat}:∀{l:List α} {i:Nat} {x:α},(∀y∈l,(F y).length=k)->i<l.length->
  (l.flatMap F).take (i*k)++F x++(l.flatMap F).drop (i*k+k)=(l.set i x).flatMap F
 |[],i,x,_,h=>by simp at h
 |y::l,0,x,hk,h=>by
  have:=hk y (.head _);simp only[dC,Kb,FU,j6,gX,List.set_cons_zero];rw[Bf,tn aa,j6];have e:k-(F y).length=0:=by omega
  rw[e,Dz]
 |y::l,i+1,x,hk,h=>by
  have h1:=hk y (.head _);have ih:=Cl (F:=F) (k:=k) (l:=l) (i:=i) (x:=x) (λz hz=>hk z (.tail _ hz)) (by simpa using h);simp only[dC,J4,lU];rw[PE,eQ aa,Bf,tn aa,j6];have e1:i*k+k-(F y).length=i*k:=by omega
  have e2:i*k+k+k-(F y).length=i*k+k:=by omega
  rw[e1,e2,cG,cG,<-ih,cG]
theorem BK {Fs:List an} {L:List ae} {r off:Nat} {α:Type} {F:α->List Value} {k:Nat} {xs:List α} {t:TypeId} {fz:Nat×Nat} {j:Nat} {x:α} (hm:(r,Obj.cells (xs.flatMap F).toArray t fz)∈L)
  (hk:∀y∈xs,(F y).length=k) (hx:xs[j]? =some x) (ho:off=j*k):fS Fs L r off (F x):=by
 subst ho;intro h w sa al i v hv;have:=oD (Fs:=Fs) (o:=j*k) (k:=k) hm h w sa al i v;simp only at this;rw[Ck hk hx] at this;exact this hv
theorem LF {Fs:List an} {L:List ae} {r off:Nat} {α:Type} {F:α->List Value} {k:Nat} {xs:List α} {t:TypeId} {fz:Nat×Nat} {j:Nat} {x:α} {i m:Nat} {vs:List Value} (hm:(r,Obj.cells (xs.flatMap F).toArray t fz)∈L)
  (hk:∀y∈xs,(F y).length=k) (hx:xs[j]? =some x) (hv:((F x).drop i).take m=vs) (ho:off=j*k+i):fS Fs L r off vs:=by
 subst ho;subst hv;exact jp (BK hm hk hx O)
section
variable {P:Program} {c:bC} {n:Nat} {ops:Array Oper} {Fs:List an} {L:List ae} {f:Fm} {Q:bG} {rest:List Oper}
variable {d:Nat} {ty:TypeId} {ps:String} {aft:Array Edge} {aC:Nat->Option TI} {x y z:Operand} {T T':TypeId}
theorem EQ (Tb:bZ P aC) {ti:TI} (ht:aC T=some ti) {r o:Nat} {α:Type} {F:α->List Value} {k:Nat} {xs:List α} {j:Nat} {e:α} {v:Value} {t':TypeId} {L':List ae}
  (hx:ap f x= .b (.pointer (some ⟨r,o,none⟩))) (hy:ap f y= .b v) (hv:v.cells.toList=F e) (hsz:ti.sz=k) (h1:gN (F e)=true)
  (hk:∀y∈e::xs,(F y).length=k) (hj:j<xs.length) (ho:o=j*k)
  (hu:cf L r (.cells (xs.flatMap F).toArray t' (0,0)) (.cells ((xs.set j e).flatMap F).toArray t' (0,0)) L') (K:ak P c n ops Fs L' f rest Q):
  ak P c n ops Fs L f (⟨none,.store T x y,ty,ps,aft,none⟩::rest) Q:=by
 have hl:=hk e (.head _);have hks:∀y∈xs,(F y).length=k:=λy hy=>hk y (.tail _ hy);have hvc:v.cells=(F e).toArray:=by apply xc;simpa using hv
 refine Ar Tb ht hx hy hvc (by simp[hl,hsz]) (by simpa[gN,kD] using h1) hu ?_ ?_ K
 ·subst ho;simp only[ox,kJ hks,hl];rw[<-lU];exact gI _ hj
 ·subst ho;simp only[ox,hl];rw[Cl hks hj]
variable {ki kj:IntKind} {a b m:Int}
theorem No (hx:ap f x= .b (.int ki a)) (hy:ap f y= .b (.int ki b)) (hr:ki.wrap (a+b)=m) (hd:Nat.blt d n=true) (k:ak P c n ops Fs L (aT f d (.int ki m)) rest Q):
  ak P c n ops Fs L f (⟨some d,.binOp .add T x y T',ty,ps,aft,none⟩::rest) Q:=
 qj hx hy (λw=>by simp[eqGuard]) (λh w _ _=>by subst hr;simp[Go.binOp,Op.intArith]) hd k
theorem Ur (hx:ap f x= .b (.int ki a)) (hy:ap f y= .b (.int ki b)) (hr:ki.wrap (a*b)=m) (hd:Nat.blt d n=true) (k:ak P c n ops Fs L (aT f d (.int ki m)) rest Q):
  ak P c n ops Fs L f (⟨some d,.binOp .mul T x y T',ty,ps,aft,none⟩::rest) Q:=
 qj hx hy (λw=>by simp[eqGuard]) (λh w _ _=>by subst hr;simp[Go.binOp,Op.intArith]) hd k
theorem ES (hx:ap f x= .b (.int ki a)) (hy:ap f y= .b (.int kj b)) (hb:0<=b) (hr:a.fdiv (2^min b.toNat ki.bits)=m) (hd:Nat.blt d n=true) (k:ak P c n ops Fs L (aT f d (.int ki m)) rest Q):
  ak P c n ops Fs L f (⟨some d,.binOp .shr T x y T',ty,ps,aft,none⟩::rest) Q:=
 qj hx hy (λw=>by simp[eqGuard]) (λh w _ _=>by subst hr;simp[Go.binOp,Op.shift,Int.not_lt.2 hb]) hd k
end
section
variable {P:Program} {c:bC} {n:Nat} {ops:Array Oper} {Fs:List an} {L:List ae} {f:Fm} {Q:bG} {rest:List Oper}
variable {d:Nat} {ty:TypeId} {ps:String} {aft:Array Edge}
theorem qi {aC:Nat->Option TI} {T:TypeId} {x:Operand} (Tb:bZ P aC) {ti:TI} (ht:aC T=some ti) (hk:ti.kind=1) {size:Nat} (hs:ti.elS=size) {r o len cap l h:Nat} {lo hi:Option Operand} (hx:ap f x= .b (.slice (some ⟨r,o,none⟩) len cap))
  (h1:uB f 0 lo l) (h2:uB f len hi h) (hlh:l<=h) (hc:h<=cap) (hlc:l<cap) (hd:Nat.blt d n=true)
  (k:ak P c n ops Fs L (aT f d (.slice (some ⟨r,o+l*size,none⟩) (h-l) (cap-l))) rest Q):
  ak P c n ops Fs L f (⟨some d,.slice T x lo hi none,ty,ps,aft,none⟩::rest) Q:=
 ER Tb ht hk hs hx h1 h2 hlh hc hd (by
  have hne:¬cap=l:=by omega
  simp only[hne,if_false,pX,nk];exact k)
theorem Nl {k:FuncId} {fv:Operand} {first captured:List Value} {xs:List Operand} {ats:Array TypeId} {vs:List Value} (hfv:ap f fv= .b (.func (.func k) first.toArray captured.toArray))
  (hxs:jv f xs vs) (hcall:∀(args:Array Value) (w:World),(callFunc k args).run P w= .ok (.enter k args) w)
  {Fs1:List an} {L1 R:List ae} {Q1:cZ} {asz:List Value} (hargs:NF (first++(vs++captured)) asz) (hs:ai P k asz.toArray Fs1 L1 Q1) (hF:∀x∈Fs1,x∈Fs) (hT:bv L L1 R) (hd:Nat.blt d n=true)
  (kont:∀v Fs' L',Q1 v Fs' L'->ak P c n ops (Fs'++Fs) (R++L') (aT f d v) rest Q):
  ak P c n ops Fs L f (⟨some d,.call ⟨.value fv,xs.toArray,ats⟩,ty,ps,aft,none⟩::rest) Q:=
 ah3 hfv hxs hcall (by rw[<-hargs.eq] at hs;simpa using hs) hF hT hd kont
end
theorem X3 (n:Int):0<=IntKind.u32.wrap n/\IntKind.u32.wrap n<4294967296:=by
 have e:(2^IntKind.u32.bits:Int)=4294967296:=by decide
 simp only[IntKind.wrap,e,IntKind.signed,Pz,ld,if_false];omega
theorem zY {n:Int} (h1:0<=n) (h2:n<18446744073709551616):IntKind.u64.wrap n=n:=by
 have e:(2^IntKind.u64.bits:Int)=18446744073709551616:=by decide
 simp only[IntKind.wrap,e,IntKind.signed,Pz,ld,if_false];omega
end Go.V
namespace Go.V
structure O1 (ops:List Oper) (E C EN B:List Nat) (m:Nat):Prop where
 nosel:∀(i:Nat) (o:Oper),ops[i]? =some o->∀cs b,o.op≠ .select cs b
 lt:∀(i:Nat) (o:Oper),ops[i]? =some o->∀j∈fC o,j<i
 self:∀(i:Nat) (o:Oper),ops[i]? =some o->∀d,o.dst=some d->d∉looks ops o
 ssa:∀(i j:Nat) (o p:Oper),ops[i]? =some o->ops[j]? =some p->i≠j->∀d,p.dst=some d->o.dst≠some d
 dep:∀(i j:Nat) (o p:Oper),i<m->j<m->ops[i]? =some o->ops[j]? =some p->i≠j->∀d,p.dst=some d->d∈looks ops o->j∈fC o/\(i∈E->j∈E)
 part:∀i,i<m->(i∈E/\i∉C)\/(i∉E/\i∈C)
 ltE:∀i∈E,i<m
 ltC:∀i∈C,i<m
 dstE:∀i∈E,∀(o:Oper),ops[i]? =some o->∃d,o.dst=some d
 sorted:E.Pairwise (·<·)
 nodC:C.Nodup
 bop:∀i∈B,∀e∈EN,e∈lF ops 3 i
 subB:∀i∈B,i∈C
inductive ut (P:Program) (c:bC) (n:Nat) (ops:List Oper) (Fs:List an) (L:List ae):Fm->List (Nat×Value)->List Nat->Fm->Prop where
 |nil {f}:ut P c n ops Fs L f [] [] f
 |cons {f f' i v o r e}:ops[i]? =some o->vc P c n ops Fs L f o v->ut P c n ops Fs L (gh f o.dst v) r e f'->ut P c n ops Fs L f ((i,v)::r) (i::e) f'
 |late {f f' i v o r e}:ops[i]? =some o->vc P c n ops Fs [] f o v->ut P c n ops Fs L (gh f o.dst v) r e f'->ut P c n ops Fs L f ((i,v)::r) e f'
def DW (ops:List Oper) (C:List Nat):List Nat:=C.filter λi=>C.all λj=>Nat.beq j i||!(lF ops 3 i).contains j
def ye (b:Bool) (Fs:List an) (L:List ae) (Fk:List an) (Lk:List ae):Prop:=(∀x∈Fs,x∈Fk)/\(b=false->List.Sublist L Lk)
def Az (i:Nat):List Nat->List Nat
 |[]=>[]
 |j::r=>bif Nat.beq i j then r else j::Az i r
def ur (P:Program) (c:bC) (n:Nat) (ops:List Oper) (Fs:List an) (L:List ae) (zs:List Oper) (Q:bG) (B:List Nat):Nat->List Nat->Bool->Fm->List an->List ae->Prop
 |0,C,b,f,Fk,Lk=>C=[]/\ye b Fs L Fk Lk/\ak P c n ops.toArray Fk Lk f zs Q
 |k+1,C,b,f,Fk,Lk=>ye b Fs L Fk Lk/\∀i∈DW ops C,∃o,ops[i]? =some o/\
   ak P c n ops.toArray Fk Lk f [o] (QN λf' Fk' Lk'=>(∃v,f'=gh f o.dst v)/\ur P c n ops Fs L zs Q B k (Az i C) (b||B.contains i) f' Fk' Lk')
theorem E4 (i:Nat):∀C:List Nat,Az i C=C.erase i
 |[]=>rfl
 |j::r=>by
  simp only[Az,List.erase_cons];cases h:Nat.beq i j with
  |true=>rw[nO h];simp
  |false=>
   have:¬(j==i)=true:=λe=>by
    have:=eq_of_beq e;subst this;simp at h
   simp[this,E4 i r]
section
variable {P:Program} {c:bC} {n:Nat} {ops:List Oper} {Fs:List an} {L:List ae} {zs:List Oper} {Q:bG} {B:List Nat}
theorem ut.keeps {f f':Fm} {r:List (Nat×Value)} {e:List Nat} (h:ut P c n ops Fs L f r e f'):∀t,(∀(i:Nat) (v:Value) (o:Oper),(i,v)∈r->ops[i]? =some o->o.dst≠some t)->f' t=f t:=by
 induction h with
 |nil=>exact λ_ _=>rfl
 |@cons f f' i v o r e ho _ _ ih=>
  intro t ht;rw[ih t (λi' v' o' hm=>ht i' v' o' (.tail _ hm)),kE (ht i v o (.head _) ho)]
 |@late f f' i v o r e ho _ _ ih=>
  intro t ht;rw[ih t (λi' v' o' hm=>ht i' v' o' (.tail _ hm)),kE (ht i v o (.head _) ho)]
theorem ut.all {E C EN:List Nat} {m:Nat} (k:O1 ops E C EN B m) {f f':Fm} {r:List (Nat×Value)} {e:List Nat} (h:ut P c n ops Fs L f r e f'):(∀p∈r,p.1∈E)->(r.map (·.1)).Pairwise (·<·)->
  (∀t,n<=t->(f t).v=undef)->(∀(i:Nat) (v:Value) (o:Oper),(i,v)∈r->ops[i]? =some o->∀d,o.dst=some d->d<n)->
  ∀i v,(i,v)∈r->∃o fi,ops[i]? =some o/\((i∈e/\vc P c n ops Fs L fi o v)\/vc P c n ops Fs [] fi o v)/\(∀t∈looks ops o,fi t=f' t)/\(∀d,o.dst=some d->f' d= .b v)/\(∀t,n<=t->(fi t).v=undef):=by
 have key:∀{f f':Fm} {i:Nat} {v:Value} {o:Oper} {r:List (Nat×Value)} {e:List Nat},ops[i]? =some o->ut P c n ops Fs L (gh f o.dst v) r e f'->(∀x∈r.map (·.1),i<x)->i<m->(∀x∈r.map (·.1),x<m)->
   (∀t∈looks ops o,f t=f' t)/\(∀d,o.dst=some d->f' d= .b v):=by
  intro f f' i v o r e ho hr hpw him hrm;refine⟨λt ht=>?_,λd hd=>?_⟩
  ·rw[hr.keeps t λi' v' o' hm' ho' hd=>?_]
   ·rw[kE λhd=>k.self i o ho t hd ht]
   ·have hlt':i<i':=hpw i' (aM.2 ⟨(i',v'),hm',rfl⟩);have:=(k.dep i i' o o' him (hrm i' (aM.2 ⟨(i',v'),hm',rfl⟩)) ho ho' aa t hd ht).1;have:=k.lt i o ho i' this;omega
  ·rw[hr.keeps d λi' v' o' hm' ho' hd'=>?_]
   ·rw[hd];exact qa
   ·have hlt':i<i':=hpw i' (aM.2 ⟨(i',v'),hm',rfl⟩);exact k.ssa i i' o o' ho ho' aa d hd' hd
 induction h with
 |nil=>intro _ _ _ _ i v hm;cases hm
 |@cons f f' i v o r e ho hs hr ih=>
  intro hE hsrt hu hlt j u hm;have hpw:=oW.1 hsrt;cases hm with
  |head=>
   obtain⟨k1,k2⟩:=key ho hr hpw.1 (k.ltE i (hE (i,v) (.head _))) (λx hx=>by obtain⟨p,hp,rfl⟩:=aM.1 hx;exact k.ltE _ (hE p (.tail _ hp)));exact⟨o,f,ho,.inl ⟨.head _,hs⟩,k1,k2,hu⟩
  |tail _ hm'=>
   obtain⟨o2,fi,a1,a2,a3⟩:=ih (λp hp=>hE p (.tail _ hp)) hpw.2 (λt ht=>by
    by_cases e:o.dst=some t
    ·exact absurd (hlt i v o (.head _) ho t e) (Nat.not_lt.2 ht)
    ·rw[kE e];exact hu t ht) (λi' v' o' hm''=>hlt i' v' o' (.tail _ hm'')) j u hm'
   exact⟨o2,fi,a1,a2.imp (λx=>⟨.tail _ x.1,x.2⟩) id,a3⟩
 |@late f f' i v o r e ho hs hr ih=>
  intro hE hsrt hu hlt j u hm;have hpw:=oW.1 hsrt;cases hm with
  |head=>
   obtain⟨k1,k2⟩:=key ho hr hpw.1 (k.ltE i (hE (i,v) (.head _))) (λx hx=>by obtain⟨p,hp,rfl⟩:=aM.1 hx;exact k.ltE _ (hE p (.tail _ hp)));exact⟨o,f,ho,.inr hs,k1,k2,hu⟩
  |tail _ hm'=>
   exact ih (λp hp=>hE p (.tail _ hp)) hpw.2 (λt ht=>by
    by_cases e:o.dst=some t
    ·exact absurd (hlt i v o (.head _) ho t e) (Nat.not_lt.2 ht)
    ·rw[kE e];exact hu t ht) (λi' v' o' hm''=>hlt i' v' o' (.tail _ hm'')) j u hm'
end
section
variable {P:Program} {c:bC} {n:Nat} {pre zs:List Oper} {Fs:List an} {L:List ae} {Q:bG} {E C EN B:List Nat} {Ev:List (Nat×Value)}
structure Oq (P:Program) (c:bC) (n:Nat) (pre zs:List Oper) (Fs:List an) (L:List ae) (Q:bG) (E C EN B:List Nat) (Ev:List (Nat×Value)) (listed:Array Bool) (a:Act) (w:World) (C2:List Nat) (b:Bool) (f f':Fm) (h:PH) (Fk:List an) (Lk:List ae):Prop where
 cc:∀i∈C2,i∈C
 c1:∀i∈C,(listed.getD i false=false↔i∈C2)
 nd:C2.Nodup
 bb:b=true->∃i∈B,listed.getD i false=true
 zz:∀i,pre.length<=i->listed.getD i false=false
 go:ur P c n (pre++zs) Fs L zs Q B C2.length C2 b f Fk Lk
 ag:Ag n a f'
 re:dN c h Lk w
 al:cr Fk h
 fr:∀t,f' t=f t\/∃i o,i∈E/\listed.getD i false=false/\(pre++zs)[i]? =some o/\o.dst=some t
 fl:∀i v,(i,v)∈Ev->∃o fi,(pre++zs)[i]? =some o/\((i∈EN/\vc P c n (pre++zs) Fs L fi o v)\/vc P c n (pre++zs) Fs [] fi o v)/\(∀t∈looks (pre++zs) o,fi t=f t)/\(∀d,o.dst=some d->f d= .b v/\d<n)/\(∀t,n<=t->(fi t).v=undef)
 un:∀t,n<=t->(f t).v=undef
theorem ur.ext {ops:List Oper} {k:Nat} {C:List Nat} {b:Bool} {f:Fm} {Fk:List an} {Lk:List ae} (h:ur P c n ops Fs L zs Q B k C b f Fk Lk):ye b Fs L Fk Lk:=by
 cases k with
 |zero=>exact h.2.1
 |succ k=>exact h.1
theorem aj1 (k:O1 (pre++zs) E C EN B pre.length) (hE:∀i∈E,∃v,(i,v)∈Ev) (hEv:∀i v,(i,v)∈Ev->i∈E) (hz:∀(j:Nat) (o:Oper),zs[j]? =some o->∀i,i<pre.length+j->i∈fC o\/i∈lF (pre++zs) 6 (pre.length+j)):
  ∀(fuel:Nat) (listed:Array Bool) (a:Act) (w:World),listed.size=(pre++zs).length->left (pre++zs).length listed=fuel->
   (∀i o,(pre++zs)[i]? =some o->listed.getD i false=true->∀j∈fC o,listed.getD j false=true)->
   ((∃C2 b f f' h Fk Lk,Oq P c n pre zs Fs L Q E C EN B Ev listed a w C2 b f f' h Fk Lk)\/
    (∃j,j<=zs.length/\(∀i,i<listed.size->(listed.getD i false=true↔i<pre.length+j))/\wpList P (pre++zs).toArray (jR c n Q) (zs.drop j) a w))->
   wpAny P .any (pre++zs).toArray (jR c n Q) fuel listed a w:=by
 have turn:∀(listed:Array Bool) (a:Act) (w:World),listed.size=(pre++zs).length->(∀i,i<pre.length->listed.getD i false=true)->
   (∃C2 b f f' h Fk Lk,Oq P c n pre zs Fs L Q E C EN B Ev listed a w C2 b f f' h Fk Lk)->
   (∃j,j<=zs.length/\(∀i,i<listed.size->(listed.getD i false=true↔i<pre.length+j))/\wpList P (pre++zs).toArray (jR c n Q) (zs.drop j) a w):=by
  intro listed a w hsz hall ⟨C2,b,f,f',h,Fk,Lk,m⟩;have hC2:C2=[]:=by
   cases C2 with
   |nil=>rfl
   |cons i r=>
    have hi:i∈C:=m.cc i (.head _);have h1:=(m.c1 i hi).2 (.head _);rw[hall i (k.ltC i hi)] at h1;cases h1
  subst hC2;have hff:f'=f:=by
   funext t;rcases m.fr t with e|⟨i,o,hi,hl,_⟩
   ·exact e
   ·rw[hall i (k.ltE i hi)] at hl;cases hl
  subst hff;refine⟨0,bf _,λi hi=>⟨λhl=>?_,λhl=>hall i hl⟩,?_⟩
  ·rcases dL i pre.length with l|g
   ·exact l
   ·rw[m.zz i g] at hl;cases hl
  ·exact m.go.2.2.out a h w m.ag m.re m.al
 intro fuel
 induction fuel with
 |zero=>
  intro listed a w hsz hleft hcl inv;have hall:=Tl hleft;have inv2:∃j,j<=zs.length/\(∀i,i<listed.size->(listed.getD i false=true↔i<pre.length+j))/\wpList P (pre++zs).toArray (jR c n Q) (zs.drop j) a w:=by
   rcases inv with m|m
   ·exact turn listed a w hsz (λi hi=>by
     have:i<(pre++zs).length:=by simp;omega
     rw[yO aa];exact hall i this) m
   ·exact m
  obtain⟨j,hj,hl,hw⟩:=inv2;have hjz:j=zs.length:=by
   rcases dL j zs.length with l|g
   ·have hlt:pre.length+j<listed.size:=by rw[hsz];simp;omega
    have:=(hl (pre.length+j) hlt).1 (by rw[yO hlt];exact hall _ (by rw[<-hsz];exact hlt));omega
   ·omega
  subst hjz;rw[Pj] at hw;refine⟨?_,hw⟩;refine List.eq_nil_iff_forall_not_mem.2 ?_;intro i hi;obtain⟨o,ho,h1,_⟩:=mem_ready hi;have hlt:i<(pre++zs).length:=by
   rcases dL i (pre++zs).length with l|g
   ·exact l
   ·rw[gZ g] at ho;cases ho
  rw[hall i hlt] at h1;cases h1
 |succ fuel ih=>
  intro listed a w hsz hleft hcl inv;constructor
  ·
   intro hnil;exfalso;have hex:∃i,i<(pre++zs).length/\listed.getD i true=false:=by
    refine Kn λhno=>?_;have:left (pre++zs).length listed=0:=by
     unfold left;rw[List.filter_eq_nil_iff.2]
     ·rfl
     ·intro i hi;cases e:listed.getD i true with
      |true=>simp
      |false=>exact absurd ⟨i,by simpa using hi,e⟩ hno
    omega
   obtain⟨i0,h0,h0'⟩:=hex;have hmin:∀i,i<(pre++zs).length->listed.getD i true=false->False:=by
    intro i
    induction i using Nat.strongRecOn with
    |_ i ihm=>
     intro hi hli;have ho:(pre++zs)[i]? =some (pre++zs)[i]:=aG hi;have hr:=G2 ho hli (λj hj=>by
      have hjlt:=k.lt i _ ho j hj;cases e:listed.getD j false with
      |true=>rfl
      |false=>
       rw[yO aa] at e;exact(ihm j hjlt aa e).elim)
     rw[hnil] at hr;cases hr
   exact hmin i0 h0 h0'
  ·intro i hi;obtain⟨o,ho,hun,hb⟩:=mem_ready hi;have hlt:i<(pre++zs).length:=by
    rcases dL i (pre++zs).length with l|g
    ·exact l
    ·rw[gZ g] at ho;cases ho
   have hisz:i<listed.size:=by omega
   have hunf:listed.getD i false=false:=by rw[yO hisz];exact hun
   have hsz':(listed.setIfInBounds i true).size=(pre++zs).length:=by simp[hsz]
   have hleft':left (pre++zs).length (listed.setIfInBounds i true)=fuel:=by have:=Tm hsz hlt hun;omega
   have hcl':∀i' o',(pre++zs)[i']? =some o'->(listed.setIfInBounds i true).getD i' false=true->∀j∈fC o',(listed.setIfInBounds i true).getD j false=true:=by
    intro i' o' ho' hl' j hj;rw[kI _ hisz] at hl' ⊢;by_cases e:i'=i
    ·subst e;rw[ho] at ho';cases ho';rw[hb j hj];split<;>rfl
    ·rw[if_neg e] at hl';rw[hcl i' o' ho' hl' j hj];split<;>rfl
   by_cases hpre:∀i,i<pre.length->listed.getD i false=true
   ·
    have inv2:∃j,j<=zs.length/\(∀i,i<listed.size->(listed.getD i false=true↔i<pre.length+j))/\wpList P (pre++zs).toArray (jR c n Q) (zs.drop j) a w:=by
     rcases inv with m|m
     ·exact turn listed a w hsz hpre m
     ·exact m
    obtain⟨j,hj,hl,hw⟩:=inv2;have hge:pre.length+j<=i:=by
     rcases dL i (pre.length+j) with l|g
     ·rw[(hl i hisz).2 l] at hunf;cases hunf
     ·exact g
    have hzo:zs[i-pre.length]? =some o:=by
     rw[yl aa] at ho;exact ho
    have late:∀x,(x∈fC o\/x∈lF (pre++zs) 6 (pre.length+(i-pre.length)))->listed.getD x false=true:=λx hx=>by
     rw[show pre.length+(i-pre.length)=i from by omega] at hx;exact hx.elim (hb x) (yR hcl 6 i o ho hb x)
    have hij:i=pre.length+j:=by
     rcases dL (pre.length+j) i with l|g
     ·have:=late _ (hz (i-pre.length) o hzo (pre.length+j) aa);have:=(hl (pre.length+j) aa).1 this;omega
     ·omega
    have hjo:zs[j]? =some o:=by rw[show j=i-pre.length from by omega];exact hzo
    have hjlt:j<zs.length:=by
     rcases dL j zs.length with l|g
     ·exact l
     ·rw[gZ g] at hjo;cases hjo
    have hdrop:zs.drop j=o::zs.drop (j+1):=by
     rw[Bq hjlt];congr 1;have:=aG hjlt;rw[this] at hjo;exact iD hjo
    rw[hdrop] at hw;have next:∀a' w',wpList P (pre++zs).toArray (jR c n Q) (zs.drop (j+1)) a' w'->wpAny P .any (pre++zs).toArray (jR c n Q) fuel (listed.setIfInBounds i true) a' w':=by
     intro a' w' h';refine ih _ a' w' hsz' hleft' hcl' (.inr ⟨j+1,aa,λi' hi'=>?_,h'⟩);rw[kI _ hisz];by_cases e:i'=i
     ·subst e;simp;omega
     ·rw[if_neg e,hl i' (by simpa using hi')];omega
    unfold wpOp;have ho':(pre++zs).toArray[i]? =some o:=by simpa using ho
    rw[ho'];unfold wpList at hw;simp only;split at hw
    ·rename_i hwt;rw[if_pos hwt];exact hw.imp (Oper.wp_mono next) id
    ·rename_i hwt;rw[if_neg hwt];exact next _ _ hw
   ·
    have m1:∃C2 b f f' h Fk Lk,Oq P c n pre zs Fs L Q E C EN B Ev listed a w C2 b f f' h Fk Lk:=by
     rcases inv with m|⟨j,_,hl,_⟩
     ·exact m
     ·refine absurd (λi hi=>?_) hpre;exact(hl i (by rw[hsz];simp;omega)).2 aa
    obtain⟨C2,b,f,f',h,Fk,Lk,m⟩:=m1;have hipre:i<pre.length:=by
     rcases dL i pre.length with l|g
     ·exact l
     ·refine absurd (λj hj=>?_) hpre;have hzo:zs[i-pre.length]? =some o:=by
       rw[yl aa] at ho;exact ho
      have late:∀x,(x∈fC o\/x∈lF (pre++zs) 6 (pre.length+(i-pre.length)))->listed.getD x false=true:=λx hx=>by
       rw[show pre.length+(i-pre.length)=i from by omega] at hx;exact hx.elim (hb x) (yR hcl 6 i o ho hb x)
      exact late j (hz (i-pre.length) o hzo j aa)
    have hlook:∀t∈looks (pre++zs) o,f t=f' t:=by
     intro t ht;rcases m.fr t with e|⟨j,p,hjE,hjl,hp,hd⟩
     ·exact e.symm
     ·exfalso;by_cases e:i=j
      ·subst e;rw[ho] at hp;cases hp;exact k.self i o ho t hd ht
      ·have:=(k.dep i j o p hipre (k.ltE j hjE) ho hp e t hd ht).1;rw[hb j this] at hjl;cases hjl
    rcases k.part i hipre with⟨hiE,hiC⟩|⟨hiE,hiC⟩
    ·
     obtain⟨v,hv⟩:=hE i hiE;obtain⟨o2,fi,ho2,hst,hlk,hdv,hun2⟩:=m.fl i v hv;rw[ho] at ho2;cases ho2;obtain⟨d,hd⟩:=k.dstE i hiE o ho;obtain⟨hfd,hdn⟩:=hdv d hd;have hx:∃L0,vc P c n (pre++zs) Fs L0 fi o v/\A8 Fs L0 Fk Lk:=by
      rcases hst with⟨hen,hst⟩|hst
      ·refine⟨L,hst,m.go.ext.1,m.go.ext.2 ?_⟩;cases hb:b with
       |false=>rfl
       |true=>
        obtain⟨i',hi',hl'⟩:=m.bb hb;have hlt':=k.ltC i' (k.subB i' hi');have hlen':i'<(pre++zs).length:=by simp;omega
        have ho':(pre++zs)[i']? =some (pre++zs)[i']:=aG hlen';have:=yR hcl 3 i' _ ho' (hcl i' _ ho' hl') i (k.bop i' hi' i hen);rw[hunf] at this;cases this
      ·exact⟨[],hst,m.go.ext.1,oZ _⟩
     obtain⟨L0,hst0,hext0⟩:=hx;refine QT ho (k.nosel i o ho) hst0 m.ag (λt ht=>(hlk t ht).trans (hlook t ht)) hun2 hd hdn m.re m.al hext0 (λh' w' re' al'=>?_);refine ih _ _ w' hsz' hleft' hcl' (.inl ⟨C2,b,f,gh f' (some d) v,h',Fk,Lk,⟨m.cc,λj hj=>?_,m.nd,λhb=>?_,λj hj=>?_,m.go,m.ag.put _ (λi e=>by cases e;exact hdn) v,re',al',λt=>?_,m.fl,m.un⟩⟩)
     ·rw[kI _ hisz,if_neg (λe=>hiC (by rw[<-e];exact hj))];exact m.c1 j hj
     ·obtain⟨i',hi',hl'⟩:=m.bb hb;refine⟨i',hi',?_⟩;rw[kI _ hisz];split
      ·rfl
      ·exact hl'
     ·rw[kI _ hisz,if_neg aa];exact m.zz j hj
     ·by_cases e:d=t
      ·subst e;exact .inl (by rw[qa,hfd])
      ·rw[kE (by intro e';cases e';exact e rfl)];rcases m.fr t with e'|⟨j,p,hjE,hjl,hp,hpd⟩
       ·exact .inl e'
       ·refine .inr ⟨j,p,hjE,?_,hp,hpd⟩;rw[kI _ hisz,if_neg (λe2=>?_)]
        ·exact hjl
        ·subst e2;rw[ho] at hp;cases hp;rw[hd] at hpd;cases hpd;exact e O
    ·
     have hi2:i∈C2:=(m.c1 i hiC).1 hunf;obtain⟨kk,hkk⟩:∃kk,C2.length=kk+1:=by
      cases C2 with
      |nil=>cases hi2
      |cons x r=>exact⟨r.length,rfl⟩
     ·have hgo:=m.go;rw[hkk] at hgo;have hrd:i∈DW (pre++zs) C2:=by
       refine uJ.2 ⟨hi2,kD.2 λj hj=>?_⟩;cases hji:Nat.beq j i with
       |true=>rfl
       |false=>
        simp only[Bo,zJ];cases hcj:(lF (pre++zs) 3 i).contains j with
        |false=>rfl
        |true=>
         have:=yR hcl 3 i o ho hb j (by simpa using hcj);rw[(m.c1 j (m.cc j hj)).2 hj] at this;cases this
      obtain⟨hext,hgo⟩:=hgo;obtain⟨o3,ho3,hg⟩:=hgo i hrd;rw[ho] at ho3;cases ho3;refine LP ho (k.nosel i o ho) (Ff n f m.un) m.ag hlook (λv0 w' hh=>?_) (hg.out _ h w (Ff n f m.un) m.re m.al);obtain⟨f1,Fs1,L1,h1,ag1,re1,al1,q⟩:=hh;cases q with
      |norm q=>
       obtain⟨⟨v,rfl⟩,hgo⟩:=q;have hgetd:∀d,o.dst=some d->∀b:Act,b.tmps.size=n->(b.put (some d) v0).tmps.getD d undef=v:=by
        intro d hd b hb;have h2:=ag1.get d;rw[hd,qa,Bx.v_b] at h2;have hsz2:(sG n f).tmps.size=n:=by simp[sG]
        simp only[Act.put,gY,Kg,hsz2,hb] at h2 ⊢;exact h2
       have hag:Ag n (a.put o.dst v0) (gh f' o.dst v):=by
        cases hd:o.dst with
        |none=>exact m.ag
        |some d=>
         refine⟨by simp[Act.put,m.ag.size],by simp[Act.put,m.ag.defers],λt=>?_⟩;by_cases e:t=d
         ·subst e;rw[hgetd t hd a m.ag.size,qa,Bx.v_b]
         ·rw[kE (by intro e';cases e';exact e rfl),<-m.ag.get t];have hne:¬d=t:=λx=>e x.symm;simp[Act.put,gY,hne]
       refine ih _ _ w' hsz' hleft' hcl' (.inl ⟨Az i C2,b||B.contains i,gh f o.dst v,gh f' o.dst v,h1,Fs1,L1,⟨λj hj=>?_,λj hj=>?_,?_,λhb2=>?_,λj hj=>?_,?_,hag,re1,al1,λt=>?_,λj u hju=>?_,λt ht=>?_⟩⟩)
       ·rw[E4] at hj;exact m.cc j (List.mem_of_mem_erase hj)
       ·rw[kI _ hisz,E4,m.nd.mem_erase_iff];by_cases e:j=i
        ·subst e;simp
        ·rw[if_neg e,m.c1 j hj];simp[e]
       ·rw[E4];exact m.nd.erase i
       ·cases hb3:b with
        |true=>
         obtain⟨i',hi',hl'⟩:=m.bb hb3;refine⟨i',hi',?_⟩;rw[kI _ hisz];split
         ·rfl
         ·exact hl'
        |false=>
         rw[hb3] at hb2;refine⟨i,by simpa using hb2,?_⟩;rw[kI _ hisz,if_pos rfl]
       ·rw[kI _ hisz,if_neg aa];exact m.zz j hj
       ·have:(Az i C2).length=kk:=by rw[E4,PL hi2];omega
        rw[this];exact hgo
       ·by_cases e:o.dst=some t
        ·rw[e];exact .inl (by rw[qa,qa])
        ·rw[kE e,kE e];rcases m.fr t with e'|⟨j,p,hjE,hjl,hp,hpd⟩
         ·exact .inl e'
         ·refine .inr ⟨j,p,hjE,?_,hp,hpd⟩;rw[kI _ hisz,if_neg (λe2=>hiE (by rw[<-e2];exact hjE))];exact hjl
       ·obtain⟨o2,fi,ho2,hst,hlk,hdv,hun2⟩:=m.fl j u hju;have hji:j≠i:=λe=>hiE (by rw[<-e];exact hEv j u hju);refine⟨o2,fi,ho2,hst,λt ht=>?_,λd hd=>?_,hun2⟩
        ·rw[kE (λe=>?_)]
         ·exact hlk t ht
         ·exact hiE ((k.dep j i o2 o (k.ltE j (hEv j u hju)) hipre ho2 ho hji t e ht).2 (hEv j u hju))
        ·refine⟨?_,(hdv d hd).2⟩;rw[kE (λe=>k.ssa j i o2 o ho2 ho hji d e hd)];exact(hdv d hd).1
       ·by_cases e:o.dst=some t
        ·rw[e,qa,Bx.v_b];have h2:=hgetd t e (sG n f) (by simp[sG]);rw[<-h2];simp only[Act.put,gY];rw[oU (by simp[sG];exact ht)];rfl
        ·rw[kE e];exact m.un t ht
end
def yw (ops:List Oper) (n m:Nat) (E:List Nat) (i:Nat):Bool:=match ops[i]? with
 |none=>false
 |some o=>Er o&&((fC o).all (λj=>Nat.blt j i)&&((match o.dst with|some d=>!(looks ops o).contains d&&Nat.blt d n|none=>!E.contains i)&&
   (List.range ops.length).all (λj=>Nat.beq j i||(match ops[j]? with
    |some p=>(match p.dst with
     |some d=>(o.dst !=some d)&&((Nat.ble m i||Nat.ble m j)||(!(looks ops o).contains d||((fC o).contains j&&(!E.contains i||E.contains j))))
     |none=>true)
    |none=>true))))
def DU (ops:List Oper) (n m:Nat) (E C EN B:List Nat):Bool:=
 (List.range ops.length).all (yw ops n m E)&&((List.range m).all (λi=>E.contains i !=C.contains i)&&((E++C).all (λi=>Nat.blt i m)&&
  (z8 E&&(z8 C&&(B.all (λi=>C.contains i&&EN.all (λe=>(lF ops 3 i).contains e))&&(Nat.ble m ops.length&&DF ops m 0 (ops.drop m)))))))
theorem adf {ops:List Oper} {n m:Nat} {E C EN B:List Nat} (h:DU ops n m E C EN B=true):
  O1 ops E C EN B m/\m<=ops.length/\(∀(j:Nat) (o:Oper),(ops.drop m)[j]? =some o->∀i,i<m+j->i∈fC o\/i∈lF ops 6 (m+j))/\(∀(i:Nat) (o:Oper),ops[i]? =some o->∀d,o.dst=some d->d<n):=by
 simp only[DU,eI] at h;obtain⟨h1,h2,h3,h4,h5,h6,h7,h8⟩:=h;have hop:∀(i:Nat) (o:Oper),ops[i]? =some o->yw ops n m E i=true:=λi o ho=>by
  refine kD.1 h1 i ?_;have:i<ops.length:=by
   rcases dL i ops.length with l|g
   ·exact l
   ·rw[gZ g] at ho;cases ho
  simpa using this
 have hlt:∀(i:Nat) (o:Oper),ops[i]? =some o->i<ops.length:=λi o ho=>by
  rcases dL i ops.length with l|g
  ·exact l
  ·rw[gZ g] at ho;cases ho
 have hpair:∀(i j:Nat) (o p:Oper),ops[i]? =some o->ops[j]? =some p->i≠j->∀d,p.dst=some d->o.dst≠some d/\(i<m->j<m->d∈looks ops o->j∈fC o/\(i∈E->j∈E)):=by
  intro i j o p ho hp hne d hd;have:=hop i o ho;simp only[yw,ho,eI] at this;have hj:=kD.1 this.2.2.2 j (by simpa using hlt j p hp);have hb:Nat.beq j i=false:=by
   cases hb:Nat.beq j i
   ·rfl
   ·exact absurd (nO hb).symm hne
  simp only[hb,hp,hd,Bo,eI] at hj;refine⟨by simpa using hj.1,λhim hjm hm=>?_⟩;have h9:=hj.2;have hn1:Nat.ble m i=false:=by cases hb1:Nat.ble m i with|false=>rfl|true=>exact absurd (zL.mp hb1) aa
  have hn2:Nat.ble m j=false:=by cases hb1:Nat.ble m j with|false=>rfl|true=>exact absurd (zL.mp hb1) aa
  rw[hn1,hn2] at h9;simp only[Bool.or_self,Bo] at h9;have hc:(looks ops o).contains d=true:=by simpa using hm
  rw[hc] at h9;simp only[Bool.not_true,Bo,eI,Ka] at h9;refine⟨by simpa using h9.1,λhi=>?_⟩;rcases h9.2 with x|x
  ·have:E.contains i=true:=by simpa using hi
   rw[this] at x;cases x
  ·simpa using x
 refine⟨⟨λi o ho cs b e=>?_,λi o ho j hj=>?_,λi o ho d hd hm=>?_,λi j o p ho hp hne d hd=>(hpair i j o p ho hp hne d hd).1,λi j o p him hjm ho hp hne d hd hm=>(hpair i j o p ho hp hne d hd).2 him hjm hm,
  λi hi=>?_,λi hi=>?_,λi hi=>?_,λi hi o ho=>?_,DO E h4,?_,λi hi e he=>?_,λi hi=>?_⟩,zL.mp h7,λj o ho i hi=>by have:=Kr ops m _ 0 h8 j o ho i aa;simpa using this,λi o ho d hd=>?_⟩
 ·have:=hop i o ho;simp only[yw,ho,eI,Er,e] at this;exact absurd this.1 dK
 ·have:=hop i o ho;simp only[yw,ho,eI] at this;exact vM.mp (kD.1 this.2.1 j hj)
 ·have:=hop i o ho;simp only[yw,ho,eI,hd] at this;have hc:(looks ops o).contains d=true:=by simpa using hm
  rw[hc] at this;exact absurd this.2.2.1.1 dK
 ·have:=kD.1 h2 i (by simpa using hi);cases e1:E.contains i<;>cases e2:C.contains i<;>rw[e1,e2] at this
  ·cases this
  ·refine .inr ⟨λx=>?_,by simpa using e2⟩;have h9:E.contains i=true:=by simpa using x
   rw[e1] at h9;exact Bool.noConfusion h9
  ·refine .inl ⟨by simpa using e1,λx=>?_⟩;have h9:C.contains i=true:=by simpa using x
   rw[e2] at h9;exact Bool.noConfusion h9
  ·cases this
 ·exact vM.mp (kD.1 h3 i (bq _ hi))
 ·exact vM.mp (kD.1 h3 i (bI _ hi))
 ·have:=hop i o ho;simp only[yw,ho,eI] at this;cases hd:o.dst with
  |some d=>exact⟨d,rfl⟩
  |none=>
   rw[hd] at this;have hc:E.contains i=true:=by simpa using hi
   rw[hc] at this;exact absurd this.2.2.1 dK
 ·exact(DO C h5).imp (λh=>Nat.ne_of_lt h)
 ·have:=kD.1 h6 i hi;simp only[eI] at this;simpa using List.all_eq_true.1 this.2 e he
 ·have:=kD.1 h6 i hi;simp only[eI] at this;simpa using this.1
 ·have:=hop i o ho;simp only[yw,ho,eI,hd] at this;exact vM.mp this.2.2.1.2
theorem aim {P:Program} (hm:P.follows .mixedOrders=true) {c:bC} {n:Nat} {Fs:List an} {L:List ae} {f fE:Fm} {Q:bG} {id:Nat} {ops:List Oper}
  (m:Nat) (Ev:List (Nat×Value)) (C EN B:List Nat) (hok:DU ops n m (Ev.map (·.1)) C EN B=true) (fl:ut P c n ops Fs L f Ev EN fE) (gc:ur P c n ops Fs L (ops.drop m) Q B C.length C false fE Fs L):
  Go P c n Fs L f (.region id ops.toArray true) Q:=by
 obtain⟨k,hml,hz,hdn⟩:=adf hok;refine⟨λa h w ag re al=>wp_region_any hm ?_⟩;have hsplit:ops.take m++ops.drop m=ops:=gf m ops;have hlen:(ops.take m).length=m:=by simp;omega
 have hu:∀t,n<=t->(f t).v=undef:=λt ht=>by
  rw[<-ag.get t];simp only[gY];rw[oU (by rw[ag.size];exact ht)];rfl
 have hmem:∀i v,(i,v)∈Ev->i∈Ev.map (·.1):=λi v hm=>aM.2 ⟨(i,v),hm,rfl⟩;have hall:=fl.all k (λp hp=>aM.2 ⟨p,hp,rfl⟩) k.sorted hu (λi v o _ ho=>hdn i o ho);have hfE:∀t,n<=t->(fE t).v=undef:=λt ht=>by
  rw[fl.keeps t (λi v o _ ho hd=>absurd (hdn i o ho t hd) (Nat.not_lt.2 ht))];exact hu t ht
 have main:=aj1 (P:=P) (c:=c) (n:=n) (pre:=ops.take m) (zs:=ops.drop m) (Fs:=Fs) (L:=L) (Q:=Q) (E:=Ev.map (·.1)) (C:=C) (EN:=EN) (B:=B) (Ev:=Ev)
  (by rw[hsplit,hlen];exact k) (λi hi=>by obtain⟨p,hp,rfl⟩:=aM.1 hi;exact⟨p.2,hp⟩) hmem (λj o ho i hi=>by rw[hsplit,hlen];exact hz j o ho i (by rw[hlen] at hi;exact hi))
  ops.length (Array.replicate ops.length false) a {w with drawn:=w.drawn+1}
 rw[hsplit] at main;have hget:∀i,(Array.replicate ops.length false).getD i false=false:=λi=>by
  simp only[gY];cases e:(Array.replicate ops.length false)[i]? with
  |none=>rfl
  |some b=>
   obtain⟨_,h4⟩:=Ps.1 e;simp at h4;simp[<-h4]
 refine main dK ?_ (λi o _ hl=>by rw[hget] at hl;cases hl) (.inl ⟨C,false,fE,f,h,Fs,L,?_⟩)
 ·unfold left;rw[List.filter_eq_self.2]
  ·simp
  ·intro i hi;have:i<ops.length:=by simpa using hi
   simp[gY,this]
 ·refine⟨λ_ h=>h,λi hi=>⟨λ_=>hi,λ_=>hget i⟩,k.nodC,λh=>(by cases h),λi _=>hget i,by rw[hsplit];exact gc,ag,re.draw _,al,λt=>?_,λi v hv=>?_,hfE⟩
  ·by_cases e:∃i o,i∈Ev.map (·.1)/\ops[i]? =some o/\o.dst=some t
   ·obtain⟨i,o,h1,h2,h3⟩:=e;exact .inr ⟨i,o,h1,hget i,by rw[hsplit];exact h2,h3⟩
   ·refine .inl (fl.keeps t (λi v o hv ho hd=>e ⟨i,o,hmem i v hv,ho,hd⟩)).symm
  ·obtain⟨o,fi,h1,h2,h3,h4,h5⟩:=hall i v hv;refine⟨o,fi,by rw[hsplit];exact h1,by rw[hsplit];exact h2,by rw[hsplit];exact h3,λd hd=>⟨h4 d hd,hdn i o h1 d hd⟩,h5⟩
def Li (C:List Nat):List Nat->List Nat
 |[]=>[]
 |i::r=>bif C.any (Nat.beq i) then Li C r else i::Li C r
def De (P:Program) (c:bC) (n:Nat) (ops:List Oper) (m:Nat) (Fs:List an) (L:List ae) (Q:bG) (C B:List Nat) (_E:List Nat) (done en:List Nat) (f:Fm):Prop:=
 ∃Ev EN fE,ut P c n ops Fs L f Ev EN fE/\DU ops n m (done.reverse++Ev.map (·.1)) C (en.reverse++EN) B=true/\ur P c n ops Fs L (ops.drop m) Q B C.length C false fE Fs L
section
variable {P:Program} {c:bC} {n:Nat} {ops:List Oper} {m:Nat} {Fs:List an} {L:List ae} {Q:bG} {C B E:List Nat} {done en:List Nat} {f:Fm}
theorem ac {i:Nat} {v:Value} {o:Oper} (ho:ops[i]? =some o) (hs:∀{FX:List an} {LX:List ae} {X:bG},ak P c n ops.toArray (Fs++FX) (L++LX) (gh f o.dst v) [] X->ak P c n ops.toArray (Fs++FX) (L++LX) f [o] X) (k:De P c n ops m Fs L Q C B E (i::done) (i::en) (gh f o.dst v)):De P c n ops m Fs L Q C B (i::E) done en f:=by
 obtain⟨Ev,EN,fE,h1,h2,h3⟩:=k;exact⟨(i,v)::Ev,i::EN,fE,.cons ho (λ_ _ _=>hs) h1,by simpa using h2,h3⟩
theorem cC {i:Nat} {v:Value} {o:Oper} (ho:ops[i]? =some o) (hs:∀{FX:List an} {LX:List ae} {X:bG},ak P c n ops.toArray (Fs++FX) ([]++LX) (gh f o.dst v) [] X->ak P c n ops.toArray (Fs++FX) ([]++LX) f [o] X) (k:De P c n ops m Fs L Q C B E (i::done) en (gh f o.dst v)):De P c n ops m Fs L Q C B (i::E) done en f:=by
 obtain⟨Ev,EN,fE,h1,h2,h3⟩:=k;exact⟨(i,v)::Ev,EN,fE,.late ho (λ_ _ _=>hs) h1,by simpa using h2,h3⟩
theorem aj6 (hok:DU ops n m done.reverse C en.reverse B=true) (gc:ur P c n ops Fs L (ops.drop m) Q B C.length C false f Fs L):De P c n ops m Fs L Q C B [] done en f:=
 ⟨[],[],f,.nil,by simpa using hok,gc⟩
theorem cz (hm:P.follows .mixedOrders=true) {id:Nat} (m:Nat) (C B:List Nat) (k:De P c n ops m Fs L Q C B (Li C (List.range m)) [] [] f):Go P c n Fs L f (.region id ops.toArray true) Q:=by
 obtain⟨Ev,EN,fE,h1,h2,h3⟩:=k;exact aim hm m Ev C EN B (by simpa using h2) h1 h3
variable {zs:List Oper} {k:Nat} {b:Bool} {Fk:List an} {Lk:List ae}
def Dc (P:Program) (c:bC) (n:Nat) (ops:List Oper) (Fs:List an) (L:List ae) (zs:List Oper) (Q:bG) (B:List Nat) (k:Nat) (C:List Nat) (b:Bool) (i:Nat) (f:Fm) (Fk:List an) (Lk:List ae):Prop:=
 ∃o,ops[i]? =some o/\ak P c n ops.toArray Fk Lk f [o] (QN λf' Fk' Lk'=>(∃v,f'=gh f o.dst v)/\ur P c n ops Fs L zs Q B k (Az i C) (b||B.contains i) f' Fk' Lk')
theorem Uh (he:ye b Fs L Fk Lk) (h:ak P c n ops.toArray Fk Lk f zs Q):ur P c n ops Fs L zs Q B 0 [] b f Fk Lk:=⟨rfl,he,h⟩
theorem Ui {i:Nat} (hr:DW ops (i::C)=[i]) (he:ye b Fs L Fk Lk) (h:Dc P c n ops Fs L zs Q B k (i::C) b i f Fk Lk):ur P c n ops Fs L zs Q B (k+1) (i::C) b f Fk Lk:=
 ⟨he,by rw[hr];intro j hj;simp at hj;subst hj;exact h⟩
theorem so {i j:Nat} (hr:DW ops C=[i,j]) (he:ye b Fs L Fk Lk) (h:Dc P c n ops Fs L zs Q B k C b i f Fk Lk) (h2:Dc P c n ops Fs L zs Q B k C b j f Fk Lk):ur P c n ops Fs L zs Q B (k+1) C b f Fk Lk:=
 ⟨he,by rw[hr];intro x hx;simp at hx;rcases hx with rfl|rfl;exact h;exact h2⟩
theorem ahB {i j l:Nat} (hr:DW ops C=[i,j,l]) (he:ye b Fs L Fk Lk) (h:Dc P c n ops Fs L zs Q B k C b i f Fk Lk) (h2:Dc P c n ops Fs L zs Q B k C b j f Fk Lk) (h3:Dc P c n ops Fs L zs Q B k C b l f Fk Lk):ur P c n ops Fs L zs Q B (k+1) C b f Fk Lk:=
 ⟨he,by rw[hr];intro x hx;simp at hx;rcases hx with rfl|rfl|rfl;exact h;exact h2;exact h3⟩
end
end Go.V
