/- Part 3 of the proof that FnMapBorders returns true for every input that its row lets in. No further condition. -/
import Derived.Test.YtpddkliglnoaaaaGreatDoorA02
set_option linter.all false
set_option autoImplicit true
set_option relaxedAutoImplicit true
namespace Go.V
section
variable {P:Program} {c:bC} {n:Nat} {Fs:List an} {L:List ae} {f:Fm} {Q:bG}
theorem aij {α:Type} (M:List (Nat×Nat)) (I:α->Prop) (sl:α->List (Nat×Value)) (FF:α->List an) (Lv:α->List ae) {x y:Code} {A Lc:List ae} (h3:bv L A Lc)
  (h:Go P c n Fs (A++Lc) f x (oL (λf' Fs' L'=>∃a,I a/\Hl f' (sl a)/\kZ M f f'/\(∀g∈FF a++Fs,g∈Fs')/\jD L' (Lv a++Lc)) Q))
  (k:∀a g,I a->Go P c n (FF a++Fs) (Lv a++Lc) (rY (qT M f g) (sl a)) y Q):Go P c n Fs L f x (oL (λf Fs L=>Go P c n Fs L f y Q) Q):=by
 refine Go.perm (L':=A++Lc) ?_ h3.perm;refine⟨λa hp w ag re al=>wp_mono (h.out a hp w ag re al) λe a' w' q=>?_⟩;cases e with
 |normal=>
  obtain⟨f1,Fs1,L1,hp1,ag1,re1,al1,q⟩:=q;cases q with
  |norm q=>
   obtain⟨x,hI,hh,hk,hF,hL⟩:=q;refine⟨f1,Fs1,L1,hp1,ag1,re1,al1,.norm ?_⟩;have:=(k x f1 hI).have hF hL;rw[M3 hk,DK hh] at this;exact this
 |panic ch=>exact q
 |outgrown=>exact q
 |ret=>
  obtain⟨f1,Fs1,L1,hp1,ag1,re1,al1,q⟩:=q;cases q with
  |ret q=>exact⟨f1,Fs1,L1,hp1,ag1,re1,al1,.ret q⟩
 |exit i=>
  obtain⟨f1,Fs1,L1,hp1,ag1,re1,al1,q⟩:=q;cases q with
  |exit q=>exact⟨f1,Fs1,L1,hp1,ag1,re1,al1,.exit q⟩
 |goto i=>
  obtain⟨f1,Fs1,L1,hp1,ag1,re1,al1,q⟩:=q;cases q with
  |goto q=>exact⟨f1,Fs1,L1,hp1,ag1,re1,al1,.goto q⟩
end
end Go.V
namespace Go.V
theorem abI {A B X:List an} (h:∀g∈A,g∈X) (k:∀g∈B,g∈X):∀g∈A++B,g∈X:=λg hg=>(bB.1 hg).elim (h g) (k g)
theorem tM {Fs:List an} {L:List ae} {r off:Nat} {α:Type} {F:α->List Value} {k:Nat} {xs:List α} {tl:List Value} {j:Nat} {x:α} (h:fS Fs L r 0 (xs.flatMap F++tl))
  (hk:∀y∈xs,(F y).length=k) (hx:xs[j]? =some x) (ho:off=j*k):fS Fs L r off (F x):=by
 subst ho;have hjl:j<xs.length:=by
  rcases dL j xs.length with l|g
  ·exact l
  ·rw[gZ g] at hx;cases hx
 have hle:(j+1)*k<=xs.length*k:=gI _ hjl;rw[lU] at hle;have hl:=kJ hk;have h2:=jp h (k:=j*k) (m:=k);rw[Bj aa,vJ (by rw[jx];omega),Ck hk hx,gX] at h2;exact h2
theorem jo {Fs:List an} {L:List ae} {r off:Nat} {α:Type} {F:α->List Value} {k:Nat} {xs:List α} {tl:List Value} {j:Nat} {x:α} {i:Nat} {v:Value} (h:fS Fs L r 0 (xs.flatMap F++tl))
  (hk:∀y∈xs,(F y).length=k) (hx:xs[j]? =some x) (hv:(F x)[i]? =some v) (ho:off=j*k+i):uz Fs L r off v:=by
 subst ho;exact cY (tM h hk hx O) hv
theorem Il {Fs:List an} {L:List ae} {r off:Nat} {α:Type} {F:α->List Value} {k:Nat} {xs:List α} {tl:List Value} {j:Nat} {x:α} {i m:Nat} {vs:List Value} (h:fS Fs L r 0 (xs.flatMap F++tl))
  (hk:∀y∈xs,(F y).length=k) (hx:xs[j]? =some x) (hv:((F x).drop i).take m=vs) (ho:off=j*k+i):fS Fs L r off vs:=by
 subst ho;subst hv;exact jp (tM h hk hx O)
theorem KC {Fs:List an} {L:List ae} {r off:Nat} {α:Type} {F:α->List Value} {k:Nat} {xs:List α} {tl:List Value} {i:Nat} {v:Value} (h:fS Fs L r 0 (xs.flatMap F++tl))
  (hk:∀y∈xs,(F y).length=k) (hv:tl[i]? =some v) (ho:off=xs.length*k+i):uz Fs L r off v:=by
 subst ho;have:=cY (j:=xs.length*k+i) (v:=v) h (by
  rw[yl (by rw[kJ hk];omega),kJ hk,Nat.add_sub_cancel_left];exact hv)
 rw[gX] at this;exact this
theorem io {Fs:List an} {L:List ae} {r:Nat} {vs:List Value} {t:TypeId} {fz:Nat×Nat} (hm:(r,Obj.cells vs.toArray t fz)∈L):fS Fs L r 0 vs:=by
 have:=bD (Fs:=Fs) hm;simpa using this
section
variable {P:Program} {c:bC} {n:Nat} {ops:Array Oper} {Fs:List an} {L:List ae} {f:Fm} {Q:bG} {rest:List Oper}
variable {ty:TypeId} {ps:String} {aft:Array Edge} {aC:Nat->Option TI} {x y:Operand} {T:TypeId}
theorem M7 (Tb:bZ P aC) {ti:TI} (ht:aC T=some ti) {r o:Nat} {α:Type} {F:α->List Value} {k:Nat} {xs:List α} {tl:List Value} {j i:Nat} {e e0:α} {v:Value} {t':TypeId} {L':List ae} {vs:List Value}
  (hx:ap f x= .b (.pointer (some ⟨r,o,none⟩))) (hy:ap f y= .b v) (hv:v.cells.toList=vs) (hsz:ti.sz=vs.length) (h1:gN vs=true)
  (hk:∀y∈e::xs,(F y).length=k) (hj:xs[j]? =some e0) (hi:i+vs.length<=k) (he:F e=(F e0).take i++vs++(F e0).drop (i+vs.length)) (ho:o=j*k+i)
  (hu:cf L r (.cells (xs.flatMap F++tl).toArray t' (0,0)) (.cells ((xs.set j e).flatMap F++tl).toArray t' (0,0)) L') (K:ak P c n ops Fs L' f rest Q):
  ak P c n ops Fs L f (⟨none,.store T x y,ty,ps,aft,none⟩::rest) Q:=by
 have hl:=hk e (.head _);have hks:∀y∈xs,(F y).length=k:=λy hy=>hk y (.tail _ hy);have hvc:v.cells=vs.toArray:=by apply xc;simpa using hv
 have hjl:j<xs.length:=by
  rcases dL j xs.length with l|g
  ·exact l
  ·rw[gZ g] at hj;cases hj
 have hle:(j+1)*k<=xs.length*k:=gI _ hjl;rw[lU] at hle;have hflat:(xs.flatMap F).length=xs.length*k:=kJ hks;have hel:=Ck hks hj;refine Ar Tb ht hx hy hvc (by simp[hsz]) (by simpa[gN,kD] using h1) hu ?_ ?_ K
 ·subst ho;simp only[ox,aW,hflat];omega
 ·subst ho;rw[<-Cl hks hjl,he,<-hel];simp only[ox];congr 1;generalize xs.flatMap F=l at hflat hel ⊢;rw[vJ aa,Bj aa];have e1:List.take (j*k) l++(List.take i (List.take k (List.drop (j*k) l))++vs++List.drop (i+vs.length) (List.take k (List.drop (j*k) l)))++List.drop (j*k+k) l=List.take (j*k+i) l++vs++List.drop (j*k+i+vs.length) l:=by
   rw[Kl,Br aa,O8,O7,List.take_add (i:=j*k) (j:=i)];have e2:List.drop (j*k+i+vs.length) l=List.take (k-(i+vs.length)) (List.drop (j*k+(i+vs.length)) l)++List.drop (j*k+k) l:=by
    have e3:j*k+i+vs.length=j*k+(i+vs.length):=by omega
    rw[e3]
    conv=>lhs;rw[<-gf (k-(i+vs.length)) (List.drop (j*k+(i+vs.length)) l)]
    rw[O7];congr 2;omega
   rw[e2];simp only[cG]
  rw[e1];simp only[cG]
end
end Go.V
namespace Go.V
section
variable {P:Program} {c:bC} {n:Nat} {ops:Array Oper} {Fs:List an} {L:List ae} {f:Fm} {Q:bG} {rest:List Oper}
variable {d:Nat} {ty:TypeId} {ps:String} {aft:Array Edge} {aC:Nat->Option TI} {x y z:Operand} {T T':TypeId}
theorem As {k:FuncId} {xs:List Operand} {ats:Array TypeId} {vs:List Value} {v:Value} (hxs:jv f xs vs) (hcall:∀w:World,(callFunc k vs.toArray).run P w= .ok (.value v) w) (hd:Nat.blt d n=true)
  (K:ak P c n ops Fs L (aT f d v) rest Q):
  ak P c n ops Fs L f (⟨some d,.call ⟨.value (.func k),xs.toArray,ats⟩,ty,ps,aft,none⟩::rest) Q:=
 dh rfl (bU hd) v (λh w sa al=>by
  have hm:(List.map (λx=>(ap f x).v) xs)=vs:=hxs.map;have he:(ap f (.func k)).v= .func (.func k) #[] #[]:=rfl;simp only[execOp,resolve,he,Deferred.ofValue,bo,bS,bV,invoke,nN,hm];have:=hcall w;simpa using this) K
theorem ahW {k:FuncId} {xs:List Operand} {ats:Array TypeId} {vs:List Value} {φ:Value->Prop} (hxs:jv f xs vs) (hcall:∀w:World,∃v w',(callFunc k vs.toArray).run P w= .ok (.value v) w'/\φ v/\(w'=w\/w'={w with drawn:=w.drawn+1})) (hd:Nat.blt d n=true)
  (K:∀v,φ v->ak P c n ops Fs L (aT f d v) rest Q):
  ak P c n ops Fs L f (⟨some d,.call ⟨.value (.func k),xs.toArray,ats⟩,ty,ps,aft,none⟩::rest) Q:=
 mX rfl (bU hd) λh w re al=>by
  have hm:(List.map (λx=>(ap f x).v) xs)=vs:=hxs.map;have he:(ap f (.func k)).v= .func (.func k) #[] #[]:=rfl;obtain⟨v,w',h1,h2,h3⟩:=hcall w;refine⟨v,w',Fs,L,h,?_,?_,al,K v h2⟩
  ·simp only[execOp,resolve,he,Deferred.ofValue,bo,bS,bV,invoke,nN,hm];simpa using h1
  ·rcases h3 with rfl|rfl
   ·exact re
   ·exact re.draw _
theorem aib {k:IntKind} {a b r:Int} (hx:ap f x= .b (.int k a)) (hy:ap f y= .b (.int k b)) (hr:k.wrap ((BitVec.ofInt k.bits a)&&& ~~~(BitVec.ofInt k.bits b)).toNat=r) (hd:Nat.blt d n=true)
  (K:ak P c n ops Fs L (aT f d (.int k r)) rest Q):ak P c n ops Fs L f (⟨some d,.binOp .andNot T x y T',ty,ps,aft,none⟩::rest) Q:=
 qj hx hy (λw=>by simp[eqGuard]) (λh w _ _=>by
  subst hr;simp[Go.binOp,Op.intBits]) hd K
end
theorem aks {a:Nat} (h:a<9223372036854775808):IntKind.u64.wrap ((BitVec.ofInt IntKind.u64.bits (a:Int))&&& ~~~(BitVec.ofInt IntKind.u64.bits (9223372036854775808:Int))).toNat=(a:Int):=by
 have hb:IntKind.u64.bits=64:=rfl;have e:((BitVec.ofInt IntKind.u64.bits (a:Int))&&& ~~~(BitVec.ofInt IntKind.u64.bits (9223372036854775808:Int))).toNat=a:=by
  rw[BitVec.toNat_and];have e1:(~~~(BitVec.ofInt IntKind.u64.bits (9223372036854775808:Int))).toNat=2^63-1:=by decide
  have e2:(BitVec.ofInt IntKind.u64.bits (a:Int)).toNat=a:=by
   rw[BitVec.toNat_ofInt,hb];omega
  rw[e1,e2,Nat.and_two_pow_sub_one_eq_mod];exact uC aa
 rw[e];exact zY aa aa
end Go.V
namespace Go.V
def EO (op:BinOp) (a b:Int):Option Bool:=match op with
 |.eql=>some (decide (a=b))
 |.neq=>some (decide (a≠b))
 |.lss=>some (decide (a<b))
 |.leq=>some (decide (a<=b))
 |.gtr=>some (decide (a>b))
 |.geq=>some (decide (a>=b))
 |_=>none
section
variable {P:Program} {c:bC} {n:Nat} {ops:Array Oper} {Fs:List an} {L:List ae} {f:Fm} {Q:bG} {rest:List Oper}
variable {d:Nat} {ty:TypeId} {ps:String} {aft:Array Edge} {aC:Nat->Option TI} {x y z:Operand} {T T':TypeId} {ki:IntKind} {a b:Int} {t:Bool} {op:BinOp}
theorem aL (hx:ap f x= .b (.int ki a)) (hy:ap f y= .b (.int ki b)) (hr:EO op a b=some t) (hd:Nat.blt d n=true) (k:ak P c n ops Fs L (aT f d (.bool t)) rest Q):
  ak P c n ops Fs L f (⟨some d,.binOp op T x y T',ty,ps,aft,none⟩::rest) Q:=by
 cases op<;>simp only[EO] at hr<;>first|(cases hr;done)|skip
 all_goals
  cases hr
  first
   |exact HW hx hy hd k
   |exact Uq hx hy hd k
   |exact EU hx hy hd k
   |exact Us hx hy hd k
   |exact HV hx hy hd k
   |exact Nj hx hy hd k
theorem qY {b t:Bool} (hx:ap f x= .b (.bool b)) (hr:(!b)=t) (hd:Nat.blt d n=true) (k:ak P c n ops Fs L (aT f d (.bool t)) rest Q):
  ak P c n ops Fs L f (⟨some d,.unOp .not T x,ty,ps,aft,none⟩::rest) Q:=by
 subst hr;exact vX hx hd k
end
end Go.V
namespace Go.V
section
variable {P:Program} {c:bC} {n:Nat} {ops:Array Oper} {Fs:List an} {L:List ae} {f:Fm} {Q:bG} {rest:List Oper}
variable {ty:TypeId} {ps:String} {aft:Array Edge} {op:Op} {dst:Option Tmp}
theorem Uj {g t:Nat} {b:Bool} (hg:(ops[g]?).bind (·.dst)=some t) (hb:f t= .b undef) (hd:∀i,dst=some i->i<n)
  (k:ak P c n ops Fs L (gh f dst undef) rest Q):ak P c n ops Fs L f (⟨dst,op,ty,ps,aft,some (g,b)⟩::rest) Q:=by
 refine⟨λa h w ag re al=>?_⟩;have hy:yielded ops a.tmps g=none:=by
  have h1:=ag.get t;rw[hb,Bx.v_b] at h1;unfold yielded;rw[hg];simp only[lh];cases e:a.tmps[t]? with
  |none=>rfl
  |some v=>
   simp only[gY,e,mM] at h1;subst h1;rfl
 have hw:Region.wanted (⟨dst,op,ty,ps,aft,some (g,b)⟩:Oper) (yielded ops a.tmps)=false:=by
  simp only[Region.wanted,hy];cases b<;>rfl
 unfold wpList;rw[hw];simp only[ld,if_false];exact k.out _ _ _ (ag.put _ hd undef) re al
end
end Go.V
namespace Go.V
theorem bv.assoc {A B C X R:List ae} (h:bv (A++(B++C)) X R):bv ((A++B)++C) X R:=by rw[cG];exact h
theorem cf.assoc {A B C L':List ae} {r:Nat} {o o':Obj} (h:cf (A++(B++C)) r o o' L'):cf ((A++B)++C) r o o' L':=by rw[cG];exact h
theorem tD {α:Type} {a:α} {A B C:List α} (h:a∈A++(B++C)):a∈(A++B)++C:=by rw[cG];exact h
theorem DN {α:Type} {X A B C:List α} (h:List.Sublist X (A++(B++C))):List.Sublist X ((A++B)++C):=by rw[cG];exact h
theorem mA {α:Type} {a:α} {l:List α} (h:a∈l:=by first|((repeat (first|exact .head _|apply vI|apply tD|apply bI));done)|(apply bq;(repeat (first|exact .head _|apply vI|apply tD|apply bI));done)|((repeat (first|assumption|(apply bq;assumption)|exact .head _|apply vI|apply tD|apply bI));done)):a∈l:=h
theorem uA {L L':List ae} {r:Nat} {o o':Obj} (h:cf L r o o' L':=by repeat (first|apply cf.here|apply cf.there|apply cf.assoc|apply cf.right)):cf L r o o' L':=h
theorem eA {f:Fm} {xs:List Operand} {vs:List Value} (h:jv f xs vs:=by repeat (first|apply jv.nil|(apply jv.cons;exact rfl))):jv f xs vs:=h
theorem pA {f:Fm} {xs:List (Nat×Operand)} {vs:List (Nat×Value)} (h:uw f xs vs:=by repeat (first|apply uw.nil|(apply uw.cons;exact rfl))):uw f xs vs:=h
theorem nA {α:Type} {l m:List α} (h:NF l m:=by repeat (first|apply NF.nil|apply NF.cons)):NF l m:=h
theorem tA {L A R:List ae} (h:bv L A R:=by repeat (first|apply bv.none|apply bv.all|apply bv.front|apply bv.back|apply bv.assoc|apply bv.app|apply bv.cons2|apply bv.take|apply bv.leave|apply bv.skip)):bv L A R:=h
theorem fA {A B:List an} (h:∀x∈A,x∈B:=by repeat (first|exact gy|exact(λ_ h=>h)|(focus ((intro g h;repeat (first|exact h|exact bq _ h|apply tD|apply bI|apply vI));done))|refine abI ?_ ?_|refine mP (by first|((repeat (first|exact .head _|apply vI|apply tD|apply bI));done)|(apply bq;(repeat (first|exact .head _|apply vI|apply tD|apply bI));done)|((repeat (first|assumption|(apply bq;assumption)|exact .head _|apply vI|apply tD|apply bI));done)) ?_)):∀x∈A,x∈B:=h
theorem sA {A B:List an} (h:∀x∈A,x∈B:=by intro g h;repeat (first|exact h|exact bq _ h|apply tD|apply bI|apply vI)):∀x∈A,x∈B:=h
theorem hA {L T:List ae} (h:jD L T:=by repeat (first|exact jD.nil|refine jD.cons (by repeat (first|exact .none|exact .all|exact .front|exact .back|apply bv.assoc|apply bv.app|apply bv.cons2|apply bv.take|apply bv.leave|apply bv.skip)) ?_|refine jD.app (by repeat (first|exact .none|exact .all|exact .front|exact .back|apply bv.assoc|apply bv.app|apply bv.cons2|apply bv.take|apply bv.leave|apply bv.skip)) ?_|exact jD.last (by repeat (first|exact .none|exact .all|exact .front|exact .back|apply bv.assoc|apply bv.app|apply bv.cons2|apply bv.take|apply bv.leave|apply bv.skip)))):jD L T:=h
theorem kA {M:List (Nat×Nat)} {f f':Fm} (h:kZ M f f':=by repeat (first|exact agf|exact TF|refine ML ?_ rfl|refine agd ?_ rfl|refine TD rfl ?_|refine age ?_ rfl)):kZ M f f':=h
theorem lA {f:Fm} {l:List (Nat×Value)} (h:Hl f l:=by repeat (first|apply Hl.nil|(apply Hl.cons;exact rfl))):Hl f l:=h
theorem yA {Fs:List an} {L:List ae} {Fk:List an} {Lk:List ae} {b:Bool} (h:∀x∈Fs,x∈Fk:=by intro g h;repeat (first|exact h|apply tD|apply bI|apply vI)) (h2:List.Sublist L Lk:=by repeat (first|exact gx _|apply pd|apply DN|apply DB)):ye b Fs L Fk Lk:=⟨h,λ_=>h2⟩
theorem zA {Fs:List an} {L:List ae} {Fk:List an} {Lk:List ae} {b:Bool} (hb:b=true:=by decide) (h:∀x∈Fs,x∈Fk:=by intro g h;repeat (first|exact h|apply tD|apply bI|apply vI)):ye b Fs L Fk Lk:=⟨h,λe=>by rw[hb] at e;cases e⟩
theorem mF {α:Type} {a:α} {l:List α} (h:a∈l:=by repeat (first|assumption|exact .head _|apply vI|apply tD|apply bI)):a∈l:=h
theorem bA {A L:List ae} (h:List.Sublist A L:=by repeat (first|exact gx _|exact oZ _|exact tm _ _|apply DE|apply pd|apply DN|apply DB)):List.Sublist A L:=h
theorem oA {p:Prop} (h:p:=by first|omega|(dsimp only at*;omega)):p:=h
theorem iA {a:Int} (h1: -9223372036854775808<=a:=by first|omega|(dsimp only;omega)) (h2:a<=9223372036854775807:=by first|omega|(dsimp only;omega)):oS a:=⟨h1,h2⟩
theorem gA {n:Nat} {dst:Option Tmp} (h:∀i,dst=some i->i<n:=by intro i h;cases h;decide):∀i,dst=some i->i<n:=h
theorem KR {α:Type} {A B C:List α} (h:List.Sublist A B):List.Sublist A (B++C):=h.trans (tm _ _)
theorem KQ {α:Type} {A B C:List α} (h:List.Sublist A C):List.Sublist A (B++C):=h.trans (List.sublist_append_right _ _)
theorem KV {α:Type} {A B C:List α} (h:List.Sublist A C):List.Sublist (B++A) (B++C):= .append (.refl _) h
theorem KU {α:Type} {x:α} {A C:List α} (h:List.Sublist A C):List.Sublist A (x::C):= .cons _ h
theorem KS {α:Type} {x:α} {A C:List α} (h:List.Sublist A C):List.Sublist (x::A) (x::C):= .cons_cons _ h
theorem mT {p q:Prop} (t:q) (h:q->p:=by intro t;solve_by_elim (maxDepth:=40) (transparency:= .default) only[t,bq,bI,vI]):p:=h t
theorem uT {p q:Prop} (t:q) (h:q->p:=by intro t;solve_by_elim (maxDepth:=40) (transparency:= .default) only[t,cf.left,cf.right,cf.there]):p:=h t
theorem sT {α:Type} {A B:List α} (h:List.Sublist A B:=by solve_by_elim (maxDepth:=40) (transparency:= .default) only[gx,oZ,KR,KQ,KV,KU,KS]):List.Sublist A B:=h
theorem iT {p:Prop} [Decidable p] (h:p):some (decide p)=some true:=congrArg some (decide_eq_true h)
theorem iF {p:Prop} [Decidable p] (h:¬p):some (decide p)=some false:=congrArg some (decide_eq_false h)
section
variable {P:Program} {c:bC} {n:Nat} {ops:Array Oper} {Fs:List an} {L:List ae} {f:Fm} {Q:bG} {rest:List Oper}
variable {d:Nat} {ty:TypeId} {ps:String} {aft:Array Edge}
theorem am {fid:FuncId} {nm og:String} {ta pa rt:Array TypeId} {nf e4:Nat} {e1 e2:Bool} {e3:String} {e5:Option Nat} {e6:List Departure} {e7:Array String} {code:Code} {args:List Value} {Q:cZ} {rs:List ResultVar} (hf:P.funcs[fid]? =some ⟨nm,og,ta,pa,rt,nf,n,rs.toArray,some code,e1,e2,e3,e4,e5,e6,e7⟩) (H:∀c,Go P c n Fs L (AE 0 args) code (CK P rs Q)) (hl:Nat.ble args.length n=true:=by exact rfl):ai P fid args.toArray Fs L Q:=acd hf rfl rfl hl rfl H
theorem ao {x:Operand} {y z:Code} {t:Bool} (ht:t=true->Go P c n Fs L f y Q) (hf:t=false->Go P c n Fs L f z Q) (hx:ap f x= .b (.bool t):=by exact rfl):Go P c n Fs L f (.cond x y z) Q:=gz hx ht hf
theorem aj {k:FuncId} {xs:List Operand} {ats:Array TypeId} {vs:List Value} {v:Value} {Fs1:List an} (hxs:jv f xs vs) (hcall:∀(args:Array Value) (w:World),(callFunc k args).run P w= .ok (.enter k args) w) (hs:ai P k vs.toArray Fs1 [] λv' Fs' L'=>(v'=v/\Fs'=[])/\L'=[]) (K:ak P c n ops Fs L (aT f d v) rest Q) (hF:∀x∈Fs1,x∈Fs:=by exact fA) (hd:Nat.blt d n=true:=by exact rfl):ak P c n ops Fs L f (⟨some d,.call ⟨.value (.func k),xs.toArray,ats⟩,ty,ps,aft,none⟩::rest) Q:=
 Uw hxs hcall (Q1:=λv' Fs'=>v'=v/\Fs'=[]) hs hF hd λ_ _ h=>by cases h.1;cases h.2;exact K
theorem aI {k:FuncId} {xs:List Operand} {ats:Array TypeId} {vs:List Value} {Fs1:List an} {Q1:Value->List an->Prop} (hxs:jv f xs vs) (hcall:∀(args:Array Value) (w:World),(callFunc k args).run P w= .ok (.enter k args) w) (hs:ai P k vs.toArray Fs1 [] λv Fs' L'=>Q1 v Fs'/\L'=[]) (K:∀v Fs',Q1 v Fs'->ak P c n ops (Fs'++Fs) L (aT f d v) rest Q) (hF:∀x∈Fs1,x∈Fs:=by exact fA) (hd:Nat.blt d n=true:=by exact rfl):ak P c n ops Fs L f (⟨some d,.call ⟨.value (.func k),xs.toArray,ats⟩,ty,ps,aft,none⟩::rest) Q:=Uw hxs hcall hs hF hd K
theorem aS {k:FuncId} {xs:List Operand} {ats:Array TypeId} {vs:List Value} {Fs1:List an} {L1 R:List ae} {Q1:cZ} (hxs:jv f xs vs) (hcall:∀(args:Array Value) (w:World),(callFunc k args).run P w= .ok (.enter k args) w) (hs:ai P k vs.toArray Fs1 L1 Q1) (K:∀v Fs' L',Q1 v Fs' L'->ak P c n ops (Fs'++Fs) (R++L') (aT f d v) rest Q) (hF:∀x∈Fs1,x∈Fs:=by exact fA) (hT:bv L L1 R:=by exact tA) (hd:Nat.blt d n=true:=by exact rfl):ak P c n ops Fs L f (⟨some d,.call ⟨.value (.func k),xs.toArray,ats⟩,ty,ps,aft,none⟩::rest) Q:=Ux hxs hcall hs hF hT hd K
theorem dj {k:FuncId} {fv:Operand} {first captured:List Value} {xs:List Operand} {ats:Array TypeId} {vs:List Value} {Fs1:List an} {L1 R:List ae} {Q1:cZ} {asz:List Value} (hfv:ap f fv= .b (.func (.func k) first.toArray captured.toArray)) (hxs:jv f xs vs) (hcall:∀(args:Array Value) (w:World),(callFunc k args).run P w= .ok (.enter k args) w) (hargs:NF (first++(vs++captured)) asz) (hs:ai P k asz.toArray Fs1 L1 Q1) (K:∀v Fs' L',Q1 v Fs' L'->ak P c n ops (Fs'++Fs) (R++L') (aT f d v) rest Q) (hF:∀x∈Fs1,x∈Fs:=by exact fA) (hT:bv L L1 R:=by exact tA) (hd:Nat.blt d n=true:=by exact rfl):ak P c n ops Fs L f (⟨some d,.call ⟨.value fv,xs.toArray,ats⟩,ty,ps,aft,none⟩::rest) Q:=Nl hfv hxs hcall hargs hs hF hT hd K
theorem aU {α:Type} (M:List (Nat×Nat)) (I:α->Prop) (sl:α->List (Nat×Value)) (FF:α->List an) (Lv:α->List ae) (μ:α->Nat) (x0:α) {body:Code} {Lc:List ae} (hI:I x0)
  (round:∀x g,I x->Go P c n (FF x++Fs) (Lv x++Lc) (rY (qT M f g) (sl x)) body (oL (λf' Fs' L'=>∃x',μ x'<μ x/\I x'/\Hl f' (sl x')/\kZ M f f'/\(∀g∈FF x'++Fs,g∈Fs')/\jD L' (Lv x'++Lc)) Q)) (h1:Hl f (sl x0):=by exact lA) (h2:∀g∈FF x0,g∈Fs:=by first|exact gy|exact fA) (h3:bv L (Lv x0) Lc:=by exact tA):
  Go P c n Fs L f (.loop body) Q:=aii M I sl FF Lv μ x0 hI h1 h2 h3 round
theorem jl {α:Type} (A:List ae) (M:List (Nat×Nat)) (I:α->Prop) (sl:α->List (Nat×Value)) (FF:α->List an) (Lv:α->List ae) {x y:Code} {Lc:List ae}
  (h:Go P c n Fs (A++Lc) f x (oL (λf' Fs' L'=>∃a,I a/\Hl f' (sl a)/\kZ M f f'/\(∀g∈FF a++Fs,g∈Fs')/\jD L' (Lv a++Lc)) Q))
  (k:∀a g,I a->Go P c n (FF a++Fs) (Lv a++Lc) (rY (qT M f g) (sl a)) y Q) (h3:bv L A Lc:=by exact tA):Go P c n Fs L f x (oL (λf Fs L=>Go P c n Fs L f y Q) Q):=aij M I sl FF Lv h3 h k
end
end Go.V
namespace Go.V
def IJ (P:Program) (fid:FuncId) (args:Array Value) (L:List ae) (Q:Value->List ae->Prop):Prop:=
 ∀h w,jU h L w->∃v w' L',(callFunc fid args).run P w= .ok (.value v) w'/\Q v L'/\jU h L' w'/\Fr (ids L) w w'/\y5 h (ids L) w.heap.size h L'
section
variable {P:Program} {c:bC} {n:Nat} {ops:Array Oper} {Fs:List an} {L:List ae} {f:Fm} {Q:bG} {rest:List Oper}
variable {d:Nat} {ty:TypeId} {ps:String} {aft:Array Edge}
theorem nZ {k:FuncId} {fv:Operand} {first captured:List Value} {xs:List Operand} {ats:Array TypeId} {vs:List Value} (hfv:ap f fv= .b (.func (.func k) first.toArray captured.toArray))
  (hxs:jv f xs vs) {L1 R:List ae} {Q1:Value->List ae->Prop} {asz:List Value} (hargs:NF (first++(vs++captured)) asz) (hs:IJ P k asz.toArray L1 Q1) (hT:bv L L1 R) (hd:Nat.blt d n=true)
  (kont:∀v L',Q1 v L'->ak P c n ops Fs (R++L') (aT f d v) rest Q):
  ak P c n ops Fs L f (⟨some d,.call ⟨.value fv,xs.toArray,ats⟩,ty,ps,aft,none⟩::rest) Q:=
 mX rfl (bU hd) λh w re al=>by
  have hm:(List.map (λx=>(ap f x).v) xs)=vs:=hxs.map;obtain⟨v,w',L',h1,h2,h3,h4,h5⟩:=hs h w (re.sat.take hT);refine⟨v,w',Fs,R++L',h,?_,re.call hT (PH.le_refl h) h3 h4 h5,al,kont v L' h2⟩;rw[<-hargs.eq] at h1;simp only[Bx.v_b,execOp,resolve,hfv,Deferred.ofValue,bo,bS,bV,invoke,nN,hm];simpa using h1
variable {x y:Operand} {T T':TypeId} {ki kj:IntKind}
theorem M6 {a b m:Int} (hx:ap f x= .b (.int ki a)) (hy:ap f y= .b (.int ki b)) (hr:ki.wrap ((BitVec.ofInt ki.bits a)^^^(BitVec.ofInt ki.bits b)).toNat=m) (hd:Nat.blt d n=true)
  (K:ak P c n ops Fs L (aT f d (.int ki m)) rest Q):ak P c n ops Fs L f (⟨some d,.binOp .xor T x y T',ty,ps,aft,none⟩::rest) Q:=
 qj hx hy (λw=>by simp[eqGuard]) (λh w _ _=>by subst hr;simp[Go.binOp,Op.intBits]) hd K
theorem aia {a b m:Int} (hx:ap f x= .b (.int ki a)) (hy:ap f y= .b (.int ki b)) (hr:ki.wrap ((BitVec.ofInt ki.bits a)&&&(BitVec.ofInt ki.bits b)).toNat=m) (hd:Nat.blt d n=true)
  (K:ak P c n ops Fs L (aT f d (.int ki m)) rest Q):ak P c n ops Fs L f (⟨some d,.binOp .and T x y T',ty,ps,aft,none⟩::rest) Q:=
 qj hx hy (λw=>by simp[eqGuard]) (λh w _ _=>by subst hr;simp[Go.binOp,Op.intBits]) hd K
theorem M9 {a b m:Int} (hx:ap f x= .b (.int ki a)) (hy:ap f y= .b (.int kj b)) (hb:0<=b) (hr:ki.wrap (a*2^min b.toNat ki.bits)=m) (hd:Nat.blt d n=true) (K:ak P c n ops Fs L (aT f d (.int ki m)) rest Q):
  ak P c n ops Fs L f (⟨some d,.binOp .shl T x y T',ty,ps,aft,none⟩::rest) Q:=
 qj hx hy (λw=>by simp[eqGuard]) (λh w _ _=>by subst hr;simp[Go.binOp,Op.shift,Int.not_lt.2 hb]) hd K
theorem ahD {a b m:Int} (hx:ap f x= .b (.int ki a)) (hy:ap f y= .b (.int ki b)) (hr:ki.wrap (a-b)=m) (hd:Nat.blt d n=true) (K:ak P c n ops Fs L (aT f d (.int ki m)) rest Q):
  ak P c n ops Fs L f (⟨some d,.binOp .sub T x y T',ty,ps,aft,none⟩::rest) Q:=
 qj hx hy (λw=>by simp[eqGuard]) (λh w _ _=>by subst hr;simp[Go.binOp,Op.intArith]) hd K
theorem pj {x y:Operand} {T T':TypeId} {a b m:Int} (hx:ap f x= .b (.int .i64 a)) (hy:ap f y= .b (.int .i64 b)) (ha:0<=a) (hb:0<b) (hm:a/b=m) (hr:oS a) (hd:Nat.blt d n=true) (k:ak P c n ops Fs L (aT f d (.int .i64 m)) rest Q):
  ak P c n ops Fs L f (⟨some d,.binOp .quo T x y T',ty,ps,aft,none⟩::rest) Q:=by subst hm;exact Nb hx hy ha hb hr hd k
theorem iM {x y:Operand} {T T':TypeId} {a b m:Int} (hx:ap f x= .b (.int .i64 a)) (hy:ap f y= .b (.int .i64 b)) (hm:a*b=m) (hr:oS m) (hd:Nat.blt d n=true) (k:ak P c n ops Fs L (aT f d (.int .i64 m)) rest Q):
  ak P c n ops Fs L f (⟨some d,.binOp .mul T x y T',ty,ps,aft,none⟩::rest) Q:=by subst hm;exact Nd hx hy hr hd k
end
theorem Hm {a:Nat} (h:a<18446744073709551616):(BitVec.ofInt IntKind.u64.bits (a:Int)).toNat=a:=by
 have hb:IntKind.u64.bits=64:=rfl;rw[BitVec.toNat_ofInt,hb];omega
theorem Kt {a b:Nat} (ha:a<18446744073709551616) (hb:b<18446744073709551616):IntKind.u64.wrap ((BitVec.ofInt IntKind.u64.bits (a:Int))^^^(BitVec.ofInt IntKind.u64.bits (b:Int))).toNat=((a^^^b:Nat):Int):=by
 have p:(18446744073709551616:Nat)=2^64:=by decide
 have h:a^^^b<2^64:=J3 aa aa;rw[BitVec.toNat_xor,Hm ha,Hm hb];exact zY aa aa
theorem ale {a b:Nat} (ha:a<18446744073709551616) (hb:b<18446744073709551616):IntKind.u64.wrap ((BitVec.ofInt IntKind.u64.bits (a:Int))&&&(BitVec.ofInt IntKind.u64.bits (b:Int))).toNat=((a&&& b:Nat):Int):=by
 have h:a&&& b<=a:=Nat.and_le_left;rw[BitVec.toNat_and,Hm ha,Hm hb];exact zY aa aa
theorem P5 (a:Nat):IntKind.u64.wrap (a:Int)=((a%18446744073709551616:Nat):Int):=by
 have e:(2^IntKind.u64.bits:Int)=18446744073709551616:=by decide
 simp only[IntKind.wrap,e,IntKind.signed,Pz,ld,if_false];omega
end Go.V
namespace Go.V
open Go
abbrev bM:Value:= .int .i64 0
abbrev bu:Value:= .float .f64 0
abbrev fU:Value:= .pointer none
abbrev iG:Value:= .slice none 0 0
abbrev fu:Value:= .bool false
abbrev nQ:Value:= .map none
abbrev xh:Value:= .nilIface
abbrev lY:Value:= .int .u8 0
abbrev pf:Value:= .nilFunc
abbrev cD (l:List Value):Value:= .agg l.toArray
def aX (s:String) (t o b:Nat) (p:String):Field:=⟨s,t,o,false,"",p,b⟩
def Qs (s:String) (t o b:Nat) (p:String):Field:=⟨s,t,o,true,"",p,b⟩
def du (p:String) (l:List (String->Field)):TypeDesc:= .struct (l.map λf=>f p).toArray
def ik:= "pub-eidograph/pub/simplefeatures/geom"
def Gu:= "pub-eidograph/pub/simplefeatures/rtree"
def KO:TypeDesc->List Nat
 |.struct fs=>fs.toList.map (·.type)
 |.slice e=>[e]
 |.array _ e=>[e]
 |_=>[]
def Ej:TypeDesc->List Nat->List (Nat×Nat)
 |.struct fs,l=>(fs.toList.map (·.offset)).zip l
 |_,_=>[]
def Hr (d:TypeDesc) (l:List Nat) (s:Nat) (z:Value) (b:Nat):TI:=
 ⟨s,match d with|.struct _=>true|.array _ _=>true|_=>false,.b z,d,b,bif (Ej d l).any (λp=>Nat.beq p.2 0) then [] else(Ej d l).map (·.1),Ej d l,
  match d with|.slice _=>1|.array _ _=>2|_=>0,match d with|.slice e=>e|.array _ e=>e|_=>0,match d,l with|.slice _,[e]=>e|.array _ _,[e]=>e|_,_=>0,match d with|.array n _=>n|_=>0⟩
def tO (d:TypeDesc) (s:Nat) (z:Value) (b:Nat):TI:=⟨s,false,.b z,d,b,[],[],0,0,0,0⟩
def tP (e:Nat):TI:=⟨1,false,.b fU,.pointer e,8,[],[],0,0,0,0⟩
def tL (e s:Nat):TI:=⟨1,false,.b iG,.slice e,24,[],[],1,e,s,0⟩
def tR (n e k s:Nat) (z:Value) (b:Nat):TI:=⟨s,true,.b z,.array n e,b,[],[],2,e,k,n⟩
def tS (d:TypeDesc) (o:List Nat) (p:List (Nat×Nat)) (s:Nat) (z:Value) (b:Nat):TI:=⟨s,true,.b z,d,b,o,p,0,0,0,0⟩
inductive oh where
 |nd (k:Nat) (a b:oh)
 |lf (t:Nat) (i:TI)
open oh
def oh.find:oh->Nat->Option TI
 |nd k a b,t=>bif Nat.blt t k then a.find t else b.find t
 |lf t' i,t=>bif Nat.beq t t' then some i else none
def lo (i:TI):List Nat:=match i.kind with|0=>i.places.map (·.2)|_=>[i.elS]
def oh.has (P:Program):oh->List (Option TypeDesc×Option (Nat×Nat×Option Value)×List (Option Nat)×TI)
 |nd _ a b=>a.has P++b.has P
 |lf t d=>[(P.underlying t,(P.info? t).map λi=>(i.size,i.bytes,i.zero),(KO d.desc).map λe=>(P.info? e).map (·.size),d)]
def oh.want:oh->List (Option TypeDesc×Option (Nat×Nat×Option Value)×List (Option Nat)×TI)
 |nd _ a b=>a.want++b.want
 |lf _ i=>[(some i.desc,some (i.sz,i.bytes,some i.zero.v),(lo i).map some,Hr i.desc (lo i) i.sz i.zero.v i.bytes)]
theorem Mw (P:Program):∀T:oh,(T.has P).length=T.want.length
 |nd _ a b=>by simp only[oh.has,oh.want,aW,Mw P a,Mw P b]
 |lf .. =>rfl
section
variable {P:Program} {t:Nat} {d:TypeDesc} {l:List Nat} {s b:Nat} {z:Value}
theorem DP {e n:Nat} (h:(P.info? e).map (·.size)=some n) (w:World):(sizeOf e).run P w= .ok n w:=by
 obtain⟨i,hi,rfl⟩:=iE.1 h;simp only[sizeOf,typeInfo,bo,run_program,bV,hi,bS]
theorem Sb:∀(fs:List Field) (l:List Nat),(fs.map (·.type)).map (λe=>(P.info? e).map (·.size))=l.map some->∀w,(fs.mapM λf=>do pure (f.offset,<-sizeOf f.type):Sem (List (Nat×Nat))).run P w= .ok ((fs.map (·.offset)).zip l) w
 |[],_,_,w=>by simp only[List.mapM_nil,bS,th,List.zip_nil_left]
 |f::fs,[],h,w=>by cases h
 |f::fs,n::l,h,w=>by
  simp only[dV,Bm] at h;simp only[List.mapM_cons,bo,DP h.1,bV,bS,Sb fs l h.2 w,dV,List.zip_cons_cons]
theorem aeZ (h1:P.underlying t=some d) (h2:(P.info? t).map (λi=>(i.size,i.bytes,i.zero))=some (s,b,some z)) (h3:(KO d).map (λe=>(P.info? e).map (·.size))=l.map some):Of P t (Hr d l s z b):=by
 obtain⟨i,hi,h4⟩:=iE.1 h2;simp only[yg] at h4;obtain⟨rfl,rfl,hz⟩:=h4;have hu:∀w,(underlying t).run P w= .ok d w:=λw=>by simp only[underlying,bo,run_program,bV,h1,bS]
 refine⟨DP (by rw[hi];rfl),λw=>?_,λw=>?_,hu,⟨i,hi,O,O,hz⟩,λk off h a w=>?_,λfs h w=>?_,λh=>?_,λh=>?_⟩
 ·simp only[isAgg,bo,hu,bV];cases d<;>rfl
 ·simp only[zeroValue,typeInfo,bo,run_program,bV,hi,bS,hz];rfl
 ·cases d with
  |struct fs=>
   simp only[Hr,Ej] at h;cases hc:((fs.toList.map (·.offset)).zip l).any (λp=>Nat.beq p.2 0) with
   |true=>rw[hc] at h;simp at h
   |false=>
    rw[hc] at h;simp only[cond_false,iY,iE] at h;obtain⟨q,hq,rfl⟩:=h;have hq0:=List.any_eq_false.1 hc q (bn hq);rw[List.getElem?_zip_eq_some] at hq;obtain⟨hq1,hq2⟩:=hq;rw[iY,iE] at hq1;obtain⟨fd,hf,ho⟩:=hq1;have e:=congrArg (λx=>x[k]?) h3;simp only[KO,iY,hf,hq2,pX,xd] at e;refine ajh hu (by rw[<-Array.getElem?_toList];exact hf) (DP e) (λe0=>hq0 (by rw[e0];rfl)) ho a w
  |_=>simp[Hr,Ej] at h
 ·cases h;rw[Array.mapM_eq_mapM_toList];show((fs.toList.mapM λf=>do pure (f.offset,<-sizeOf f.type):Sem (List (Nat×Nat))) >>=λx=>pure x.toArray).run P w=_;rw[bo,Sb fs.toList l h3 w];rfl
 ·cases d with
  |slice e=>
   have h3:[(P.info? e).map (·.size)]=l.map some:=h3
   match l,h3 with
   |[n],h3=>exact⟨rfl,DP (F8 h3).1⟩
   |[],h=>cases h
   |_::_::_,h=>exact nomatch (F8 h).2
  |_=>cases h
 ·cases d with
  |array m e=>
   have h3:[(P.info? e).map (·.size)]=l.map some:=h3
   match l,h3 with
   |[n],h3=>exact⟨rfl,DP (F8 h3).1⟩
   |[],h=>cases h
   |_::_::_,h=>exact nomatch (F8 h).2
  |_=>cases h
theorem KB:∀T:oh,T.has P=T.want->bZ P T.find
 |nd k x y,h=>by
  obtain⟨h1,h2⟩:=List.append_inj h (Mw P x);intro t i hi;simp only[oh.find] at hi;cases e:Nat.blt t k with
  |true=>rw[e] at hi;exact KB x h1 t i hi
  |false=>rw[e] at hi;exact KB y h2 t i hi
 |lf t' i',h=>by
  intro t i hi;simp only[oh.find] at hi;cases e:Nat.beq t t' with
  |true=>
   rw[e] at hi;cases hi;rw[nO e];simp only[oh.has,oh.want,Bm,yg,and_true] at h;rw[h.2.2.2];exact aeZ h.1 h.2.1 h.2.2.1
  |false=>rw[e] at hi;cases hi
end
end Go.V
namespace Go.Proofs
open Tryz
open Go.V oh
def vC:=tO (.int .i64) 1 bM 8
def ZG:=tO .bool 1 fu 1
def Za:=tO (.int .u8) 1 lY 1
def YQ:=tO .string 1 (.string (ByteArray.mk #[])) 16
def abk:=tO (.int .u64) 1 (.int .u64 0) 8
def aa8:=tP 505
def aa0:=tO (.interface #[]) 1 xh 16
def aaR:=tL 3 1
def aaO:=tL 4 1
def aaD:=tS (du "" [(aX "W" 3 0 0),(aX "H" 3 1 8),(aX "In" 23 2 16)]) [0,1,2] [(0,1),(1,1),(2,1)] 3 (cD [bM,bM,iG]) 40
def aaw:=tL 22 1
def aan:=tS (du "pub-eidograph/laws" [(aX "t" 25 0 0),(aX "of" 22 3 40),(aX "countries" 26 4 64)]) [0,3,4] [(0,3),(3,1),(4,1)] 5 (cD [bM,bM,iG,iG,iG]) 88
def Z9:=tO (.map 36 4) 1 nQ 8
def Z1:=tS (du "" [(aX "X" 3 0 0),(aX "Y" 3 1 8)]) [0,1] [(0,1),(1,1)] 2 (cD [bM,bM]) 16
def ZV:=tS (du "pub-eidograph/laws" [(aX "a" 34 0 0),(aX "b" 34 2 16)]) [0,2] [(0,2),(2,2)] 4 (cD [bM,bM,bM,bM]) 32
def ZT:=tL 41 4
def ZJ:=tL 45 1
def ZB:=tS (du "" [(aX "Kind" 3 0 0),(aX "Dim" 3 1 8),(aX "Nums" 39 2 16),(aX "Kids" 37 3 40)]) [0,1,2,3] [(0,1),(1,1),(2,1),(3,1)] 4 (cD [bM,bM,iG,iG]) 64
def Zo:=tO (.float .f64) 1 bu 8
def Zd:=tR 3 34 2 6 (cD [bM,bM,bM,bM,bM,bM]) 48
def Y4:=tL 34 2
def Y3:=tL 56 3
def Y2:=tS (du "" [(aX "Kind" 3 0 0),(aX "Pts" 53 1 8),(aX "Kids" 54 2 32)]) [0,1,2] [(0,1),(1,1),(2,1)] 3 (cD [bM,iG,iG]) 56
def Y1:=tO (.int .i64) 1 bM 8
def Y0:=tS (du ik [(aX "gtype" 59 0 0),(aX "ptr" 20 1 8)]) [0,1] [(0,1),(1,1)] 2 (cD [bM,xh]) 24
def YZ:=tO (.interface #[("Error",124)]) 1 xh 16
def YY:=tL 61 2
def YX:=tR 4 34 2 8 (cD [bM,bM,bM,bM,bM,bM,bM,bM]) 64
def YW:=tL 53 1
def YV:=tS (du "" [(aX "X" 45 0 0),(aX "Y" 45 1 8)]) [0,1] [(0,1),(1,1)] 2 (cD [bu,bu]) 16
def YU:=tO (.int .u8) 1 lY 1
def YT:=tS (du "" [(Qs "XY" 79 0 0),(aX "Z" 45 2 16),(aX "M" 45 3 24),(aX "Type" 80 4 32)]) [0,2,3,4] [(0,2),(2,1),(3,1),(4,1)] 5 (cD [bu,bu,bu,bu,lY]) 40
def YS:=tS (du ik [(aX "coords" 82 0 0),(aX "full" 4 5 40)]) [0,5] [(0,5),(5,1)] 6 (cD [bu,bu,bu,bu,lY,fu]) 48
def YR:=tS (du ik [(aX "ctype" 80 0 0),(aX "floats" 39 1 8)]) [0,1] [(0,1),(1,1)] 2 (cD [lY,iG]) 32
def YP:=tS (du ik [(aX "seq" 88 0 0)]) [0] [(0,2)] 2 (cD [lY,iG]) 32
def YO:=tL 90 2
def YN:=tS (du ik [(aX "rings" 93 0 0),(aX "ctype" 80 1 24)]) [0,1] [(0,1),(1,1)] 2 (cD [iG,lY]) 32
def YM:=tL 84 6
def abp:=tS (du ik [(aX "points" 98 0 0),(aX "ctype" 80 1 24)]) [0,1] [(0,1),(1,1)] 2 (cD [iG,lY]) 32
def abo:=tS (du ik [(aX "lines" 93 0 0),(aX "ctype" 80 1 24)]) [0,1] [(0,1),(1,1)] 2 (cD [iG,lY]) 32
def abn:=tL 95 2
def abm:=tS (du ik [(aX "polys" 107 0 0),(aX "ctype" 80 1 24)]) [0,1] [(0,1),(1,1)] 2 (cD [iG,lY]) 32
def abl:=tS (du ik [(aX "geoms" 69 0 0),(aX "ctype" 80 1 24)]) [0,1] [(0,1),(1,1)] 2 (cD [iG,lY]) 32
def abj:=tL 130 4
def abi:=tS (du "pub-eidograph/laws" [(aX "from" 34 0 0),(aX "to" 34 2 16)]) [0,2] [(0,2),(2,2)] 4 (cD [bM,bM,bM,bM]) 32
def abh:=tP 84
def abg:=tP 90
def abf:=tP 95
def abe:=tP 100
def abd:=tP 104
def abc:=tP 109
def abb:=tP 113
def aba:=tO (.map 79 3) 1 nQ 8
def aa9:=tR 2 84 6 12 (cD [bu,bu,bu,bu,lY,fu,bu,bu,bu,bu,lY,fu]) 96
def aa7:=tO (.func #[182] #[4] .false) 1 pf 8
def aa6:=tO (.func #[79] #[79] .false) 1 pf 8
def aa5:=tP 249
def aa4:=tR 2 4 1 2 (cD [fu,fu]) 2
def aa3:=tR 4 3 1 4 (cD [bM,bM,bM,bM]) 32
def aa2:=tO (.map 79 367) 1 nQ 8
def aa1:=tO (.int .i64) 1 bM 8
def aaZ:=tL 20 1
def aaY:=tS (du ik [(aX "text" 9 0 0),(aX "err" 66 1 16)]) [0,1] [(0,1),(1,1)] 2 (cD [.string (ByteArray.mk #[]),xh]) 32
def aaX:=tL 79 2
def aaW:=tO (.func #[79] #[] .false) 1 pf 8
def aaV:=tO (.map 335 79) 1 nQ 8
def aaU:=tS (du ik [(aX "bucketWidth" 45 0 0),(aX "nodes" 211 1 8)]) [0,1] [(0,1),(1,1)] 2 (cD [bu,nQ]) 16
def aaT:=tP 340
def aaS:=tS (du ik [(aX "points" 205 0 0),(aX "tree" 217 1 24)]) [0,1] [(0,1),(1,1)] 2 (cD [iG,fU]) 32
def aaQ:=tS (du ik [(aX "a" 79 0 0),(aX "b" 79 2 16)]) [0,2] [(0,2),(2,2)] 4 (cD [bu,bu,bu,bu]) 32
def aaP:=tS (du "" [(aX "MinX" 45 0 0),(aX "MinY" 45 1 8),(aX "MaxX" 45 2 16),(aX "MaxY" 45 3 24)]) [0,1,2,3] [(0,1),(1,1),(2,1),(3,1)] 4 (cD [bu,bu,bu,bu]) 32
def aaN:=tO (.func #[3] #[66] .false) 1 pf 8
def aaM:=tO (.func #[223,205] #[205] .false) 1 pf 8
def aaL:=tL 223 4
def aaK:=tS (du ik [(aX "lines" 234 0 0),(aX "tree" 217 1 24)]) [0,1] [(0,1),(1,1)] 2 (cD [iG,fU]) 32
def aaJ:=tS (du ik [(aX "empty" 4 0 0),(aX "ptA" 79 1 8),(aX "ptB" 79 3 24)]) [0,1,3] [(0,1),(1,2),(3,2)] 5 (cD [fu,bu,bu,bu,bu]) 40
def aaI:=tO (.map 79 434) 1 nQ 8
def aaH:=tO (.map 273 258) 1 nQ 8
def aaG:=tO (.map 79 250) 1 nQ 8
def aaF:=tL 276 1
def aaE:=tS (du ik [(aX "faces" 247 0 0),(aX "halfEdges" 245 1 24),(aX "vertices" 246 2 32)]) [0,1,2] [(0,1),(1,1),(2,1)] 3 (cD [iG,nQ,nQ]) 40
def aaC:=tP 256
def aaB:=tO (.map 258 367) 1 nQ 8
def aaA:=tS (du ik [(aX "interior" 4 0 0),(aX "boundary" 4 1 1)]) [0,1] [(0,1),(1,1)] 2 (cD [fu,fu]) 2
def aaz:=tR 2 253 2 4 (cD [fu,fu,fu,fu]) 4
def aay:=tS (du ik [(aX "coords" 79 0 0),(aX "incidents" 251 2 16),(aX "src" 182 3 24),(aX "inSet" 182 5 26),(aX "locations" 254 7 28),(aX "extracted" 4 11 32)]) [0,2,3,5,7,11] [(0,2),(2,1),(3,2),(5,2),(7,4),(11,1)] 12 (cD [bu,bu,nQ,fu,fu,fu,fu,fu,fu,fu,fu,fu]) 40
def aax:=tP 281
def aav:=tS (du ik [(aX "start" 250 0 0),(aX "end" 250 1 8),(aX "fwd" 258 2 16),(aX "rev" 258 3 24)]) [0,1,2,3] [(0,1),(1,1),(2,1),(3,1)] 4 (cD [fU,fU,fU,fU]) 32
def aau:=tO (.func #[88,3] #[] .false) 1 pf 8
def aat:=tL 258 1
def aas:=tO (.map 258 4) 1 nQ 8
def aar:=tR 2 79 2 4 (cD [bu,bu,bu,bu]) 32
def aaq:=tO (.func #[258] #[] .false) 1 pf 8
def aap:=tP 278
def aao:=tS (du ik [(aX "cycle" 258 0 0),(aX "inSet" 182 1 8),(aX "extracted" 4 3 10)]) [0,1,3] [(0,1),(1,2),(3,1)] 4 (cD [fU,fu,fu,fu]) 16
def aam:=tS (du ik [(aX "origin" 250 0 0),(aX "twin" 258 1 8),(aX "incident" 276 2 16),(aX "next" 258 3 24),(aX "prev" 258 4 32),(aX "seq" 88 5 40),(aX "srcEdge" 182 7 72),(aX "srcFace" 182 9 74),(aX "inSet" 182 11 76),(aX "extracted" 4 13 78)]) [0,1,2,3,4,5,7,9,11,13] [(0,1),(1,1),(2,1),(3,1),(4,1),(5,2),(7,2),(9,2),(11,2),(13,1)] 14 (cD [fU,fU,fU,fU,fU,lY,iG,fu,fu,fu,fu,fu,fu,fu]) 80
def aal:=tO (.func #[196] #[] .false) 1 pf 8
def aak:=tO (.map 276 4) 1 nQ 8
def aaj:=tO (.func #[276] #[] .false) 1 pf 8
def aai:=tO (.func #[3,3] #[4] .false) 1 pf 8
def aah:=tO .string 1 (.string (ByteArray.mk #[])) 16
def aag:=tO (.map 3 401) 1 nQ 8
def aaf:=tO (.map 3 401) 1 nQ 8
def aae:=tL 226 4
def aad:=tL 307 5
def aac:=tS (du ik [(aX "min" 79 0 0),(aX "max" 79 2 16),(aX "nonEmpty" 4 4 32)]) [0,2,4] [(0,2),(2,2),(4,1)] 5 (cD [bu,bu,bu,bu,fu]) 40
def aab:=tS (du "" [(aX "Box" 226 0 0),(aX "RecordID" 3 4 32)]) [0,4] [(0,4),(4,1)] 5 (cD [bu,bu,bu,bu,bM]) 40
def aaa:=tO (.int .i64) 1 bM 8
def Z8:=tS (du ik [(aX "multiplePoints" 4 0 0),(aX "singlePoint" 79 1 8)]) [0,1] [(0,1),(1,2)] 3 (cD [fu,bu,bu]) 24
def Z7:=tO (.func #[3,3] #[] .false) 1 pf 8
def Z6:=tS (du ik [(aX "parent" 22 0 0),(aX "rank" 22 1 24)]) [0,1] [(0,1),(1,1)] 2 (cD [iG,iG]) 48
def Z5:=tO (.int .u64) 1 (.int .u64 0) 8
def Z4:=tS (du ik [(aX "x" 3 0 0),(aX "y" 3 1 8)]) [0,1] [(0,1),(1,1)] 2 (cD [bM,bM]) 16
def Z3:=tR 9 335 2 18 (cD [bM,bM,bM,bM,bM,bM,bM,bM,bM,bM,bM,bM,bM,bM,bM,bM,bM,bM]) 144
def Z2:=tP 346
def Z0:=tS (du Gu [(aX "root" 338 0 0),(aX "count" 3 1 8)]) [0,1] [(0,1),(1,1)] 2 (cD [fU,bM]) 16
def ZZ:=tO (.func #[338] #[66] .false) 1 pf 8
def ZY:=tS (du Gu [(aX "box" 226 0 0),(aX "child" 338 4 32),(aX "recordID" 3 5 40)]) [0,4,5] [(0,4),(4,1),(5,1)] 6 (cD [bu,bu,bu,bu,fU,bM]) 48
def ZX:=tR 4 343 6 24 (cD [bu,bu,bu,bu,fU,bM,bu,bu,bu,bu,fU,bM,bu,bu,bu,bu,fU,bM,bu,bu,bu,bu,fU,bM]) 192
def ZW:=tS (du Gu [(aX "entries" 344 0 0),(aX "numEntries" 3 24 192)]) [0,24] [(0,24),(24,1)] 25 (cD [bu,bu,bu,bu,fU,bM,bu,bu,bu,bu,fU,bM,bu,bu,bu,bu,fU,bM,bu,bu,bu,bu,fU,bM,bM]) 200
def ZU:=tS (du "" []) [] [] 0 (cD []) 0
def ZS:=tS (du ik [(aX "v" 250 0 0),(aX "onBoundary" 4 1 8)]) [0,1] [(0,1),(1,1)] 2 (cD [fU,fu]) 16
def ZR:=tR 2 371 2 4 (cD [fU,fu,fU,fu]) 32
def ZQ:=tL 88 2
def ZP:=tP 380
def ZO:=tS (du "errors" [(aX "s" 9 0 0)]) [0] [(0,1)] 1 (cD [.string (ByteArray.mk #[])]) 16
def ZN:=tO .unsafePointer 1 fU 8
def ZM:=tO (.int .u64) 1 (.int .u64 0) 8
def ZL:=tS (du "internal/reflectlite" [(aX "typ_" 17 0 0),(aX "ptr" 382 1 8),(Qs "flag" 383 2 16)]) [0,1,2] [(0,1),(1,1),(2,1)] 3 (cD [fU,fU,.int .u64 0]) 24
def ZK:=tO (.int .u64) 1 (.int .u64 0) 8
def ZI:=tS (du "" [(aX "Less" 291 0 0),(aX "Swap" 316 1 8)]) [0,1] [(0,1),(1,1)] 2 (cD [pf,pf]) 16
def ZH:=tS (du ik [(aX "ruleViolation" 293 0 0),(aX "hasLocation" 4 1 16),(aX "location" 79 2 24)]) [0,1,2] [(0,1),(1,1),(2,2)] 4 (cD [.string (ByteArray.mk #[]),fu,bu,bu]) 40
def ZF:=tO (.map 3 367) 1 nQ 8
def ZE:=tL 236 2
def ZD:=tR 2 3 1 2 (cD [bM,bM]) 16
def ZC:=tS (du ik [(aX "inIdx" 3 0 0),(aX "outIdx" 3 1 8)]) [0,1] [(0,1),(1,1)] 2 (cD [bM,bM]) 16
def ZA:=tL 409 2
def Zz:=tS (du ik [(aX "pb1" 236 0 0),(aX "pb2" 236 2 32)]) [0,2] [(0,2),(2,2)] 4 (cD [iG,fU,iG,fU]) 64
def Zy:=tR 2 412 4 8 (cD [iG,fU,iG,fU,iG,fU,iG,fU]) 128
def Zx:=tL 420 1
def Zw:=tS (du Gu [(aX "entries" 415 0 0),(aX "origin" 226 1 24)]) [0,1] [(0,1),(1,4)] 5 (cD [iG,bu,bu,bu,bu]) 56
def Zv:=tP 417
def Zu:=tP 343
def Zt:=tO (.interface #[("AssignableTo",509),("Comparable",127),("Elem",510),("Implements",509),("Kind",511),("Name",124),("PkgPath",124),("Size",512),("String",124),("internal/reflectlite.common",513),("internal/reflectlite.uncommon",514)]) 1 xh 16
def Zs:=tO (.int .i64) 1 bM 8
def Zr:=tS (du ik [(aX "first" 79 0 0),(aX "second" 79 2 16)]) [0,2] [(0,2),(2,2)] 4 (cD [bu,bu,bu,bu]) 32
def Zq:=tO (.int .u32) 1 (.int .u32 0) 4
def Zp:=tO (.int .i64) 1 bM 8
def Zn:=tO (.map 79 4) 1 nQ 8
def Zm:=tO (.interface #[("Len",122),("Less",291),("Pop",470),("Push",467),("Swap",316)]) 1 xh 16
def Zl:=tO (.interface #[("Is",474)]) 1 xh 16
def Zk:=tO (.interface #[("Unwrap",181)]) 1 xh 16
def Zj:=tO (.interface #[("Unwrap",478)]) 1 xh 16
def Zi:=tL 66 1
def Zh:=tO (.int .u64) 1 (.int .u64 0) 8
def Zg:=tP 3
def Zf:=tL 300 1
def Ze:=tP 479
def Zc:=tO (.int .u8) 1 lY 1
def Zb:=tO (.int .u8) 1 lY 1
def Y9:=tO (.func #[382,382] #[4] .false) 1 pf 8
def Y8:=tP 5
def Y7:=tO (.int .i32) 1 (.int .i32 0) 4
def Y6:=tO (.int .i32) 1 (.int .i32 0) 4
def Y5:=tS (du "" [(aX "Size_" 12 0 0),(aX "PtrBytes" 12 1 8),(aX "Hash" 444 2 16),(aX "TFlag" 498 3 20),(aX "Align_" 5 4 21),(aX "FieldAlign_" 5 5 22),(aX "Kind_" 499 6 23),(aX "Equal" 500 7 24),(aX "GCData" 501 8 32),(aX "Str" 502 9 40),(aX "PtrToThis" 503 10 44)]) [0,1,2,3,4,5,6,7,8,9,10] [(0,1),(1,1),(2,1),(3,1),(4,1),(5,1),(6,1),(7,1),(8,1),(9,1),(10,1)] 11 (cD [.int .u64 0,.int .u64 0,.int .u32 0,lY,lY,lY,lY,pf,fU,.int .i32 0,.int .i32 0]) 48
def QB:oh:=(nd 251 (nd 109 (nd 53 (nd 26 (nd 17 (nd 5 (nd 4 (lf 3 vC) (lf 4 ZG)) (nd 9 (lf 5 Za) (nd 12 (lf 9 YQ) (lf 12 abk)))) (nd 22 (nd 20 (lf 17 aa8) (lf 20 aa0)) (nd 23 (lf 22 aaR) (nd 25 (lf 23 aaO) (lf 25 aaD))))) (nd 37 (nd 31 (nd 28 (lf 26 aaw) (lf 28 aan)) (nd 34 (lf 31 Z9) (nd 36 (lf 34 Z1) (lf 36 ZV)))) (nd 41 (nd 39 (lf 37 ZT) (lf 39 ZJ)) (nd 45 (lf 41 ZB) (nd 49 (lf 45 Zo) (lf 49 Zd)))))) (nd 80 (nd 66 (nd 56 (nd 54 (lf 53 Y4) (lf 54 Y3)) (nd 59 (lf 56 Y2) (nd 61 (lf 59 Y1) (lf 61 Y0)))) (nd 72 (nd 69 (lf 66 YZ) (lf 69 YY)) (nd 73 (lf 72 YX) (nd 79 (lf 73 YW) (lf 79 YV))))) (nd 93 (nd 84 (nd 82 (lf 80 YU) (lf 82 YT)) (nd 88 (lf 84 YS) (nd 90 (lf 88 YR) (lf 90 YP)))) (nd 100 (nd 95 (lf 93 YO) (nd 98 (lf 95 YN) (lf 98 YM))) (nd 104 (lf 100 abp) (nd 107 (lf 104 abo) (lf 107 abn))))))) (nd 201 (nd 148 (nd 139 (nd 128 (nd 113 (lf 109 abm) (lf 113 abl)) (nd 130 (lf 128 abj) (nd 136 (lf 130 abi) (lf 136 abh)))) (nd 143 (nd 141 (lf 139 abg) (lf 141 abf)) (nd 144 (lf 143 abe) (nd 146 (lf 144 abd) (lf 146 abc))))) (nd 177 (nd 165 (nd 164 (lf 148 abb) (lf 164 aba)) (nd 170 (lf 165 aa9) (nd 172 (lf 170 aa7) (lf 172 aa6)))) (nd 185 (nd 182 (lf 177 aa5) (lf 182 aa4)) (nd 190 (lf 185 aa3) (nd 196 (lf 190 aa2) (lf 196 aa1)))))) (nd 230 (nd 213 (nd 205 (nd 203 (lf 201 aaZ) (lf 203 aaY)) (nd 210 (lf 205 aaX) (nd 211 (lf 210 aaW) (lf 211 aaV)))) (nd 219 (nd 217 (lf 213 aaU) (lf 217 aaT)) (nd 223 (lf 219 aaS) (nd 226 (lf 223 aaQ) (lf 226 aaP))))) (nd 243 (nd 234 (nd 231 (lf 230 aaN) (lf 231 aaM)) (nd 236 (lf 234 aaL) (nd 240 (lf 236 aaK) (lf 240 aaJ)))) (nd 247 (nd 245 (lf 243 aaI) (nd 246 (lf 245 aaH) (lf 246 aaG))) (nd 249 (lf 247 aaF) (nd 250 (lf 249 aaE) (lf 250 aaC)))))))) (nd 375 (nd 297 (nd 275 (nd 260 (nd 254 (nd 253 (lf 251 aaB) (lf 253 aaA)) (nd 256 (lf 254 aaz) (nd 258 (lf 256 aay) (lf 258 aax)))) (nd 271 (nd 262 (lf 260 aav) (lf 262 aau)) (nd 272 (lf 271 aat) (nd 273 (lf 272 aas) (lf 273 aar))))) (nd 283 (nd 278 (nd 276 (lf 275 aaq) (lf 276 aap)) (nd 281 (lf 278 aao) (nd 282 (lf 281 aam) (lf 282 aal)))) (nd 291 (nd 284 (lf 283 aak) (lf 284 aaj)) (nd 293 (lf 291 aai) (nd 296 (lf 293 aah) (lf 296 aag)))))) (nd 335 (nd 309 (nd 300 (nd 299 (lf 297 aaf) (lf 299 aae)) (nd 303 (lf 300 aad) (nd 307 (lf 303 aac) (lf 307 aab)))) (nd 316 (nd 312 (lf 309 aaa) (lf 312 Z8)) (nd 322 (lf 316 Z7) (nd 325 (lf 322 Z6) (lf 325 Z5))))) (nd 343 (nd 338 (nd 336 (lf 335 Z4) (lf 336 Z3)) (nd 340 (lf 338 Z2) (nd 341 (lf 340 Z0) (lf 341 ZZ)))) (nd 367 (nd 344 (lf 343 ZY) (nd 346 (lf 344 ZX) (lf 346 ZW))) (nd 371 (lf 367 ZU) (nd 372 (lf 371 ZS) (lf 372 ZR))))))) (nd 429 (nd 403 (nd 385 (nd 380 (nd 378 (lf 375 ZQ) (lf 378 ZP)) (nd 382 (lf 380 ZO) (nd 383 (lf 382 ZN) (lf 383 ZM)))) (nd 392 (nd 389 (lf 385 ZL) (lf 389 ZK)) (nd 395 (lf 392 ZI) (nd 401 (lf 395 ZH) (lf 401 ZF))))) (nd 413 (nd 409 (nd 404 (lf 403 ZE) (lf 404 ZD)) (nd 410 (lf 409 ZC) (nd 412 (lf 410 ZA) (lf 412 Zz)))) (nd 419 (nd 415 (lf 413 Zy) (nd 417 (lf 415 Zx) (lf 417 Zw))) (nd 420 (lf 419 Zv) (nd 424 (lf 420 Zu) (lf 424 Zt)))))) (nd 479 (nd 466 (nd 444 (nd 434 (lf 429 Zs) (lf 434 Zr)) (nd 447 (lf 444 Zq) (nd 461 (lf 447 Zp) (lf 461 Zn)))) (nd 475 (nd 472 (lf 466 Zm) (lf 472 Zl)) (nd 476 (lf 475 Zk) (nd 477 (lf 476 Zj) (lf 477 Zi))))) (nd 499 (nd 487 (nd 483 (lf 479 Zh) (lf 483 Zg)) (nd 489 (lf 487 Zf) (nd 498 (lf 489 Ze) (lf 498 Zc)))) (nd 502 (nd 500 (lf 499 Zb) (nd 501 (lf 500 Y9) (lf 501 Y8))) (nd 503 (lf 502 Y7) (nd 505 (lf 503 Y6) (lf 505 Y5)))))))))
def aC:Nat->Option TI:=QB.find
theorem ab:bZ prog aC:=KB QB br
end Go.Proofs
namespace Go.Proofs
open Tryz
open Go.V
section
variable {rs:List ResultVar} {Q:cZ} {f:Fm} {Fs:List an} {L:List ae} {vs:List Value} (Fs':List an) (L':List ae)
theorem aH (q:Q (bw vs) Fs' L') (h:ve prog f Fs L rs vs:=by repeat (first|exact .nil|(apply ve.cons;first|exact lZ rfl|exact xm ab rfl rfl rfl mA rfl|exact Rz ab rfl rfl rfl mA))) (hF:∀x∈Fs',x∈Fs:=by exact fA) (hL:List.Sublist L' L:=by first|exact oZ _|((repeat (first|exact gx _|apply DE|apply pd|apply DN|apply DB));done)|solve_by_elim (maxDepth:=40) (transparency:= .default) only[gx,oZ,KR,KQ,KV,KU,KS]):CK prog rs Q .ret f Fs L:= .ret h hF hL q
theorem ed (q:Q (bw vs) Fs' L') (h:ve prog f Fs L rs vs:=by repeat (first|exact .nil|(apply ve.cons;first|exact lZ rfl|exact xm ab rfl rfl rfl mA rfl|exact Rz ab rfl rfl rfl mA))) (hF:∀x∈Fs',x∈Fs:=by exact fA) (hL:List.Sublist L' L:=by first|exact oZ _|((repeat (first|exact gx _|apply DE|apply pd|apply DN|apply DB));done)|solve_by_elim (maxDepth:=40) (transparency:= .default) only[gx,oZ,KR,KQ,KV,KU,KS]):CK prog rs Q .normal f Fs L:= .norm h hF hL q
end
end Go.Proofs
namespace Go.Edges
variable {α:Type}
structure kP (lines:List (List α)) (X:α->Prop):Prop where
 ends:∀l∈lines,∀p,(l.head? =some p\/l.getLast? =some p)->X p
 adj:∀l∈lines,∀a p b,[a,p,b]<:+:l->¬X p->a≠b/\∀l'∈lines,∀a' b',[a',p,b']<:+:l'->(a'=a/\b'=b)\/(a'=b/\b'=a)
 two:∀l∈lines,∀a b,[a,b]<:+:l->a≠b
def Way (lines:List (List α)) (s:List α):Prop:=∃l∈lines,s<:+:l\/s<:+:l.reverse
theorem EL {s l:List α}:s<:+:l.reverse↔s.reverse<:+:l:=by
 constructor
 ·rintro⟨a,b,h⟩;refine⟨b.reverse,a.reverse,?_⟩;have:=congrArg List.reverse h;simpa using this
 ·rintro⟨a,b,h⟩;refine⟨b.reverse,a.reverse,?_⟩;have:=congrArg List.reverse h;simpa using this
theorem Way.rev {lines:List (List α)} {s:List α} (h:Way lines s):Way lines s.reverse:=by
 obtain⟨l,hl,h|h⟩:=h
 ·exact⟨l,hl,.inr (EL.2 (by simpa using h))⟩
 ·exact⟨l,hl,.inl (EL.1 h)⟩
theorem T6 {a b c:List α} (h:a<:+:b) (k:b<:+:c):a<:+:c:=by
 obtain⟨p,q,rfl⟩:=h;obtain⟨r,s,rfl⟩:=k;exact⟨r++p,q++s,by simp⟩
theorem Way.sub {lines:List (List α)} {s t:List α} (h:Way lines s) (k:t<:+:s):Way lines t:=by
 obtain⟨l,hl,h|h⟩:=h
 ·exact⟨l,hl,.inl (T6 k h)⟩
 ·exact⟨l,hl,.inr (T6 k h)⟩
theorem Way.tail {lines:List (List α)} {a:α} {s:List α} (h:Way lines (a::s)):Way lines s:=h.sub ⟨[a],[],by simp⟩
variable {lines:List (List α)} {X:α->Prop}
theorem P9 (ok:kP lines X) {a p b:α} (h:Way lines [a,p,b]) (hp:¬X p):a≠b/\∀b',Way lines [a,p,b']->b'=b:=by
 obtain⟨l,hl,h⟩:=h;have h':[a,p,b]<:+:l\/[b,p,a]<:+:l:=h.imp id λh=>by simpa using EL.1 h
 refine⟨?_,λb' hb'=>?_⟩
 ·rcases h' with h|h
  ·exact(ok.adj l hl _ _ _ h hp).1
  ·exact(ok.adj l hl _ _ _ h hp).1.symm
 ·obtain⟨l',hl',k⟩:=hb';have k':[a,p,b']<:+:l'\/[b',p,a]<:+:l':=k.imp id λh=>by simpa using EL.1 h
  rcases h' with h|h
  ·obtain⟨hne,hall⟩:=ok.adj l hl _ _ _ h hp;rcases k' with k|k
   ·rcases hall l' hl' _ _ k with⟨h1,h2⟩|⟨h1,h2⟩
    ·exact h2
    ·exact absurd h1 hne
   ·rcases hall l' hl' _ _ k with⟨h1,h2⟩|⟨h1,h2⟩
    ·exact absurd h2 hne
    ·exact h1
  ·obtain⟨hne,hall⟩:=ok.adj l hl _ _ _ h hp;rcases k' with k|k
   ·rcases hall l' hl' _ _ k with⟨h1,h2⟩|⟨h1,h2⟩
    ·exact absurd h1.symm hne
    ·exact h2
   ·rcases hall l' hl' _ _ k with⟨h1,h2⟩|⟨h1,h2⟩
    ·exact h1
    ·exact absurd h2.symm hne
theorem P8 (ok:kP lines X) {a b:α} (h:Way lines [a,b]):a≠b:=by
 obtain⟨l,hl,h|h⟩:=h
 ·exact ok.two l hl _ _ h
 ·have:[b,a]<:+:l:=by simpa using EL.1 h
  exact(ok.two l hl _ _ this).symm
def tX (X:α->Prop):List α->Prop
 |[]=>False
 |[z]=>X z
 |p::q::r=>¬X p/\tX X (q::r)
theorem KD (ok:kP lines X):∀(t1 t2:List α) (a p:α),Way lines (a::p::t1)->Way lines (a::p::t2)->tX X (p::t1)->tX X (p::t2)->t1=t2
 |[],[],_,_,_,_,_,_=>rfl
 |[],_::_,_,_,_,_,h,k=>absurd h k.1
 |_::_,[],_,_,_,_,h,k=>absurd k h.1
 |q::r,q'::r',a,p,w1,w2,h,k=>by
  have e1:Way lines [a,p,q]:=w1.sub ⟨[],r,by simp⟩;have e2:Way lines [a,p,q']:=w2.sub ⟨[],r',by simp⟩;have:=(P9 ok e1 h.1).2 _ e2;subst this;rw[KD ok r r' p q' w1.tail w2.tail h.2 k.2]
structure dR (lines:List (List α)) (X:α->Prop) (s:List α):Prop where
 way:Way lines s
 from_:∃a t,s=a::t/\X a/\tX X t
theorem KE {X:α->Prop}:∀{m:List α} {z:α},tX X (m++[z])↔(∀p∈m,¬X p)/\X z
 |[],z=>by simp[tX]
 |[p],z=>by simp[tX]
 |p::q::r,z=>by
  have:=KE (X:=X) (m:=q::r) (z:=z);simp only[pY,tX] at this ⊢;rw[this];simp[and_assoc]
theorem Q8 (t:List α):t=[]\/∃m z,t=m++[z]:=by
 rcases List.eq_nil_or_concat t with h|⟨m,z,h⟩
 ·exact .inl h
 ·exact .inr ⟨m,z,by simpa using h⟩
theorem DT {s:List α}:(∃a t,s=a::t/\X a/\tX X t)↔∃a m z,s=a::(m++[z])/\X a/\X z/\∀p∈m,¬X p:=by
 constructor
 ·rintro⟨a,t,rfl,ha,ht⟩;rcases Q8 t with rfl|⟨m,z,rfl⟩
  ·exact ht.elim
  ·have:=KE.1 ht;exact⟨a,m,z,O,ha,this.2,this.1⟩
 ·rintro⟨a,m,z,rfl,ha,hz,hm⟩;exact⟨a,_,O,ha,KE.2 ⟨hm,hz⟩⟩
theorem dR.rev {s:List α} (h:dR lines X s):dR lines X s.reverse:=by
 refine⟨h.way.rev,DT.2 ?_⟩;obtain⟨a,m,z,rfl,ha,hz,hm⟩:=DT.1 h.from_;exact⟨z,m.reverse,a,by simp,hz,ha,λp hp=>hm p (by simpa using hp)⟩
theorem dR.uniq (ok:kP lines X) {s t:List α} (hs:dR lines X s) (ht:dR lines X t) (h0:s[0]? =t[0]?) (h1:s[1]? =t[1]?):s=t:=by
 obtain⟨a,s',rfl,ha,hs'⟩:=hs.from_;obtain⟨b,t',rfl,hb,ht'⟩:=ht.from_;have e0:a=b:=by simpa using h0
 subst e0
 match s',t',hs',ht',h1 with
 |[],_,h,_,_=>exact h.elim
 |_::_,[],_,h,_=>exact h.elim
 |p::s2,q::t2,h,k,h1=>
  have e1:p=q:=by simpa using h1
  subst e1;rw[KD ok s2 t2 a p hs.way ht.way h k]
theorem no_pal (ok:kP lines X):∀(k:Nat) (s:List α),s.length<=k->Way lines s->2<=s.length->(∀i,0<i->i+1<s.length->∀p,s[i]? =some p->¬X p)->s≠s.reverse
 |0,s,hk,_,h2,_=>by omega
 |k+1,s,hk,hw,h2,hx=>by
  intro e
  match s,hk,hw,h2,hx,e with
  |[a,b],_,hw,_,_,e=>
   have:a=b:=by simpa using(List.cons.inj e).1
   exact P8 ok hw this
  |a::p::q::r,hk,hw,_,hx,e=>
   rcases Q8 r with rfl|⟨r,z,rfl⟩
   ·have:a=q:=by simpa using(List.cons.inj e).1
    exact(P9 ok hw (hx 1 aa dK p O)).1 this
   ·have e1:p::q::r=(p::q::r).reverse:=by
     have h3:a::(p::q::r++[z])=z::((p::q::r).reverse++[a]):=by simpa using e
     have h4:=(F8 h3);have h5:=h4.2;rw[h4.1] at h5;exact List.append_cancel_right h5
    refine no_pal ok k (p::q::r) (by simp at hk ⊢;omega) (hw.sub ⟨[a],[z],by simp⟩) dK (λi hi hl x hxi=>?_) e1;refine hx (i+1) aa (by simp at hl ⊢;omega) x ?_;have:(a::p::q::(r++[z]))[i+1]? =(p::q::r++[z])[i]? :=by simp
    rw[this,Bp aa];exact hxi
theorem dR.no_pal (ok:kP lines X) {s:List α} (h:dR lines X s):s≠s.reverse:=by
 obtain⟨a,m,z,rfl,ha,hz,hm⟩:=DT.1 h.from_;refine Edges.no_pal ok _ _ (bg _) h.way dK λi hi hl p hp=>?_
 match i,hi with
 |i+1,_=>
  simp only[cE,aW,kC] at hl;have:(m++[z])[i]? =some p:=by simpa using hp
  rw[Bp aa] at this;exact hm p (bn this)
def aD:List α->List (α×α)
 |a::b::l=>(a,b)::aD (b::l)
 |_=>[]
theorem Af:∀(s:List α) (a:α) (t:List α),aD (s++a::t)=aD (s++[a])++aD (a::t)
 |[],a,t=>by simp[aD]
 |[x],a,t=>by simp[aD]
 |x::y::s,a,t=>by
  have:=Af (y::s) a t;simp only[pY,aD] at this ⊢;rw[this]
theorem R3 (s:List α) (a b:α):aD (s++[a,b])=aD (s++[a])++[(a,b)]:=by
 rw[Af s a [b]];rfl
theorem R4:∀(s:List α),aD s.reverse=((aD s).map λp=>(p.2,p.1)).reverse
 |[]=>rfl
 |[_]=>rfl
 |a::b::s=>by
  have h:=R4 (b::s);simp only[aD,dV,List.reverse_cons] at h ⊢;rw[<-h,cG];exact R3 s.reverse b a
theorem G7:∀{s:List α} {a b:α},(a,b)∈aD s->∃u v,s=u++a::b::v
 |x::y::s,a,b,h=>by
  rcases bm.1 h with h|h
  ·cases h;exact⟨[],s,rfl⟩
  ·obtain⟨u,v,e⟩:=G7 h;exact⟨x::u,v,by rw[pY,<-e]⟩
theorem Ly (u:List α) (a b:α) (v:List α):(a,b)∈aD (u++a::b::v):=by
 rw[Af];exact bI _ (.head _)
theorem QA {X:α->Prop}:∀(u:List α) {a:α} {t:List α},tX X (u++a::t)->tX X (a::t)
 |[],_,_,h=>h
 |[_],_,_,h=>h.2
 |_::y::u,a,t,h=>QA (y::u) h.2
theorem dR.step (ok:kP lines X) {s t:List α} (hs:dR lines X s) (ht:dR lines X t) {u v u' v':List α} {a b:α} (e1:s=u++a::b::v) (e2:t=u'++a::b::v'):u=u'/\v=v':=by
 have key:∀{s t:List α} (hs:dR lines X s) (ht:dR lines X t) {u v u' v':List α} {a b:α} (e1:s=u++a::b::v) (e2:t=u'++a::b::v'),v=v':=by
  intro s t hs ht u v u' v' a b e1 e2;have tl:∀{s u v:List α} {a b:α},dR lines X s->s=u++a::b::v->tX X (b::v):=by
   intro s u v a b hs e;obtain⟨x,w,e',hx,hw⟩:=hs.from_;rw[e] at e';cases u with
   |nil=>cases e';exact hw
   |cons y u=>
    have:=(F8 e').2;rw[<-this] at hw;exact QA (u++[a]) (by simpa using hw)
  refine KD ok v v' a b (hs.way.sub ⟨u,[],by simp[e1]⟩) (ht.way.sub ⟨u',[],by simp[e2]⟩) (tl hs e1) (tl ht e2)
 refine⟨?_,key hs ht e1 e2⟩;have:=key (u:=v.reverse) (v:=u.reverse) (u':=v'.reverse) (v':=u'.reverse) (a:=b) (b:=a) hs.rev ht.rev (by simp[e1]) (by simp[e2]);simpa using congrArg List.reverse this
theorem dR.same (ok:kP lines X) {s t:List α} (hs:dR lines X s) (ht:dR lines X t) {p:α×α} (h1:p∈aD s) (h2:p∈aD t):s=t:=by
 obtain⟨u,v,e1⟩:=G7 h1;obtain⟨u',v',e2⟩:=G7 h2;obtain⟨h3,h4⟩:=hs.step ok ht e1 e2;rw[e1,e2,h3,h4]
theorem Ex {s:List α} {a b:α}:(a,b)∈aD s.reverse↔(b,a)∈aD s:=by
 rw[R4];simp only[Do,aM,yg,Prod.exists];constructor
 ·rintro⟨x,y,h,rfl,rfl⟩;exact h
 ·intro h;exact⟨b,a,h,rfl,rfl⟩
theorem dR.nodup (ok:kP lines X) {s:List α} (hs:dR lines X s):(aD s).Pairwise λp q=>p≠q/\p≠(q.2,q.1):=by
 have h2:∀{a b:α},(a,b)∈aD s->(b,a)∉aD s:=λ{a b} h k=>
  hs.no_pal ok (hs.same ok hs.rev h (Ex.2 k))
 have h1:∀(w v:List α),s=w++v->(aD v).Pairwise λp q=>p≠q:=by
  intro w v
  induction v generalizing w with
  |nil=>intro _;exact .nil
  |cons a v ih=>
   intro e;cases v with
   |nil=>exact .nil
   |cons b v=>
    refine .cons (λq hq hne=>?_) (ih (w++[a]) (by simp[e]));subst hne;obtain⟨u',v',e'⟩:=G7 hq;have:=(hs.step (u':=w++a::u') (v':=v') ok hs e (by rw[e,e'];simp)).1;have hl:=congrArg List.length this;simp at hl
 have h3:=h1 [] s rfl;refine(Gg.1 h3).imp λ{p q} ⟨hp,hq,hne⟩=>⟨hne,λe=>?_⟩;subst e;obtain⟨a,b⟩:=q;exact h2 hq hp
structure Om (lines:List (List α)) (X:α->Prop) (T:List (List α)):Prop where
 run:∀s∈T,dR lines X s
 apart:T.Pairwise λs t=>s≠t/\s≠t.reverse
theorem Om.nodup (ok:kP lines X) {T:List (List α)} (h:Om lines X T):(T.flatMap aD).Pairwise λp q=>p≠q/\p≠(q.2,q.1):=by
 obtain⟨hr,ha⟩:=h
 induction T with
 |nil=>exact .nil
 |cons s T ih=>
  rw[dC];have ha':=oW.1 ha;refine List.pairwise_append.2 ⟨(hr s (.head _)).nodup ok,ih (λt ht=>hr t (.tail _ ht)) ha'.2,λp hp q hq=>?_⟩;obtain⟨t,ht,hqt⟩:=mO.1 hq;have hne:=ha'.1 t ht;refine⟨λe=>?_,λe=>?_⟩
  ·subst e;exact hne.1 ((hr s (.head _)).same ok (hr t (.tail _ ht)) hp hqt)
  ·subst e;obtain⟨a,b⟩:=q;exact hne.2 ((hr s (.head _)).same ok (hr t (.tail _ ht)).rev hp (Ex.2 hqt))
end Go.Edges
namespace Go.Edges
variable {α:Type} [DecidableEq α]
structure IS (α:Type) where
 adj:List (α×(α×α))
 X:List α
def qk {β:Type} (l:List (α×β)) (k:α):Option β:=(l.find? λe=>decide (e.1=k)).map (·.2)
def fX (l:List α) (x:α):List α:=if x∈l then l else l++[x]
theorem qd {l:List α} {x y:α}:y∈fX l x↔y∈l\/y=x:=by
 unfold fX;split
 ·rename_i h;constructor
  ·exact .inl
  ·rintro(h'|rfl)
   ·exact h'
   ·exact h
 ·simp
theorem UR {β:Type} {l:List (α×β)} {k:α} (h:qk l k=none) (k':α) (b:β):qk (l++[(k,b)]) k'=if k'=k then some b else qk l k':=by
 have h0:l.find? (λe=>decide (e.1=k))=none:=by simpa[qk] using h
 unfold qk;rw[List.find?_append];by_cases e:k'=k
 ·subst e;rw[h0];simp
 ·have:¬k=k':=λx=>e x.symm;simp[e,this]
def qh (can:α->α->α×α) (st:IS α) (a p b:α):IS α:=
 if a=b then{st with X:=fX st.X p}
 else match qk st.adj p with
  |some e=>if e=can a b then st else{st with X:=fX st.X p}
  |none=>{st with adj:=st.adj++[(p,can a b)]}
def qS (st:IS α) (l:List α):IS α:=match l.head?,l.getLast? with
 |some a,some z=>{st with X:=fX (fX st.X a) z}
 |_,_=>st
def mW (can:α->α->α×α) (l:List α) (st:IS α):Nat->IS α
 |0=>st
 |k+1=>match l[k]?,l[k+1]?,l[k+2]? with
  |some a,some p,some b=>qh can (mW can l st k) a p b
  |_,_,_=>mW can l st k
def xF (can:α->α->α×α) (st:IS α) (l:List α):IS α:=mW can l (qS st l) (l.length-2)
def jC (can:α->α->α×α) (st:IS α) (ls:List (List α)):IS α:=ls.foldl (xF can) st
def eO (can:α->α->α×α) (st:IS α) (a p b:α):Prop:=p∈st.X\/(a≠b/\qk st.adj p=some (can a b))
structure sW (st st':IS α):Prop where
 X:∀x∈st.X,x∈st'.X
 adj:∀p e,qk st.adj p=some e->qk st'.adj p=some e
theorem sW.refl (st:IS α):sW st st:=⟨λ_ h=>h,λ_ _ h=>h⟩
theorem sW.trans {a b c:IS α} (h:sW a b) (k:sW b c):sW a c:=⟨λx hx=>k.X x (h.X x hx),λp e he=>k.adj p e (h.adj p e he)⟩
theorem eO.later {can:α->α->α×α} {st st':IS α} {a p b:α} (h:eO can st a p b) (k:sW st st'):eO can st' a p b:=
 h.imp (k.X p) λ⟨h1,h2⟩=>⟨h1,k.adj _ _ h2⟩
theorem T0 (can:α->α->α×α) (st:IS α) (a p b:α):sW st (qh can st a p b):=by
 unfold qh;split
 ·exact⟨λx hx=>qd.2 (.inl hx),λ_ _ h=>h⟩
 ·split
  ·split
   ·exact .refl _
   ·exact⟨λx hx=>qd.2 (.inl hx),λ_ _ h=>h⟩
  ·rename_i hg;refine⟨λ_ h=>h,λq e h=>?_⟩;rw[UR hg];by_cases hq:q=p
   ·subst hq;rw[hg] at h;cases h
   ·rw[if_neg hq];exact h
theorem agP (can:α->α->α×α) (st:IS α) (a p b:α):eO can (qh can st a p b) a p b:=by
 unfold qh;by_cases h:a=b
 ·rw[if_pos h];exact .inl (qd.2 (.inr rfl))
 ·rw[if_neg h];cases hg:qk st.adj p with
  |none=>exact .inr ⟨h,by simp only;rw[UR hg,if_pos rfl]⟩
  |some e=>
   simp only;by_cases he:e=can a b
   ·rw[if_pos he];exact .inr ⟨h,by rw[hg,he]⟩
   ·rw[if_neg he];exact .inl (qd.2 (.inr rfl))
theorem MV (can:α->α->α×α) (l:List α) (st:IS α):∀k,sW st (mW can l st k)
 |0=> .refl _
 |k+1=>by
  have ih:=MV can l st k;unfold mW;split
  ·exact ih.trans (T0 _ _ _ _ _)
  ·exact ih
theorem TS (can:α->α->α×α) (l:List α) (st:IS α):∀k i a p b,i<k->l[i]? =some a->l[i+1]? =some p->l[i+2]? =some b->eO can (mW can l st k) a p b
 |0,_,_,_,_,h,_,_,_=>by omega
 |k+1,i,a,p,b,h,h1,h2,h3=>by
  by_cases e:i=k
  ·subst e;unfold mW;rw[h1,h2,h3];exact agP _ _ _ _ _
  ·have ih:=TS can l st k i a p b aa h1 h2 h3;unfold mW;split
   ·exact ih.later (T0 _ _ _ _ _)
   ·exact ih
theorem agO (st:IS α) (l:List α):sW st (qS st l):=by
 unfold qS;split
 ·exact⟨λx hx=>qd.2 (.inl (qd.2 (.inl hx))),λ_ _ h=>h⟩
 ·exact .refl _
theorem agM (can:α->α->α×α) (st:IS α) (l:List α):sW st (xF can st l):=(agO st l).trans (MV _ _ _ _)
theorem TV (can:α->α->α×α):∀(ls:List (List α)) (st:IS α),sW st (jC can st ls)
 |[],_=> .refl _
 |l::ls,st=>(agM can st l).trans (TV can ls _)
structure CG (can:α->α->α×α) (st:IS α) (l:List α):Prop where
 ends:∀p,(l.head? =some p\/l.getLast? =some p)->p∈st.X
 mid:∀a p b,[a,p,b]<:+:l->eO can st a p b
theorem CG.later {can:α->α->α×α} {st st':IS α} {l:List α} (h:CG can st l) (k:sW st st'):CG can st' l:=⟨λp hp=>k.X p (h.ends p hp),λa p b hi=>(h.mid a p b hi).later k⟩
theorem agL (can:α->α->α×α) (st:IS α) (l:List α):CG can (xF can st l) l:=by
 constructor
 ·intro p hp;refine(MV can l (qS st l) (l.length-2)).X p ?_;have h0:l≠[]:=by rintro rfl;rcases hp with h|h<;>cases h
  obtain⟨a,ha⟩:∃a,l.head? =some a:=by cases l with|nil=>exact absurd rfl h0|cons a _=>exact⟨a,rfl⟩
  obtain⟨z,hz⟩:∃z,l.getLast? =some z:=by rw[List.getLast?_eq_getLast h0];exact⟨_,rfl⟩
  unfold qS;rw[ha,hz];rcases hp with h|h
  ·rw[ha] at h;cases h;exact qd.2 (.inl (qd.2 (.inr rfl)))
  ·rw[hz] at h;cases h;exact qd.2 (.inr rfl)
 ·rintro a p b ⟨s,t,e⟩;have hl:l.length=s.length+3+t.length:=by rw[<-e];simp;omega
  refine TS can l _ _ s.length a p b aa ?_ ?_ ?_
  ·rw[<-e];simp
  ·rw[<-e];simp
  ·rw[<-e];simp
theorem MW (can:α->α->α×α):∀(ls:List (List α)) (st:IS α),∀l∈ls,CG can (jC can st ls) l
 |l0::ls,st,l,h=>by
  rcases bm.1 h with rfl|h
  ·exact(agL can st l).later (TV can ls _)
  ·exact MW can ls _ l h
theorem XZ {can:α->α->α×α} (hcan:∀a b,can a b=(a,b)\/can a b=(b,a)) {lines:List (List α)} {st:IS α} (h:∀l∈lines,CG can st l) (h2:∀l∈lines,∀a b,[a,b]<:+:l->a≠b):kP lines (·∈st.X):=by
 refine⟨λl hl p hp=>(h l hl).ends p hp,λl hl a p b hi hx=>?_,h2⟩;rcases(h l hl).mid a p b hi with hh|⟨hne,hg⟩
 ·exact absurd hh hx
 ·refine⟨hne,λl' hl' a' b' hi'=>?_⟩;rcases(h l' hl').mid a' p b' hi' with hh|⟨hne',hg'⟩
  ·exact absurd hh hx
  ·rw[hg] at hg';have e:=iD hg';rcases hcan a b with h1|h1<;>rcases hcan a' b' with h3|h3<;>rw[h1,h3] at e<;>simp only[yg] at e
   ·exact .inl ⟨e.1.symm,e.2.symm⟩
   ·exact .inr ⟨e.2.symm,e.1.symm⟩
   ·exact .inr ⟨e.1.symm,e.2.symm⟩
   ·exact .inl ⟨e.2.symm,e.1.symm⟩
theorem TW (can:α->α->α×α) (Pr:α->Prop):∀(ls:List (List α)) (st:IS α),(∀x∈st.X,Pr x)->(∀l∈ls,∀x∈l,Pr x)->∀x∈(jC can st ls).X,Pr x
 |[],_,h,_=>h
 |l::ls,st,h,hl=>by
  have hl0:=hl l (.head _);refine TW can Pr ls _ (λx hx=>?_) λl' hl'=>hl l' (.tail _ hl');have hE:∀x∈(qS st l).X,Pr x:=by
   intro x hx;unfold qS at hx;split at hx
   ·rename_i a z ha hz;simp only[qd] at hx;rcases hx with(hx|rfl)|rfl
    ·exact h x hx
    ·exact hl0 _ (List.mem_of_mem_head? (by rw[ha];rfl))
    ·exact hl0 _ (J9 hz)
   ·exact h x hx
  have hM:∀k,∀x∈(mW can l (qS st l) k).X,Pr x:=by
   intro k
   induction k with
   |zero=>exact hE
   |succ k ih=>
    intro x hx;unfold mW at hx;split at hx
    ·rename_i a p b _ hp _;have hpp:=hl0 p (bn hp);unfold qh at hx;split at hx
     ·rcases qd.1 hx with hx|rfl
      ·exact ih x hx
      ·exact hpp
     ·split at hx
      ·split at hx
       ·exact ih x hx
       ·rcases qd.1 hx with hx|rfl
        ·exact ih x hx
        ·exact hpp
      ·exact ih x hx
    ·exact ih x hx
  exact hM _ x hx
end Go.Edges
namespace Go.Flt
open Ieee
def p2 (i:Int):Rat:=(2:Rat)^i
theorem g9 (i:Int):0<p2 i:=Rat.zpow_pos bz
theorem jk (i j:Int):p2 (i+j)=p2 i*p2 j:=Rat.zpow_add bz i j
theorem lp (n:Nat):p2 (n:Int)=((2^n:Nat):Rat):=by
 unfold p2;rw[Rat.zpow_natCast]
 induction n with
 |zero=>rfl
 |succ n ih=>rw[Rat.pow_succ,ih,PT,ja];rfl
theorem BJ:p2 0=1:=rfl
theorem Ek:p2 1=2:=by unfold p2;exact Rat.zpow_one 2
theorem Ha {i j:Int} (h:i<=j):p2 i<=p2 j:=by
 obtain⟨n,rfl⟩:∃n:Nat,j=i+n:=⟨(j-i).toNat,aa⟩;rw[jk,lp];have h1:(1:Rat)<=((2^n:Nat):Rat):=by
  have:((1:Nat):Rat)<=((2^n:Nat):Rat):=lj.2 (Nat.one_le_two_pow);exact this
 have:=Rat.mul_le_mul_of_nonneg_left h1 (fT (g9 i))
 rwa [Dq] at this
theorem Sg {i j:Int} (h:p2 i<p2 j):i<j:=by
 rcases F4 (i<j) with k|k
 ·exact k
 ·have:=Ha (show j<=i by omega);grind
def sg (s:Bool):Rat:=if s then -1 else 1
def dv (s:Bool) (m:Nat) (e:Int):Rat:=sg s*((m:Rat)*p2 e)
def FV (a:Nat) (x:Rat):Prop:=a<18446744073709551616/\∃s m e,double.read a= .number s m e/\x=dv s m e
theorem BT {m:Nat} (h:m≠0):2^m.log2<=m/\m<2^(m.log2+1):=⟨JZ h,FZ⟩
theorem V0 (neg:Bool) (n drop:Nat):2*(Toward.even.cut neg n drop*2^drop)<=2*n+2^drop/\2*n<=2*(Toward.even.cut neg n drop*2^drop)+2^drop:=by
 unfold Toward.cut;simp only[Dl];rcases XL drop (n.log2+2) with h|h
 ·rw[Br h];have hp:0<2^drop:=k9 _;have hd:=Ki n (2^drop);have hm:=nI n hp;generalize hq:n/2^drop=q at*;generalize hr:n%2^drop=r at*;generalize 2^drop=g at*;rw[Dx] at hd;by_cases h1:g<2*r
  ·simp only[h1,decide_true,PD,FY,Gh,Nat.one_mul];omega
  ·by_cases h2:(g==2*r&&q%2==1)=true
   ·have h3:g=2*r:=by simp at h2;exact h2.1
    simp only[h1,decide_false,Bo,h2,FY,Gh,Nat.one_mul];omega
   ·simp only[h1,decide_false,Bo,h2,Bool.toNat_false,wY];omega
 ·rw[Pi h];by_cases h0:n=0
  ·subst h0;have hp:0<2^(Nat.log2 0+2):=k9 _;simp
  have hl:=BT h0;have h4:2^(n.log2+2)=2*2^(n.log2+1):=by rw[PT 2 (n.log2+1),Dx]
  have h5:2^(n.log2+2)<=2^drop:=zH bz h;have hq:n/2^(n.log2+2)=0:=FS aa;have hr:n%2^(n.log2+2)=n:=uC aa;rw[hq,hr];have h6:¬2^(n.log2+2)<2*n:=by omega
  have h7:¬2^(n.log2+2)=2*n:=by omega
  simp[h6,h7];omega
theorem VU:double.fractionBits=52:=rfl
theorem NO:double.leastPlace= -1074:=rfl
theorem Ir:double.binade=4503599627370496:=rfl
theorem Iq:double.infRung=9218868437227405312:=rfl
theorem yQ:double.signWeight=9223372036854775808:=rfl
theorem DX (s:Bool) (t k:Nat) (hk:k<=9007199254740992) (ht:t=0\/4503599627370496<=k) (hi:t*4503599627370496+k<9218868437227405312):
  FV (double.word s (t*4503599627370496+k)) (sg s*((k:Rat)*p2 (-1074+(t:Int)))):=by
 have e1:double.word s (t*4503599627370496+k)/9223372036854775808%2=if s then 1 else 0:=by
  unfold Format.word;rw[yQ];cases s<;>simp<;>omega
 have e2:double.word s (t*4503599627370496+k)%9223372036854775808=t*4503599627370496+k:=by
  unfold Format.word;rw[yQ];cases s<;>simp<;>omega
 have e0:double.word s (t*4503599627370496+k)<18446744073709551616:=by
  unfold Format.word;rw[yQ];cases s<;>simp<;>omega
 refine⟨e0,?_⟩;unfold Format.read;simp only[yQ,Ir,Iq,NO,e1,e2];have e3:((if s then 1 else 0:Nat)==1)=s:=by cases s<;>rfl
 rw[e3];by_cases h1:t*4503599627370496+k<4503599627370496
 ·rw[if_pos h1];have t0:t=0:=by omega
  subst t0;refine⟨s,_,_,O,?_⟩;simp[dv]
 ·rw[if_neg h1,if_pos hi];refine⟨s,_,_,O,?_⟩;unfold dv;congr 1;by_cases h2:k=9007199254740992
  ·subst h2;have e4:(t*4503599627370496+9007199254740992)%4503599627370496=0:=by omega
   have e5:(t*4503599627370496+9007199254740992)/4503599627370496-1=t+1:=by omega
   rw[e4,e5];have:(-1074+((t+1:Nat):Int))=(-1074+(t:Int))+1:=by omega
   rw[this,jk (-1074+(t:Int)) 1,Ek];have e6:((9007199254740992:Nat):Rat)=2*((4503599627370496+0:Nat):Rat):=by rw[show(9007199254740992:Nat)=2*(4503599627370496+0) from rfl,ja];rfl
   rw[e6];grind
  ·by_cases h3:4503599627370496<=k
   ·have e4:(t*4503599627370496+k)%4503599627370496=k-4503599627370496:=by omega
    have e5:(t*4503599627370496+k)/4503599627370496-1=t:=by omega
    rw[e4,e5];have:4503599627370496+(k-4503599627370496)=k:=by omega
    rw[this]
   ·omega
theorem aeL (s:Bool) (m:Nat) (e k:Int) (hk: -1021<=k) (hk2:k<=1000) (h:(m:Rat)*p2 e<p2 k):
  ∃y:Rat,FV (double.nearest s m e) (sg s*y)/\((m:Rat)*p2 e=0->y=0)/\0<=y/\y<=(m:Rat)*p2 e+p2 (k-54)/\(m:Rat)*p2 e<=y+p2 (k-54):=by
 unfold Format.nearest;by_cases h0:m=0
 ·subst h0;rw[if_pos rfl];refine⟨0,?_,λ_=>O,PN,?_,?_⟩
  ·have:=DX s 0 0 (bf _) (.inl rfl) bz;simpa using this
  ·have:=g9 (k-54);simp;grind
  ·have:=g9 (k-54);simp;grind
 rw[if_neg h0];have hl:=BT h0;have hle:(m.log2:Int)+e<k:=by
  have h1:p2 ((m.log2:Int)+e)<=(m:Rat)*p2 e:=by
   rw[jk,lp];exact gg (lj.2 hl.1) (fT (g9 e))
  exact Sg df
 simp only[VU,NO,Ir,Iq];generalize hlast:max (e+(m.log2:Int)-((52:Nat):Int)) (-1074)=last;have hl1:last<=k-53:=by omega
 have hl2: -1074<=last:=by omega
 have hl3:e+(m.log2:Int)-52<=last:=by omega
 have hl4:last= -1074\/last=e+(m.log2:Int)-52:=by omega
 generalize hN:m<<<(e-last).toNat=N;generalize hD:(last-e).toNat=D;have hval:(N:Rat)*p2 (last-D)=(m:Rat)*p2 e:=by
  rw[<-hN,rW];rw[ja,<-lp,tg,<-jk];congr 2;omega
 have hN2:N<2^(53+D):=by
  rw[<-hN,rW];have h1:m*2^(e-last).toNat<2^(m.log2+1)*2^(e-last).toNat:=Gc hl.2 (k9 _);rw[<-Dv] at h1;refine Gb h1 (zH bz ?_);omega
 have hN3:last=e+(m.log2:Int)-52->2^(52+D)<=N:=by
  intro hh;rw[<-hN,rW];have h1:2^m.log2*2^(e-last).toNat<=m*2^(e-last).toNat:=gI _ hl.1;rw[<-Dv] at h1;refine tc (zH bz ?_) h1;omega
 have hc:=V0 s N D;generalize hK:Toward.even.cut s N D=K at hc;have hKle:K<=9007199254740992:=by
  rcases dL 9007199254740992 K with hlt|hge
  ·exfalso;have h1:9007199254740993*2^D<=K*2^D:=gI _ hlt;have h2:2^(53+D)=9007199254740992*2^D:=by rw[Dv]
   have hp:=k9 D;omega
  ·exact hge
 have hKge:last= -1074\/4503599627370496<=K:=by
  rcases hl4 with h1|h1
  ·exact .inl h1
  ·refine .inr ?_;have h2:=hN3 h1;rcases dL K 4503599627370496 with hlt|hge
   ·exfalso;have h3:(K+1)*2^D<=4503599627370496*2^D:=gI _ hlt;have h4:2^(52+D)=4503599627370496*2^D:=by rw[Dv]
    have hp:=k9 D;rw[lU] at h3;omega
   ·exact hge
 obtain⟨t,ht⟩:∃t:Nat,last= -1074+(t:Int):=⟨(last+1074).toNat,aa⟩;have ht2:(last- -1074).toNat=t:=by omega
 have hsmall:t*4503599627370496+K<9218868437227405312:=by
  have:t<=2021:=by omega
  have:=gI 4503599627370496 this;omega
 rw[ht2,Br (JY hsmall)];refine⟨(K:Rat)*p2 last,?_,?_,?_,?_,?_⟩
 ·have:=DX s t K hKle (hKge.elim (λh1=> .inl aa) .inr) hsmall;rw[ht];exact this
 ·intro h00;exfalso;have h1:(0:Rat)<(m:Rat):=JU.2 (J2 h0);have:=F0 h1 (g9 e);grind
 ·exact cj (zI) (fT (g9 _))
 all_goals
  have e1:p2 last=((2^D:Nat):Rat)*p2 (last-D):=by rw[<-lp,<-jk];congr 1;omega
  have e2:p2 last<=2*p2 (k-54):=by
   have h3:=Ha hl1;have h4:k-53=(k-54)+1:=by omega
   rw[h4,jk,Ek] at h3;grind
  have hq:=g9 (last-D);have c1:((2*(K*2^D):Nat):Rat)<=((2*N+2^D:Nat):Rat):=lj.2 hc.1;have c2:((2*N:Nat):Rat)<=((2*(K*2^D)+2^D:Nat):Rat):=lj.2 hc.2;rw[<-hval];simp only[ja,yj] at c1 c2;generalize ((2^D:Nat):Rat)=g at*;generalize p2 (last-D)=u at*;generalize p2 (k-54)=v at*;have c1':=gg c1 (fT hq);have c2':=gg c2 (fT hq);have e3:((2:Nat):Rat)=2:=rfl;rw[e3] at c1' c2';rw[e1] at e2 ⊢;grind
end Go.Flt
namespace Go.Flt
open Ieee
theorem aeM (s:Bool) (m:Nat) (e:Int) (M:Nat) (f:Int) (hM:M<9007199254740992) (hf: -1074<=f) (hf2:f<=900) (h:(m:Rat)*p2 e=(M:Rat)*p2 f):
  FV (double.nearest s m e) (sg s*((M:Rat)*p2 f)):=by
 unfold Format.nearest;by_cases h0:m=0
 ·subst h0;rw[if_pos rfl];have h1:(M:Rat)*p2 f=0:=by rw[<-h];simp
  rw[h1];have:=DX s 0 0 (bf _) (.inl rfl) bz;simpa using this
 rw[if_neg h0];have hl:=BT h0;have hlt:(m.log2:Int)+e<53+f:=by
  have h1:p2 ((m.log2:Int)+e)<=(m:Rat)*p2 e:=by
   rw[jk,lp];exact gg (lj.2 hl.1) (fT (g9 e))
  have h2:(M:Rat)*p2 f<p2 (53+f):=by
   have h3:p2 ((53:Nat):Int)=((2^53:Nat):Rat):=lp 53;rw[jk,show(53:Int)=((53:Nat):Int) from rfl,h3];exact pZ (zM.2 (by simpa using hM)) (g9 f)
  exact Sg df
 simp only[VU,NO,Ir,Iq];generalize hlast:max (e+(m.log2:Int)-((52:Nat):Int)) (-1074)=last;have hl1:last<=f:=by omega
 have hl2: -1074<=last:=by omega
 have hl4:last= -1074\/last=e+(m.log2:Int)-52:=by omega
 generalize hN:m<<<(e-last).toNat=N;generalize hD:(last-e).toNat=D;have hval:(N:Rat)*p2 (last-D)=(m:Rat)*p2 e:=by
  rw[<-hN,rW];rw[ja,<-lp,tg,<-jk];congr 2;omega
 obtain⟨g,hg⟩:∃g:Nat,f=last+g:=⟨(f-last).toNat,aa⟩;have hNM:N=M*2^g*2^D:=by
  have h1:(N:Rat)*p2 (last-D)=((M*2^g*2^D:Nat):Rat)*p2 (last-D):=by
   rw[hval,h,ja,ja,<-lp,<-lp,tg,tg,<-jk,<-jk];congr 2;omega
  have h2:=g9 (last-D);have h3:(N:Rat)=((M*2^g*2^D:Nat):Rat):=by
   have h4:=congrArg (·/p2 (last-D)) h1;simpa[FT (Ph h2)] using h4
  exact Rat.natCast_inj.1 h3
 have hc:=V0 s N D;generalize hK:Toward.even.cut s N D=K at hc;have hKe:K=M*2^g:=by
  rw[hNM] at hc;have hp:=k9 D;generalize M*2^g=A at hc ⊢;rcases zV K A with h1|h1|h1
  ·have:=gI (2^D) (show K+1<=A from h1);rw[lU] at this;omega
  ·exact h1
  ·have:=gI (2^D) (show A+1<=K from h1);rw[lU] at this;omega
 obtain⟨t,ht⟩:∃t:Nat,last= -1074+(t:Int):=⟨(last+1074).toNat,aa⟩;have ht2:(last- -1074).toNat=t:=by omega
 have hKv:(K:Rat)*p2 last=(M:Rat)*p2 f:=by
  rw[hKe,ja,<-lp,tg,<-jk,hg];congr 2;omega
 have hKle:K<9007199254740992:=by
  have h1:(K:Rat)*p2 last<p2 (m.log2+1+e):=by
   rw[hKv,<-h,jk,show((m.log2:Int)+1)=((m.log2+1:Nat):Int) from by omega,lp];exact pZ (zM.2 hl.2) (g9 e)
  have h2:p2 (m.log2+1+e)<=p2 (((53:Nat):Int)+last):=Ha aa;rw[jk ((53:Nat):Int),lp] at h2;have h3:(K:Rat)*p2 last<((2^53:Nat):Rat)*p2 last:=by grind
  have h4:=zM.1 (Pq h3 (fT (g9 last)));simpa using h4
 have hKge:last= -1074\/4503599627370496<=K:=by
  rcases hl4 with h1|h1
  ·exact .inl h1
  ·refine .inr ?_;have h2:p2 (m.log2+e)<=(K:Rat)*p2 last:=by
    rw[hKv,<-h,jk,lp];exact gg (lj.2 hl.1) (fT (g9 e))
   have h3:(m.log2:Int)+e=((52:Nat):Int)+last:=by omega
   rw[h3,jk,lp] at h2;have h4:=lj.1 (qL h2 (g9 last));simpa using h4
 have hsmall:t*4503599627370496+K<9218868437227405312:=by
  have:t<=1974:=by omega
  have:=gI 4503599627370496 this;omega
 rw[ht2,Br (JY hsmall),<-hKv,ht];exact DX s t K aa (hKge.elim (λh1=> .inl aa) .inr) hsmall
def DV (d:Datum) (x:Rat):Prop:=∃s m e,d= .number s m e/\x=dv s m e
theorem DV.neg {d:Datum} {x:Rat} (h:DV d x):DV d.opposite (-x):=by
 obtain⟨s,m,e,rfl,rfl⟩:=h;refine⟨!s,m,e,O,?_⟩;cases s<;>simp[dv,sg]<;>grind
theorem GN (s:Bool) (m:Nat) (i base:Int) (h:base<=i):((signed s m (i-base).toNat:Int):Rat)*p2 base=dv s m i:=by
 unfold signed dv sg;have e1:(((m<<<(i-base).toNat:Nat):Int):Rat)*p2 base=(m:Rat)*p2 i:=by
  rw[rW];show((m*2^(i-base).toNat:Nat):Rat)*p2 base=_;rw[ja,<-lp,tg,<-jk];congr 2;omega
 cases s
 ·simp only[ld,if_false];rw[e1];grind
 ·simp only[if_true];rw[w7,Rat.neg_mul,e1];grind
theorem DV.sum {c d:Datum} {x y:Rat} (h:DV c x) (k:DV d y):∃g,c.sum d=some g/\DV g (x+y):=by
 obtain⟨s,m,i,rfl,rfl⟩:=h;obtain⟨t,n,j,rfl,rfl⟩:=k;refine⟨_,O,?_⟩;generalize hb:min i j=base;have h1:=GN s m i base aa;have h2:=GN t n j base aa;generalize signed s m (i-base).toNat=A at*;generalize signed t n (j-base).toNat=B at*;rw[<-h1,<-h2,<-Px,<-ou];refine⟨_,_,_,O,?_⟩;unfold dv sg;generalize hT:A+B=T;by_cases h0:T=0
 ·subst h0;simp
 ·simp only[h0,if_false];by_cases hn:T<0
  ·have e:T= -(T.natAbs:Int):=by omega
   simp only[hn,decide_true,if_true];have:(T:Rat)= -((T.natAbs:Nat):Rat):=by
    conv=>lhs;rw[e]
    rw[w7];rfl
   rw[this];grind
  ·have e:T=(T.natAbs:Int):=by omega
   simp only[hn,decide_false,ld,if_false];have:(T:Rat)=((T.natAbs:Nat):Rat):=by
    conv=>lhs;rw[e]
    rfl
   rw[this];grind
theorem DV.prod {c d:Datum} {x y:Rat} (h:DV c x) (k:DV d y):∃g,c.product d=some g/\DV g (x*y):=by
 obtain⟨s,m,i,rfl,rfl⟩:=h;obtain⟨t,n,j,rfl,rfl⟩:=k;refine⟨_,O,_,_,_,O,?_⟩;unfold dv;rw[ja,jk];cases s<;>cases t<;>simp[sg]<;>grind
theorem FV.dv {a:Nat} {x:Rat} (h:FV a x):DV (double.read a) x:=h.2
theorem X2 {d:Datum} {x:Rat} (h:DV d x) (k:Int) (hk: -1021<=k) (hk2:k<=1000) (h1:x<p2 k) (h2: -p2 k<x):
  ∃z,FV (double.write d) z/\z<=x+p2 (k-54)/\x<=z+p2 (k-54)/\(0<=x->0<=z)/\(x<=0->z<=0):=by
 obtain⟨s,m,e,rfl,rfl⟩:=h;have hm:0<=(m:Rat)*p2 e:=cj zI (fT (g9 e));obtain⟨y,h3,h0,h4,h5,h6⟩:=aeL s m e k hk hk2 (by
  unfold dv at h1 h2;cases s<;>simp[sg] at h1 h2<;>grind)
 refine⟨_,h3,?_⟩;unfold dv;have hp:=g9 (k-54);generalize (m:Rat)*p2 e=u at*;generalize p2 (k-54)=v at*;cases s<;>simp[sg]<;>grind
theorem DI {d:Datum} {x:Rat} (h:DV d x) (i:Int) (f:Int) (hi:i.natAbs<9007199254740992) (hf: -1074<=f) (hf2:f<=900) (hx:x=(i:Rat)*p2 f):FV (double.write d) x:=by
 obtain⟨s,m,e,rfl,rfl⟩:=h;have hp:=g9 f;have hq:=g9 e;have hm:0<=(m:Rat)*p2 e:=cj zI (fT (g9 e));have key:(m:Rat)*p2 e=(i.natAbs:Rat)*p2 f:=by
  unfold dv at hx;have hn:0<=(i.natAbs:Rat)*p2 f:=cj zI (fT hp);have hc:(i:Rat)=(i.natAbs:Rat)\/(i:Rat)= -(i.natAbs:Rat):=by
   rcases JX 0 i with h|h
   ·left;have e:i=(i.natAbs:Int):=by omega
    conv=>lhs;rw[e]
    rfl
   ·right;have e:i= -(i.natAbs:Int):=by omega
    conv=>lhs;rw[e]
    rw[w7];rfl
  generalize (m:Rat)*p2 e=u at*;rcases hc with hc|hc<;>rw[hc] at hx<;>cases s<;>simp[sg] at hx<;>grind
 have:=aeM s m e i.natAbs f hi hf hf2 key;unfold dv;rw[key];exact this
end Go.Flt
namespace Go.Flt
open Ieee
variable {a b:Nat} {x y:Rat}
structure CM (r:Nat) (x:Rat) (k:Int) (z:Rat):Prop where
 val:FV r z
 up:z<=x+p2 (k-54)
 dn:x<=z+p2 (k-54)
 nn:0<=x->0<=z
 np:x<=0->z<=0
def Db (k:Int) (x:Rat):Prop:=(-1021<=k/\k<=1000)/\x<p2 k/\ -p2 k<x
theorem Et {d:Datum} (h:DV d x) {k:Int} (hk:Db k x):∃z,CM (double.write d) x k z:=by
 obtain⟨z,h1,h2,h3,h4,h5⟩:=X2 h k hk.1.1 hk.1.2 hk.2.1 hk.2.2;exact⟨z,h1,h2,h3,h4,h5⟩
theorem CA (ha:FV a x) (hb:FV b y) {k:Int} (hk:Db k (x+y)):∃r z,double.add a b=some r/\CM r (x+y) k z:=by
 obtain⟨g,h1,h2⟩:=DV.sum ha.dv hb.dv;obtain⟨z,h3⟩:=Et h2 hk;exact⟨_,z,by unfold Format.add;rw[h1];rfl,h3⟩
theorem yp (ha:FV a x) (hb:FV b y) {k:Int} (hk:Db k (x-y)):∃r z,double.sub a b=some r/\CM r (x-y) k z:=by
 obtain⟨g,h1,h2⟩:=DV.sum ha.dv hb.dv.neg;rw[<-Rat.sub_eq_add_neg] at h2;obtain⟨z,h3⟩:=Et h2 hk;exact⟨_,z,by unfold Format.sub;rw[h1];rfl,h3⟩
theorem BP (ha:FV a x) (hb:FV b y) {k:Int} (hk:Db k (x*y)):∃r z,double.mul a b=some r/\CM r (x*y) k z:=by
 obtain⟨g,h1,h2⟩:=DV.prod ha.dv hb.dv;obtain⟨z,h3⟩:=Et h2 hk;exact⟨_,z,by unfold Format.mul;rw[h1];rfl,h3⟩
def IU (f:Int) (x:Rat):Prop:=(-1074<=f/\f<=900)/\∃i:Int,i.natAbs<9007199254740992/\x=(i:Rat)*p2 f
theorem alm (ha:FV a x) (hb:FV b y) {f:Int} (hr:IU f (x+y)):∃r,double.add a b=some r/\FV r (x+y):=by
 obtain⟨g,h1,h2⟩:=DV.sum ha.dv hb.dv;obtain⟨hf,i,hi,e⟩:=hr;exact⟨_,by unfold Format.add;rw[h1];rfl,DI h2 i f hi hf.1 hf.2 e⟩
theorem abH (ha:FV a x) (hb:FV b y) {f:Int} (hr:IU f (x-y)):∃r,double.sub a b=some r/\FV r (x-y):=by
 obtain⟨g,h1,h2⟩:=DV.sum ha.dv hb.dv.neg;rw[<-Rat.sub_eq_add_neg] at h2;obtain⟨hf,i,hi,e⟩:=hr;exact⟨_,by unfold Format.sub;rw[h1];rfl,DI h2 i f hi hf.1 hf.2 e⟩
theorem aeQ (ha:FV a x) (hb:FV b y) {f:Int} (hr:IU f (x*y)):∃r,double.mul a b=some r/\FV r (x*y):=by
 obtain⟨g,h1,h2⟩:=DV.prod ha.dv hb.dv;obtain⟨hf,i,hi,e⟩:=hr;exact⟨_,by unfold Format.mul;rw[h1];rfl,DI h2 i f hi hf.1 hf.2 e⟩
theorem Lj {i:Int} (h:i.natAbs<9007199254740992):IU 0 (i:Rat):=⟨⟨by decide,by decide⟩,i,h,by rw[BJ,Dq]⟩
theorem alk {i j:Int} (ha:FV a i) (hb:FV b j) (h:(i+j).natAbs<9007199254740992):∃r,double.add a b=some r/\FV r ((i+j:Int):Rat):=by
 have:=alm ha hb (f:=0) (by rw[<-ou];exact Lj h);rw[<-ou] at this;exact this
theorem GH {i j:Int} (ha:FV a i) (hb:FV b j) (h:(i-j).natAbs<9007199254740992):∃r,double.sub a b=some r/\FV r ((i-j:Int):Rat):=by
 have:=abH ha hb (f:=0) (by rw[<-DA];exact Lj h);rw[<-DA] at this;exact this
theorem L8 {i j:Int} (ha:FV a i) (hb:FV b j) (h:(i*j).natAbs<9007199254740992):∃r,double.mul a b=some r/\FV r ((i*j:Int):Rat):=by
 have:=aeQ ha hb (f:=0) (by rw[<-qM];exact Lj h);rw[<-qM] at this;exact this
theorem acA (s t:Bool):sg (s^^t)=sg s*sg t:=by cases s<;>cases t<;>simp[sg]<;>grind
theorem DV.quot {c d:Datum} (h:DV c x) (k:DV d y) (hy:y≠0):∃g q,c.quotient 54 d=some g/\DV g q/\
  (∀u:Rat,0<=u->x<=u-> -u<=x->∀v:Rat,0<v->(v<=y\/y<= -v)->q*y<=x+u*p2 (-53)/\x<=q*y+u*p2 (-53)):=by
 obtain⟨s,m,i,rfl,rfl⟩:=h;obtain⟨t,n,j,rfl,rfl⟩:=k;have hn:n≠0:=by rintro rfl;exact hy (by simp[dv])
 unfold Datum.quotient;simp only[hn,if_false];generalize hmore:54+n.log2-m.log2=more;refine⟨_,_,O,⟨_,_,_,O,O⟩,λu hu0 hu1 hu2 v hv0 hv=>?_⟩;have hnl:=BT hn;have hnp:0<n:=J2 hn;rw[rW];generalize hD:m*2^more=D;have hdm:=Ki D n;have hml:=nI D hnp;generalize hQ:D/n=Q at*;generalize hR:D%n=R at*;have hxu:(m:Rat)*p2 i<=u:=by
  unfold dv at hu1 hu2;cases s<;>simp[sg] at hu1 hu2<;>grind
 generalize hc:(2*Q+(R !=0).toNat)=C;have hCn:2*D<=C*n+n/\C*n<=2*D+n/\(R=0->C*n=2*D):=by
  subst hc;by_cases h0:R=0
  ·subst h0;simp;rw[nK,Dx Q n];omega
  ·have:(R !=0).toNat=1:=by simp[h0]
   rw[this,Gh,nK,Dx Q n];omega
 have hnD:m=0\/n*9007199254740992<=D:=by
  by_cases hm:m=0
  ·exact .inl hm
  refine .inr ?_;have hml:=BT hm;have h1:2^m.log2*2^more<=D:=by rw[<-hD];exact gI _ hml.1
  rw[<-Dv] at h1;have h2:n*2^53<=2^(n.log2+1)*2^53:=gI _ (JY hnl.2);rw[<-Dv] at h2;have h3:2^(n.log2+1+53)<=2^(m.log2+more):=zH bz aa;have h4:n*2^53=n*9007199254740992:=by rfl
  omega
 have hx0:m=0->C*n<=n:=by
  intro hm;subst hm;have:D=0:=by rw[<-hD];simp
  subst this;have:R=0:=by omega
  have:=hCn.2.2 this;omega
 have herr:(C*n:Nat)<=2*D+n/\2*D<=(C*n:Nat)+n:=⟨hCn.2.1,hCn.1⟩;have e1:dv (s^^t) C (i-j-(more:Int)-1)*dv t n j=sg s*(((C*n:Nat):Rat)*p2 (i-(more:Int)-1)):=by
  unfold dv;rw[acA];have e2:p2 (i-(more:Int)-1)=p2 (i-j-(more:Int)-1)*p2 j:=by rw[<-jk];congr 1;omega
  rw[e2,ja];have e3:sg t*sg t=1:=by cases t<;>simp[sg]<;>grind
  generalize p2 (i-j-(more:Int)-1)=A;generalize p2 j=B;grind
 have e4:(m:Rat)*p2 i=((2*D:Nat):Rat)*p2 (i-(more:Int)-1):=by
  rw[<-hD,<-nK,Dx 2 m,nK,<-Nat.pow_succ'];rw[ja,<-lp,tg,<-jk];congr 2;omega
 rw[e1];unfold dv;rw[e4];rw[e4] at hxu;have hw:=g9 (i-(more:Int)-1);generalize p2 (i-(more:Int)-1)=w at*;have c1:((C*n:Nat):Rat)<=((2*D:Nat):Rat)+(n:Rat):=by rw[<-yj];exact lj.2 herr.1
 have c2:((2*D:Nat):Rat)<=((C*n:Nat):Rat)+(n:Rat):=by rw[<-yj];exact lj.2 herr.2
 have h53:p2 (-53)*9007199254740992=1:=by
  have:p2 (-53)*p2 ((53:Nat):Int)=1:=by rw[<-jk];rfl
  rw[lp] at this;exact this
 have hp:=g9 (-53);rcases hnD with hm|hnD
 ·subst hm;have hD0:D=0:=by rw[<-hD];simp
  have hR0:R=0:=by omega
  have hC0:=hCn.2.2 hR0;rw[hC0,hD0];have:0<=u*p2 (-53):=cj hu0 (fT hp);simp;grind
 have c3:(n:Rat)*9007199254740992<=((D:Nat):Rat):=by
  have:=lj.2 hnD;rw[ja] at this;exact this
 have c4:((2*D:Nat):Rat)=2*(D:Rat):=by rw[ja];rfl
 have c5:(n:Rat)*w<=u*p2 (-53):=by
  have h1:=gg c3 (fT hw);have h2:(n:Rat)*9007199254740992*w<=u:=by
   have hDn:0<=(D:Rat)*w:=cj zI (fT hw);rw[c4] at hxu;grind
  have h3:=gg h2 (fT hp);have h4:(n:Rat)*9007199254740992*w*p2 (-53)=(n:Rat)*w:=by
   have:(n:Rat)*9007199254740992*w*p2 (-53)=(n:Rat)*w*(p2 (-53)*9007199254740992):=by grind
   rw[this,h53,Dq]
  rw[h4] at h3;exact h3
 have d1:=gg c1 (fT hw);have d2:=gg c2 (fT hw);cases s<;>simp[sg]<;>grind
end Go.Flt
namespace Go.Tiles
abbrev IP:=Int×Int
def Cw (w n k:Nat):IP:=
 let x:Int:=2*((n/4)%w:Nat)
 let y:Int:=2*((n/4)/w:Nat)
 match k%4 with
 |0=>(x,y)
 |1=>(x+2,y)
 |2=>(x+2,y+2)
 |_=>(x,y+2)
def mid (w n:Nat):IP:=(2*((n/4)%w:Nat)+1,2*((n/4)/w:Nat)+1)
def dQ (w n:Nat):Nat->IP
 |0=>Cw w n (n%4)
 |1=>Cw w n (n%4+1)
 |_=>mid w n
def eC (w n e:Nat):IP×IP:=(dQ w n e,dQ w n ((e+1)%3))
def bey (w h n e:Nat):Option Nat:=
 if e=1 then some (4*(n/4)+(n%4+1)%4)
 else if e=2 then some (4*(n/4)+(n%4+3)%4)
 else
  let x:=(n/4)%w
  let y:=(n/4)/w
  match n%4 with
  |0=>if y=0 then none else some (4*((y-1)*w+x)+2)
  |1=>if x+1>=w then none else some (4*(y*w+(x+1))+3)
  |2=>if y+1>=h then none else some (4*((y+1)*w+x)+0)
  |_=>if x=0 then none else some (4*(y*w+(x-1))+1)
def tU (e:Nat):Nat:=if e=1 then 2 else if e=2 then 1 else 0
def gJ:List (Nat×Nat):=[(1,1),(1,2),(1,3),(1,4),(1,5),(2,1),(2,2),(2,3),(2,4),(2,5),(3,1),(3,2),(3,3),(3,4),(3,5),(4,1),(4,2),(4,3),(4,4),(4,5),(5,1),(5,2),(5,3),(5,4),(5,5)]
theorem K7 {w h:Nat} (h1:1<=w) (h2:w<=5) (h3:1<=h) (h4:h<=5):(w,h)∈gJ:=by
 have a:w=1\/w=2\/w=3\/w=4\/w=5:=by omega
 have b:h=1\/h=2\/h=3\/h=4\/h=5:=by omega
 rcases a with rfl|rfl|rfl|rfl|rfl<;>rcases b with rfl|rfl|rfl|rfl|rfl<;>decide
def Ca (p q:IP):Bool:=p.1==q.1&&p.2==q.2
def inb (p:IP):Bool:=Int.toNat p.1<=10&&Int.toNat p.2<=10&&p.1==(p.1.toNat:Int)&&p.2==(p.2.toNat:Int)&&(p.1.toNat+p.2.toNat)%2==0
def stp (p:IP×IP):Bool:=let dx:=p.2.1-p.1.1;let dy:=p.2.2-p.1.2
 (dx==2&&dy==0)||(dx== -2&&dy==0)||(dx==0&&dy==2)||(dx==0&&dy== -2)||(dx==1&&dy==1)||(dx==1&&dy== -1)||(dx== -1&&dy==1)||(dx== -1&&dy== -1)
def inv (w:Nat) (p:IP×IP):Nat×Nat:=
 let dx:=p.2.1-p.1.1;let dy:=p.2.2-p.1.2
 let cell (x y:Int):Nat:=4*((y/2).toNat*w+(x/2).toNat)
 if dy==0 then(if dx==2 then(cell p.1.1 p.1.2,0) else(cell p.2.1 (p.2.2-2)+2,0))
 else if dx==0 then(if dy==2 then(cell (p.1.1-2) p.1.2+1,0) else(cell p.2.1 p.2.2+3,0))
 else if p.2.1%2==1 then
  (if dx== -1&&dy==1 then(cell (p.2.1-1) (p.2.2-1)+0,1) else if dx== -1&&dy== -1 then(cell (p.2.1-1) (p.2.2-1)+1,1) else if dx==1&&dy== -1 then(cell (p.2.1-1) (p.2.2-1)+2,1) else(cell (p.2.1-1) (p.2.2-1)+3,1))
 else
  (if dx== -1&&dy== -1 then(cell (p.1.1-1) (p.1.2-1)+0,2) else if dx==1&&dy== -1 then(cell (p.1.1-1) (p.1.2-1)+1,2) else if dx==1&&dy==1 then(cell (p.1.1-1) (p.1.2-1)+2,2) else(cell (p.1.1-1) (p.1.2-1)+3,2))
def Cy (w h n e:Nat):Bool:=
 inb (eC w n e).1&&stp (eC w n e)&&(inv w (eC w n e)==(n,e))&&
 (match bey w h n e with
  |none=>true
  |some j=>Nat.blt j (4*w*h)&&(bey w h j (tU e)==some n)&&Ca (eC w j (tU e)).1 (eC w n e).2&&Ca (eC w j (tU e)).2 (eC w n e).1)
def akz:Bool:=gJ.all λs=>(List.range (4*s.1*s.2)).all λn=>[0,1,2].all λe=>Cy s.1 s.2 n e
theorem aky:akz=true:=by decide+kernel
theorem Iz {w h n e:Nat} (hs:(w,h)∈gJ) (hn:n<4*w*h) (he:e<3):Cy w h n e=true:=by
 have h1:=kD.1 aky _ hs;have h2:=kD.1 h1 n (nL.2 hn);have h3:e=0\/e=1\/e=2:=by omega
 refine kD.1 h2 e ?_;rcases h3 with rfl|rfl|rfl<;>decide
theorem MS {p q:IP}:Ca p q=true↔p=q:=by
 unfold Ca;rw[eI,beq_iff_eq,beq_iff_eq,PK]
variable {w h n e:Nat}
theorem VJ (hs:(w,h)∈gJ) (hn:n<4*w*h) (he:e<3):inb (eC w n e).1=true:=by
 have:=Iz hs hn he;simp only[Cy,eI] at this;exact this.1.1.1
theorem ajQ (hs:(w,h)∈gJ) (hn:n<4*w*h) (he:e<3):stp (eC w n e)=true:=by
 have:=Iz hs hn he;simp only[Cy,eI] at this;exact this.1.1.2
theorem VI (hs:(w,h)∈gJ) (hn:n<4*w*h) (he:e<3):inv w (eC w n e)=(n,e):=by
 have:=Iz hs hn he;simp only[Cy,eI,beq_iff_eq] at this;exact this.1.2
theorem WJ (hs:(w,h)∈gJ) (hn:n<4*w*h) (he:e<3) {j:Nat} (hj:bey w h n e=some j):j<4*w*h/\bey w h j (tU e)=some n/\eC w j (tU e)=((eC w n e).2,(eC w n e).1):=by
 have:=Iz hs hn he;simp only[Cy,hj,eI,vM,beq_iff_eq,MS] at this;exact⟨this.2.1.1.1,this.2.1.1.2,mN this.2.1.2 this.2.2⟩
theorem WL (he:e<3):tU e<3:=by unfold tU;split<;>(try split)<;>omega
theorem ak7 (he:e<3):tU (tU e)=e:=by
 have:e=0\/e=1\/e=2:=by omega
 rcases this with rfl|rfl|rfl<;>rfl
def fk (w h:Nat) (S:Nat->Bool) (part:List Nat):List (IP×IP):=
 part.flatMap λn=>[0,1,2].filterMap λe=>if(match bey w h n e with|some j=>S j|none=>false) then none else some (eC w n e)
end Go.Tiles
namespace Go.Tiles
variable {α:Type}
def fG (f:α->Int):List α->Int
 |[]=>0
 |a::l=>f a+fG f l
theorem QP (f:α->Int):∀a b:List α,fG f (a++b)=fG f a+fG f b
 |[],b=>by simp[fG]
 |x::a,b=>by simp only[pY,fG,QP f a b];omega
theorem QJ (f:α->Int) {a b:List α} (h:a.Perm b):fG f a=fG f b:=by
 induction h with
 |nil=>rfl
 |cons x _ ih=>simp only[fG,ih]
 |swap x y l=>simp only[fG];omega
 |trans _ _ ih1 ih2=>exact ih1.trans ih2
theorem KN {β:Type} (f:β->Int) (g:α->β):∀a:List α,fG f (a.map g)=fG (λx=>f (g x)) a
 |[]=>rfl
 |x::a=>by simp only[dV,fG,KN f g a]
theorem QM (f:α->Int):∀a:List α,fG (λx=> -f x) a= -fG f a
 |[]=>rfl
 |x::a=>by simp only[fG,QM f a];omega
theorem QO {f g:α->Int}:∀{a:List α},(∀x∈a,f x=g x)->fG f a=fG g a
 |[],_=>rfl
 |x::a,h=>by simp only[fG,h x (.head _),QO (a:=a) λy hy=>h y (.tail _ hy)]
theorem QK (f:α->Int) (p:α->Bool):∀a:List α,fG f a=fG f (a.filter p)+fG f (a.filter λx=>!p x)
 |[]=>rfl
 |x::a=>by
  have:=QK f p a;by_cases h:p x=true
  ·simp[h,fG,this];omega
  ·simp[h,fG,this];omega
theorem abF (f:α->Int) (σ:α->α) {l:List α} (hn:l.Nodup) (h1:∀x∈l,σ x∈l) (h2:∀x∈l,σ (σ x)=x) (h3:∀x∈l,f (σ x)= -f x):fG f l=0:=by
 have hp:(l.map σ).Perm l:=by
  refine(zS ?_ hn).2 λa=>⟨λh=>?_,λh=>?_⟩
  ·rw[zR] at hn ⊢;rw[Dk];refine(Gg.1 hn).imp λ{a b} ⟨ha,hb,hne⟩ e=>hne ?_;rw[<-h2 a ha,e,h2 b hb]
  ·obtain⟨x,hx,rfl⟩:=aM.1 h;exact h1 x hx
  ·exact aM.2 ⟨σ a,h1 a h,h2 a h⟩
 have e:=QJ f hp;rw[KN,QO h3,QM] at e;omega
def lq (v:IP) (p:IP×IP):Int:=(if p.1=v then 1 else 0)-(if p.2=v then 1 else 0)
def FR (l:List (IP×IP)):Prop:=∀v,fG (lq v) l=0
def sk (w h:Nat) (S:Nat->Bool) (x:Nat×Nat):Bool:=match bey w h x.1 x.2 with|some j=>S j|none=>false
def sE (part:List Nat):List (Nat×Nat):=part.flatMap λn=>[(n,0),(n,1),(n,2)]
theorem Im (w h:Nat) (S:Nat->Bool):∀part:List Nat,fk w h S part=((sE part).filter λx=>!sk w h S x).map λx=>eC w x.1 x.2
 |[]=>rfl
 |n::part=>by
  have ih:=Im w h S part;have e1:fk w h S (n::part)=([0,1,2].filterMap λe=>if sk w h S (n,e)=true then none else some (eC w n e))++fk w h S part:=rfl;have e2:sE (n::part)=[(n,0),(n,1),(n,2)]++sE part:=rfl;rw[e1,e2,ih,Pv,dX];congr 1;cases h0:sk w h S (n,0)<;>cases h1:sk w h S (n,1)<;>cases h2:sk w h S (n,2)<;>simp[h0,h1,h2]
theorem Ey {part:List Nat} {x:Nat×Nat}:x∈sE part↔x.1∈part/\x.2<3:=by
 unfold sE;rw[mO];constructor
 ·rintro⟨n,hn,hx⟩;simp only[bm,oY,or_false] at hx;rcases hx with rfl|rfl|rfl
  ·exact⟨hn,Nat.zero_lt_succ _⟩
  ·exact⟨hn,(by decide:1<3)⟩
  ·exact⟨hn,(by decide:2<3)⟩
 ·rintro⟨h1,h2⟩;refine⟨x.1,h1,?_⟩;obtain⟨a,b⟩:=x;have:b=0\/b=1\/b=2:=by simp only at h2;omega
  rcases this with rfl|rfl|rfl<;>simp
theorem Su:∀{part:List Nat},part.Nodup->(sE part).Nodup
 |[],_=>Gd
 |n::part,h=>by
  have h':=la.1 h;unfold sE;rw[dC];refine uF.2 ⟨by simp,Su h'.2,λa ha b hb e=>?_⟩;subst e;have h1:=(Ey.1 hb).1;simp only[bm,oY,or_false] at ha;rcases ha with rfl|rfl|rfl<;>exact h'.1 h1
theorem M1 {w h:Nat} (hs:(w,h)∈gJ) {S:Nat->Bool} {part:List Nat} (hp:∀n∈part,n<4*w*h) {x:Nat×Nat} (hx:x∈(sE part).filter λx=>sk w h S x):
  (x.1∈part/\x.2<3)/\∃j,bey w h x.1 x.2=some j/\S j=true/\bey w h j (tU x.2)=some x.1/\eC w j (tU x.2)=((eC w x.1 x.2).2,(eC w x.1 x.2).1):=by
 obtain⟨h1,h2⟩:=uJ.1 hx;obtain⟨h3,h4⟩:=Ey.1 h1;refine⟨⟨h3,h4⟩,?_⟩;unfold sk at h2;cases hb:bey w h x.1 x.2 with
 |none=>rw[hb] at h2;cases h2
 |some j=>
  rw[hb] at h2;obtain⟨k1,k2,k3⟩:=WJ hs (hp _ h3) h4 hb;exact⟨j,O,h2,k2,k3⟩
theorem QH {w:Nat} (v:IP):∀part:List Nat,fG (λx=>lq v (eC w x.1 x.2)) (sE part)=0
 |[]=>rfl
 |n::part=>by
  have ih:=QH (w:=w) v part;have e2:sE (n::part)=[(n,0),(n,1),(n,2)]++sE part:=rfl;rw[e2,QP,ih];have e0:eC w n 0=(dQ w n 0,dQ w n 1):=rfl;have e1:eC w n 1=(dQ w n 1,dQ w n 2):=rfl;have e2:eC w n 2=(dQ w n 2,dQ w n 0):=rfl;simp only[fG,e0,e1,e2,lq];omega
theorem ajN {w h:Nat} (hs:(w,h)∈gJ) {S:Nat->Bool} {part:List Nat} (hnd:part.Nodup) (hS:∀n,S n=true↔n∈part) (hp:∀n∈part,n<4*w*h):FR (fk w h S part):=by
 intro v;rw[Im,KN];have hall:=QH (w:=w) v part;have hpair:fG (λx=>lq v (eC w x.1 x.2)) ((sE part).filter λx=>sk w h S x)=0:=by
  refine abF _ (λx=>((bey w h x.1 x.2).getD 0,tU x.2)) ((Su hnd).filter _) (λx hx=>?_) (λx hx=>?_) (λx hx=>?_)
  ·obtain⟨⟨h3,h4⟩,j,hb,h2,k2,k3⟩:=M1 hs hp hx;rw[hb];refine uJ.2 ⟨Ey.2 ⟨(hS j).1 h2,WL h4⟩,?_⟩;simp only[sk,mM,k2];exact(hS _).2 h3
  ·obtain⟨⟨h3,h4⟩,j,hb,h2,k2,k3⟩:=M1 hs hp hx;simp only[hb,mM,k2,ak7 h4]
  ·obtain⟨⟨h3,h4⟩,j,hb,h2,k2,k3⟩:=M1 hs hp hx;simp only[hb,mM,k3,lq];omega
 have:=QK (λx=>lq v (eC w x.1 x.2)) (λx=>sk w h S x) (sE part);omega
theorem abL {left:List (IP×IP)} {a b:IP} (hb:∀v,fG (lq v) left+lq v (a,b)=0) (hne:a≠b):∃(i:Nat) (e:IP×IP),left[i]? =some e/\e.1=b:=by
 have h1:=hb b;have hn:lq b (a,b)= -1:=by unfold lq;simp[hne]
 have hpos:fG (lq b) left=1:=by omega
 have:∃e∈left,e.1=b:=by
  apply Kn;intro hno;have hle:∀l:List (IP×IP),(∀e∈l,e.1≠b)->fG (lq b) l<=0:=by
   intro l
   induction l with
   |nil=>intro _;exact Int.le_refl 0
   |cons e l ih=>
    intro h;have h0:lq b e<=0:=by
     unfold lq;rw[if_neg (h e (.head _))];split<;>omega
    have:=ih λx hx=>h x (.tail _ hx);simp only[fG];omega
  have:=hle left λe he h=>hno ⟨e,he,h⟩;omega
 obtain⟨e,he,h⟩:=this;obtain⟨i,hi⟩:=lg he;exact⟨i,e,hi,h⟩
end Go.Tiles
namespace Go.Flt
open Ieee
variable {a b:Nat} {x y:Rat}
theorem Eu {A B p:Rat} (hp:0<p):A*p<B*p↔A<B:=
 ⟨λh=>Pq h (fT hp),λh=>pZ h hp⟩
theorem xw {A B p:Rat} (hp:0<p):A*p=B*p↔A=B:=by
 constructor
 ·intro h;have h4:=congrArg (·/p) h;simpa[FT (Ph hp)] using h4
 ·rintro rfl;rfl
theorem DV.ord {c d:Datum} (h:DV c x) (k:DV d y):c.order d=some (if x<y then .lt else if x=y then .eq else .gt):=by
 obtain⟨s,m,i,rfl,rfl⟩:=h;obtain⟨t,n,j,rfl,rfl⟩:=k;unfold Datum.order;dsimp only;generalize hb:min i j=base;have h1:=GN s m i base aa;have h2:=GN t n j base aa;generalize signed s m (i-base).toNat=A at*;generalize signed t n (j-base).toNat=B at*;rw[<-h1,<-h2];have hp:=g9 base;have e1:((A:Rat)*p2 base<(B:Rat)*p2 base)↔A<B:=(Eu hp).trans jP;have e2:((A:Rat)*p2 base=(B:Rat)*p2 base)↔A=B:=(xw hp).trans uI;congr 1;show compareOfLessAndEq A B=_;unfold compareOfLessAndEq;by_cases h3:A<B
 ·rw[if_pos h3,if_pos (e1.2 h3)]
 ·rw[if_neg h3,if_neg (λh=>h3 (e1.1 h))];by_cases h4:A=B
  ·rw[if_pos h4,if_pos (e2.2 h4)]
  ·rw[if_neg h4,if_neg (λh=>h4 (e2.1 h))]
theorem FV.ord (h:FV a x) (k:FV b y):double.order a b=some (if x<y then .lt else if x=y then .eq else .gt):=DV.ord h.dv k.dv
theorem VO (ha:FV a x) (hb:FV b y) {v u:Rat} (hu1:x<=u) (hu2: -u<=x) (hv0:0<v) (hv:v<=y\/y<= -v) {k:Int}
  (hk:∀q:Rat,q*y<=x+u*p2 (-53)->x<=q*y+u*p2 (-53)->Db k q):
  ∃r q z,double.div a b=some r/\CM r q k z/\q*y<=x+u*p2 (-53)/\x<=q*y+u*p2 (-53):=by
 have hy:y≠0:=by rcases hv with h|h<;>grind
 obtain⟨g,q,h1,h2,h3⟩:=DV.quot ha.dv hb.dv hy;obtain⟨k1,k2⟩:=h3 u df hu1 hu2 v hv0 hv;obtain⟨z,hz⟩:=Et h2 (hk q k1 k2);refine⟨_,q,z,?_,hz,k1,k2⟩;unfold Format.div;have:double.fractionBits+2=54:=rfl;rw[this,h1];rfl
theorem V3 (way:Toward) (s:Bool) (n drop:Nat) (h:way= .zero\/(way= .down/\s=false)):way.cut s n drop*2^drop<=n/\n<way.cut s n drop*2^drop+2^drop:=by
 have e:way.cut s n drop=n/(1<<<min drop (n.log2+2)):=by
  rcases h with rfl|⟨rfl,rfl⟩<;>simp[Toward.cut]
 rw[e,Dl];rcases XL drop (n.log2+2) with h|h
 ·rw[Br h];have hp:0<2^drop:=k9 _;have hd:=Ki n (2^drop);have hm:=nI n hp;rw[Dx] at hd;omega
 ·rw[Pi h];have h5:2^(n.log2+2)<=2^drop:=zH bz h;have hl:n<2^(n.log2+1):=FZ;have h4:2^(n.log2+2)=2*2^(n.log2+1):=by rw[PT 2 (n.log2+1),Dx]
  have hq:n/2^(n.log2+2)=0:=FS aa;rw[hq];omega
theorem aj8 (n drop:Nat):n<=Toward.down.cut true n drop*2^drop/\Toward.down.cut true n drop*2^drop<n+2^drop:=by
 unfold Toward.cut;simp only[Dl,Bool.true_and];rcases XL drop (n.log2+2) with h|h
 ·rw[Br h];have hp:0<2^drop:=k9 _;have hd:=Ki n (2^drop);have hm:=nI n hp;rw[Dx] at hd;by_cases h0:n%2^drop=0
  ·simp only[h0,bne_self_eq_false,Bool.toNat_false,wY];omega
  ·have:(n%2^drop !=0)=true:=by simp[h0]
   simp only[this,FY,Gh,Nat.one_mul];omega
 ·rw[Pi h];have h5:2^(n.log2+2)<=2^drop:=zH bz h;have hl:n<2^(n.log2+1):=FZ;have h4:2^(n.log2+2)=2*2^(n.log2+1):=by rw[PT 2 (n.log2+1),Dx]
  have hq:n/2^(n.log2+2)=0:=FS aa;have hr:n%2^(n.log2+2)=n:=uC aa;rw[hq,hr];by_cases h0:n=0
  ·subst h0;have hp:0<2^drop:=k9 _;simp
   try omega
  ·have:(n !=0)=true:=by simp[h0]
   simp only[this,FY];omega
theorem SX (m:Nat) (e:Int):(m:Rat)*p2 e=((m<<<e.toNat:Nat):Rat)*p2 (-((-e).toNat:Int)):=by
 rw[rW,ja,<-lp,tg,<-jk];congr 2;omega
theorem Hf (d:Nat):p2 (-(d:Int))*((2^d:Nat):Rat)=1:=by
 rw[<-lp,<-jk];have: -(d:Int)+(d:Int)=0:=by omega
 rw[this];rfl
theorem DV.floor {d:Datum} (h:DV d x):∃i:Int,DV (d.integral .down) (i:Rat)/\(i:Rat)<=x/\x<(i:Rat)+1:=by
 obtain⟨s,m,e,rfl,rfl⟩:=h;have hi:∀C,(Toward.down.cut s (m<<<e.toNat) (-e).toNat)=C->(Datum.number s m e).integral .down= .number s C 0:=λC h=>by subst h;rfl
 unfold dv;rw[SX m e];generalize m<<<e.toNat=n at*;generalize (-e).toNat=drop at*;have hd:=Hf drop;have hp:=g9 (-(drop:Int));cases s with
 |false=>
  have hc:=V3 .down false n drop (.inr ⟨rfl,rfl⟩);generalize Toward.down.cut false n drop=C at*;have c1:(C:Rat)*((2^drop:Nat):Rat)<=(n:Rat):=by rw[<-ja];exact lj.2 hc.1
  have c2:(n:Rat)<(C:Rat)*((2^drop:Nat):Rat)+((2^drop:Nat):Rat):=by rw[<-ja,<-yj];exact zM.2 hc.2
  have d1:=gg c1 (fT hp);have d2:=pZ c2 hp;refine⟨(C:Int),⟨false,C,0,hi C O,?_⟩,?_,?_⟩
  ·unfold dv sg;rw[BJ];simp;rfl
  ·show(C:Rat)<=_;simp only[sg,ld,if_false,Rat.one_mul];generalize p2 (-(drop:Int))=P at*;generalize ((2^drop:Nat):Rat)=G at*;rw[tg,Kk G P,hd] at d1;grind
  ·show _<(C:Rat)+1;simp only[sg,ld,if_false,Rat.one_mul];generalize p2 (-(drop:Int))=P at*;generalize ((2^drop:Nat):Rat)=G at*;rw[Px,tg,Kk G P,hd] at d2;grind
 |true=>
  have hc:=aj8 n drop;generalize Toward.down.cut true n drop=C at*;have c1:(n:Rat)<=(C:Rat)*((2^drop:Nat):Rat):=by rw[<-ja];exact lj.2 hc.1
  have c2:(C:Rat)*((2^drop:Nat):Rat)<(n:Rat)+((2^drop:Nat):Rat):=by rw[<-ja,<-yj];exact zM.2 hc.2
  have d1:=gg c1 (fT hp);have d2:=pZ c2 hp;have e1:((-(C:Int):Int):Rat)= -(C:Rat):=by rw[w7];rfl
  refine⟨-(C:Int),⟨true,C,0,hi C O,?_⟩,?_,?_⟩
  ·unfold dv sg;rw[BJ,e1];simp;grind
  ·rw[e1];simp only[sg,if_true];generalize p2 (-(drop:Int))=P at*;generalize ((2^drop:Nat):Rat)=G at*;rw[tg,Kk G P,hd] at d1;grind
  ·rw[e1];simp only[sg,if_true];generalize p2 (-(drop:Int))=P at*;generalize ((2^drop:Nat):Rat)=G at*;rw[Px,tg,Kk G P,hd] at d2;grind
theorem DV.toInt {d:Datum} {i:Int} (h:DV d (i:Rat)):d.toInt .zero=some i:=by
 obtain⟨s,m,e,rfl,hx⟩:=h;unfold Datum.toInt Datum.integral;dsimp only;have hc:=V3 .zero s (m<<<e.toNat) (-e).toNat (.inl rfl);unfold dv at hx;rw[SX m e] at hx;generalize m<<<e.toNat=n at*;generalize (-e).toNat=drop at*;generalize Toward.zero.cut s n drop=C at*;have hd:=Hf drop;have hp:=g9 (-(drop:Int));have hpn:0<2^drop:=k9 _;have key:n=i.natAbs*2^drop:=by
  have hi:(i:Rat)=(i.natAbs:Rat)\/(i:Rat)= -(i.natAbs:Rat):=by
   rcases JX 0 i with h|h
   ·left;have e:i=(i.natAbs:Int):=by omega
    conv=>lhs;rw[e]
    rfl
   ·right;have e:i= -(i.natAbs:Int):=by omega
    conv=>lhs;rw[e]
    rw[w7];rfl
  have h0:(0:Rat)<=(n:Rat)*p2 (-(drop:Int)):=cj zI (fT hp);have h1:(0:Rat)<=(i.natAbs:Rat):=zI;have h2:(n:Rat)*p2 (-(drop:Int))=(i.natAbs:Rat):=by
   cases s<;>simp[sg] at hx<;>rcases hi with hi|hi<;>rw[hi] at hx<;>grind
  have h3:(n:Rat)*p2 (-(drop:Int))*((2^drop:Nat):Rat)=(i.natAbs:Rat)*((2^drop:Nat):Rat):=by rw[h2]
  rw[tg,hd,Dq,<-ja] at h3;exact Rat.natCast_inj.1 h3
 have hC:C=i.natAbs:=by
  rw[key] at hc;rcases zV C i.natAbs with h1|h1|h1
  ·have:=gI (2^drop) (show C+1<=i.natAbs from h1);rw[lU] at this;omega
  ·exact h1
  ·have:=gI (2^drop) (show i.natAbs+1<=C from h1);rw[lU] at this;omega
 subst hC;unfold signed;rw[Nat.shiftLeft_zero];congr 1;have hn0:(0:Rat)<=(n:Rat)*p2 (-(drop:Int)):=cj zI (fT hp);cases s with
 |false=>
  have h1:(0:Rat)<=(i:Rat):=by rw[hx];simp[sg];exact hn0
  have h2:0<=i:=fF.1 h1;simp;omega
 |true=>
  have h1:(i:Rat)<=(0:Rat):=by rw[hx];simp[sg];grind
  have h2:i<=0:=fF.1 h1;simp;omega
end Go.Flt
namespace Go.Flt
open Ieee
variable {a b:Nat} {x y:Rat}
theorem Lh (n:Nat):∀todo root:Nat,root*root<=n->n<(root+2^todo)*(root+2^todo)->
  Datum.rootFrom n todo root*Datum.rootFrom n todo root<=n/\n<(Datum.rootFrom n todo root+1)*(Datum.rootFrom n todo root+1)
 |0,root,h1,h2=>⟨h1,h2⟩
 |todo+1,root,h1,h2=>by
  unfold Datum.rootFrom;simp only[Dl];have e:root+2^(todo+1)=root+2^todo+2^todo:=by rw[PT];omega
  split
  ·rename_i h;exact Lh n todo _ h (by rw[<-e];exact h2)
  ·rename_i h;exact Lh n todo _ h1 aa
theorem ac0 (n:Nat):∃w,Datum.rootFrom n (n.log2/2+1) 0=w/\w*w<=n/\n<(w+1)*(w+1):=by
 refine⟨_,O,Lh n _ 0 dK ?_⟩;rw[gX,<-Dv];have hl:n<2^(n.log2+1):=FZ;exact Gb hl (zH bz aa)
theorem DV.root {d:Datum} (h:DV d x) (hx:0<=x):∃g R,d.root 54=some g/\DV g R/\0<=R/\R*R<=x+x*p2 (-52)/\x<=R*R+x*p2 (-52):=by
 obtain⟨s,m,i,rfl,rfl⟩:=h;unfold Datum.root;have hq:=g9 (-52);by_cases h0:m=0
 ·subst h0;refine⟨_,0,by simp,⟨s,0,i,rfl,by simp[dv]⟩,PN,?_,?_⟩<;>simp[dv]<;>decide+kernel
 ·have hs:s=false:=by
   cases s with
   |false=>rfl
   |true=>
    have h1:(0:Rat)<(m:Rat):=JU.2 (J2 h0);have:=F0 h1 (g9 i);simp[dv,sg] at hx;grind
  subst hs;simp only[h0,if_false,ld];generalize hm0:2*54-m.log2=m0;generalize hmore:m0+((i-(m0:Int))%2).toNat=more;obtain⟨h,hh⟩:∃h:Int,i-(more:Int)=2*h:=⟨(i-(more:Int))/2,aa⟩;have hh2:(i-(more:Int))/2=h:=by omega
  rw[hh2];generalize hn:m<<<more=n;obtain⟨w,hw,hw1,hw2⟩:=ac0 n;rw[hw];have hn2:2^108<=n:=by
   rw[<-hn,rW];have h1:=gI (2^more) (BT h0).1;rw[<-Dv] at h1;exact tc (zH bz aa) h1
  have hwl:2^52<=w:=by
   rcases dL w (2^52) with hlt|hge
   ·exfalso;have:=uD (show w+1<=2^52 from hlt) (show w+1<=2^52 from hlt);omega
   ·exact hge
  generalize hC:2*w+(w*w !=n).toNat=C;have hCb:C*C<=4*n+4*w/\4*n<=C*C+4*w:=by
   by_cases he:w*w=n
   ·have:C=2*w:=by rw[<-hC];simp[he]
    rw[this];have:2*w*(2*w)=4*(w*w):=by rw[Nat.mul_mul_mul_comm]
    omega
   ·have:C=2*w+1:=by rw[<-hC];simp[he]
    rw[this];have e1:(2*w+1)*(2*w+1)=4*(w*w)+4*w+1:=by rw[Gh,Nat.mul_add,Nat.mul_mul_mul_comm];omega
    have e2:(w+1)*(w+1)=w*w+2*w+1:=by rw[Gh,Nat.mul_add];omega
    omega
  have hwn:4*w*2^52<=4*n:=by
   have:=Nat.mul_le_mul_left w hwl;rw[nK];omega
  have ex:dv false m i=((4*n:Nat):Rat)*(p2 (h-1)*p2 (h-1)):=by
   unfold dv sg;rw[<-jk,<-hn,rW,<-nK,Dx 4 m,nK,ja,tg];have e4:((4*2^more:Nat):Rat)=p2 ((more:Int)+2):=by
    rw[jk,lp,ja,Kk];rfl
   rw[e4,<-jk];simp;congr 2;omega
  have eR:dv false C (h-1)*dv false C (h-1)=((C*C:Nat):Rat)*(p2 (h-1)*p2 (h-1)):=by
   unfold dv sg;rw[ja];simp;grind
  have hP:0<p2 (h-1)*p2 (h-1):=F0 (g9 _) (g9 _);refine⟨_,dv false C (h-1),O,⟨_,_,_,O,O⟩,?_,?_,?_⟩
  ·unfold dv sg;have:=cj (zI (a:=C)) (fT (g9 (h-1)));simp;exact this
  all_goals
   rw[eR,ex];have c1:((C*C:Nat):Rat)<=((4*n:Nat):Rat)+((4*w:Nat):Rat):=by rw[<-yj];exact lj.2 hCb.1
   have c2:((4*n:Nat):Rat)<=((C*C:Nat):Rat)+((4*w:Nat):Rat):=by rw[<-yj];exact lj.2 hCb.2
   have c3:((4*w:Nat):Rat)*((2^52:Nat):Rat)<=((4*n:Nat):Rat):=by rw[<-ja];exact lj.2 hwn
   have c4:((4*w:Nat):Rat)<=((4*n:Nat):Rat)*p2 (-52):=by
    have h1:=gg c3 (fT hq);have h2:=Hf 52;have h3:p2 (-((52:Nat):Int))=p2 (-52):=rfl;rw[h3] at h2;rw[tg,Kk ((2^52:Nat):Rat),h2,Dq] at h1;exact h1
   generalize ((C*C:Nat):Rat)=A at*;generalize ((4*n:Nat):Rat)=B at*;generalize ((4*w:Nat):Rat)=D at*;generalize p2 (h-1)*p2 (h-1)=P at*;generalize p2 (-52)=e at*;have d1:=gg c1 (fT hP);have d2:=gg c2 (fT hP);have d4:=gg c4 (fT hP);grind
theorem abW (ha:FV a x) (hx:0<=x) {k:Int} (hk:∀R:Rat,0<=R->R*R<=x+x*p2 (-52)->x<=R*R+x*p2 (-52)->Db k R):
  ∃r R z,double.sqrt a=some r/\CM r R k z/\0<=R/\R*R<=x+x*p2 (-52)/\x<=R*R+x*p2 (-52):=by
 obtain⟨g,R,h1,h2,h3,h4,h5⟩:=DV.root ha.dv hx;obtain⟨z,hz⟩:=Et h2 (hk R h3 h4 h5);refine⟨_,R,z,?_,hz,h3,h4,h5⟩;unfold Format.sqrt;have:double.fractionBits+2=54:=rfl;rw[this,h1];rfl
end Go.Flt
