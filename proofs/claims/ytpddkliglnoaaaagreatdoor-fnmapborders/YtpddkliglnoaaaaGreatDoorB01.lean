/- A part of the card of FnMapBorders. No further condition. -/
import Derived.Test.YtpddkliglnoaaaaGreatDoorA15
import Derived.Test.YtpddkliglnoaaaaGreatDoorCards
import Derived.Test.YtpddkliglnoaaaaGreatDoorTie
import Derived.WalkKit
import Derived.ProofKit
import Derived.OpenShut
import Derived.Deep.DeepHandedRow
import Derived.Stop.LaidErr
import Derived.LaidLaws
import Derived.Carry
set_option linter.all false
set_option autoImplicit true
set_option relaxedAutoImplicit true
namespace Go.Proofs.YtpddkliglnoaaaaGreatDoor
open Go.ChangeShapes Go.WideShapes Go.ChangeAt Go.RowKit Go.V
theorem own:ownKnob Tryz.prog.godebug=none:=by kernel_rfl
theorem MA:laidOutB Tryz.prog=true:=by kernel_rfl
theorem gT:Tryz.prog.globalNamed "pub-eidograph/pub/simplefeatures/rtree.Stop" =some 1:=by kernel_rfl
theorem aiI:(Tryz.prog.globals[1]?).map (·.type)=some 66:=by kernel_rfl
theorem akQ:Tryz.prog.cellsOf 380=1:=by kernel_rfl
theorem akP:Tryz.prog.cellsOf 9=1:=by kernel_rfl
theorem akR:Tryz.prog.cellsOf 3=1:=by kernel_rfl
theorem QV: "*" ++ "errors.errorString" = "*errors.errorString" :=by decide
theorem acZ (u:TypeId) (h:Tryz.prog.typeName? 3 u=some "*errors.errorString"):u=378:=
 typeName_ptr_named (nm:= "errors.errorString") (by rw[QV];kernel_rfl) br bz u (by rw[QV];exact h)
theorem Wz {W:World} {b o:Nat} {v:Value} (h:W.cell? ⟨b,o,none⟩=some v):∃cs T fz,W.heap[b]? =some (.cells cs T fz):=by
 unfold World.cell? at h;dsimp only at h;split at h
 ·rename_i c T fz hh;exact⟨c,T,fz,hh⟩
 ·cases h
theorem Wq {W:World} {b o:Nat} {xs:List Value} (hb:∃cs T fz,W.heap[b]? =some (.cells cs T fz)) (h:∀i v,xs[i]? =some v->W.cell? ⟨b,o+i,none⟩=some v):(aO b o xs).p λr=>W.heap[r]? :=by
 obtain⟨cs,T,fz,e⟩:=hb;refine⟨cs,T,fz,e,?_⟩;have hx:∀i v,xs[i]? =some v->cs.toList[o+i]? =some v:=λi v hv=>by
  have h1:=h i v hv;unfold World.cell? at h1;dsimp only at h1;rw[e] at h1;simpa using h1
 apply uH;intro i;rcases dL i xs.length with hi|hi
 ·rw[List.getElem?_take_of_lt hi,vL,hx i _ (aG hi),aG hi]
 ·rw[gZ hi,gZ qK]
theorem ak6 {W W':World} (h:Go.V.Fr [] W W'):Below W.heap.size W W':=⟨h.os,h.tape,h.output,h.size,λk hk=>h.block k hk (λhm=>nomatch hm)⟩
theorem Nx:∀l:List Int,l.flatMap zE=l.map λi=>iv i
 |[]=>rfl
 |a::l=>by have:=Nx l;simp only[dC,dV,this];rfl
theorem ahf {n:Int} (h:(Lit.int .i64 n).wf=true):oS n:=by
 simp[Lit.wf,IntKind.min,IntKind.max,IntKind.signed,IntKind.bits] at h;exact⟨aa,aa⟩
theorem aeo {H:Type} {enc:TypeId×Value->H} {W:World} {a0:Option Addr} {len cap fuel:Nat} {x:DataW H×List MemPlace}
  (hf:DataW.trod enc Tryz.prog W 0 (λ_=>true) true fuel 22 [.slice a0 len cap]=some x):
  ∃lab:List Int,lab.length=len/\(∀y∈lab,oS y)/\(pp a0 lab cap).p λr=>W.heap[r]? :=by
 rcases open_ints Tryz.underlying22 Tryz.underlying3 akR hf with⟨hcs,hx⟩|⟨a,len',cap',zs,hcs,_,hl,hm,hz,hx,hcell,hwf⟩
 ·simp at hcs;obtain⟨rfl,rfl,rfl⟩:=hcs;exact⟨[],O,(λ_ h=>nomatch h),O,.inl ⟨none,0,O,O⟩⟩
 ·simp at hcs;obtain⟨rfl,rfl,rfl⟩:=hcs;simp only[if_true] at hz;obtain⟨b,off,spot⟩:=a;have hll:(zs.take len).length=len:=by simp;omega
  refine⟨zs.take len,hll,λy hy=>ahf (hwf y (XN hy)),?_,?_⟩
  ·rw[Nx,cP,vK]
  ·rcases xe len with h0|h0
   ·refine .inl ⟨some ⟨b,off,spot⟩,cap,?_,aa⟩;rw[hll,h0]
   ·have hspot:spot=none:=by simpa[Addr.add] using World.cell?_spot (hcell 0 aa)
    subst hspot;refine .inr ⟨b,off,cap,O,⟨aa,hm⟩,Wq ?_ λi v hv=>?_⟩
    ·have:=hcell 0 aa;rw[add_plain] at this;exact Wz this
    ·rw[Nx,iY,iE] at hv;obtain⟨n,hn,rfl⟩:=hv;have hi:i<len:=by
      have:=(List.getElem?_eq_some_iff.1 hn).1;omega
     rw[List.getElem?_take_of_lt hi] at hn;have:=hcell i aa;rw[add_plain] at this;rw[this];simp[List.getD,hn]
set_option maxRecDepth 100000 in
theorem akm (H:Type) (enc:TypeId×Value->H) (W:World) (base:Nat) (args:Array Value) (ds gs:List (DataW H)) (before:List MemPlace)
  (hval:∀(j:Nat) t v,Tryz.f3.params[j]? =some t->args[j]? =some v->Value.okWide Tryz.prog W .any base t v)
  (hW:DataW.Whole enc Tryz.prog Tryz.f3.params.toList Rows.fnMapBordersSpec.vars false W args.toList ds gs before) (hL:laidMetH Tryz.prog Rows.fnMapBordersRow.laid W):
  Calls Tryz.prog 3 args W λe W'=>∃v,e= .returned v/\Rows.fnMapBordersSpec.post enc Tryz.prog Tryz.f3 false true false false W args v W':=by
 have hW':=hW;obtain⟨p,q,hA0,hV,rfl,hfz,hnd⟩:=hW;have hA:DataW.TrodAll enc Tryz.prog W 0 (λ_=>true) true Tryz.f3.params.toList args.toList ds p:=hA0;rw[Tryz.params3] at hA hval;obtain⟨v0,v1,v2,d0,d1,d2,p0,p1,p2,rfl,rfl,rfl,h0,h1,h2⟩:=trodAll_three hA;obtain⟨rfl,rfl⟩:=trodVars_none hV;have h0k:=h0;have h1k:=h1;have h2k:=h2;obtain⟨a0,len,cap,rfl⟩:=okWide_slice Tryz.underlying22 (hval 2 22 v2 rfl rfl);obtain⟨w,rfl,rfl,rfl,_⟩:=open_int Tryz.underlying3 (hval 0 3 v0 rfl rfl) h0;obtain⟨h,rfl,rfl,rfl,_⟩:=open_int Tryz.underlying3 (hval 1 3 v1 rfl rfl) h1;obtain⟨fuel,hf⟩:=h2;obtain⟨lab,rfl,h64,hlab⟩:=aeo hf;obtain⟨a1,s1,hv1,hc1,hs1,hz1⟩:=laid_sentinel hL gT aiI Tryz.underlying66 acZ Tryz.underlying378 Tryz.underlying380 rfl rfl Tryz.underlying9 akQ akP;have hg1:W.cell? ⟨1,0,none⟩=some (iH a1):=by simpa using World.var?_cell gT hv1 0
 clear hA0;simp only[jz,j6] at hW';have hlt:∀x∈p2,x.block<W.heap.size:=λx hx=>by simpa using hW'.lt x hx
 have hst:(aO 1 0 [iH a1]).p λr=>W.heap[r]? :=Wq (Wz hg1) λi v hv=>by
  match i,hv with
  |0,hv=>cases hv;exact hg1
 have hsat:jU (λr=>W.heap[r]?) [] W:=⟨λr o ho=>ho,(λ_ hm=>nomatch hm),Gd,(λ_ hm=>nomatch hm)⟩;refine(akY (p:=a0) (cp:=cap) (a:=a1) (w:=w) (h:=h) h64 _ W hsat (cr.cons hlab (cr.cons hst (λ_ hm=>nomatch hm)))).mono λe W' he=>?_;cases e with
 |outgrown=>exact he.elim
 |panicked ch=>exact he.elim
 |returned v=>
  obtain⟨Fs',L',hh,⟨⟨rfl,_⟩,_⟩,_,_,_,hfr,_⟩:=he;have bel:=ak6 hfr;refine⟨_,O,_,_,_,[],p2,[],hW',trodAll_mk1 (shut_bool Tryz.underlying4 _),?_,O,bel.frame _,λh=>by cases h⟩;have hlt0:∀x∈([]:List MemPlace),x.block<W.heap.size:=λ_ hm=>nomatch hm;exact trodAll_mk3 (Below.trod MA br (of_decide_eq_true br) h0k bel hlt0) (Below.trod MA br (of_decide_eq_true br) h1k bel hlt0) (Below.trod MA br (of_decide_eq_true br) h2k bel hlt)
end Go.Proofs.YtpddkliglnoaaaaGreatDoor
