/- Part 15 of the proof that FnMapBorders returns true for every input that its row lets in. No further condition. -/
import Derived.Test.YtpddkliglnoaaaaGreatDoorA14
set_option linter.all false
set_option autoImplicit true
set_option relaxedAutoImplicit true
namespace Go.Proofs
open Tryz
open Go.V Go.Flt Go.Tiles Go.Sort Go.Edges
variable {a:Addr} {lab:List Int}
theorem afA (lss:List (List Pt)):(hZ lss).lines=lss:=by
 match lss with
 |[]=>rfl
 |[l]=>rfl
 |l::m::lss=>rfl
theorem UZ:∀igs:List IG,ck (ql igs)=(igs.map (·.ls)).flatten
 |[]=>rfl
 |x::igs=>by
  have:=UZ igs;simp only[ql,dV,ck,oX,afA] at this ⊢;rw[this]
theorem SZ:∀xs:List LG,(xs.map LG.lss).flatten=(xs.flatMap LG.ls).map (List.map aA)
 |[]=>rfl
 |x::xs=>by
  have:=SZ xs;simp only[dV,oX,dC,dX] at this ⊢;rw[this]
theorem alh {w h:Nat} {xs:List LG} {ps:List (List Nat)} (hs:(w,h)∈gJ) (hall:iX (A3 w h) xs ps) (hp:∀l∈ps,∀m∈l,m<4*w*h):
  (∀L∈xs.flatMap LG.ls,AF L/\4<=L.length)/\(xs.flatMap LG.ls).length<=ps.flatten.length/\((xs.flatMap LG.ls).flatMap aD).length<=3*ps.flatten.length/\(∀s,s∈(xs.flatMap LG.ls).flatMap aD↔∃l∈ps,s∈fk w h (Sm l) l)/\xs.length=ps.length/\∀x∈xs,∃l∈ps,A3 w h x l:=by
 induction hall with
 |nil=>exact⟨(λ_ h=>nomatch h),bg _,bg _,λs=>⟨(λh=>nomatch h),λ⟨_,h,_⟩=>nomatch h⟩,rfl,(λ_ h=>nomatch h)⟩
 |@cons x l xs ps h1 h2 ih=>
  obtain⟨i1,i2,i3,i4,i5,i6⟩:=ih λl hl=>hp l (.tail _ hl);have hte:=VF (S:=Sm l) hs (hp l (.head _));have hsm:=Mq h1 (yP (w:=w) (h:=h) (S:=Sm l) l);have hlen:=h1.perm.length_eq;have hel:=yP (w:=w) (h:=h) (S:=Sm l) l;simp only[dC,ft,oX,aW,cE] at*;refine⟨λL hL=>?_,aa,aa,λs=>?_,aa,λy hy=>?_⟩
  ·rcases bB.1 hL with hL|hL
   ·have h4:=h1.len L hL;refine⟨⟨λe=>by rw[e] at h4;simp at h4,λs hs'=>hte s (h1.perm.mem_iff.1 (mO.2 ⟨L,hL,hs'⟩))⟩,h4⟩
   ·exact i1 L hL
  ·rw[bB,i4,h1.perm.mem_iff];constructor
   ·rintro(h5|⟨l',h5,h6⟩)
    ·exact⟨l,.head _,h5⟩
    ·exact⟨l',.tail _ h5,h6⟩
   ·rintro⟨l',h5,h6⟩;rcases bm.1 h5 with rfl|h5
    ·exact .inl h6
    ·exact .inr ⟨l',h5,h6⟩
  ·rcases bm.1 hy with rfl|hy
   ·exact⟨l,.head _,h1⟩
   ·obtain⟨l',h5,h6⟩:=i6 y hy;exact⟨l',.tail _ h5,h6⟩
theorem YA:WY a lab:=by
 intro w h ofl ps xs hw hh hlab hch hall igs q c hig;have hs:(w,h)∈gJ:=K7 hw.1 hw.2 hh.1 hh.2;have hpt:=Wo hlab hch;have hflat:ps.flatten.length<=100:=by
  have h1:=tj hch.ch.nd (l₂:=List.range (4*w*h)) (λm hm=>by
   obtain⟨l,hl,hm⟩:=xb.1 hm;exact nL.2 ((hpt l hl).lt m hm))
  rw[Dw] at h1;have h2:4*w*h<=4*5*5:=uD (uD (bg 4) hw.2) hh.2;omega
 obtain⟨k1,k2,k3,k4,k5,k6⟩:=alh hs hall λl hl=>(hpt l hl).lt;obtain⟨Ls,hLs⟩:∃Ls,Ls=xs.flatMap LG.ls:=⟨_,rfl⟩;rw[<-hLs] at k1 k2 k3 k4;have hin:rP Ls:=⟨λL hL=>(k1 L hL).1,λL hL=>by have:=(k1 L hL).2;omega,aa,aa⟩;have hlines:(GM.gc (ql igs)).lines=Ls.map (List.map aA):=by
  show ck (ql igs)=_;rw[UZ,hig,SZ,hLs]
 have hgood:∀x∈igs,lx x.ls:=λx hx=>by
  have h1:x.ls∈xs.map LG.lss:=by rw[<-hig];exact aM.2 ⟨x,hx,rfl⟩
  obtain⟨y,hy,e⟩:=aM.1 h1;rw[<-e];have hsub:∀L∈y.ls,L∈Ls:=λL hL=>by rw[hLs];exact mO.2 ⟨y,hy,hL⟩
  refine⟨?_,λl hl=>?_⟩
  ·rw[cP];have h2:y.ls.length<=Ls.length:=by
    obtain⟨s,t,rfl⟩:=Dm hy;rw[hLs,ft,dC,aW,aW];omega
   have:=hin.few;omega
  ·obtain⟨L,hL,rfl⟩:=aM.1 hl;have h2:=hin.two L (hsub L hL);have h3:=hin.one L (hsub L hL);rw[cP];omega
 have hil:igs.length<=60:=by
  have h1:=congrArg List.length hig;rw[cP,cP] at h1;have:=hch.few;omega
 refine pg (ahh (p:=q) (cp:=c) (a:=a) (Pl:=W4 Ls) hgood aa (λlss hl=>hl.1) λu hu=>?_) ?_
 ·refine aj7 (Q:=IN Ls) (Pr:=eX) hu ?_ ?_ (λp ls cp hT=>adh hin hlines p ls cp hT) (λk1 ms hq=>hq.q) ado (λk1 ms hq=>?_) (λk1 ms X d1 d2 d3 d4 xs hq hX hp hV h2 h3 h4=>ahm hin hq hX hV h2 h3 h4)
  ·rw[hlines];intro l hl e;obtain⟨L,hL,rfl⟩:=aM.1 hl;have h2:=hin.two L hL;have:=XP.1 e;rw[this] at h2;simp at h2
  ·rw[hlines,cP];have:=hin.few;omega
  ·have h1:=ae4 (gs:=[k1,.gc [],.mls ms]);have:=hq.few;omega
 ·rintro v Fs' L' ⟨⟨lss,w',⟨h1,h2⟩,h3,h4⟩,h5⟩;refine⟨⟨lss,w',⟨h1,λU hU=>h2 U hU.1 λb=>?_⟩,h3,h4⟩,h5⟩;rw[hU.2];constructor
  ·rintro⟨l,hl,x,hx,e⟩;exact⟨x,(k4 x).2 ⟨l,hl,hx⟩,e⟩
  ·rintro⟨x,hx,e⟩;obtain⟨l,hl,hx⟩:=(k4 x).1 hx;exact⟨l,hl,x,hx,e⟩
variable {p:Option Addr} {cp:Nat}
theorem akY {w h:Int} (h64:∀y∈lab,oS y):ai prog 3 [iv w,iv h,.slice p lab.length cp].toArray [pp p lab cp,aO 1 0 [iH a]] [] (Is (.bool true)):=afb h64 YA
end Go.Proofs
