/- Part 4 of the proof that FnMapBorders returns true for every input that its row lets in. No further condition. -/
import Derived.Test.YtpddkliglnoaaaaGreatDoorA03
set_option linter.all false
set_option autoImplicit true
set_option relaxedAutoImplicit true
namespace Go.Flt
open Ieee
variable {a b:Nat} {x y:Rat}
theorem Ah (n:Nat) (v:Rat) (h:((2^n:Nat):Rat)=v):p2 (n:Int)=v:=by rw[lp];exact h
theorem oC (n:Nat) (v:Rat) (h:v*((2^n:Nat):Rat)=1):p2 (-(n:Int))=v:=by
 have h1:=Hf n;have h2:(0:Rat)<((2^n:Nat):Rat):=JU.2 (k9 _);exact(xw h2).1 (h1.trans h.symm)
theorem Hb:p2 (-53)=1/9007199254740992:=oC 53 _ (by decide+kernel)
theorem Hc:p2 (-52)=1/4503599627370496:=oC 52 _ (by decide+kernel)
theorem Hd:p2 (-50)=1/1125899906842624:=oC 50 _ (by decide+kernel)
theorem Se:p2 (-49)=1/562949953421312:=oC 49 _ (by decide+kernel)
theorem Sf:p2 (-45)=1/35184372088832:=oC 45 _ (by decide+kernel)
theorem aej:p2 (-6)=1/64:=oC 6 _ (by decide+kernel)
theorem Hh:p2 2=4:=Ah 2 _ (by decide+kernel)
theorem tB:p2 4=16:=Ah 4 _ (by decide+kernel)
theorem Hg:p2 5=32:=Ah 5 _ (by decide+kernel)
theorem Sh:p2 9=512:=Ah 9 _ (by decide+kernel)
theorem aek:p2 48=281474976710656:=Ah 48 _ (by decide+kernel)
def Abt (ε x y:Rat):Prop:=x<=y+ε/\y<=x+ε
theorem FV.pos (h:FV a x) (hx:0<x):a<9218868437227405312:=by
 obtain⟨h0,s,m,e,h1,h2⟩:=h;have hs:s=false:=by
  cases s with
  |false=>rfl
  |true=>
   have:0<=(m:Rat)*p2 e:=cj zI (fT (g9 e));simp[Go.Flt.dv,sg] at h2;grind
 subst hs;unfold Format.read at h1;dsimp only at h1;by_cases k1:a%double.signWeight<double.binade
 ·rw[if_pos k1] at h1;have h9:=(Datum.number.inj h1).1;rw[yQ,Ir] at k1;rw[yQ] at h9;simp at h9;omega
 ·rw[if_neg k1] at h1;by_cases k2:a%double.signWeight<double.infRung
  ·rw[if_pos k2] at h1;have h9:=(Datum.number.inj h1).1;rw[yQ,Iq] at k2;rw[yQ] at h9;simp at h9;omega
  ·rw[if_neg k2] at h1;by_cases k3:a%double.signWeight=double.infRung
   ·rw[if_pos k3] at h1;cases h1
   ·rw[if_neg k3] at h1;cases h1
theorem adp {e f:Int} (ha:FV a (e:Rat)) (hb:FV b (f:Rat)) {τ:Rat} (ht:τ*(f:Rat)=(e:Rat)) (h0:0<=τ) (h1:τ<=1) (hf:f≠0):
  ∃r z,double.div a b=some r/\FV r z/\Abt (1/4503599627370496) z τ:=by
 obtain⟨g,hg,hv⟩:∃g:Rat,1<=g/\((f:Rat)=g\/(f:Rat)= -g):=by
  rcases Int.lt_or_lt_of_ne hf with h|h
  ·refine⟨-(f:Rat),?_,.inr df⟩;have:(f:Rat)<=((-1:Int):Rat):=fF.2 aa;have e1:((-1:Int):Rat)= -1:=rfl;rw[e1] at this;grind
  ·refine⟨(f:Rat),?_,.inl O⟩;have:((1:Int):Rat)<=(f:Rat):=fF.2 aa;exact this
 have hg0:(0:Rat)<g:=by grind
 have fC:∀q:Rat,q*(f:Rat)<=(e:Rat)+g*p2 (-53)->(e:Rat)<=q*(f:Rat)+g*p2 (-53)->q<=τ+p2 (-53)/\τ<=q+p2 (-53):=by
  intro q k1 k2;rw[<-ht] at k1 k2;generalize p2 (-53)=ε at*;rcases hv with hv|hv
  ·rw[hv] at k1 k2;have a1:q*g<=(τ+ε)*g:=by grind
   have a2:τ*g<=(q+ε)*g:=by grind
   exact⟨qL a1 hg0,qL a2 hg0⟩
  ·rw[hv] at k1 k2;have a1:q*g<=(τ+ε)*g:=by grind
   have a2:τ*g<=(q+ε)*g:=by grind
   exact⟨qL a1 hg0,qL a2 hg0⟩
 have hτ1:τ*g<=g:=by have:=gg h1 (fT hg0);grind
 have hτ0:0<=τ*g:=cj h0 (fT hg0);obtain⟨r,q,z,h2,h3,h4,h5⟩:=VO ha hb (u:=g) (v:=1) (k:=1) (by rw[<-ht];rcases hv with hv|hv<;>rw[hv]<;>grind) (by rw[<-ht];rcases hv with hv|hv<;>rw[hv]<;>grind) (by decide+kernel) (by rcases hv with hv|hv<;>rw[hv]<;>grind) (λq k1 k2=>by
  obtain⟨b1,b2⟩:=fC q k1 k2;rw[Hb] at b1 b2;refine⟨⟨by decide,by decide⟩,?_,?_⟩<;>rw[Ek]<;>grind)
 obtain⟨b1,b2⟩:=fC q h4 h5;have c1:=h3.up;have c2:=h3.dn;have e1:p2 (1-54)=1/9007199254740992:=Hb;rw[e1] at c1 c2;rw[Hb] at b1 b2;refine⟨r,z,h2,h3.val,?_,?_⟩<;>grind
theorem Rh {s t:Nat} {w:Rat} {U A:Int} (hs:FV s (U:Rat)) (ht:FV t w) (ha:FV a (A:Rat)) {τ:Rat} (hw:Abt (1/4503599627370496) w τ) (h0:0<=τ) (h1:τ<=1) (hU:U.natAbs<=10) (hA:A.natAbs<=10):
  ∃r r2 z,double.mul s t=some r/\double.add r a=some r2/\FV r2 z/\Abt (1/70368744177664) z ((A:Rat)+τ*(U:Rat)):=by
 have u1:(U:Rat)<=10:=by have:(U:Rat)<=((10:Int):Rat):=fF.2 aa;exact this
 have u2: -10<=(U:Rat):=by have:((-10:Int):Rat)<=(U:Rat):=fF.2 aa;exact this
 have a1:(A:Rat)<=10:=by have:(A:Rat)<=((10:Int):Rat):=fF.2 aa;exact this
 have a2: -10<=(A:Rat):=by have:((-10:Int):Rat)<=(A:Rat):=fF.2 aa;exact this
 obtain⟨w1,w2⟩:=hw;generalize (U:Rat)=U at*;generalize (A:Rat)=A at*;have hU1:0<=10-U:=by grind
 have hU2:0<=10+U:=by grind
 have d1:0<=τ+1/4503599627370496-w:=by grind
 have d2:0<=w+1/4503599627370496-τ:=by grind
 have m1:=cj hU1 d1;have m2:=cj hU1 d2;have m3:=cj hU2 d1;have m4:=cj hU2 d2;have p1:U*w<=τ*U+10/4503599627370496:=by grind
 have p2':τ*U<=U*w+10/4503599627370496:=by grind
 have n1:=cj h0 hU1;have n2:=cj h0 hU2;have n3:=cj (show 0<=1-τ by grind) hU1;have n4:=cj (show 0<=1-τ by grind) hU2;have t1:τ*U<=10:=by grind
 have t2: -10<=τ*U:=by grind
 obtain⟨r,z1,e1,h3⟩:=BP hs ht (k:=4) ⟨⟨by decide,by decide⟩,by rw[tB];grind,by rw[tB];grind⟩;have c1:=h3.up;have c2:=h3.dn;have g1:p2 (4-54)=1/1125899906842624:=Hd;rw[g1] at c1 c2;obtain⟨r2,z2,e2,h4⟩:=CA h3.val ha (k:=5) ⟨⟨by decide,by decide⟩,by rw[Hg];grind,by rw[Hg];grind⟩;have c3:=h4.up;have c4:=h4.dn;have g2:p2 (5-54)=1/562949953421312:=Se;rw[g2] at c3 c4;refine⟨r,r2,z2,e1,e2,h4.val,?_,?_⟩<;>grind
end Go.Flt
namespace Go.Flt
open Ieee
variable {a b x y:Nat} {u v:Rat}
theorem SD {x y X Y:Rat} (h1:x<=X) (h2: -X<=x) (h3:y<=Y) (h4: -Y<=y):x*y<=X*Y/\ -(X*Y)<=x*y:=by
 have m1:=cj (show 0<=X-x by grind) (show 0<=Y+y by grind);have m2:=cj (show 0<=X+x by grind) (show 0<=Y-y by grind);have m3:=cj (show 0<=X-x by grind) (show 0<=Y-y by grind);have m4:=cj (show 0<=X+x by grind) (show 0<=Y+y by grind);constructor<;>grind
theorem Q2 (x:Rat):0<=x*x:=by
 rcases PC (a:=0) (b:=x) with h0|h0
 ·exact cj h0 h0
 ·have:=cj (show 0<= -x by grind) (show 0<= -x by grind);grind
theorem GI {Δ δ:Rat} (hx:FV x u) (hy:FV y v) (h:Abt (1/35184372088832) (u-v) Δ) (h1:Δ<=δ) (h2: -δ<=Δ) (hδ:δ<=2):
  ∃d s z,double.sub x y=some d/\double.mul d d=some s/\FV s z/\Abt (6/70368744177664*δ+1/844424930131968) z (Δ*Δ)/\0<=z/\z<=5:=by
 obtain⟨g1,g2⟩:=h;obtain⟨d,w,e1,k1⟩:=yp hx hy (k:=2) ⟨⟨by decide,by decide⟩,by rw[Hh];grind,by rw[Hh];grind⟩;have a1:=k1.up;have a2:=k1.dn;have q1:p2 (2-54)=1/4503599627370496:=Hc;rw[q1] at a1 a2;obtain⟨e,he⟩:∃e,w=Δ+e:=⟨w-Δ,by grind⟩;have b1:e<=3/70368744177664:=by grind
 have b2: -(3/70368744177664)<=e:=by grind
 have m:=SD (x:=e) (y:=2*Δ+e) (X:=3/70368744177664) (Y:=2*δ+3/70368744177664) b1 b2 df df;have hw:w*w=Δ*Δ+e*(2*Δ+e):=by rw[he];grind
 have hsq:=Q2 w;have mΔ:=SD (x:=Δ) (y:=Δ) (X:=2) (Y:=2) df df df df;have hw5:w*w<=41/10:=by grind
 obtain⟨s,z,e2,k2⟩:=BP k1.val k1.val (k:=4) ⟨⟨by decide,by decide⟩,by rw[tB];grind,by rw[tB];grind⟩;have c1:=k2.up;have c2:=k2.dn;have q2:p2 (4-54)=1/1125899906842624:=Hd;rw[q2] at c1 c2;refine⟨d,s,z,e1,e2,k2.val,⟨by grind,by grind⟩,k2.nn hsq,by grind⟩
theorem abU {s t:Nat} {y z Y Z δ:Rat} (hs:FV s y) (ht:FV t z) (h1:Abt (6/70368744177664*δ+1/844424930131968) y Y) (h2:Abt (6/70368744177664*δ+1/844424930131968) z Z) (a1:0<=y/\y<=5) (a2:0<=z/\z<=5):
  ∃r v,double.add s t=some r/\FV r v/\Abt (12/70368744177664*δ+1/211106232532992) v (Y+Z)/\0<=v/\v<=11:=by
 obtain⟨r,v,e1,k1⟩:=CA hs ht (k:=5) ⟨⟨by decide,by decide⟩,by rw[Hg];grind,by rw[Hg];grind⟩;have c1:=k1.up;have c2:=k1.dn;have q2:p2 (5-54)=1/562949953421312:=Se;rw[q2] at c1 c2;obtain⟨b1,b2⟩:=h1;obtain⟨b3,b4⟩:=h2;exact⟨r,v,e1,k1.val,⟨by grind,by grind⟩,k1.nn df,by grind⟩
theorem ac1 {r:Nat} {v D ε:Rat} (hr:FV r v) (hv:0<=v/\v<=11) (hD:0<D) (hD2:D<=3) (h:Abt (ε*D) v (D*D)) (hε:0<=ε):
  ∃y z,double.sqrt r=some y/\FV y z/\0<=z/\Abt (ε+1/70368744177664) z D:=by
 have q52:=Hc;have fC:∀R:Rat,0<=R->R*R<=v+v*p2 (-52)->R<4:=by
  intro R h0 h1;rw[q52] at h1;rcases PC (a:=4) (b:=R) with h|h
  ·exfalso;have:=cj (show 0<=R-4 by grind) (show 0<=R+4 by grind);grind
  ·rcases Rat.le_iff_lt_or_eq.1 h with h|h
   ·exact h
   ·subst h;exfalso;grind
 obtain⟨y,R,z,e1,k1,R0,R1,R2⟩:=abW hr hv.1 (k:=2) (λR h0 h1 h2=>⟨⟨by decide,by decide⟩,by rw[Hh];exact fC R h0 h1,by rw[Hh];grind⟩);rw[q52] at R1 R2;have c1:=k1.up;have c2:=k1.dn;have q2:p2 (2-54)=1/4503599627370496:=Hc;rw[q2] at c1 c2;obtain⟨h1,h2⟩:=h;have hεD:0<=ε*D:=cj hε (fT hD);refine⟨y,z,e1,k1.val,k1.nn R0,?_,?_⟩
 ·
  have:R<=D+ε+1/140737488355328:=by
   rcases PC (a:=R) (b:=(D+ε+1/140737488355328)) with h|h
   ·exact h
   ·exfalso;generalize hη:(1:Rat)/140737488355328=η at*;have hη0:0<η:=by rw[<-hη];decide+kernel
    have m1:=cj (show 0<=R-(D+ε+η) by grind) (show 0<=R+(D+ε+η) by grind);have m2:=cj hε hε;have m3:=cj hε (fT hη0);have m5:=F0 hη0 hη0;have m4:0<D*η:=F0 hD hη0;have n1:D*D<=3*D:=gg hD2 (fT hD);have n2:D*η*32>=3*D*(1/4503599627370496)*32:=by
     have:3*(1/4503599627370496)<=η:=by rw[<-hη];decide+kernel
     have:=gg this (fT hD);grind
    have n3:ε*D*(1/4503599627370496)<=ε*D:=by grind
    grind
  grind
 ·have:D<=R+ε+1/140737488355328:=by
   rcases PC (a:=D) (b:=(R+ε+1/140737488355328)) with h|h
   ·exact h
   ·exfalso;generalize hη:(1:Rat)/140737488355328=η at*;have hη0:0<η:=by rw[<-hη];decide+kernel
    have m1:=gg h (fT hD);have m2:=gg h R0;have m3:=cj R0 hε;have m4:=cj R0 (fT hη0);have n1:D*D<=3*D:=gg hD2 (fT hD);have hη3:(6:Rat)*(1/4503599627370496)<=η:=by rw[<-hη];decide+kernel
    have n2:=gg hη3 (fT hD);have hε3:ε<=D:=by grind
    have n3:ε*D<=D*D:=gg hε3 (fT hD);grind
  grind
end Go.Flt
namespace Go.Proofs
open Tryz
open Go.V
def xy (x y:Nat):Value:= .agg #[.float .f64 x,.float .f64 y]
def lu (x y:Int):Value:= .agg #[.int .i64 x,.int .i64 y]
theorem ajB (d:Nat) (w:World) (a b:Nat):(Op.equalIn (d+1) 45 (.float .f64 a) (.float .f64 b)).run prog w= .ok (cX a b) w:=by
 simp[Op.equalIn,run_underlying Tryz.underlying45,cX,Op.floatEq,FloatKind.format]
theorem Vy (d:Nat) (w:World) (a b:Int):(Op.equalIn (d+1) 3 (.int .i64 a) (.int .i64 b)).run prog w= .ok (a==b) w:=by
 simp[Op.equalIn,run_underlying Tryz.underlying3]
theorem qo (d:Nat) (w:World) (a b x y:Nat):(Op.equalIn (d+2) 79 (xy a b) (xy x y)).run prog w= .ok (cX a x&&cX b y) w:=by
 have u:=Tryz.underlying45;have a3:=Tryz.isAgg45;have z3:=Tryz.sizeOf45;have hS:prog.underlying 79=some (.struct (prog.fieldsOf 79)):=by kernel_rfl
 have hp:prog.stoodInHeld 79=false:=by kernel_rfl
 unfold xy;rw[run_equalIn_agg w (d+1) 79 _ _ hS hp];simp only[Program.fieldsOf,Tryz.underlying79];simp[Op.eqFields,part,a3,z3,ajB,bo,PG];cases cX a x<;>cases cX b y<;>simp
theorem E5 (d:Nat) (w:World) (a b x y:Int):(Op.equalIn (d+2) 34 (lu a b) (lu x y)).run prog w= .ok (a==x&&b==y) w:=by
 have u:=Tryz.underlying3;have a3:=Tryz.isAgg3;have z3:=Tryz.sizeOf3;have hS:prog.underlying 34=some (.struct (prog.fieldsOf 34)):=by kernel_rfl
 have hp:prog.stoodInHeld 34=false:=by kernel_rfl
 unfold lu;rw[run_equalIn_agg w (d+1) 34 _ _ hS hp];simp only[Program.fieldsOf,Tryz.underlying34];simp[Op.eqFields,part,a3,z3,Vy,bo,PG];by_cases h1:a=x<;>by_cases h2:b=y<;>simp[h1,h2]
theorem ajA (d:Nat) (w:World) (a b x y:Int):(Op.equalIn (d+2) 335 (lu a b) (lu x y)).run prog w= .ok (a==x&&b==y) w:=by
 have u:=Tryz.underlying3;have a3:=Tryz.isAgg3;have z3:=Tryz.sizeOf3;have hS:prog.underlying 335=some (.struct (prog.fieldsOf 335)):=by kernel_rfl
 have hp:prog.stoodInHeld 335=false:=by kernel_rfl
 unfold lu;rw[run_equalIn_agg w (d+1) 335 _ _ hS hp];simp only[Program.fieldsOf,Tryz.underlying335];simp[Op.eqFields,part,a3,z3,Vy,bo,PG];by_cases h1:a=x<;>by_cases h2:b=y<;>simp[h1,h2]
def xH (a b x y:Int):Value:= .agg #[.int .i64 a,.int .i64 b,.int .i64 x,.int .i64 y]
theorem ajC (d:Nat) (w:World) (a b x y a' b' x' y':Int):(Op.equalIn (d+3) 36 (xH a b x y) (xH a' b' x' y')).run prog w= .ok ((a==a'&&b==b')&&(x==x'&&y==y')) w:=by
 have a3:=Tryz.isAgg34;have z3:=Tryz.sizeOf34;have hS:prog.underlying 36=some (.struct (prog.fieldsOf 36)):=by kernel_rfl
 have hp:prog.stoodInHeld 36=false:=by kernel_rfl
 have e:=E5 d;unfold lu at e;unfold xH;rw[run_equalIn_agg w (d+2) 36 _ _ hS hp];simp only[Program.fieldsOf,Tryz.underlying36];simp[Op.eqFields,part,a3,z3,e,bo,PG];by_cases h1:a=a'<;>by_cases h2:b=b'<;>by_cases h3:x=x'<;>by_cases h4:y=y'<;>simp[h1,h2,h3,h4]
def tq (a b x y:Nat):Value:= .agg #[.float .f64 a,.float .f64 b,.float .f64 x,.float .f64 y]
theorem ajx (d:Nat) (w:World) (a b x y a' b' x' y':Nat):(Op.equalIn (d+3) 273 (tq a b x y) (tq a' b' x' y')).run prog w= .ok ((cX a a'&&cX b b')&&(cX x x'&&cX y y')) w:=by
 have a3:=Tryz.isAgg79;have z3:=Tryz.sizeOf79;have e:=qo d;unfold xy at e;unfold tq;rw[Op.equalIn];simp only[bo,run_underlying Tryz.underlying273,bV];simp only[Bb,Std.Legacy.Range.size,XM,Bs,Nat.div_one,List.range'_succ,List.range'_zero,List.forIn_cons,List.forIn_nil];simp[part,a3,z3,e,bo,PG];cases cX a a'<;>cases cX b b'<;>simp;cases cX x x'<;>cases cX y y'<;>simp
theorem xL {P:Program} {c:bC} {n:Nat} {ops:Array Oper} {Fs:List an} {L:List ae} {f:Fm} {Q:bG} {rest:List Oper} {d:Nat} {ty:TypeId} {ps:String} {aft:Array Edge} {x y:Operand} {T T':TypeId} {xs ys:Array Value} {b:Bool}
  (hx:ap f x= .b (.agg xs)) (hy:ap f y= .b (.agg ys)) (hg:P.eqGuardType P.depth T=false) (hE:∀w,(Op.equalIn 10000 T (.agg xs) (.agg ys)).run P w= .ok b w) (hd:Nat.blt d n=true)
  (k:ak P c n ops Fs L (aT f d (.bool b)) rest Q):ak P c n ops Fs L f (⟨some d,.binOp .eql T x y T',ty,ps,aft,none⟩::rest) Q:=
 dh rfl (bU hd) _ (λh w sa al=>by
  simp only[execOp,hx,hy,Bx.v_b,bo,run_eqGuard_agg w _ T x y xs ys hg,bV,run_eql_struct,hE,bS]) k
theorem vY {P:Program} {c:bC} {n:Nat} {ops:Array Oper} {Fs:List an} {L:List ae} {f:Fm} {Q:bG} {rest:List Oper} {d:Nat} {ty:TypeId} {ps:String} {aft:Array Edge} {x y:Operand} {T T':TypeId} {xs ys:Array Value} {b:Bool}
  (hx:ap f x= .b (.agg xs)) (hy:ap f y= .b (.agg ys)) (hg:P.eqGuardType P.depth T=false) (hE:∀w,(Op.equalIn 10000 T (.agg xs) (.agg ys)).run P w= .ok b w) (hd:Nat.blt d n=true)
  (k:ak P c n ops Fs L (aT f d (.bool (!b))) rest Q):ak P c n ops Fs L f (⟨some d,.binOp .neq T x y T',ty,ps,aft,none⟩::rest) Q:=
 dh rfl (bU hd) _ (λh w sa al=>by
  simp only[execOp,hx,hy,Bx.v_b,bo,run_eqGuard_agg w _ T x y xs ys hg,bV,run_neq_struct,hE,bS]) k
theorem qV:prog.eqGuardType prog.depth 79=false:=by kernel_rfl
theorem HP:prog.eqGuardType prog.depth 34=false:=by kernel_rfl
def MK (_:World) (v:Value):Prop:=∃a b,v=xy a b/\a<ju/\b<ju
def TB (_:World) (v:Value):Prop:=∃a b,v=lu a b
def TC (_:World) (v:Value):Prop:=∃a b x y,v=xH a b x y
def TA (_:World) (v:Value):Prop:=∃a b x y,v=tq a b x y/\(a<ju/\b<ju)/\x<ju/\y<ju
theorem tG:qH prog 79 MK where
 eq:=by
  rintro w _ _ ⟨a,b,rfl,ha,hb⟩ ⟨x,y,rfl,hx,hy⟩;refine⟨_,λd=>qo (d+2) w a b x y,?_⟩;rw[tK ha hx,tK hb hy];simp[xy]
 chk:=by
  rintro w _ ⟨a,b,rfl,ha,hb⟩ e d;have a3:=Tryz.isAgg45;have z3:=Tryz.sizeOf45;simp only[xy,Instr.checkKey,bo,run_underlying Tryz.underlying79,bV];simp[part,a3,z3,Instr.checkKey,run_underlying Tryz.underlying45]
 bits:=by
  rintro w _ ⟨a,b,rfl,ha,hb⟩;simp[xy,Instr.sameBits]
 desc:=⟨_,run_underlying Tryz.underlying79,λa b=>by simp[Instr.sameNow]⟩
theorem MO:qH prog 335 TB where
 eq:=by
  rintro w _ _ ⟨a,b,rfl⟩ ⟨x,y,rfl⟩;refine⟨_,λd=>ajA (d+2) w a b x y,?_⟩;simp[lu]
 chk:=by
  rintro w _ ⟨a,b,rfl⟩ e d;have a3:=Tryz.isAgg3;have z3:=Tryz.sizeOf3;simp only[lu,Instr.checkKey,bo,run_underlying Tryz.underlying335,bV];simp[part,a3,z3,Instr.checkKey,run_underlying Tryz.underlying3]
 bits:=by
  rintro w _ ⟨a,b,rfl⟩;simp[lu,Instr.sameBits]
 desc:=⟨_,run_underlying Tryz.underlying335,λa b=>by simp[Instr.sameNow]⟩
theorem akw (e:Bool) (d:Nat) (w:World) (a b:Int):(Instr.checkKey e (d+2) 34 (lu a b)).run prog w= .ok () w:=by
 have a3:=Tryz.isAgg3;have z3:=Tryz.sizeOf3;simp only[lu,Instr.checkKey,bo,run_underlying Tryz.underlying34,bV];simp[part,a3,z3,Instr.checkKey,run_underlying Tryz.underlying3]
theorem akt (e:Bool) (d:Nat) (w:World) (a b:Nat):(Instr.checkKey e (d+2) 79 (xy a b)).run prog w= .ok () w:=by
 have a3:=Tryz.isAgg45;have z3:=Tryz.sizeOf45;simp only[xy,Instr.checkKey,bo,run_underlying Tryz.underlying79,bV];simp[part,a3,z3,Instr.checkKey,run_underlying Tryz.underlying45]
theorem MP:qH prog 36 TC where
 eq:=by
  rintro w _ _ ⟨a,b,x,y,rfl⟩ ⟨a',b',x',y',rfl⟩;refine⟨_,λd=>ajC (d+1) w a b x y a' b' x' y',?_⟩;simp[xH,and_assoc]
 chk:=by
  rintro w _ ⟨a,b,x,y,rfl⟩ e d;have a3:=Tryz.isAgg34;have z3:=Tryz.sizeOf34;have e1:=akw e (d+1) w;unfold lu at e1;rw[show d+4=(d+3)+1 from rfl];unfold xH;rw[Instr.checkKey];simp only[bo,run_underlying Tryz.underlying36,bV];simp[part,a3,z3,e1]
 bits:=by
  rintro w _ ⟨a,b,x,y,rfl⟩;simp[xH,Instr.sameBits]
 desc:=⟨_,run_underlying Tryz.underlying36,λa b=>by simp[Instr.sameNow]⟩
theorem MN:qH prog 273 TA where
 eq:=by
  rintro w _ _ ⟨a,b,x,y,rfl,⟨h1,h2⟩,h3,h4⟩ ⟨a',b',x',y',rfl,⟨k1,k2⟩,k3,k4⟩;refine⟨_,λd=>ajx (d+1) w a b x y a' b' x' y',?_⟩;rw[tK h1 k1,tK h2 k2,tK h3 k3,tK h4 k4];simp[tq,and_assoc]
 chk:=by
  rintro w _ ⟨a,b,x,y,rfl,_⟩ e d;have a3:=Tryz.isAgg79;have z3:=Tryz.sizeOf79;have e1:=akt e (d+1) w;unfold xy at e1;rw[show d+4=(d+3)+1 from rfl];unfold tq;rw[Instr.checkKey];simp only[bo,run_underlying Tryz.underlying273,bV];simp only[Bb,Std.Legacy.Range.size,XM,Bs,Nat.div_one,List.range'_succ,List.range'_zero,List.forIn_cons,List.forIn_nil];simp[part,a3,z3,e1]
 bits:=by
  rintro w _ ⟨a,b,x,y,rfl,_⟩;simp[tq,Instr.sameBits]
 desc:=⟨_,run_underlying Tryz.underlying273,λa b=>by simp[Instr.sameNow]⟩
def EG (w:World) (v:Value):Prop:=∃r cs t,v= .pointer (some ⟨r,0,none⟩)/\w.heap[r]? =some (.cells cs t (0,0))
theorem Vx {tp te:TypeId} {j:TypeInfo} (hp:prog.underlying tp=some (.pointer te)) (hte:prog.info? te=some j) (hsz:j.size≠0) {w:World} {r s:Nat} {cs cs':Array Value} {t t':TypeId}
  (h1:w.heap[r]? =some (.cells cs t (0,0))) (h2:w.heap[s]? =some (.cells cs' t' (0,0))) (d:Nat):
  (Op.equalIn (d+1) tp (.pointer (some ⟨r,0,none⟩)) (.pointer (some ⟨s,0,none⟩))).run prog w= .ok (decide (r=s)) w:=by
 by_cases h:r=s
 ·subst h;simp[Op.equalIn,run_underlying hp,sizeOf,typeInfo,hte,run_sameAddr_same,hsz]
 ·have hne:(⟨r,0,none⟩:Addr)≠⟨s,0,none⟩:=λe=>h (by injection e);simp[Op.equalIn,run_underlying hp,sizeOf,typeInfo,hte,hsz,run_sameAddr_other w hne h1 h2,h]
theorem agj {tp te:TypeId} {j:TypeInfo} (hp:prog.underlying tp=some (.pointer te)) (hte:prog.info? te=some j) (hsz:j.size≠0):qH prog tp EG where
 eq:=by
  rintro w _ _ ⟨r,cs,t,rfl,h1⟩ ⟨s,cs',t',rfl,h2⟩;refine⟨_,λd=>Vx hp hte hsz h1 h2 (d+3),?_⟩;simp
 chk:=by
  rintro w _ ⟨r,cs,t,rfl,h1⟩ e d;simp[Instr.checkKey,run_underlying hp]
 bits:=by
  rintro w _ ⟨r,cs,t,rfl,h1⟩;simp[Instr.sameBits]
 desc:=⟨_,run_underlying hp,λa b=>by simp[Instr.sameNow]⟩
end Go.Proofs
namespace Go.Proofs
open Tryz
open Go.V
theorem cw:prog.follows .mixedOrders=true:=by kernel_rfl
abbrev Is (u:Value):cZ:=λv Fs' L'=>(v=u/\Fs'=[])/\L'=[]
abbrev Pt:=Nat×Nat
def pv (p:Pt):Value:=xy p.1 p.2
def bl (l:List Pt):List Value:=l.flatMap λp=>[.float .f64 p.1,.float .f64 p.2]
theorem mY (l:List Pt):(bl l).length=2*l.length:=by
 induction l with
 |nil=>rfl
 |cons p l ih=>simp only[bl,dC,aW,cE,kC] at ih ⊢;omega
theorem Vc {l:List Pt} {i j:Nat} {p:Pt} (h:l[i]? =some p) (hj:j=2*i):(bl l)[j]? =some (.float .f64 p.1):=by
 subst hj
 induction l generalizing i with
 |nil=>cases h
 |cons q l ih=>
  cases i with
  |zero=>cases h;rfl
  |succ i=>exact ih h
theorem Vb {l:List Pt} {i j:Nat} {p:Pt} (h:l[i]? =some p) (hj:j=2*i+1):(bl l)[j]? =some (.float .f64 p.2):=by
 subst hj
 induction l generalizing i with
 |nil=>cases h
 |cons q l ih=>
  cases i with
  |zero=>cases h;rfl
  |succ i=>exact ih h
theorem da {α:Type} {l:List α} {i:Nat} {p:α} (h:l[i]? =some p):i<l.length:=by
 rcases dL i l.length with k|k
 ·exact k
 ·rw[gZ k] at h;cases h
abbrev iv (a:Int):Value:= .int .i64 a
abbrev xj (p:Option Addr) (l:List Pt) (cp:Nat):Value:= .slice p (2*l.length) cp
abbrev gF (p:Option Addr) (l:List Pt) (cp:Nat):an:=bF 1 (xj p l cp) (2*l.length) (bl l)
abbrev jF (p:Option Addr) (l:List Pt) (cp:Nat):Value:= .agg #[.int .u8 0,xj p l cp]
variable {p:Option Addr} {l:List Pt} {cp:Nat}
theorem NN:ai prog 136 [.int .u8 0].toArray [] [] (Is (.int .i64 2)):=by
 refine am func136 λ_=>(y8)<|(W9)<|(aB) ?_
 first|refine HU ab rfl rfl rfl rfl rfl rfl (i:=0) (by first|rfl|omega) (by first|decide|omega) rfl rfl (rfl) rfl ?_|refine Ni ab rfl rfl rfl rfl rfl rfl (i:=0) (by first|rfl|omega) (by first|decide|omega) rfl rfl (rfl) rfl ?_
 exact cV
theorem LW:ai prog 137 [xj p l cp,.int .u8 0].toArray [] [] (Is (jF p l cp)):=by
 refine am func137 λ_=>(wL) ?_;intro _;refine(AU)<|(dH)<|(aB)<|(C4)<|(C0)<|(x7)<|(aN) ?_;refine gz O (λhc10=>absurd hc10 (by simp at hc10)) (λhc10=>(bX)<|(fb)<|sM)
theorem LY:ai prog 103 [jF p l cp].toArray [] [] (Is (jF p l cp)):=by
 refine am func103 λ_=>(au) ?_;intro _;refine(aq) ?_;intro _;exact(gu)<|sM
theorem jB:ai prog 98 [jF p l cp].toArray [gF p l cp] [] (Is (.int .i64 l.length)):=by
 refine tu (.head _) (λ_ h=>(uX h).2) λhb=>?_;simp only[maxLen] at hb;refine am func98 λ_=>(au) ?_;intro _;refine(bR)<|(CX)<|(iS)<|(zp)<|(iS) ?_;refine ac O (λkX=>aj eA call136 (NN) kX)<|(Xg)<|(jY)<|(gw) ?_;exact⟨⟨by simp[bw],rfl⟩,O⟩
theorem Rm:ai prog 135 [jF p l cp].toArray [] [] (Is (.int .u8 0)):=by
 refine am func135 λ_=>(au) ?_;intro _;exact(fP)<|cV
theorem iO {i:Nat} {q:Pt} (hi:l[i]? =some q):ai prog 131 [jF p l cp,.int .i64 i].toArray [gF p l cp] [] (Is (pv q)):=by
 have hl:=da hi;refine GK (.head _) aa ?_;intro g o cap e h1 h2 h3;cases e;simp only[maxLen] at h2;refine am func131 λ_=>(au) ?_;intro _;refine(aq) ?_;intro _;refine(iu)<|(C4)<|(bR) ?_;refine cz cw 16 [] []<|(iS)<|(zn)<|(Fv) ?_;refine ac O (bp (s:=1) (i:=i*2) ab O O O O O aa aa O) ?_;refine ac O (az ab O O O (cY (aR mA) (Vc hi aa)) O)<|(iS)<|(zn)<|(Fv)<|(wN) ?_;refine ac O (bp (s:=1) (i:=i*2+1) ab O O O O O aa aa O) ?_;refine ac O (az ab O O O (cY (aR mA) (Vb hi aa)) O)<|(ny)<|(jY)<|rN
end Go.Proofs
namespace Go.Proofs
open Tryz
open Go.V
structure Sq where
 p:Option Addr
 l:List Pt
 cp:Nat
abbrev Sq.cells (q:Sq):List Value:=[.int .u8 0,xj q.p q.l q.cp]
abbrev Sq.v (q:Sq):Value:=jF q.p q.l q.cp
abbrev Sq.fact (q:Sq):an:=gF q.p q.l q.cp
abbrev Da (l:List Pt):cZ:=λv Fs' L'=>(∃q:Sq,q.l=l/\v=q.v/\Fs'=[q.fact])/\L'=[]
abbrev vV (p:Option Addr) (lss:List (List Pt)) (cp:Nat):Value:= .slice p lss.length cp
def bQ (p:Option Addr) (lss:List (List Pt)) (cp:Nat):an where
 p h:=∃qs:List Sq,(qs.map (·.l)=lss/\lss.length<=1048576)/\(bF 2 (vV p lss cp) lss.length (qs.flatMap Sq.cells)).p h/\∀q∈qs,q.fact.p h
 mono:=λhle ⟨qs,h1,h2,h3⟩=>⟨qs,h1,(bF _ _ _ _).mono hle h2,λq hq=>q.fact.mono hle (h3 q hq)⟩
abbrev jb (p:Option Addr) (lss:List (List Pt)) (cp:Nat):Value:= .agg #[vV p lss cp,.int .u8 0]
theorem Cz {α:Type} {F:α->an} {l:List α} {h:PH} (k:∀x∈l,(F x).p h):cr (l.map F) h:=by
 intro f hf;obtain⟨x,hx,rfl⟩:=aM.1 hf;exact k x hx
theorem ab6 {P:Program} {Fs:List an} {L:List ae} {fid:FuncId} {args:Array Value} {R:cZ} {p:Option Addr} {lss:List (List Pt)} {cp:Nat} (hm:bQ p lss cp∈Fs)
  (K:∀qs:List Sq,qs.map (·.l)=lss->lss.length<=1048576->ai P fid args (bF 2 (vV p lss cp) lss.length (qs.flatMap Sq.cells)::(qs.map Sq.fact++Fs)) L R):ai P fid args Fs L R:=λhp w sa al=>by
 obtain⟨qs,h1,h2,h3⟩:=al _ hm;exact K qs h1.1 h1.2 hp w sa (.cons h2 (.append (Cz h3) al))
theorem flat_take {α:Type} {F:α->List Value} {k:Nat}:∀{l:List α} {i:Nat} {x:α},(∀y∈l,(F y).length=k)->l[i]? =some x->((l.flatMap F).drop (i*k)).take k=F x
 |[],i,x,_,h=>by cases h
 |y::l,0,x,hk,h=>by
  cases h;simp only[dC,Kb,Dz];have:=hk y (.head _);rw[vJ aa,eQ aa]
 |y::l,i+1,x,hk,h=>by
  have:=hk y (.head _);simp only[dC,lU];rw[Bf,tn aa,j6];have e:i*k+k-(F y).length=i*k:=by omega
  rw[e];exact flat_take (λz hz=>hk z (.tail _ hz)) h
theorem sd {α β:Type} {F:α->β} {l:List α} {m:List β} (h:l.map F=m) {i:Nat} {b:β} (hb:m[i]? =some b):∃a,l[i]? =some a/\F a=b:=by
 subst h;rw[iY] at hb;cases h:l[i]? with
 |none=>rw[h] at hb;cases hb
 |some a=>rw[h] at hb;exact⟨a,rfl,by simpa using hb⟩
theorem qR {α:Type} {l:List α} {i:Nat} {a:α} (h:l[i]? =some a):a∈l:=bn h
inductive GM where
 |ls (l:List Pt)
 |mls (l:List (List Pt))
 |gc (l:List GM)
def GM.tag:GM->Int
 |.ls _=>2
 |.mls _=>5
 |.gc _=>0
abbrev oz (T:Nat) (r:Nat):Value:= .iface T (.pointer (some ⟨r,0,none⟩))
abbrev qW (p:Option Addr) (k:Nat) (cp:Nat):Value:= .slice p k cp
def dz (x:GM×Value):List Value:=[.int .i64 x.1.tag,x.2]
inductive rS (h:PH):GM->Value->Prop where
 |ls {q:Sq} {r:Nat}:(aO r 0 q.cells).p h->q.fact.p h->rS h (.ls q.l) (oz 139 r)
 |mls {p lss cp r}:(aO r 0 [vV p lss cp,.int .u8 0]).p h->(bQ p lss cp).p h->rS h (.mls lss) (oz 144 r)
 |gc0:rS h (.gc []) .nilIface
 |gc {p cp r} {xs:List (GM×Value)}:xs.length<=1048576->(aO r 0 [qW p xs.length cp,.int .u8 0]).p h->(bF 2 (qW p xs.length cp) xs.length (xs.flatMap dz)).p h->(∀x∈xs,rS h x.1 x.2)->rS h (.gc (xs.map (·.1))) (oz 148 r)
theorem rS.mono {h h':PH} (hle:PH.le h h') {g:GM} {v:Value} (k:rS h g v):rS h' g v:=by
 induction k with
 |ls a b=>exact .ls ((aO _ _ _).mono hle a) (an.mono _ hle b)
 |mls a b=>exact .mls ((aO _ _ _).mono hle a) ((bQ _ _ _).mono hle b)
 |gc0=>exact .gc0
 |gc hb a b _ ih=>exact .gc hb ((aO _ _ _).mono hle a) ((bF _ _ _ _).mono hle b) ih
theorem dE {h:PH} {g:GM} {v:Value} (k:rS h g v):v.oneCell'=true:=by cases k<;>rfl
def aE (g:GM) (v:Value):an where
 p h:=rS h g v
 mono:=λhle k=>k.mono hle
abbrev gv (g:GM) (v:Value):Value:= .agg #[.int .i64 g.tag,v]
def dA (p:Option Addr) (gs:List GM) (cp:Nat):an where
 p h:=∃xs:List (GM×Value),(xs.map (·.1)=gs/\gs.length<=1048576)/\(bF 2 (qW p gs.length cp) gs.length (xs.flatMap dz)).p h/\∀x∈xs,rS h x.1 x.2
 mono:=λhle ⟨xs,h1,h2,h3⟩=>⟨xs,h1,(bF _ _ _ _).mono hle h2,λx hx=>(h3 x hx).mono hle⟩
abbrev pn (p:Option Addr) (gs:List GM) (cp:Nat):Value:= .agg #[qW p gs.length cp,.int .u8 0]
theorem ab7 {P:Program} {Fs:List an} {L:List ae} {fid:FuncId} {args:Array Value} {R:cZ} {p:Option Addr} {gs:List GM} {cp:Nat} (hm:dA p gs cp∈Fs)
  (K:∀xs:List (GM×Value),xs.map (·.1)=gs->gs.length<=1048576->ai P fid args (bF 2 (qW p gs.length cp) gs.length (xs.flatMap dz)::(xs.map (λx=>aE x.1 x.2)++Fs)) L R):ai P fid args Fs L R:=λhp w sa al=>by
 obtain⟨xs,h1,h2,h3⟩:=al _ hm;exact K xs h1.1 h1.2 hp w sa (.cons h2 (.append (Cz h3) al))
theorem aca {P:Program} {Fs:List an} {L:List ae} {fid:FuncId} {args:Array Value} {R:cZ} {l:List Pt} {v:Value} (hm:aE (.ls l) v∈Fs)
  (K:∀(q:Sq) (r:Nat),q.l=l->v=oz 139 r->ai P fid args (aO r 0 q.cells::q.fact::Fs) L R):ai P fid args Fs L R:=λhp w sa al=>by
 have:=al _ hm;generalize hg:GM.ls l=g at this;cases this with
 |@ls q r h1 h2=>cases hg;exact K q r rfl rfl hp w sa (.cons h1 (.cons h2 al))
 |_=>cases hg
theorem ab9 {P:Program} {Fs:List an} {L:List ae} {fid:FuncId} {args:Array Value} {R:cZ} {lss:List (List Pt)} {v:Value} (hm:aE (.mls lss) v∈Fs)
  (K:∀p cp (r:Nat),v=oz 144 r->ai P fid args (aO r 0 [vV p lss cp,.int .u8 0]::bQ p lss cp::Fs) L R):ai P fid args Fs L R:=λhp w sa al=>by
 have:=al _ hm;generalize hg:GM.mls lss=g at this;cases this with
 |@mls p l cp r h1 h2=>cases hg;exact K p cp r rfl hp w sa (.cons h1 (.cons h2 al))
 |_=>cases hg
theorem acb {P:Program} {Fs:List an} {L:List ae} {fid:FuncId} {args:Array Value} {R:cZ} {gs:List GM} {v:Value} (hm:aE (.gc gs) v∈Fs)
  (K0:gs=[]->v= .nilIface->ai P fid args Fs L R)
  (K:∀p cp (r:Nat),v=oz 148 r->ai P fid args (aO r 0 [qW p gs.length cp,.int .u8 0]::dA p gs cp::Fs) L R):ai P fid args Fs L R:=λhp w sa al=>by
 have:=al _ hm;generalize hg:GM.gc gs=g at this;cases this with
 |gc0=>cases hg;exact K0 rfl rfl hp w sa al
 |@gc p cp r xs hb h1 h2 h3=>cases hg;exact K p cp r rfl hp w sa (.cons (by simpa using h1) (.cons ⟨xs,⟨rfl,by simpa using hb⟩,by simpa using h2,h3⟩ al))
 |_=>cases hg
variable {q:Sq} {p:Option Addr} {lss:List (List Pt)} {cp:Nat} {gs:List GM} {g:GM} {v:Value}
abbrev rQ (lss:List (List Pt)):cZ:=λv Fs' L'=>(∃p cp,v=jb p lss cp/\Fs'=[bQ p lss cp])/\L'=[]
abbrev FJ (gs:List GM):cZ:=λv Fs' L'=>(∃p cp,v=pn p gs cp/\Fs'=[dA p gs cp])/\L'=[]
abbrev rR (g:GM):cZ:=λv Fs' L'=>(∃u,v=gv g u/\Fs'=[aE g u])/\L'=[]
theorem tN:ai prog 84 [q.v].toArray [] [] (Is q.v):=by
 refine am func84 λ_=>(au) ?_;intro _;refine(aq) ?_;intro _;exact(eZ)<|(eK)<|rN
theorem EA:ai prog 115 [q.v].toArray [q.fact] [] (Is (.bool (decide ((q.l.length:Int)=0)))):=by
 refine am func115 λ_=>(au) ?_;intro _;exact(fo)<|(eK)<|(Ji)<|(kT)<|cV
theorem xr:ai prog 58 [jb p lss cp].toArray [] [] (Is (.int .i64 lss.length)):=by
 refine am func58 λ_=>(au) ?_;intro _;exact(fP)<|(dH)<|cV
theorem vW {i:Nat} {l:List Pt} (hi:lss[i]? =some l):ai prog 59 [jb p lss cp,.int .i64 i].toArray [bQ p lss cp] [] (Da l):=by
 refine(wK) ?_;intro qs hq hb;obtain⟨q,h1,h2⟩:=sd hq hi;have hlt:=da hi;refine am func59 λ_=>(au) ?_;intro _;refine(aq) ?_;intro _;refine(iu)<|(aB) ?_;refine cU (size:=2) (i:=i) ab O O O O O aa mA aa (flat_take (λ_ _=>O) h1) O λ_ _=>(uk)<|(eF) ?_;exact .ret (.cons (xm ab O O O mA O) (.nil)) (Fs':=[q.fact]) (mP (.tail _ (.tail _ (bq _ (nJ (qR h1))))) gy) (oZ _) ⟨⟨q,h2,O,O⟩,O⟩
theorem Al:ai prog 95 [pn p gs cp].toArray [] [] (Is (.int .i64 gs.length)):=by
 refine am func95 λ_=>(au) ?_;intro _;exact(fP)<|(dH)<|cV
theorem Ci {i:Nat} (hi:gs[i]? =some g):ai prog 96 [pn p gs cp,.int .i64 i].toArray [dA p gs cp] [] (rR g):=by
 refine(CT) ?_;intro xs hq hb;obtain⟨x,h1,h2⟩:=sd hq hi;have hlt:=da hi;subst h2;refine tu (F:=aE x.1 x.2) (.tail _ (bq _ (aM.2 ⟨x,qR h1,O⟩))) (λ_ h=>dE h) λho=>?_;refine am func96 λ_=>(au) ?_;intro _;refine(aq) ?_;intro _;refine(iu)<|(aB) ?_;refine cU (size:=2) (i:=i) ab O O O O O aa mA aa (flat_take (λ_ _=>O) h1) O λ_ _=>?_;refine aK ab O O O (aR (xs:=[.int .i64 x.1.tag,x.2]) mA) O O<|(eF) ?_;exact .ret (.cons (xm ab O O O mA O) (.nil)) (Fs':=[aE x.1 x.2]) (mP (.tail _ (.tail _ (bq _ (aM.2 ⟨x,qR h1,O⟩)))) gy) (oZ _) ⟨⟨x.2,O,O⟩,O⟩
theorem lz:ai prog 25 [gv g v].toArray [] [] (Is (.int .i64 g.tag)):=by
 refine am func25 λ_=>(au) ?_;intro _;exact(fP)<|cV
theorem H4:ai prog 82 [gv g v,.int .i64 g.tag].toArray [] [] (Is (.tuple #[])):=by
 refine am func82 λ_=>(au) ?_;intro _;refine(iu)<|(aB)<|(x7)<|(aN) ?_;refine gz O (λhc7=>absurd hc7 (by simp at hc7)) (λhc7=>(A0)<|ed [] [] ?_);exact gk
end Go.Proofs
namespace Go.V
theorem cL {P:Program} {c:bC} {n:Nat} {ops:Array Oper} {Fs:List an} {L:List ae} {f:Fm} {Q:bG} {rest:List Oper} (F:an) (h:∀hp,cr Fs hp->F.p hp) (k:ak P c n ops (F::Fs) L f rest Q):ak P c n ops Fs L f rest Q:=
 ⟨λa hp w ag re al=>k.out a hp w ag re (.cons (h hp al) al)⟩
theorem cI {P:Program} {c:bC} {n:Nat} {Fs:List an} {L:List ae} {f:Fm} {Q:bG} {code:Code} (F:an) (h:∀hp,cr Fs hp->F.p hp) (k:Go P c n (F::Fs) L f code Q):Go P c n Fs L f code Q:=
 ⟨λa hp w ag re al=>k.out a hp w ag re (.cons (h hp al) al)⟩
theorem uL {P:Program} {Fs:List an} {L:List ae} {fid:FuncId} {args:Array Value} {R:cZ} {φ:Prop} (h:∀hp,cr Fs hp->φ) (k:φ->ai P fid args Fs L R):ai P fid args Fs L R:=
 λhp w sa al=>k (h hp al) hp w sa al
theorem UG {P:Program} {c:bC} {n:Nat} {Fs:List an} {L:List ae} {f:Fm} {Q:bG} {code:Code} {φ:Prop} (h:∀hp,cr Fs hp->φ) (k:φ->Go P c n Fs L f code Q):Go P c n Fs L f code Q:=
 ⟨λa hp w ag re al=>(k (h hp al)).out a hp w ag re al⟩
theorem dP {P:Program} {c:bC} {n:Nat} {ops:Array Oper} {Fs:List an} {L:List ae} {f:Fm} {Q:bG} {rest:List Oper} {φ:Prop} (h:∀hp,cr Fs hp->φ) (k:φ->ak P c n ops Fs L f rest Q):ak P c n ops Fs L f rest Q:=
 ⟨λa hp w ag re al=>(k (h hp al)).out a hp w ag re al⟩
theorem nT {P:Program} {Fs:List an} {L:List ae} {fid:FuncId} {args:Array Value} {R:cZ} (F:an) (h:∀hp,cr Fs hp->F.p hp) (k:ai P fid args (F::Fs) L R):ai P fid args Fs L R:=
 λhp w sa al=>k hp w sa (.cons (h hp al) al)
end Go.V
namespace Go.Proofs
open Tryz
open Go.V
variable {q:Sq} {p:Option Addr} {lss:List (List Pt)} {cp:Nat} {gs:List GM} {g:GM} {v:Value} {l:List Pt}
theorem yE:ai prog 43 [q.v].toArray [q.fact] [] (rR (.ls q.l)):=by
 refine am func43 λ_=>(au) ?_;intro r;refine(aq) ?_;intro _;refine(eZ)<|(rE)<|(cN) ?_;refine xK (.leave .all) (cL (aE (.ls q.l) (oz 139 r)) (λhp al=> .ls (al _ (.head _)) (al _ (.tail _ (.head _))))<|(eF) ?_);exact .ret (.cons (xm ab O O O mA O) (.nil)) (Fs':=[aE (.ls q.l) (oz 139 r)]) (mP (.head _) gy) (oZ _) ⟨⟨_,O,O⟩,O⟩
theorem yD:ai prog 49 [jb p lss cp].toArray [bQ p lss cp] [] (rR (.mls lss)):=by
 refine am func49 λ_=>(au) ?_;intro r;refine(aq) ?_;intro _;refine(eZ)<|(rE)<|(cN) ?_;refine xK (.leave .all) (cL (aE (.mls lss) (oz 144 r)) (λhp al=> .mls (al _ (.head _)) (al _ (.tail _ (.head _))))<|(eF) ?_);exact .ret (.cons (xm ab O O O mA O) (.nil)) (Fs':=[aE (.mls lss) (oz 144 r)]) (mP (.head _) gy) (oZ _) ⟨⟨_,O,O⟩,O⟩
theorem aiy {hp:PH} {r:Nat} (h1:(aO r 0 [qW p gs.length cp,.int .u8 0]).p hp) (h2:(dA p gs cp).p hp):rS hp (.gc gs) (oz 148 r):=by
 obtain⟨xs,⟨rfl,hb⟩,h3,h4⟩:=h2;exact .gc (by simpa using hb) (by simpa using h1) (by simpa using h3) h4
theorem Au:ai prog 53 [pn p gs cp].toArray [dA p gs cp] [] (rR (.gc gs)):=by
 refine am func53 λ_=>(au) ?_;intro r;refine(aq) ?_;intro _;refine(eZ)<|(rE)<|(cN) ?_;refine xK (.leave .all) (cL (aE (.gc gs) (oz 148 r)) (λhp al=>aiy (al _ (.head _)) (al _ (.tail _ (.head _))))<|(eF) ?_);exact .ret (.cons (xm ab O O O mA O) (.nil)) (Fs':=[aE (.gc gs) (oz 148 r)]) (mP (.head _) gy) (oZ _) ⟨⟨_,O,O⟩,O⟩
theorem sb:ai prog 39 [gv (.gc gs) v].toArray [aE (.gc gs) v] [] (FJ gs):=by
 refine acb (.head _) (λe1 e2=>?_) (λp cp r e=>?_)
 ·subst e1;subst e2;refine nT (dA none [] 0) (λhp _=>⟨[],⟨O,bf _⟩,⟨O,.inl ⟨none,0,O,O⟩⟩,λ_ h=>nomatch h⟩) ?_;refine am func39 λ_=>(au) ?_;intro _;refine(aq) ?_;intro _;refine(gu)<|aj eA call82 (H4 (g:= .gc []))<|(I5) ?_;refine Uv ab O O O O O<|(vq)<|(iw)<|(gV)<|aH [dA none [] 0] [] ?_;exact⟨⟨none,0,O,O⟩,O⟩
 ·subst e;refine am func39 λ_=>(au) ?_;intro _;refine(aq) ?_;intro _;refine(gu)<|aj eA call82 (H4 (g:= .gc gs))<|(I5) ?_;refine Uv ab O O O O O<|(gH)<|(fR)<|(I9)<|aH [dA p gs cp] [] ?_;exact⟨⟨p,cp,O,O⟩,O⟩
theorem qQ:ai prog 29 [gv (.ls l) v].toArray [aE (.ls l) v] [] (Da l):=by
 refine aca (.head _) ?_;intro q r e1 e;subst e;subst e1;refine am func29 λ_=>(au) ?_;intro _;refine(aq) ?_;intro _;refine(gu)<|aj eA call82 (H4 (g:= .ls q.l))<|(iu)<|(I9)<|aH [q.fact] [] ?_;exact⟨⟨q,O,O,O⟩,O⟩
theorem qP:ai prog 35 [gv (.mls lss) v].toArray [aE (.mls lss) v] [] (rQ lss):=by
 refine ab9 (.head _) ?_;intro p cp r e;subst e;refine am func35 λ_=>(au) ?_;intro _;refine(aq) ?_;intro _;refine(gu)<|aj eA call82 (H4 (g:= .mls lss))<|(iu)<|(I9)<|aH [bQ p lss cp] [] ?_;exact⟨⟨p,cp,O,O⟩,O⟩
abbrev Wd (q:Pt):List Value:=[.float .f64 q.1,.float .f64 q.2,.float .f64 0,.float .f64 0,.int .u8 0]
theorem H0 {i:Nat} {x:Pt} (hi:l[i]? =some x):ai prog 102 [jF p l cp,.int .i64 i].toArray [gF p l cp] [] (Is (.agg (Wd x).toArray)):=by
 have hl:=da hi;refine GK (.head _) aa ?_;intro g o cap e h1 h2 h3;cases e;simp only[maxLen] at h2;refine am func102 λ_=>(au) ?_;intro _;refine(aq) ?_;intro _;refine(iu)<|(C4)<|(bR) ?_;refine cz cw 20 [19] []<|(iS)<|(zn)<|(Fv) ?_;refine ac O (bp (s:=1) (i:=i*2) ab O O O O O aa aa O) ?_;refine ac O (az ab O O O (cY (aR mA) (Vc hi aa)) O)<|(iS)<|(zn)<|(Fv)<|(wN) ?_;refine ac O (bp (s:=1) (i:=i*2+1) ab O O O O O aa aa O) ?_;refine ac O (az ab O O O (cY (aR mA) (Vb hi aa)) O)<|(ny)<|(iS)<|(ny)<|(dT)<|(aq) ?_;intro _;exact(iy)<|(dS)<|(fR)<|(ot)<|(OB)<|(ba)<|(I3)<|rN
end Go.Proofs
namespace Go.V
theorem Em {α:Type} {F:α->List Value}:∀{l:List α},(∀y∈l,gN (F y)=true)->gN (l.flatMap F)=true
 |[],_=>rfl
 |y::l,h=>by
  have h1:=h y (.head _);have h2:=Em (l:=l) λz hz=>h z (.tail _ hz);simp only[gN,dC,List.all_append,eI] at h1 h2 ⊢;exact⟨h1,h2⟩
theorem tI {α:Type} {F:α->List Value} {k:Nat}:∀{l:List α} {i:Nat} {x:α} (y:α),(∀y∈l,(F y).length=k)->l[i]? =some x->
  (l.flatMap F).take (i*k)++F y++(l.flatMap F).drop (i*k+k)=(l.set i y).flatMap F
 |[],i,x,_,_,h=>by cases h
 |z::l,0,x,y,hk,h=>by
  have:=hk z (.head _);simp only[Kb,FU,j6,gX,dC,List.set_cons_zero];rw[Bf,tn aa,j6,this,Nat.sub_self,Dz]
 |z::l,i+1,x,y,hk,h=>by
  have h1:=hk z (.head _);have ih:=tI (l:=l) (i:=i) (x:=x) y (λz hz=>hk z (.tail _ hz)) h;simp only[dC,lU,J4];rw[PE,eQ aa,Bf,tn aa,j6,h1];have e1:i*k+k-k=i*k:=by omega
  have e2:i*k+k+k-k=i*k+k:=by omega
  rw[e1,e2,<-ih];simp only[cG]
theorem Ve {α:Type} {F:α->List Value} {k:Nat} {l:List α} {i:Nat} {x:α} (hk:∀y∈l,(F y).length=k) (h:l[i]? =some x):
  (l.flatMap F).take (i*k)++F x++(l.flatMap F).drop (i*k+k)=l.flatMap F:=by
 rw[tI x hk h];congr 1;apply uH;intro j;rw[s9];by_cases e:i=j
 ·subst e;rw[if_pos rfl,h];have:i<l.length:=by
   rcases dL i l.length with k|k
   ·exact k
   ·rw[gZ k] at h;cases h
  rw[if_pos this]
 ·rw[if_neg e]
theorem K6 {Fs:List an} {L:List ae} {α:Type} {F:α->List Value} {l:List α} {e k n cap g i:Nat} {cur:Array Value} {x:α} (hs:aJ e k (.slice (some ⟨g,0,none⟩) n cap) n (l.flatMap F) [(g,.cells cur e (0,0))])
  (hm:(g,Obj.cells cur e (0,0))∈L) (hk:∀y∈l,(F y).length=k) (hx:l[i]? =some x):fS Fs L g (0+i*k) (F x):=by
 intro h w sa al j v hv;have hv':(l.flatMap F)[i*k+j]? =some v:=by
  have h1:=Go.Proofs.flat_take hk hx;rw[<-h1,uK] at hv;split at hv
  ·rw[vL] at hv;exact hv
  ·cases hv
 obtain⟨_,h2⟩:=hs;rcases h2 with⟨h3,_⟩|⟨g',cap',cur',h3,h4,h5,h6,h7,h8⟩
 ·cases h3
 ·cases h3;simp only[Bm,yg,PR,and_true,true_and] at h4;subst h4;have hc:=aJ.get (cap:=cap) h8 hv';have:=sa.own _ hm;simp only at this;simp only[World.cell?,this,gX];exact hc
end Go.V
namespace Go.Proofs
open Tryz
open Go.V
variable {q:Sq} {p:Option Addr} {lss:List (List Pt)} {cp:Nat} {gs:List GM} {g:GM} {v:Value} {l:List Pt}
theorem afn:ai prog 139 [jF p l cp].toArray [] [] (Is (.int .u8 0)):=by
 refine am func139 λ_=>(au) ?_;intro _;exact(fo)<|(eK)<|(Oy)<|cV
theorem aeX:ai prog 90 [jb p lss cp].toArray [] [] (Is (.int .u8 0)):=by
 refine am func90 λ_=>(au) ?_;intro _;exact(fP)<|cV
theorem UY:ai prog 94 [pn p gs cp].toArray [] [] (Is (.int .u8 0)):=by
 refine am func94 λ_=>(au) ?_;intro _;exact(fP)<|cV
theorem acF:ai prog 149 [jF p l cp,.int .u8 0].toArray [] [] (Is (jF p l cp)):=by
 refine am func149 λ_=>(au) ?_;intro _;refine(aq) ?_;intro _;exact(I5)<|(aB)<|(kT)<|(vE)<|(cR)<|(wM)<|(kS)<|gk
theorem afl:ai prog 138 [jF p l cp,.int .u8 0].toArray [] [] (Is (jF p l cp)):=by
 refine am func138 λ_=>(au) ?_;intro _;refine(aq) ?_;intro _;exact(eZ)<|(eK)<|(aB)<|aj eA call149 (acF)<|sM
theorem BN:ai prog 109 [vV p lss cp].toArray [bQ p lss cp] [] (rQ lss):=by
 rcases xe lss.length with h0|hpos
 ·have e:lss=[]:=ow h0;subst e;refine nT (bQ none [] 0) (λhp _=>⟨[],⟨O,bf _⟩,⟨O,.inl ⟨none,0,O,O⟩⟩,λ_ h=>nomatch h⟩) ?_;refine am func109 λ_=>(wL) ?_;intro _;refine(AU)<|(sO)<|(vq)<|(iw)<|(gV)<|aH [bQ none [] 0] [] ?_;exact⟨⟨none,0,O,O⟩,O⟩
 ·refine(wK) ?_;intro qs hq hb;have hql:qs.length=lss.length:=by rw[<-hq];simp
  refine am func109 λ_=>(wL) ?_;intro _;refine(AU)<|(sO)<|(aN) ?_;refine gz O (λhc9=>absurd hc9 (by have:=of_decide_eq_true hc9;omega)) (λhc9=>(bX)<|(ba)<|(nu)<|aU [(3,3),(5,5),(13,21)] (λi=>i<=lss.length) (λi=>[(13,.int .i64 i),(3,.int .u8 (if i=0 then 3 else 0))]) (λ_=>[]) (λ_=>[]) (λi=>lss.length-i) (0) (bf _) ?_);intro i fr hi;refine(cM)<|ao ?_ ?_
  ·intro hc14;have hlt:i<lss.length:=by have:=of_decide_eq_true hc14;omega
   obtain⟨q,hqi⟩:∃q,qs[i]? =some q:=⟨_,aG aa⟩;refine(ix) ?_;refine cU (size:=2) (i:=i) ab O O O O O aa mA aa (flat_take (λ_ _=>O) hqi) O λ_ _=>?_;refine aK ab O O O (aR (xs:=q.cells) mA) O O<|(aq) ?_;intro _;refine(y7)<|(Ox)<|(Ow)<|(jr) ?_;exact⟨i+1,oA,aa,lA,kA,fA,hA⟩
  ·intro hc14;have hge:i=lss.length:=by have:=of_decide_eq_false hc14;omega
   have e3:(if i=0 then(3:Int) else 0)=0:=if_neg aa
   first|rw[e3]|(dsimp only;rw[e3])
   refine(CU) ?_;refine HY (e:=90) (size:=2) ab O O O O O O O .none (aJ.nil 90 2) O mA hpos (Em λ_ _=>O) dp (by show(0+lss.length)*32<=_;omega) O λv' B' hs=>?_;rw[gX,j6] at hs;obtain⟨g,cap,cur,rfl,rfl,hc1,hc2,hc3,hc4⟩:=hs.one hpos;refine(nu)<|aU [(6,6),(26,38)] (λx=>x.1<=lss.length/\aJ 90 2 (.slice (some ⟨g,0,none⟩) lss.length cap) lss.length (qs.flatMap Sq.cells) [(g,.cells x.2 90 (0,0))]) (λx=>[(26,.int .i64 x.1)]) (λ_=>[]) (λx=>[(g,.cells x.2 90 (0,0))]) (λx=>lss.length-x.1) (((0,cur):Nat×Array Value)) (⟨bf _,hs⟩) λ⟨j,cur1⟩ fr1 ⟨hj,hs1⟩=>?_;refine(cM)<|ao ?_ ?_
   ·intro hc27;have hlt1:j<lss.length:=by have:=of_decide_eq_true hc27;omega
    obtain⟨q1,hq1⟩:∃q,qs[j]? =some q:=⟨_,aG aa⟩;refine(rK)<|(bt)<|(aY)<|(mD) ?_;refine bp (s:=2) (i:=j) ab O O O O O aa aa O ?_;refine aK ab O O O (K6 hs1 mA (λ_ _=>O) hq1) O O<|(aB)<|(I2) ?_;refine bp (s:=2) (i:=j) ab O O O O O aa aa O ?_;refine uQ (i:=j) (size:=2) (vs:=q1.cells) ab O hs1 O O O O O O hlt1 (λ_=>uA) λcur2 hs2=>?_;rw[Ve (F:=Sq.cells) (λ_ _=>rfl) hq1] at hs2;refine(rM) ?_;exact⟨(j+1,cur2),oA,⟨by simp only;omega,hs2⟩,lA,kA,fA,hA⟩
   ·intro hc27;refine(jh) ?_;refine eN hs1 tA ?_;refine cI (bQ (some ⟨g,0,none⟩) lss cap) (λhp al=>⟨qs,⟨hq,hb⟩,al _ (.head _),λq hqm=>al _ (.tail _ (.tail _ (bq _ (nJ hqm))))⟩)<|(cO)<|(iw)<|aH [bQ (some ⟨g,0,none⟩) lss cap] [] ?_;exact ww
end Go.Proofs
namespace Go.V
theorem ae2 {α:Type} {F:α->an} {ys:List α} {i:Nat} {y:α} {Fs A:List an} (h1:F y∈A) (h2:∀f∈ys.map F++Fs,f∈A):∀f∈(ys.set i y).map F++Fs,f∈A:=by
 intro f hf;rcases bB.1 hf with h|h
 ·obtain⟨z,hz,rfl⟩:=aM.1 h;rcases Kh hz with h|h
  ·exact h2 _ (bq _ (nJ h))
  ·subst h;exact h1
 ·exact h2 _ (bI _ h)
theorem BR {α:Type} {F:α->an} {ys:List α} {i:Nat} {y:α} {Fs A:List an} (h1:F y∈A) (h2:∀f∈(ys.take i).map F++Fs,f∈A):∀f∈((ys.set i y).take (i+1)).map F++Fs,f∈A:=by
 intro f hf;rcases bB.1 hf with h|h
 ·obtain⟨z,hz,rfl⟩:=aM.1 h;obtain⟨j,hj⟩:=lg hz;rw[uK] at hj;split at hj
  ·rw[s9] at hj;split at hj
   ·split at hj
    ·cases hj;exact h1
    ·cases hj
   ·refine h2 _ (bq _ (nJ ?_));refine bn (i:=j) ?_;rw[uK,if_pos aa];exact hj
  ·cases hj
 ·exact h2 _ (bI _ h)
theorem Hs {α:Type} {F:α->an} {ys:List α} {y:α} {Fs A:List an} (h1:F y∈A) (h2:∀f∈ys.map F++Fs,f∈A):∀f∈(ys++[y]).map F++Fs,f∈A:=by
 intro f hf;rw[dX] at hf;rcases bB.1 hf with h|h
 ·rcases bB.1 h with h|h
  ·exact h2 _ (bq _ h)
  ·have:f=F y:=by simpa using h
   subst this;exact h1
 ·exact h2 _ (bI _ h)
theorem rX {α:Type} {F:α->List Value} (z:α) {zl:List Value} {k:Nat} (hz:F z=zl) (hl:zl.length=k) (hk:0<k):∀n,jA zl k n=(List.replicate n z).flatMap F:=by
 intro n;apply uH;intro j;have hrep:∀(n:Nat),(List.replicate n z).flatMap F=jA zl k n:=by
  intro n
  induction n with
  |zero=>simp[jA]
  |succ n ih=>
   rw[Kj,dC,ih,hz];have hnk:(n+1)*k=n*k+k:=lU n k;unfold jA;apply uH;intro i;simp only[iY];by_cases h1:i<k
   ·rw[Bp aa];have:(List.range ((n+1)*k))[i]? =some i:=by apply Ge;omega
    rw[this];simp only[pX,uC h1];rw[j7,aG aa];rfl
   ·rw[yl aa,hl];simp only[iY];by_cases h2:i<(n+1)*k
    ·have e1:(List.range ((n+1)*k))[i]? =some i:=Ge h2;have e2:(List.range (n*k))[i-k]? =some (i-k):=by apply Ge;omega
     rw[e1,e2];simp only[pX];have:i%k=(i-k)%k:=by rw[Nat.mod_eq_sub_mod aa]
     rw[this]
    ·rw[gZ (l:=List.range (n*k)) (by rw[Dw];omega),gZ (l:=List.range ((n+1)*k)) (by rw[Dw];omega)]
 rw[hrep]
theorem Eh {α:Type} {ws qs:List α} {i:Nat} {q:α} (h:∀j,j<i->ws[j]? =qs[j]?) (hq:qs[i]? =some q) (hi:i<ws.length):∀j,j<i+1->(ws.set i q)[j]? =qs[j]? :=by
 intro j hj;rw[s9];by_cases e:i=j
 ·subst e;rw[if_pos rfl,if_pos hi,hq]
 ·rw[if_neg e];exact h j aa
theorem R6 {α:Type} {ws qs:List α} {i:Nat} (h:∀j,j<i->ws[j]? =qs[j]?) (h1:ws.length<=i) (h2:ws.length=qs.length):ws=qs:=by
 apply uH;intro j;by_cases e:j<i
 ·exact h j e
 ·rw[gZ aa,gZ aa]
theorem Lz {α β:Type} {F:α->β} {ws:List α} {qs:List β} {i:Nat} {q:α} (h:∀j,j<i->(ws[j]?).map F=qs[j]?) (hq:qs[i]? =some (F q)) (hi:i<ws.length):∀j,j<i+1->((ws.set i q)[j]?).map F=qs[j]? :=by
 intro j hj;rw[s9];by_cases e:i=j
 ·subst e;rw[if_pos rfl,if_pos hi,hq];rfl
 ·rw[if_neg e];exact h j aa
theorem BG {α β:Type} {F:α->β} {ws:List α} {qs:List β} {i:Nat} (h:∀j,j<i->(ws[j]?).map F=qs[j]?) (h1:ws.length<=i) (h2:ws.length=qs.length):ws.map F=qs:=by
 apply uH;intro j;rw[iY];by_cases e:j<i
 ·exact h j e
 ·rw[gZ aa,gZ aa];rfl
theorem LA {α β:Type} {F:α->β} {ws:List α} {qs:List β} {i:Nat} {q:α} (h:∀j,j<i->(ws[j]?).map F=qs[j]?) (hl:ws.length=i) (hq:qs[i]? =some (F q)):∀j,j<i+1->((ws++[q])[j]?).map F=qs[j]? :=by
 intro j hj;by_cases e:j<i
 ·rw[Bp aa];exact h j e
 ·have:j=i:=by omega
  subst this;rw[yl aa,hl,Nat.sub_self,hq];rfl
theorem aJ.shape {e size:Nat} {v:Value} {n:Nat} {xs:List Value} {B:List ae} (h:aJ e size v n xs B):∃p cap,v= .slice p n cap:=by
 rcases h.2 with⟨e1,e2,_⟩|⟨g,cap,cur,e1,_⟩
 ·exact⟨none,0,by rw[e1,e2]⟩
 ·exact⟨_,cap,e1⟩
end Go.V
namespace Go.Proofs
open Tryz
open Go.V
variable {q:Sq} {p:Option Addr} {lss:List (List Pt)} {cp:Nat} {gs:List GM} {g:GM} {v:Value} {l:List Pt}
theorem aeG (hpos:0<lss.length):ai prog 105 [vV p lss cp].toArray [bQ p lss cp] [] (rQ lss):=by
 refine(wK) ?_;intro qs hq hb;have hql:qs.length=lss.length:=by rw[<-hq];simp
 refine am func105 λ_=>(wL) ?_;intro _;refine(eZ)<|(iC)<|(dH)<|(sJ) ?_;refine gz O (λhc9=>?_) (λhc9=>absurd hc9 (by have:=of_decide_eq_false hc9;omega));refine(Jl)<|(gW)<|aU [(3,3),(5,5),(12,20)] (λi=>i<=lss.length) (λi=>[(12,.int .i64 i),(3,.int .u8 (if i=0 then 3 else 0))]) (λ_=>[]) (λ_=>[]) (λi=>lss.length-i) (0) (bf _) ?_;intro i fr hi;refine(cM)<|ao ?_ ?_
 ·intro hc13;have hlt:i<lss.length:=by have:=of_decide_eq_true hc13;omega
  obtain⟨q,hqi⟩:∃q,qs[i]? =some q:=⟨_,aG aa⟩;refine(ix) ?_;refine cU (size:=2) (i:=i) ab O O O O O aa mA aa (flat_take (λ_ _=>O) hqi) O λ_ _=>?_;refine aK ab O O O (aR (xs:=q.cells) mA) O O<|(aq) ?_;intro _;refine(y7)<|(Ox)<|(Ow)<|(jr) ?_;exact⟨i+1,oA,aa,lA,kA,fA,hA⟩
 ·intro hc13;have hge:i=lss.length:=by have:=of_decide_eq_false hc13;omega
  have e3:(if i=0 then(3:Int) else 0)=0:=if_neg aa
  first|rw[e3]|(dsimp only;rw[e3])
  refine(CU) ?_;refine HY (e:=90) (size:=2) ab O O O O O O O .none (aJ.nil 90 2) O mA hpos (Em λ_ _=>O) dp (by show(0+lss.length)*32<=_;omega) O λv' B' hs=>?_;rw[gX,j6] at hs;obtain⟨g,cap,cur,rfl,rfl,hc1,hc2,hc3,hc4⟩:=hs.one hpos;refine(nu)<|aU [(6,6),(25,37)] (λx=>x.1<=lss.length/\aJ 90 2 (.slice (some ⟨g,0,none⟩) lss.length cap) lss.length (qs.flatMap Sq.cells) [(g,.cells x.2 90 (0,0))]) (λx=>[(25,.int .i64 x.1)]) (λ_=>[]) (λx=>[(g,.cells x.2 90 (0,0))]) (λx=>lss.length-x.1) (((0,cur):Nat×Array Value)) (⟨bf _,hs⟩) λ⟨j,cur1⟩ fr1 ⟨hj,hs1⟩=>?_;refine(cM)<|ao ?_ ?_
  ·intro hc26;have hlt1:j<lss.length:=by have:=of_decide_eq_true hc26;omega
   obtain⟨q1,hq1⟩:∃q,qs[j]? =some q:=⟨_,aG aa⟩;refine(rK)<|(bt)<|(aY)<|(mD) ?_;refine bp (s:=2) (i:=j) ab O O O O O aa aa O ?_;refine aK ab O O O (K6 hs1 mA (λ_ _=>O) hq1) O O<|(aB)<|(I2) ?_;refine bp (s:=2) (i:=j) ab O O O O O aa aa O ?_;refine uQ (i:=j) (size:=2) (vs:=q1.cells) ab O hs1 O O O O O O hlt1 (λ_=>uA) λcur2 hs2=>?_;rw[Ve (F:=Sq.cells) (λ_ _=>rfl) hq1] at hs2;refine(rM) ?_;exact⟨(j+1,cur2),oA,⟨by simp only;omega,hs2⟩,lA,kA,fA,hA⟩
  ·intro hc26;refine(jh) ?_;refine eN hs1 tA ?_;refine cI (bQ (some ⟨g,0,none⟩) lss cap) (λhp al=>⟨qs,⟨hq,hb⟩,al _ (.head _),λq hqm=>al _ (.tail _ (.tail _ (bq _ (nJ hqm))))⟩)<|(cO)<|(iw)<|aH [bQ (some ⟨g,0,none⟩) lss cap] [] ?_;exact ww
theorem Md:ai prog 108 [jb p lss cp,.int .u8 0].toArray [bQ p lss cp] [] (rQ lss):=by
 refine(wK) ?_;intro qs hq hb;have hql:qs.length=lss.length:=by rw[<-hq];simp
 refine am func108 λ_=>(au) ?_;intro _;refine(aq) ?_;intro _;refine(iu)<|(dH) ?_;refine pk (e:=90) (size:=2) ab O O O O O O nA O O O (bg _) O (by show lss.length*32<=_;omega) O λv0 B0 hs=>?_;rw[rX (F:=Sq.cells) (zl:=[.int .u8 0,.slice none 0 0]) (k:=2) ⟨none,[],0⟩ rfl rfl bz] at hs;refine(ub) ?_;obtain⟨p0,cap,e0⟩:=hs.shape;subst e0;refine(qB)<|(gW)<|aU [(6,6),(14,27)] (λx=>x.1<=lss.length/\x.2.2.length=lss.length/\(∀j,j<x.1->x.2.2[j]? =qs[j]?)/\aJ 90 2 (.slice p0 lss.length cap) lss.length (x.2.2.flatMap Sq.cells) x.2.1) (λx=>[(14,.int .i64 x.1)]) (λ_=>[]) (λx=>x.2.1) (λx=>lss.length-x.1) (((0,B0,List.replicate lss.length ⟨none,[],0⟩):Nat×List ae×List Sq)) (⟨bf _,by simp,λ_ h=>absurd h (iZ _),hs⟩) λ⟨i,B1,ws⟩ fr ⟨hi,hwl,hag,hs1⟩=>?_;refine(cM)<|ao ?_ ?_
 ·intro hc15;have hlt:i<lss.length:=by have:=of_decide_eq_true hc15;omega
  obtain⟨q,hqi⟩:∃q,qs[i]? =some q:=⟨_,aG aa⟩;obtain⟨w0,hwi⟩:∃w0,ws[i]? =some w0:=⟨_,aG (by simp only at hwl;omega)⟩;obtain⟨g,cap',cur,e5,rfl,hc1,hc2,hc3,hc4⟩:=hs1.one aa;cases e5;refine(Oz) ?_;refine cU (size:=2) (i:=i) ab O O O O O aa mA aa (flat_take (λ_ _=>O) hqi) O λ_ _=>?_;refine aK ab O O O (aR (xs:=q.cells) mA) O O<|(aB)<|(I2) ?_;refine bp (s:=2) (i:=i) ab O O O O O aa aa O ?_;refine uQ (i:=i) (size:=2) (vs:=q.cells) ab O hs1 O O O O O O hlt (λ_=>uA) λcur2 hs2=>?_;rw[tI (F:=Sq.cells) q (λ_ _=>rfl) hwi] at hs2;refine(rM) ?_;exact⟨(i+1,_,ws.set i q),oA,⟨by simp only;omega,by simpa using hwl,Eh hag hqi (by simp only at hwl;omega),hs2⟩,lA,kA,fA,hA⟩
 ·intro hc15;refine(jh) ?_;have hws:ws=qs:=R6 hag (by have:=of_decide_eq_false hc15;simp only at*;omega) (by simp only at*;omega);subst hws;refine eN hs1 tA ?_;refine cI (bQ p0 lss cap) (λhp al=>⟨ws,⟨hq,hb⟩,al _ (.head _),λq hqm=>al _ (.tail _ (.tail _ (bq _ (nJ hqm))))⟩)<|(cO)<|(iw)<|aH [bQ p0 lss cap] [] ?_;exact ww
theorem aiJ:ai prog 122 [gv g v].toArray [aE g v] [] (Is (.int .u8 0)):=by
 cases g with
 |ls l=>
  refine am func122 λ_=>(au) ?_;intro _;refine(fP)<|(dF)<|(pL)<|aI eA call29 (qQ (l:=l)) λv1 Fs1 ⟨q,e1,e2,e3⟩=>?_;subst e2;subst e3;exact(Ox)<|mG
 |mls l=>
  refine am func122 λ_=>(au) ?_;intro _;refine(fP)<|(ot)<|(pL)<|aI eA call35 (qP (lss:=l)) λv1 Fs1 ⟨p,cp,e2,e3⟩=>?_;subst e2;subst e3;exact(Ov)<|mG
 |gc l=>
  refine am func122 λ_=>(au) ?_;intro _;refine(fP)<|(dF)<|(pO)<|aI eA call39 (sb (gs:=l)) λv1 Fs1 ⟨p,cp,e2,e3⟩=>?_;subst e2;subst e3;refine aj eA call94 (UY)<|mG
theorem UX (IH:∀g∈gs,∀v,ai prog 123 [gv g v,.int .u8 0].toArray [aE g v] [] (rR g)):ai prog 112 [pn p gs cp,.int .u8 0].toArray [dA p gs cp] [] (FJ gs):=by
 refine(CT) ?_;intro xs hq hb;have hql:xs.length=gs.length:=by rw[<-hq];simp
 refine am func112 λ_=>(au) ?_;intro _;refine(aq) ?_;intro _;refine(iu)<|(dH) ?_;refine pk (e:=61) (size:=2) ab O O O O O O nA O O O (bg _) O (by show gs.length*24<=_;omega) O λv0 B0 hs=>?_;rw[rX (F:=dz) (zl:=[.int .i64 0,.nilIface]) (k:=2) (GM.gc [],.nilIface) rfl rfl bz] at hs;refine(ub) ?_;obtain⟨p0,cap,e0⟩:=hs.shape;subst e0;refine(qB)<|(gW)<|aU [(6,6),(14,27)] (λx=>x.1<=gs.length/\x.2.2.length=gs.length/\(∀j,j<x.1->(x.2.2[j]?).map (·.1)=gs[j]?)/\aJ 61 2 (.slice p0 gs.length cap) gs.length (x.2.2.flatMap dz) x.2.1) (λx=>[(14,.int .i64 x.1)]) (λx=>(x.2.2.take x.1).map (λx=>aE x.1 x.2)) (λx=>x.2.1) (λx=>gs.length-x.1) (((0,B0,List.replicate gs.length (GM.gc [],.nilIface)):Nat×List ae×List (GM×Value))) (⟨bf _,by simp,λ_ h=>absurd h (iZ _),hs⟩) λ⟨i,B1,ws⟩ fr ⟨hi,hwl,hag,hs1⟩=>?_;refine(cM)<|ao ?_ ?_
 ·intro hc15;have hlt:i<gs.length:=by have:=of_decide_eq_true hc15;omega
  obtain⟨x,hqi⟩:∃q,xs[i]? =some q:=⟨_,aG aa⟩;obtain⟨w0,hwi⟩:∃w0,ws[i]? =some w0:=⟨_,aG (by simp only at hwl;omega)⟩;obtain⟨g,cap',cur,e5,rfl,hc1,hc2,hc3,hc4⟩:=hs1.one aa;cases e5;have hgi:gs[i]? =some x.1:=by rw[<-hq,iY,hqi];rfl
  refine(Oz) ?_;refine cU (size:=2) (i:=i) ab O O O O O aa mA aa (flat_take (λ_ _=>O) hqi) O λ_ _=>?_;refine aK ab O O O (aR (xs:=dz x) mA) O O<|(aB) ?_;refine cL (aE x.1 x.2) (λhp al=>al _ (.tail _ (bI _ (.tail _ (bq _ (aM.2 ⟨x,qR hqi,O⟩)))))) ?_;refine aI eA call123 (IH x.1 (bn hgi) x.2) λv1 Fs1 ⟨u,e1,e2⟩=>?_;subst e1;subst e2;refine dP (φ:=u.oneCell'=true) (λhp al=>dE (al (aE x.1 u) (.head _))) λhu=>?_;refine bp (s:=2) (i:=i) ab O O O O O aa aa O ?_;refine uQ (i:=i) (size:=2) (vs:=dz (x.1,u)) ab O hs1 O O O O O (by simp[dz,gN,hu]) hlt (λ_=>uA) λcur2 hs2=>?_;rw[tI (F:=dz) (x.1,u) (λ_ _=>rfl) hwi] at hs2;refine(rM) ?_;exact⟨(i+1,_,ws.set i (x.1,u)),by simp only;omega,⟨by simp only;omega,by simpa using hwl,Lz hag hgi (by simp only at hwl;omega),hs2⟩,lA,kA,BR mA sA,hA⟩
 ·intro hc15;refine(jh) ?_;have hws:ws.map (·.1)=gs:=BG hag (by have:=of_decide_eq_false hc15;simp only at*;omega) (by simp only at*;omega);have hti:ws.take i=ws:=eQ (by have:=of_decide_eq_false hc15;simp only at*;omega);refine eN hs1 tA ?_;refine cI (dA p0 gs cap) (λhp al=>⟨ws,⟨hws,hb⟩,al _ (.head _),λy hy=>al (aE y.1 y.2) (.tail _ (bq _ (aM.2 ⟨y,by rw[hti];exact hy,O⟩)))⟩)<|(cO)<|(iw)<|aH [dA p0 gs cap] [] ?_;exact ww
theorem U5:∀(k:Nat) (g:GM) (v:Value),SizeOf.sizeOf g<=k->ai prog 123 [gv g v,.int .u8 0].toArray [aE g v] [] (rR g)
 |0,g,v,h=>by cases g<;>simp at h
 |k+1,.ls l,v,h=>by
  refine am func123 λ_=>(au) ?_;intro _;refine(aq) ?_;intro _;refine(iu)<|(dF)<|(pL)<|aI eA call29 (qQ (l:=l)) λv1 Fs1 ⟨q,e1,e2,e3⟩=>?_;subst e2;subst e3;subst e1;refine(aB)<|(I2)<|aI eA call43 (yE (q:=q)) λv2 Fs2 ⟨u,e4,e5⟩=>?_;subst e4;subst e5;refine dP (φ:=u.oneCell'=true) (λhp al=>dE (al (aE _ u) (.head _))) λhu=>(wM)<|aH [aE (.ls q.l) u] [] ?_;exact vk
 |k+1,.mls l,v,h=>by
  refine am func123 λ_=>(au) ?_;intro _;refine(aq) ?_;intro _;refine(iu)<|(ot)<|(pL)<|aI eA call35 (qP (lss:=l)) λv1 Fs1 ⟨p,cp,e2,e3⟩=>?_;subst e2;subst e3;refine(aB)<|aI eA call108 (Md (p:=p) (lss:=l) (cp:=cp)) λv3 Fs3 ⟨p3,cp3,e6,e7⟩=>?_;subst e6;subst e7;refine aI eA call49 (yD (lss:=l)) λv2 Fs2 ⟨u,e4,e5⟩=>?_;subst e4;subst e5;refine dP (φ:=u.oneCell'=true) (λhp al=>dE (al (aE _ u) (.head _))) λhu=>(wM)<|aH [aE (.mls l) u] [] ?_;exact vk
 |k+1,.gc gs,v,h=>by
  have IH:∀g∈gs,∀v,ai prog 123 [gv g v,.int .u8 0].toArray [aE g v] [] (rR g):=λg hg v=>U5 k g v (by have:=vN hg;simp at h;omega);refine am func123 λ_=>(au) ?_;intro _;refine(aq) ?_;intro _;refine(iu)<|(dF)<|(pO)<|aI eA call39 (sb (gs:=gs)) λv1 Fs1 ⟨p,cp,e2,e3⟩=>?_;subst e2;subst e3;refine(aB)<|aI eA call112 (UX (p:=p) (cp:=cp) IH) λv3 Fs3 ⟨p3,cp3,e6,e7⟩=>?_;subst e6;subst e7;refine aI eA call53 (Au (gs:=gs)) λv2 Fs2 ⟨u,e4,e5⟩=>?_;subst e4;subst e5;refine dP (φ:=u.oneCell'=true) (λhp al=>dE (al (aE _ u) (.head _))) λhu=>(wM)<|aH [aE (.gc gs) u] [] ?_;exact vk
end Go.Proofs
namespace Go.Proofs
open Tryz
open Go.V
variable {q:Sq} {p:Option Addr} {lss:List (List Pt)} {cp:Nat} {gs:List GM} {g:GM} {v:Value} {l:List Pt}
theorem xN (l:List Pt):gN (bl l)=true:=Em (F:=λp:Pt=>[.float .f64 p.1,.float .f64 p.2]) λ_ _=>rfl
theorem VS:ai prog 100 [iv 0].toArray [] [] (Is (.int .u8 0)):=by
 refine am func100 λ_=>(Jl)<|(Ou)<|(I1)<|cV
theorem acE (h0:0<l.length) (hb:l.length<=1048576):ai prog 97 [xj p l cp,iv 0].toArray [gF p l cp] [] (Da l):=by
 refine am func97 λ_=>(wL) ?_;intro _;refine(qC)<|aj eA call100 (VS)<|(cF)<|(dH)<|(aB)<|(dH)<|(aB)<|(C4)<|(C0)<|(jg)<|(bR) ?_;rw[show((2*l.length:Nat):Int)-((2*l.length:Nat):Int)%2=((2*l.length:Nat):Int) from by omega];refine(aY) ?_;refine pk (e:=45) (size:=1) ab O O O O O O nA O O O (bg _) O (by show 2*l.length*8<=_;omega) O λv0 B0 hs=>?_;obtain⟨g,cap,cur,rfl,rfl,hc1,hc2,hc3,hc4⟩:=hs.one aa;refine(iz) ?_;refine ah1 (e:=45) ab O O O O O O hs O mA aa (xN l) (λ_=>uA) O λcur2 hs2=>(cn) ?_;refine eN hs2 tA<|(cO)<|aj eA call137 (LW (p:=some ⟨g,0,none⟩) (l:=l) (cp:=cap))<|(eF)<|aH [gF (some ⟨g,0,none⟩) l cap] [] ?_;exact⟨⟨⟨some ⟨g,0,none⟩,l,cap⟩,O,O,O⟩,O⟩
abbrev HK (p:Option Addr) (l:List Pt) (cp:Nat):Value:= .agg #[iv 2,iv 0,xj p l cp,.slice none 0 0]
abbrev Sq.ig (q:Sq):List Value:=[iv 2,iv 0,xj q.p q.l q.cp,.slice none 0 0]
theorem Mr (h0:0<l.length) (hb:l.length<=1048576):ai prog 42 [HK p l cp].toArray [gF p l cp] [] (Da l):=by
 refine am func42 λ_=>(au) ?_;intro _;refine(aq) ?_;intro _;refine(I5)<|(x7)<|(gH)<|(fR)<|(dW)<|aI eA call97 (acE h0 hb) λv1 Fs1 ⟨q,e1,e2,e3⟩=>?_;subst e2;subst e3;refine(Fo)<|(eF)<|aH [q.fact] [] ?_;exact⟨⟨q,e1,O,O⟩,O⟩
abbrev MM (p:Option Addr) (lss:List (List Pt)) (cp:Nat):Value:= .slice p lss.length cp
def lx (lss:List (List Pt)):Prop:=lss.length<=1048576/\∀l∈lss,0<l.length/\l.length<=1048576
def nj (p:Option Addr) (lss:List (List Pt)) (cp:Nat):an where
 p h:=∃qs:List Sq,qs.map (·.l)=lss/\(bF 4 (MM p lss cp) lss.length (qs.flatMap Sq.ig)).p h/\∀q∈qs,q.fact.p h
 mono:=λhle ⟨qs,h1,h2,h3⟩=>⟨qs,h1,(bF _ _ _ _).mono hle h2,λq hq=>q.fact.mono hle (h3 q hq)⟩
theorem Q3 {P:Program} {Fs:List an} {L:List ae} {fid:FuncId} {args:Array Value} {R:cZ} {p:Option Addr} {lss:List (List Pt)} {cp:Nat} (hm:nj p lss cp∈Fs)
  (K:∀qs:List Sq,qs.map (·.l)=lss->ai P fid args (bF 4 (MM p lss cp) lss.length (qs.flatMap Sq.ig)::(qs.map Sq.fact++Fs)) L R):ai P fid args Fs L R:=λhp w sa al=>by
 obtain⟨qs,h1,h2,h3⟩:=al _ hm;exact K qs h1 hp w sa (.cons h2 (.append (Cz h3) al))
abbrev xG (k:Int) (p:Option Addr) (lss:List (List Pt)) (cp:Nat):Value:= .agg #[iv k,iv 0,.slice none 0 0,MM p lss cp]
theorem aeP (hg:lx lss) (h0:0<lss.length):ai prog 48 [xG 5 p lss cp].toArray [nj p lss cp] [] (rQ lss):=by
 refine Q3 (.head _) ?_;intro qs hq;have hql:qs.length=lss.length:=by rw[<-hq];simp
 have hb:=hg.1;refine am func48 λ_=>(au) ?_;intro _;refine(aq) ?_;intro _;refine(eZ)<|(pG)<|aU [(3,3),(5,5),(9,26)] (λx=>x.1<=lss.length/\x.2.2.length=x.1/\(∀j,j<x.1->(x.2.2[j]?).map (·.l)=lss[j]?)/\aJ 90 2 x.2.1.1 x.1 (x.2.2.flatMap Sq.cells) x.2.1.2) (λx=>[(9,iv x.1),(3,x.2.1.1)]) (λx=>x.2.2.map Sq.fact) (λx=>x.2.1.2) (λx=>lss.length-x.1) (((0,(.slice none 0 0,[]),[]):Nat×(Value×List ae)×List Sq)) (⟨bf _,O,λ_ h=>absurd h (iZ _),aJ.nil 90 2⟩) λ⟨i,⟨v0,B0⟩,ws⟩ fr ⟨hi,hwl,hag,hs⟩=>?_;refine(cM)<|ao ?_ ?_
 ·intro hc10;have hlt:i<lss.length:=by have:=of_decide_eq_true hc10;omega
  obtain⟨q,hqi⟩:∃q,qs[i]? =some q:=⟨_,aG aa⟩;have hli:lss[i]? =some q.l:=by rw[<-hq,iY,hqi];rfl
  have hgl:=hg.2 q.l (bn hli);refine(ix) ?_;refine cU (size:=4) (i:=i) ab O O O O O aa mA aa (flat_take (λ_ _=>O) hqi) O λ_ _=>?_;refine aK ab O O O (aR (xs:=q.ig) mA) O O<|(aq) ?_;intro _;refine(wz) ?_;refine cL q.fact (λhp al=>al _ (.tail _ (bI _ (.tail _ (bq _ (nJ (qR hqi))))))) ?_;refine aI eA call42 (Mr (p:=q.p) (l:=q.l) (cp:=q.cp) hgl.1 hgl.2) λv1 Fs1 ⟨q1,e1,e2,e3⟩=>?_;subst e2;subst e3;refine(eD) ?_;intro b1;refine di (e:=90) (size:=2) ab O O O O O O O (B:=B0) tA hs O (bD mA) O O dp (by show(i+1)*32<=_;omega) O λv' B' hs'=>?_;have hs2:aJ 90 2 v' (i+1) ((ws++[q1]).flatMap Sq.cells) B':=by rw[ft];simpa using hs'
  refine(jr) ?_;exact⟨(i+1,(v',B'),ws++[q1]),by simp only;omega,⟨hlt,by simp at hwl ⊢;omega,LA hag (by simpa using hwl) (by rw[hli,e1]),hs2⟩,lA,kA,Hs mA sA,hA⟩
 ·intro hc10;have hge:i=lss.length:=by have:=of_decide_eq_false hc10;simp only at hi;omega
  have hmap:ws.map (·.l)=lss:=BG hag (by simp only at hwl;omega) (by simp only at hwl;omega);subst hge;obtain⟨p0,cap,e6⟩:=hs.shape;simp only at e6;subst e6;refine(jh)<|(ce) ?_;refine eN hs tA ?_;refine cI (bQ p0 lss cap) (λhp al=>⟨ws,⟨hmap,hb⟩,al _ (.head _),λq hqm=>al _ (.tail _ (bq _ (nJ hqm)))⟩)<|(aY)<|(sO)<|(aN) ?_;refine gz O (λhc29=>absurd hc29 (by have:=of_decide_eq_true hc29;omega)) (λhc29=>(Fu)<|aI eA call109 (BN (lss:=lss)) λv2 Fs2 ⟨p2,cp2,e7,e8⟩=>?_);subst e7;subst e8;refine(eF)<|aH [bQ p2 lss cp2] [] ?_;exact ww
theorem adC (hg:lx lss) (h0:0<lss.length):ai prog 44 [xG 3 p lss cp].toArray [nj p lss cp] [] (rQ lss):=by
 refine Q3 (.head _) ?_;intro qs hq;have hql:qs.length=lss.length:=by rw[<-hq];simp
 have hb:=hg.1;refine am func44 λ_=>(au) ?_;intro _;refine(aq) ?_;intro _;refine(eZ)<|(pG)<|aU [(3,3),(5,5),(9,26)] (λx=>x.1<=lss.length/\x.2.2.length=x.1/\(∀j,j<x.1->(x.2.2[j]?).map (·.l)=lss[j]?)/\aJ 90 2 x.2.1.1 x.1 (x.2.2.flatMap Sq.cells) x.2.1.2) (λx=>[(9,iv x.1),(3,x.2.1.1)]) (λx=>x.2.2.map Sq.fact) (λx=>x.2.1.2) (λx=>lss.length-x.1) (((0,(.slice none 0 0,[]),[]):Nat×(Value×List ae)×List Sq)) (⟨bf _,O,λ_ h=>absurd h (iZ _),aJ.nil 90 2⟩) λ⟨i,⟨v0,B0⟩,ws⟩ fr ⟨hi,hwl,hag,hs⟩=>?_;refine(cM)<|ao ?_ ?_
 ·intro hc10;have hlt:i<lss.length:=by have:=of_decide_eq_true hc10;omega
  obtain⟨q,hqi⟩:∃q,qs[i]? =some q:=⟨_,aG aa⟩;have hli:lss[i]? =some q.l:=by rw[<-hq,iY,hqi];rfl
  have hgl:=hg.2 q.l (bn hli);refine(ix) ?_;refine cU (size:=4) (i:=i) ab O O O O O aa mA aa (flat_take (λ_ _=>O) hqi) O λ_ _=>?_;refine aK ab O O O (aR (xs:=q.ig) mA) O O<|(aq) ?_;intro _;refine(wz) ?_;refine cL q.fact (λhp al=>al _ (.tail _ (bI _ (.tail _ (bq _ (nJ (qR hqi))))))) ?_;refine aI eA call42 (Mr (p:=q.p) (l:=q.l) (cp:=q.cp) hgl.1 hgl.2) λv1 Fs1 ⟨q1,e1,e2,e3⟩=>?_;subst e2;subst e3;refine(eD) ?_;intro b1;refine di (e:=90) (size:=2) ab O O O O O O O (B:=B0) tA hs O (bD mA) O O dp (by show(i+1)*32<=_;omega) O λv' B' hs'=>?_;have hs2:aJ 90 2 v' (i+1) ((ws++[q1]).flatMap Sq.cells) B':=by rw[ft];simpa using hs'
  refine(jr) ?_;exact⟨(i+1,(v',B'),ws++[q1]),by simp only;omega,⟨hlt,by simp at hwl ⊢;omega,LA hag (by simpa using hwl) (by rw[hli,e1]),hs2⟩,lA,kA,Hs mA sA,hA⟩
 ·intro hc10;have hge:i=lss.length:=by have:=of_decide_eq_false hc10;simp only at hi;omega
  have hmap:ws.map (·.l)=lss:=BG hag (by simp only at hwl;omega) (by simp only at hwl;omega);subst hge;obtain⟨p0,cap,e6⟩:=hs.shape;simp only at e6;subst e6;refine(jh)<|(ce) ?_;refine eN hs tA ?_;refine cI (bQ p0 lss cap) (λhp al=>⟨ws,⟨hmap,hb⟩,al _ (.head _),λq hqm=>al _ (.tail _ (bq _ (nJ hqm)))⟩)<|(aY)<|(sO)<|(aN) ?_;refine gz O (λhc29=>absurd hc29 (by have:=of_decide_eq_true hc29;omega)) (λhc29=>(Fu)<|aI eA call105 (aeG (lss:=lss) h0) λv2 Fs2 ⟨p2,cp2,e7,e8⟩=>?_);subst e7;subst e8;refine(eF)<|aH [bQ p2 lss cp2] [] ?_;exact ww
end Go.Proofs
namespace Go.Proofs
open Tryz
open Go.V
variable {q:Sq} {p:Option Addr} {lss:List (List Pt)} {cp:Nat} {gs:List GM} {g:GM} {v:Value} {l:List Pt}
def wi (lss:List (List Pt)) (v:Value):an where
 p h:=∃p cp r,v=oz 141 r/\(aO r 0 [vV p lss cp,.int .u8 0]).p h/\(bQ p lss cp).p h
 mono:=λhle ⟨p,cp,r,e,h1,h2⟩=>⟨p,cp,r,e,(aO _ _ _).mono hle h1,(bQ _ _ _).mono hle h2⟩
theorem adG:ai prog 45 [jb p lss cp].toArray [bQ p lss cp] [] (λv Fs' L'=>(∃u,v= .agg #[iv 3,u]/\Fs'=[wi lss u])/\L'=[]):=by
 refine am func45 λ_=>(au) ?_;intro r;refine(aq) ?_;intro _;refine(eZ)<|(rE)<|(cN) ?_;refine xK (.leave .all) (cL (wi lss (oz 141 r)) (λhp al=>⟨p,cp,r,O,al _ (.head _),al _ (.tail _ (.head _))⟩)<|(eF) ?_);exact .ret (.cons (xm ab O O O mA O) (.nil)) (Fs':=[wi lss (oz 141 r)]) (mP (.head _) gy) (oZ _) ⟨⟨_,O,O⟩,O⟩
theorem akF {k:Int}:ai prog 82 [.agg #[iv k,v],iv k].toArray [] [] (Is (.tuple #[])):=by
 refine am func82 λ_=>(au) ?_;intro _;refine(iu)<|(aB)<|(x7)<|(aN) ?_;refine gz O (λhc7=>absurd hc7 (by simp at hc7)) (λhc7=>(A0)<|ed [] [] ?_);exact gk
theorem ab5 {P:Program} {Fs:List an} {L:List ae} {fid:FuncId} {args:Array Value} {R:cZ} {lss:List (List Pt)} {v:Value} (hm:wi lss v∈Fs)
  (K:∀p cp (r:Nat),v=oz 141 r->ai P fid args (aO r 0 [vV p lss cp,.int .u8 0]::bQ p lss cp::Fs) L R):ai P fid args Fs L R:=λhp w sa al=>by
 obtain⟨p,cp,r,e,h1,h2⟩:=al _ hm;exact K p cp r e hp w sa (.cons h1 (.cons h2 al))
theorem SC:ai prog 31 [.agg #[iv 3,v]].toArray [wi lss v] [] (rQ lss):=by
 refine ab5 (.head _) ?_;intro p cp r e;subst e;refine am func31 λ_=>(au) ?_;intro _;refine(aq) ?_;intro _;refine(gu)<|aj eA call82 (akF)<|(iu)<|(I9)<|aH [bQ p lss cp] [] ?_;exact⟨⟨p,cp,O,O⟩,O⟩
theorem aiO:ai prog 119 [jb p lss cp].toArray [bQ p lss cp] [] (rQ lss):=by
 refine am func119 λ_=>(au) ?_;intro _;refine(aq) ?_;intro _;refine(gu)<|aI eA call108 (Md (lss:=lss)) λv1 Fs1 ⟨p1,cp1,e2,e3⟩=>?_;subst e2;subst e3;refine(eF)<|aH [bQ p1 lss cp1] [] ?_;exact ww
theorem R8:ai prog 57 [jb p lss cp].toArray [bQ p lss cp] [] (rQ lss):=by
 refine am func57 λ_=>(au) ?_;intro _;refine(aq) ?_;intro _;refine(iu)<|aI eA call109 (BN (lss:=lss)) λv1 Fs1 ⟨p1,cp1,e2,e3⟩=>?_;subst e2;subst e3;refine aI eA call119 (aiO (lss:=lss)) λv2 Fs2 ⟨p2,cp2,e4,e5⟩=>?_;subst e4;subst e5;refine(eF)<|aH [bQ p2 lss cp2] [] ?_;exact ww
def Np (lss:List (List Pt)):GM:=match lss with
 |[l]=> .ls l
 |lss=> .mls lss
theorem aiE:ai prog 17 [.agg #[iv 3,v]].toArray [wi lss v] [] (rR (Np lss)):=by
 rcases Classical.em (∃l,lss=[l]) with⟨l,rfl⟩|hne
 ·refine am func17 λ_=>(au) ?_;intro _;refine(aq) ?_;intro _;refine(iu)<|(ot)<|(pO)<|aI eA call31 (SC (lss:=[l])) λv1 Fs1 ⟨p1,cp1,e2,e3⟩=>?_;subst e2;subst e3;refine aI eA call57 (R8 (lss:=[l])) λv2 Fs2 ⟨p2,cp2,e4,e5⟩=>?_;subst e4;subst e5;refine(aq) ?_;intro _;refine(dS)<|(cR)<|(IZ)<|(kT)<|(vE)<|(cR)<|aI eA call59 (vW (i:=0) (l:=l) O) λv3 Fs3 ⟨q,e6,e7,e8⟩=>?_;subst e7;subst e8;subst e6;refine aI eA call43 (yE (q:=q)) λv4 Fs4 ⟨u,e9,e10⟩=>?_;subst e9;subst e10;refine dP (φ:=u.oneCell'=true) (λhp al=>dE (al (aE _ u) (.head _))) λhu=>(eF)<|(vv)<|aH [aE (.ls q.l) u] [] ?_;exact vk
 ·have hgm:Np lss= .mls lss:=by
   match lss,hne with
   |[],_=>rfl
   |[l],h=>exact absurd ⟨l,rfl⟩ h
   |a::b::r,_=>rfl
  have hlen:lss.length≠1:=λh=>hne (by
   match lss,h with
   |[l],_=>exact⟨l,rfl⟩)
  rw[hgm];refine am func17 λ_=>(au) ?_;intro _;refine(aq) ?_;intro _;refine(iu)<|(ot)<|(pO)<|aI eA call31 (SC (lss:=lss)) λv1 Fs1 ⟨p1,cp1,e2,e3⟩=>?_;subst e2;subst e3;refine aI eA call57 (R8 (lss:=lss)) λv2 Fs2 ⟨p2,cp2,e4,e5⟩=>?_;subst e4;subst e5;refine(aq) ?_;intro _;refine(dS)<|(cR)<|(IZ)<|(kT)<|(aN) ?_;refine gz O (λhc36=>absurd hc36 (by have:=of_decide_eq_true hc36;omega)) (λhc36=>(Xe)<|aI eA call49 (yD (lss:=lss)) λv4 Fs4 ⟨u,e9,e10⟩=>?_);subst e9;subst e10;refine dP (φ:=u.oneCell'=true) (λhp al=>dE (al (aE _ u) (.head _))) λhu=>(wM)<|aH [aE (.mls lss) u] [] ?_;exact vk
end Go.Proofs
namespace Go.Proofs
open Tryz
open Go.V
variable {q:Sq} {p:Option Addr} {lss:List (List Pt)} {cp:Nat} {gs:List GM} {g:GM} {v:Value} {l:List Pt}
theorem aiC (h0:0<l.length) (hb:l.length<=1048576):ai prog 16 [HK p l cp].toArray [gF p l cp] [] (rR (.ls l)):=by
 refine am func16 λ_=>(au) ?_;intro _;refine(aq) ?_;intro _;refine(I5)<|(dF)<|(dY)<|(gL)<|(dY)<|(pF)<|(ba)<|(gq)<|aI eA call42 (Mr h0 hb) λv1 Fs1 ⟨q,e1,e2,e3⟩=>?_;subst e2;subst e3;subst e1;refine aI eA call43 (yE (q:=q)) λv4 Fs4 ⟨u,e9,e10⟩=>?_;subst e9;subst e10;refine dP (φ:=u.oneCell'=true) (λhp al=>dE (al (aE _ u) (.head _))) λhu=>(eF)<|(vv)<|aH [aE (.ls q.l) u] [] ?_;exact vk
theorem aiB (hg:lx lss) (h0:0<lss.length):ai prog 16 [xG 5 p lss cp].toArray [nj p lss cp] [] (rR (.mls lss)):=by
 refine am func16 λ_=>(au) ?_;intro _;refine(aq) ?_;intro _;refine(I5)<|(ot)<|(dY)<|(gL)<|(dY)<|(pF)<|(ba)<|(gq)<|aI eA call48 (aeP hg h0) λv1 Fs1 ⟨p1,cp1,e2,e3⟩=>?_;subst e2;subst e3;refine aI eA call49 (yD (lss:=lss)) λv4 Fs4 ⟨u,e9,e10⟩=>?_;subst e9;subst e10;refine dP (φ:=u.oneCell'=true) (λhp al=>dE (al (aE _ u) (.head _))) λhu=>(eF)<|(vv)<|aH [aE (.mls lss) u] [] ?_;exact vk
theorem aiz (hg:lx lss) (h0:0<lss.length):ai prog 16 [xG 3 p lss cp].toArray [nj p lss cp] [] (λv Fs' L'=>(∃u,v= .agg #[iv 3,u]/\Fs'=[wi lss u])/\L'=[]):=by
 refine am func16 λ_=>(au) ?_;intro _;refine(aq) ?_;intro _;refine(I5)<|(dF)<|(Fz)<|(pF)<|(ba)<|(gq)<|aI eA call44 (adC hg h0) λv1 Fs1 ⟨p1,cp1,e2,e3⟩=>?_;subst e2;subst e3;refine aI eA call45 (adG (lss:=lss)) λv4 Fs4 ⟨u,e9,e10⟩=>?_;subst e9;subst e10;refine dP (φ:=u.oneCell'=true) (λhp al=>by obtain⟨_,_,_,e,_⟩:=al (wi lss u) (.head _);rw[e];rfl) λhu=>(eF)<|(vv)<|aH [wi lss u] [] ?_;exact vk
abbrev HJ:Value:= .agg #[iv 0,iv 0,.slice none 0 0,.slice none 0 0]
theorem akn:ai prog 52 [HJ].toArray [] [] (FJ []):=by
 refine nT (dA none [] 0) (λhp _=>⟨[],⟨O,bf _⟩,⟨O,.inl ⟨none,0,O,O⟩⟩,λ_ h=>nomatch h⟩) ?_;refine am func52 λ_=>(au) ?_;intro _;refine(aq) ?_;intro _;refine(I5)<|(sO)<|(vq)<|(cN)<|(dW)<|aj eA call100 (VS)<|aI eA call112 (UX (p:=none) (gs:=[]) (cp:=0) (λ_ h=>nomatch h)) λv1 Fs1 ⟨p1,cp1,e2,e3⟩=>?_;subst e2;subst e3;refine(wM)<|aH [dA p1 [] cp1] [] ?_;exact ww
theorem aiA:ai prog 16 [HJ].toArray [] [] (rR (.gc [])):=by
 refine am func16 λ_=>(au) ?_;intro _;refine(aq) ?_;intro _;refine(I5)<|(ud)<|(OB)<|(ba)<|(gq)<|aI eA call52 (akn) λv1 Fs1 ⟨p1,cp1,e2,e3⟩=>?_;subst e2;subst e3;refine aI eA call53 (Au (gs:=[])) λv4 Fs4 ⟨u,e9,e10⟩=>?_;subst e9;subst e10;refine dP (φ:=u.oneCell'=true) (λhp al=>dE (al (aE _ u) (.head _))) λhu=>(eF)<|aH [aE (.gc []) u] [] ?_;exact vk
theorem agC:ai prog 80 [.int .u8 0].toArray [] [] (Is (.bool false)):=by
 refine am func80 λ_=>(Jl)<|(Ou)<|(x7)<|cV
theorem agx:ai prog 81 [.int .u8 0].toArray [] [] (Is (.bool false)):=by
 refine am func81 λ_=>(Jl)<|(Ou)<|(x7)<|cV
theorem Vh {i:Nat} {x:Pt} (h:l[i]? =some x):bl (l.take i)++[.float .f64 x.1,.float .f64 x.2]=bl (l.take (i+1)):=by
 have hi:=da h;have:l.take (i+1)=l.take i++[x]:=by
  rw[Gf,h];rfl
 rw[this];simp[bl]
abbrev XF (l:List Pt):cZ:=λv Fs' L'=>(∃p cp,v=HK p l cp/\Fs'=[gF p l cp])/\L'=[]
theorem adH (hb:l.length<=1048576):ai prog 83 [jF p l cp].toArray [gF p l cp] [] (XF l):=by
 refine am func83 λ_=>(au) ?_;intro _;refine(aq) ?_;intro _;refine(gu)<|(Oy)<|(I1)<|(cN)<|(aq) ?_;intro r3;refine(dS)<|(vD)<|aU [(4,5),(10,49)] (λx=>x.1<=l.length/\aJ 45 1 (.slice x.2.1.1 (2*x.1) x.2.1.2) (2*x.1) (bl (l.take x.1)) x.2.2) (λx=>[(4,iv x.1)]) (λ_=>[]) (λx=>(r3,.cells #[iv 2,iv 0,.slice x.2.1.1 (2*x.1) x.2.1.2,.slice none 0 0] 41 (0,0))::x.2.2) (λx=>l.length-x.1) (((0,(none,0),[]):Nat×(Option Addr×Nat)×List ae)) (⟨bf _,aJ.nil 45 1⟩) λ⟨i,⟨p1,c1⟩,B⟩ fr ⟨hi,hs⟩=>?_;refine(eE)<|(eH)<|(Ji)<|(kU)<|ao ?_ ?_
 ·intro hc13;have hlt:i<l.length:=by have:=of_decide_eq_true hc13;omega
  obtain⟨x,hx⟩:∃x,l[i]? =some x:=⟨_,aG hlt⟩;refine(mB)<|aj eA call102 (H0 hx)<|(aq) ?_;intro _;refine(cu)<|(fR)<|(pN)<|(eD) ?_;intro b1;refine di (e:=45) (size:=1) ab O O O O O O O (B:=B) tA hs O (bD mA) O O dp (by show(2*i+2)*8<=_;omega) O λv' B' hs'=>?_;have hs2:aJ 45 1 v' (2*(i+1)) (bl (l.take (i+1))) B':=by rw[<-Vh hx];exact hs'
  obtain⟨p2,c2,rfl⟩:=hs2.shape;refine(cQ)<|(gn)<|(I5)<|aj eA call80 (agC)<|(gH)<|(fR)<|aj eA call81 (agx)<|(gH)<|(jM) ?_;exact⟨(i+1,(p2,c2),B'),oA,⟨hlt,hs2⟩,lA,kA,fA,hA⟩
 ·intro hc13;have hge:i=l.length:=by have:=of_decide_eq_false hc13;simp only at hi;omega
  subst hge;rw[dg] at hs;refine(jh) ?_;refine eN hs tA<|(cJ)<|(gq)<|(eF)<|aH [gF p1 l c1] [] ?_;exact⟨⟨p1,c1,O,O⟩,O⟩
theorem Sa (hb:l.length<=1048576):ai prog 28 [jF p l cp].toArray [gF p l cp] [] (XF l):=by
 refine am func28 λ_=>(au) ?_;intro _;refine(aq) ?_;intro _;refine(gu)<|aj eA call84 (tN (q:=⟨p,l,cp⟩))<|aI eA call83 (adH hb) λv1 Fs1 ⟨p1,cp1,e2,e3⟩=>?_;subst e2;subst e3;refine(eF)<|aH [gF p1 l cp1] [] ?_;exact⟨⟨p1,cp1,O,O⟩,O⟩
abbrev alN (k:Int) (lss:List (List Pt)):cZ:=λv Fs' L'=>(∃p cp,v=xG k p lss cp/\Fs'=[nj p lss cp])/\L'=[]
theorem adI (hg:lx lss):ai prog 34 [jb p lss cp].toArray [bQ p lss cp] [] (alN 5 lss):=by
 have hb:=hg.1;refine am func34 λ_=>(au) ?_;intro _;refine(aq) ?_;intro _;refine(gu)<|(Ov)<|(I1)<|(cN)<|(aq) ?_;intro r3;refine(dS)<|(vD)<|aU [(4,4),(9,23)] (λx=>x.1<=lss.length/\x.2.2.2.length=x.1/\(∀j,j<x.1->(x.2.2.2[j]?).map (·.l)=lss[j]?)/\aJ 41 4 (.slice x.2.1.1 x.1 x.2.1.2) x.1 (x.2.2.2.flatMap Sq.ig) x.2.2.1) (λx=>[(4,iv x.1)]) (λx=>x.2.2.2.map Sq.fact) (λx=>(r3,.cells #[iv 5,iv 0,.slice none 0 0,.slice x.2.1.1 x.1 x.2.1.2] 41 (0,0))::x.2.2.1) (λx=>lss.length-x.1) (((0,(none,0),[],[]):Nat×(Option Addr×Nat)×List ae×List Sq)) (⟨bf _,O,λ_ h=>absurd h (iZ _),aJ.nil 41 4⟩) λ⟨i,⟨p1,c1⟩,B,ws⟩ fr ⟨hi,hwl,hag,hs⟩=>?_;refine(eE)<|(eH)<|(IZ)<|(kU)<|ao ?_ ?_
 ·intro hc12;have hlt:i<lss.length:=by have:=of_decide_eq_true hc12;omega
  obtain⟨l,hx⟩:∃x,lss[i]? =some x:=⟨_,aG hlt⟩;have hgl:=hg.2 l (bn hx);refine(j5) ?_;refine cz cw 7 [4,5,6] []<|(iS)<|(vr)<|(dT)<|aI eA call59 (vW hx) λv1 Fs1 ⟨q1,e1,e2,e3⟩=>?_;subst e2;subst e3;refine(dU)<|aI eA call28 (Sa (l:=q1.l) (by rw[e1];exact hgl.2)) λv2 Fs2 ⟨p2,cp2,e4,e5⟩=>?_;subst e4;subst e5;refine(dU)<|(eD) ?_;intro b1;refine(iy) ?_;refine di (e:=41) (size:=4) ab O O O O O O O (B:=B) tA hs O (bD mA) O O dp (by show(i+1)*64<=_;omega) O λv' B' hs'=>?_;have hs2:aJ 41 4 v' (i+1) ((ws++[(⟨p2,q1.l,cp2⟩:Sq)]).flatMap Sq.ig) B':=by rw[ft];simpa using hs'
  obtain⟨p3,c3,rfl⟩:=hs2.shape;refine(cQ)<|(gn)<|(Jb) ?_;exact⟨(i+1,(p3,c3),B',ws++[(⟨p2,q1.l,cp2⟩:Sq)]),by simp only;omega,⟨hlt,by simp at hwl ⊢;omega,LA hag (by simpa using hwl) (by rw[hx,e1]),hs2⟩,lA,kA,Hs mA sA,hA⟩
 ·intro hc12;have hge:i=lss.length:=by have:=of_decide_eq_false hc12;simp only at hi;omega
  have hmap:ws.map (·.l)=lss:=BG hag (by simp only at hwl;omega) (by simp only at hwl;omega);subst hge;refine(jh) ?_;refine eN hs tA ?_;refine cI (nj p1 lss c1) (λhp al=>⟨ws,hmap,al _ (.head _),λq hqm=>al q.fact (by repeat (first|exact bq _ (nJ hqm)|apply vI|apply bI))⟩)<|(cJ)<|(gq)<|(eF)<|aH [nj p1 lss c1] [] ?_;exact⟨⟨p1,c1,O,O⟩,O⟩
end Go.Proofs
namespace Go.V
theorem ahg {a b:Int} (h1: -2147483648<=a) (h2:a<=2147483647) (h3: -2147483648<=b) (h4:b<=2147483647):oS (a*b):=by
 have e:(a*b).natAbs=a.natAbs*b.natAbs:=O6 a b;have k1:a.natAbs<=2147483648:=by omega
 have k2:b.natAbs<=2147483648:=by omega
 have k3:a.natAbs*b.natAbs<=2147483648*2147483648:=uD k1 k2;rw[<-e] at k3;constructor<;>omega
end Go.V
namespace Go.Proofs
open Tryz
open Go.V
def tz (n:Int):Int:=if n<0 then -1 else if n>0 then 1 else 0
theorem Ra {a:Int}:ai prog 148 [iv a].toArray [] [] (Is (iv (tz a))):=by
 refine am func148 λ_=>(ba)<|(bR)<|(gU)<|(bJ)<|(xZ)<|(bt)<|ao ?_ ?_
 ·intro hc3;exact(mI)<|(nD)<|W7
 ·intro hc3;refine(bJ)<|(AS)<|(bt)<|ao ?_ ?_
  ·intro hc6;exact(mI)<|(nD)<|W7
  ·intro hc6;refine(OB)<|(ba)<|(gw) ?_;exact⟨⟨by simp_all [bw,tz];try omega,O⟩,O⟩
theorem La (a:Int): -1<=tz a/\tz a<=1:=by
 unfold tz;split
 ·omega
 ·split<;>omega
def Aq (ax ay bx b_y:Int):Int:=if tz (b_y-ay)=0/\tz (bx-ax)>0 then 0 else if tz (b_y-ay)>0 then 2-tz (bx-ax) else if tz (b_y-ay)=0 then 4 else 6+tz (bx-ax)
theorem Uc (ax ay bx b_y:Int):0<=Aq ax ay bx b_y/\Aq ax ay bx b_y<=7:=by
 have h1:=La (bx-ax);unfold Aq;split
 ·omega
 ·split
  ·omega
  ·split<;>omega
def small (a:Int):Prop:= -1000000<=a/\a<=1000000
theorem Ub {ax ay bx b_y:Int} (h1:small ax) (h2:small ay) (h3:small bx) (h4:small b_y):ai prog 134 [lu ax ay,lu bx b_y].toArray [] [] (Is (iv (Aq ax ay bx b_y))):=by
 unfold small at h1 h2 h3 h4;have k1:=La (bx-ax);have k2:=La (b_y-ay);refine am func134 λ_=>(au) ?_;intro _;refine(cg) ?_;intro _;refine(bR)<|(AR)<|(oo)<|(AQ) ?_;refine ac O (λkX=>aj eA call148 (Ra (a:=bx-ax)) kX)<|(oo)<|(AQ) ?_;refine ac O (λkX=>aj eA call148 (Ra (a:=b_y-ay)) kX)<|(jY)<|(gb)<|(bR)<|(gU)<|(bJ)<|(kT)<|(aB) ?_;refine fY (t:=22) O (λhg22=>?_) (λhg22=>?_)
 ·refine(fN) ?_;refine ah O O (HV O O O<|(fD)<|(bt)<|ao ?_ ?_)
  ·intro hc19;exact(mI)<|(nD)<|y6
  ·intro hc19;refine(bJ)<|(AS)<|(bt)<|ao ?_ ?_
   ·intro hc26;exact(bJ)<|(jg)<|(bO)<|(nD)<|y6
   ·intro hc26;refine(bJ)<|(kT)<|(bt)<|ao ?_ ?_
    ·intro hc31;exact(mI)<|(nD)<|y6
    ·intro hc31;exact(OB)<|(bJ)<|(dm)<|(gw)<|y6
 ·refine(wP)<|(bt)<|ao ?_ ?_
  ·intro hc19;exact(mI)<|(nD)<|y6
  ·intro hc19;refine(bJ)<|(AS)<|(bt)<|ao ?_ ?_
   ·intro hc26;exact(bJ)<|(jg)<|(bO)<|(nD)<|y6
   ·intro hc26;refine(bJ)<|(kT)<|(bt)<|ao ?_ ?_
    ·intro hc31;exact(mI)<|(nD)<|y6
    ·intro hc31;exact(OB)<|(bJ)<|(dm)<|(gw)<|y6
def YH (fx fy ax ay tx ty:Int):Int:=(Aq ax ay tx ty-Aq ax ay fx fy+8)%8
theorem Qu {fx fy ax ay tx ty:Int} (h1:small fx) (h2:small fy) (h3:small ax) (h4:small ay) (h5:small tx) (h6:small ty):ai prog 77 [lu fx fy,lu ax ay,lu tx ty].toArray [] [] (Is (iv (YH fx fy ax ay tx ty))):=by
 have k1:=Uc ax ay tx ty;have k2:=Uc ax ay fx fy;refine am func77 λ_=>(au) ?_;intro _;refine(cg) ?_;intro _;refine(cg) ?_;intro _;refine(bR)<|(AP)<|(jf)<|(jf) ?_;refine ac O (λkX=>aj eA call134 (Ub (ax:=ax) (ay:=ay) (bx:=tx) (b_y:=ty) h3 h4 h5 h6) kX)<|(jf)<|(jf) ?_;refine ac O (λkX=>aj eA call134 (Ub (ax:=ax) (ay:=ay) (bx:=fx) (b_y:=fy) h3 h4 h1 h2) kX)<|(AQ)<|(wN)<|(CN)<|(jY)<|cV
abbrev Bw (w h:Int) (p:Option Addr) (k cp:Nat):Value:= .agg #[iv w,iv h,.slice p k cp]
def bey (w h n e:Int):Int:=
 if e=1 then 4*(n/4)+(n%4+1)%4 else if e=2 then 4*(n/4)+(n%4+3)%4 else
  let x:=if n%4=0 then n/4%w else if n%4=1 then n/4%w+1 else if n%4=2 then n/4%w else n/4%w-1
  let y:=if n%4=0 then n/4/w-1 else if n%4=1 then n/4/w else if n%4=2 then n/4/w+1 else n/4/w
  if x<0\/y<0\/x>=w\/y>=h then -1 else 4*(y*w+x)+(n%4+2)%4
theorem N5 {w h n e:Int} {p:Option Addr} {k cp:Nat} (hw:1<=w/\w<=5) (hh:1<=h/\h<=5) (hn:0<=n/\n<=100):ai prog 12 [Bw w h p k cp,iv n,iv e].toArray [] [] (Is (iv (bey w h n e))):=by
 have m1:0<=n/4%w:=Int.emod_nonneg _ aa;have m2:n/4%w<w:=Int.emod_lt_of_pos _ aa;have m3:0<=n/4/w:=JW aa aa;have m4:n/4/w<=n/4:=Int.ediv_le_self _ aa;have a1:n/4/w*w<=n/4:=Int.ediv_mul_le _ aa;have a2:0<=n/4/w*w:=F9 m3 aa;have a3:(n/4/w-1)*w=n/4/w*w-w:=by rw[Int.sub_mul,Int.one_mul]
 have a4:(n/4/w+1)*w=n/4/w*w+w:=by rw[Int.add_mul,Int.one_mul]
 refine am func12 λ_=>(au) ?_;intro _;refine(cF)<|(C0)<|(aB)<|(W6)<|(gb)<|(iC)<|(dF)<|(dY)<|ao ?_ ?_
 ·intro hc16;exact Xd
 ·intro hc16;refine(dY)<|ao ?_ ?_
  ·intro hc24;exact Xd
  ·intro hc24;refine(OB)<|(ce)<|(AP)<|(bh)<|(iS)<|(CN)<|(bh)<|(iS)<|(Xg)<|(wv)<|(jY)<|(iC)<|(dF)<|(dY)<|ao ?_ ?_
   ·intro hc43;refine(aY)<|(jg)<|(iR)<|(eE)<|(xZ)<|(aB) ?_;refine fY (t:=57) O (λhg57=>?_) (λhg57=>?_)
    ·refine(wJ)<|ao ?_ ?_
     ·intro hc72;exact jX
     ·intro hc72;exact pS
    ·refine(vl) ?_;refine fY (t:=61) O (λhg61=>?_) (λhg61=>?_)
     ·refine(lP)<|(Fx)<|(aN)<|ao ?_ ?_
      ·intro hc72;exact jX
      ·intro hc72;exact pS
     ·refine(kw)<|(aB) ?_;refine fY (t:=67) O (λhg67=>?_) (λhg67=>?_)
      ·refine(zc)<|(fm)<|ao ?_ ?_
       ·intro hc72;exact jX
       ·intro hc72;exact pS
      ·refine(kw)<|(aN)<|ao ?_ ?_
       ·intro hc72;exact jX
       ·intro hc72;exact pS
   ·intro hc43;refine(dY)<|ao ?_ ?_
    ·intro hc47;refine(sL)<|(eE)<|(xZ)<|(aB) ?_;refine fY (t:=57) O (λhg57=>?_) (λhg57=>?_)
     ·refine(wJ)<|ao ?_ ?_
      ·intro hc72;exact jX
      ·intro hc72;exact pS
     ·refine(vl) ?_;refine fY (t:=61) O (λhg61=>?_) (λhg61=>?_)
      ·refine(lP)<|(Fx)<|(aN)<|ao ?_ ?_
       ·intro hc72;exact jX
       ·intro hc72;exact pS
      ·refine(kw)<|(aB) ?_;refine fY (t:=67) O (λhg67=>?_) (λhg67=>?_)
       ·refine(zc)<|(fm)<|ao ?_ ?_
        ·intro hc72;exact jX
        ·intro hc72;exact pS
       ·refine(kw)<|(aN)<|ao ?_ ?_
        ·intro hc72;exact jX
        ·intro hc72;exact pS
    ·intro hc47;refine(dY)<|ao ?_ ?_
     ·intro hc51;refine(sL)<|(eE)<|(xZ)<|(aB) ?_;refine fY (t:=57) O (λhg57=>?_) (λhg57=>?_)
      ·refine(wJ)<|ao ?_ ?_
       ·intro hc72;exact jX
       ·intro hc72;exact pS
      ·refine(vl) ?_;refine fY (t:=61) O (λhg61=>?_) (λhg61=>?_)
       ·refine(lP)<|(Fx)<|(aN)<|ao ?_ ?_
        ·intro hc72;exact jX
        ·intro hc72;exact pS
       ·refine(kw)<|(aB) ?_;refine fY (t:=67) O (λhg67=>?_) (λhg67=>?_)
        ·refine(zc)<|(fm)<|ao ?_ ?_
         ·intro hc72;exact jX
         ·intro hc72;exact pS
        ·refine(kw)<|(aN)<|ao ?_ ?_
         ·intro hc72;exact jX
         ·intro hc72;exact pS
     ·intro hc51;refine(aY)<|(jg)<|(iR)<|(eE)<|(xZ)<|(aB) ?_;refine fY (t:=57) O (λhg57=>?_) (λhg57=>?_)
      ·refine(wJ)<|ao ?_ ?_
       ·intro hc72;exact jX
       ·intro hc72;exact pS
      ·refine(vl) ?_;refine fY (t:=61) O (λhg61=>?_) (λhg61=>?_)
       ·refine(lP)<|(Fx)<|(aN)<|ao ?_ ?_
        ·intro hc72;exact jX
        ·intro hc72;exact pS
       ·refine(kw)<|(aB) ?_;refine fY (t:=67) O (λhg67=>?_) (λhg67=>?_)
        ·refine(zc)<|(fm)<|ao ?_ ?_
         ·intro hc72;exact jX
         ·intro hc72;exact pS
        ·refine(kw)<|(aN)<|ao ?_ ?_
         ·intro hc72;exact jX
         ·intro hc72;exact pS
end Go.Proofs
namespace Go.Proofs
open Tryz
open Go.V
abbrev yU (a b c d:Nat):Value:= .agg #[.float .f64 a,.float .f64 b,.float .f64 c,.float .f64 d]
def Ai (a b c d a' b' c' d':Nat):Bool:=oa a c'&&(kK c a'&&(oa b d'&&kK d b'))
theorem ael {a b c d a' b' c' d':Nat}:ai prog 276 [yU a b c d,yU a' b' c' d'].toArray [] [] (Is (.bool (Ai a b c d a' b' c' d'))):=by
 refine am func276 λ_=>(au) ?_;intro _;refine(cg) ?_;intro _;refine(cF)<|(vA)<|(nC)<|(fD)<|(aB) ?_;refine fY (t:=12) O (λhg12=>?_) (λhg12=>?_)
 ·refine(vA)<|(nC)<|(fD)<|(aB) ?_;refine fY (t:=19) O (λhg19=>?_) (λhg19=>?_)
  ·refine(vA)<|(nC)<|(fD)<|(aB) ?_;refine fY (t:=26) O (λhg26=>?_) (λhg26=>?_)
   ·exact(vA)<|(nC)<|(fD)<|(gw)<|IW
   ·exact(lP)<|(wP)<|(gw)<|IW
  ·exact(lP)<|(wP)<|(Jc)<|(gw)<|IW
 ·exact(lP)<|(wP)<|(Jc)<|(Jc)<|(gw)<|IW
theorem Q6 {a b:Nat}:ai prog 278 [.float .f64 a,.float .f64 b].toArray [] [] (Is (.tuple #[.float .f64 (bif fJ a b then b else a),.float .f64 (bif fJ a b then a else b)])):=by
 refine am func278 λ_=>(ba)<|(gb)<|(jL)<|(ns)<|(aN)<|ao ?_ ?_
 ·intro hc8;exact(fb)<|(gb)<|(jZ)<|xW
 ·intro hc8;exact(bX)<|(fb)<|(gb)<|(gw)<|xW
abbrev dM (a b:Pt):Value:= .agg #[.float .f64 a.1,.float .f64 a.2,.float .f64 b.1,.float .f64 b.2]
def afV (a b:Pt):Value:=yU (bif fJ a.1 b.1 then b.1 else a.1) (bif fJ a.2 b.2 then b.2 else a.2) (bif fJ a.1 b.1 then a.1 else b.1) (bif fJ a.2 b.2 then a.2 else b.2)
theorem Ms {a b:Pt}:ai prog 188 [dM a b].toArray [] [] (Is (afV a b)):=by
 refine am func188 λ_=>(au) ?_;intro _;refine(aq) ?_;intro _;exact(eZ)<|(pN)<|aj eA call278 (Q6)<|(I6)<|aj eA call278 (Q6)<|(I6)<|(pN)<|sM
theorem PZ {a:Pt}:ai prog 257 [pv a].toArray [] [] (Is (yU a.1 a.2 a.1 a.2)):=by
 refine am func257 λ_=>(au) ?_;intro _;refine(aq) ?_;intro _;exact(iu)<|(zk)<|(dW)<|sM
end Go.Proofs
namespace Go.Proofs
open Go.V
abbrev bH:=Nat×Nat×Nat×Nat
abbrev Fc (b:bH):Value:=yU b.1 b.2.1 b.2.2.1 b.2.2.2
structure RE where
 b:bH
 c:Option Nat
 id:Int
abbrev RE.enc (e:RE):List Value:=[.float .f64 e.b.1,.float .f64 e.b.2.1,.float .f64 e.b.2.2.1,.float .f64 e.b.2.2.2,.pointer (e.c.map λr=>⟨r,0,none⟩),iv e.id]
end Go.Proofs
namespace Go.Proofs
open Tryz
open Go.V
theorem RW {a b:Nat}:ai prog 422 [.float .f64 a,.float .f64 b].toArray [] [] (Is (.float .f64 (bif jn a b then a else b))):=by
 refine am func422 λ_=>(ba)<|(jL)<|(ns)<|(aN)<|ao ?_ ?_
 ·intro hc7;exact(bJ)<|(jZ)<|xW
 ·intro hc7;exact(Fu)<|(gw)<|xW
theorem Lq {a b:Nat}:ai prog 423 [.float .f64 a,.float .f64 b].toArray [] [] (Is (.float .f64 (bif fJ a b then a else b))):=by
 refine am func423 λ_=>(ba)<|(jL)<|(ns)<|(aN)<|ao ?_ ?_
 ·intro hc7;exact(bJ)<|(jZ)<|xW
 ·intro hc7;exact(Fu)<|(gw)<|xW
def mn (a b:Nat):Nat:=bif jn a b then a else b
def mx (a b:Nat):Nat:=bif fJ a b then a else b
theorem We {a b c d a' b' c' d':Nat}:ai prog 416 [yU a b c d,yU a' b' c' d'].toArray [] [] (Is (yU (mn a a') (mn b b') (mx c c') (mx d d'))):=by
 refine am func416 λ_=>(au) ?_;intro _;refine(cg) ?_;intro _;refine(aq) ?_;intro _;refine(cn) ?_;refine cz cw 21 [] []<|(oo) ?_;refine ac O (λkX=>aj eA call422 (RW (a:=a) (b:=a')) kX)<|(oo) ?_;refine ac O (λkX=>aj eA call422 (RW (a:=b) (b:=b')) kX)<|(oo) ?_;refine ac O (λkX=>aj eA call423 (Lq (a:=c) (b:=c')) kX)<|(oo) ?_;refine ac O (λkX=>aj eA call423 (Lq (a:=d) (b:=d')) kX)<|(ny)<|(jY)<|rN
end Go.Proofs
namespace Go.Proofs
open Tryz
open Go.V
abbrev BI:=bH×Int
def bi (x:BI):List Value:=[.float .f64 x.1.1,.float .f64 x.1.2.1,.float .f64 x.1.2.2.1,.float .f64 x.1.2.2.2,iv x.2]
theorem tQ (xs:List BI):∀y∈xs,(bi y).length=5:=λ_ _=>rfl
abbrev CD:Nat:=307
abbrev eW (g:Nat) (xs:List BI):ae:=(g,.cells (xs.flatMap bi).toArray CD (0,0))
def jw (S:BI->Prop) (N:Nat) (xs:List BI):Prop:=xs.length=N/\∀x∈xs,S x
theorem jw.get {S:BI->Prop} {N:Nat} {xs:List BI} (h:jw S N xs) {i:Nat} (hi:i<N):∃x,xs[i]? =some x/\S x:=by
 have hl:i<xs.length:=by rw[h.1];exact hi
 exact⟨xs[i],aG hl,h.2 _ (zK hl)⟩
theorem jw.set {S:BI->Prop} {N:Nat} {xs:List BI} (h:jw S N xs) {i:Nat} {x:BI} (hx:S x):jw S N (xs.set i x):=
 ⟨by simpa using h.1,λy hy=>by
  rcases Kh hy with h'|h'
  ·exact h.2 y h'
  ·exact h'▸hx⟩
abbrev uZ (g a n cap:Nat):Value:= .slice (some ⟨g,a*5,none⟩) n cap
theorem mm {Fs:List an} {L:List ae} {r o:Nat} {v:Value} {xs:List Value} (hm:aO r o (v::xs)∈Fs):uz Fs L r o v:=λh w sa al=>by
 have:=aR (L:=L) hm h w sa al 0 v rfl;exact this
theorem ac5 {r:Nat} {a m:Int} (hm:0<m/\m<=1048576):ai prog 417 [iv m,.pointer (some ⟨r,0,none⟩)].toArray [] [(r,.cells #[.int .u32 a] 444 (0,0))]
  (λv Fs' L'=>Fs'=[]/\∃(k b:Int),v=iv k/\0<=k/\k<m/\L'=[(r,.cells #[.int .u32 b] 444 (0,0))]):=by
 have hw:=X3 (IntKind.u32.wrap (1664525*a)+1013904223);generalize hb:IntKind.u32.wrap (IntKind.u32.wrap (1664525*a)+1013904223)=b at hw;have h1:IntKind.u64.wrap b=b:=zY aa aa;have h2:IntKind.u64.wrap m=m:=zY aa aa;have hbm0:0<=b*m:=F9 hw.1 aa;have hbm1:b*m<=4294967295*m:=Be aa aa;have h3:IntKind.u64.wrap (b*m)=b*m:=zY hbm0 aa;have h4:(b*m).fdiv (2^min (32:Int).toNat IntKind.u64.bits)=b*m/4294967296:=by
  have:(2^min (32:Int).toNat IntKind.u64.bits:Int)=4294967296:=by decide
  rw[this,Pp _ aa]
 have h5:0<=b*m/4294967296:=JW hbm0 aa;have h6:b*m/4294967296<m:=Int.ediv_lt_of_lt_mul aa aa;have h7:IntKind.i64.wrap (b*m/4294967296)=b*m/4294967296:=zZ aa aa;refine am func417 λ_=>(y8)<|(gG) ?_;refine Ur O O (rfl) O ?_;refine No O O (hb) O<|(gn)<|(Jd) ?_;refine vZ ab O O O O (h1) O<|(aB) ?_;refine vZ ab O O O O (h2) O ?_;refine Ur O O (h3) O ?_;refine ES O O bz (h4) O ?_;refine vZ ab O O O O (h7) O<|(bO) ?_;exact .ret (.cons (lZ O) (.nil)) (L':=[(r,.cells #[.int .u32 b] 444 (0,0))]) gy (by repeat (first|exact gx _|apply pd)) ⟨O,_,b,O,h5,h6,O⟩
variable {S:BI->Prop} {N g a n cap r q:Nat} {xs:List BI} {hz:Bool} {i j:Int}
abbrev yZ (r q g a n cap:Nat) (hz:Bool):List an:=[aO r 0 [uZ g a n cap],aO q 0 [.bool hz]]
theorem Ab (hS:jw S N xs) (hi:0<=i/\i<n) (hj:0<=j/\j<n) (hN:a+n<=N):ai prog 418 [iv i,iv j,.pointer (some ⟨r,0,none⟩),.pointer (some ⟨q,0,none⟩)].toArray (yZ r q g a n cap hz) [eW g xs]
  (λv Fs' L'=>Fs'=[]/\L'=[eW g xs]/\∃b,v= .bool b):=by
 obtain⟨x,hx,_⟩:=hS.get (i:=a+i.toNat) aa;obtain⟨y,hy,_⟩:=hS.get (i:=a+j.toNat) aa;refine am func418 λ_=>(y8)<|(qz) ?_;refine bp (s:=5) (i:=i.toNat) ab O O O O O aa aa O<|(cQ) ?_;refine aK ab O O O (LF (i:=0) (m:=4) mA (tQ _) hx O aa) O O<|(aq) ?_;intro _;refine(ug)<|(qz) ?_;refine bp (s:=5) (i:=j.toNat) ab O O O O O aa aa O<|(cQ) ?_;refine aK ab O O O (LF (i:=0) (m:=4) mA (tQ _) hy O aa) O O<|(aq) ?_;intro _;refine(dS)<|(ba)<|(fM)<|(aN)<|ao ?_ ?_
 ·intro hc19;refine(fR)<|(dW)<|(jV) ?_;intro _;refine(zk)<|(jV) ?_;intro _;refine(ns)<|(mJ) ?_;exact .ret (.cons (lZ O) (.nil)) (L':=[eW g xs]) gy (by repeat (first|exact gx _|exact oZ _|apply DE|apply pd)) ⟨O,O,_,O⟩
 ·intro hc19;refine(bX)<|(fR)<|(dW)<|(jV) ?_;intro _;refine(zk)<|(jV) ?_;intro _;refine(ns)<|(bO) ?_;exact .ret (.cons (lZ O) (.nil)) (L':=[eW g xs]) gy (by repeat (first|exact gx _|exact oZ _|apply DE|apply pd)) ⟨O,O,_,O⟩
end Go.Proofs
namespace Go.Proofs
open Tryz
open Go.V
variable {S:BI->Prop} {N g a n cap r q:Nat} {xs:List BI} {hz:Bool} {i j:Int}
abbrev XG (S:BI->Prop) (N g:Nat):cZ:=λv Fs' L'=>Fs'=[]/\∃xs',jw S N xs'/\L'=[eW g xs']
theorem xo (hS:jw S N xs) (hi:0<=i/\i<n) (hj:0<=j/\j<n) (hN:a+n<=N):ai prog 419 [iv i,iv j,.pointer (some ⟨r,0,none⟩)].toArray [aO r 0 [uZ g a n cap]] [eW g xs] (XG S N g):=by
 obtain⟨x,hx,sx⟩:=hS.get (i:=a+i.toNat) aa;obtain⟨y,hy,sy⟩:=hS.get (i:=a+j.toNat) aa;have hl:=hS.1;have h2:jw S N (xs.set (a+i.toNat) y):=hS.set sy;have h3:jw S N ((xs.set (a+i.toNat) y).set (a+j.toNat) x):=h2.set sx;refine am func419 λ_=>?_;refine cz cw 16 [13,15] [13,15]<|(wu)<|(kQ)<|(wu)<|(kQ)<|(wu)<|(kQ) ?_;refine cC O (bp (s:=5) (i:=j.toNat) ab O O O O O aa aa O) ?_;refine ac O (aK ab O O O (BK mA (tQ _) hy aa) O O)<|(wu)<|(kQ) ?_;refine cC O (bp (s:=5) (i:=i.toNat) ab O O O O O aa aa O) ?_;refine ac O (aK ab O O O (BK mA (tQ _) hx aa) O O) ?_;refine cC O (bp (s:=5) (i:=i.toNat) ab O O O O O aa aa O) ?_;refine cC O (bp (s:=5) (i:=j.toNat) ab O O O O O aa aa O)<|(dT) ?_;refine EQ (F:=bi) (k:=5) (xs:=xs) (j:=a+i.toNat) (e:=y) ab O O O O O O (tQ _) aa aa uA ?_;refine mj (.norm ⟨⟨undef,O⟩,(sN) ?_⟩);refine EQ (F:=bi) (k:=5) (xs:=xs.set (a+i.toNat) y) (j:=a+j.toNat) (e:=x) ab O O O O O O (tQ _) (by rw[h2.1];omega) aa uA ?_;refine mj (.norm ⟨⟨undef,O⟩,(um)<|(lJ) ?_⟩);exact .norm (.nil) (L':=[eW g ((xs.set (a+i.toNat) y).set (a+j.toNat) x)]) gy (by repeat (first|exact gx _|exact oZ _|apply DE|apply pd)) ⟨O,_,h3,O⟩
theorem ahl (hS:jw S N xs) (hn:0<n) (hN:a+n<=N) (hb:N<=1048576) (hcap:n<=cap) (hc2:1<cap):ai prog 410 [uZ g a n cap].toArray [] [eW g xs]
  (λv Fs' L'=>Fs'=[]/\L'=[eW g xs]/\∃b,v= .bool b):=by
 obtain⟨x,hx,sx⟩:=hS.get (i:=a) aa;refine am func410 λ_=>(Jl) ?_;refine bp (s:=5) (i:=0) ab O O O O O aa aa O<|(cQ) ?_;refine aK ab O O O (LF (i:=0) (m:=4) mA (tQ _) hx O aa) O O<|(aq) ?_;intro r3;refine(cu)<|(eE) ?_;refine qi (size:=5) ab O O O O (.some O (l:=1) O) .none aa hcap aa O<|(gW)<|aU [(5,5),(13,21)] (λx=>0<=x.1/\x.1<=((n-1:Nat):Int)) (λx=>[(13,iv x.1)]) (λ_=>[]) (λx=>[(r3,.cells #[.float .f64 x.2.1,.float .f64 x.2.2.1,.float .f64 x.2.2.2.1,.float .f64 x.2.2.2.2] 226 (0,0))]) (λx=>((n:Int)-1-x.1).toNat) (((0,x.1):Int×bH)) (⟨Int.le_refl _,aa⟩) λ⟨k,b⟩ fr ⟨hk0,hk1⟩=>?_;refine(cM)<|ao ?_ ?_
 ·intro hc14;have hlt:k<(n:Int)-1:=by have:=of_decide_eq_true hc14;omega
  obtain⟨y,hy,sy⟩:=hS.get (i:=a+1+k.toNat) aa;refine(ix) ?_;refine bp (s:=5) (i:=k.toNat) ab O O O O O aa aa O ?_;refine aK ab O O O (BK mA (tQ _) hy aa) O O<|(aq) ?_;intro _;refine(cu)<|(cJ)<|(gq)<|(cQ)<|(XE)<|aj eA call416 (We)<|(cu)<|(lO) ?_;exact⟨(k+1,(mn b.1 y.1.1,mn b.2.1 y.1.2.1,mx b.2.2.1 y.1.2.2.1,mx b.2.2.2 y.1.2.2.2)),oA,⟨aa,aa⟩,lA,kA,fA,hA⟩
 ·intro hc14;refine(eG)<|(fR)<|(dW)<|(jV) ?_;intro _;refine(zk)<|(jV) ?_;intro _;refine(ns)<|(bO) ?_;exact .ret (.cons (lZ O) (.nil)) (L':=[eW g xs]) gy (by repeat (first|exact gx _|exact oZ _|apply DE|apply pd)) ⟨O,O,_,O⟩
end Go.Proofs
namespace Go.Proofs
open Tryz
open Go.V
variable {S:BI->Prop} {N g a n cap:Nat} {xs:List BI} {hz:Bool} {k:Int}
theorem adq (hS:jw S N xs) (hN:a+n<=N) (hb:N<=1048576) (h2:2<=n) (hk:0<=k/\k<n):ai prog 411 [uZ g a n cap,iv k,.bool hz].toArray [] [eW g xs] (XG S N g):=by
 refine am func411 λ_=>(ba)<|(qF) ?_;intro r3;refine(qF) ?_;intro q;refine(cn) ?_;refine dl (r:=q) tA ?_;refine dl (r:=r3) tA<|(cJ)<|(nH) ?_;intro rr;refine(eZ)<|(iW)<|(fo)<|(iW)<|(fo)<|(iW)<|(bR)<|(JJ)<|(nG)<|(zp)<|(AQ)<|(wv)<|(wv)<|(jY)<|(dF)<|aU [(1,1),(10,14),(21,125)] (λ(x:Int×Int×Int×Int×List BI)=>(0<=x.1/\x.1<=x.2.1/\x.2.1<(n:Int)/\0<=x.2.2.1/\x.2.2.1<=x.2.1-x.1)/\jw S N x.2.2.2.2) (λx=>[(10,iv x.1),(11,iv x.2.1),(1,iv x.2.2.1)]) (λ_=>[]) (λx=>[(rr,.cells #[.int .u32 x.2.2.2.1] 444 (0,0)),eW g x.2.2.2.2]) (λx=>(x.2.1-x.1).toNat) (((0,(n:Int)-1,k,0,xs):Int×Int×Int×Int×List BI)) (⟨⟨oA,oA,oA,oA,oA⟩,hS⟩) λ⟨l,rt,kk,b,ys⟩ fr ⟨⟨h3,h4,h5,h6,h7⟩,hS2⟩=>?_;dsimp only at h3 h4 h5 h6 h7 hS2;refine(gU)<|(lL)<|(jg)<|(dF)<|(dY)<|ao ?_ ?_
 ·intro hc24;have hc:rt-l=1:=of_decide_eq_true hc24;refine(lL)<|(aB) ?_;refine dj O eA call418 nA (Ab (r:=r3) (q:=q) (hz:=hz) (g:=g) (cap:=cap) hS2 ⟨aa,aa⟩ ⟨aa,aa⟩ hN) λv Fs' L' ⟨e1,e2,b29,e3⟩=>?_;subst e1;subst e2;subst e3;refine(aN)<|ao ?_ ?_
  ·intro hc29;refine(aY)<|(dG) ?_;refine dj O eA call419 nA (xo (r:=r3) (g:=g) (cap:=cap) hS2 ⟨aa,aa⟩ ⟨aa,aa⟩ hN) λv Fs' L' ⟨e1,z33,hz33,e2⟩=>?_;subst e1;subst e2;refine(aN)<|(zd)<|aH [] [eW g _] ?_;exact(by refine⟨O,_,?_,O⟩;assumption)
  ·intro hc29;refine(bX)<|(zd)<|aH [] [eW g _] ?_;exact(by refine⟨O,_,?_,O⟩;assumption)
 ·intro hc24;have hc:¬rt-l=1:=of_decide_eq_false hc24;refine(dY)<|ao ?_ ?_
  ·intro hc34;have hd:rt-l=2:=of_decide_eq_true hc34;refine(lL)<|(qA) ?_;refine dj O eA call418 nA (Ab (r:=r3) (q:=q) (hz:=hz) (g:=g) (cap:=cap) hS2 ⟨aa,aa⟩ ⟨aa,aa⟩ hN) λv Fs' L' ⟨e1,e2,b40,e3⟩=>?_;subst e1;subst e2;subst e3;refine(aN)<|ao ?_ ?_
   ·intro hc40;refine(cO)<|(qA) ?_;refine dj O eA call419 nA (xo (r:=r3) (g:=g) (cap:=cap) hS2 ⟨aa,aa⟩ ⟨aa,aa⟩ hN) λv Fs' L' ⟨e1,z45,hz45,e2⟩=>?_;subst e1;subst e2;replace hS2:=hz45;refine(cn)<|(fb)<|(qA)<|(dm) ?_;refine dj O eA call418 nA (Ab (r:=r3) (q:=q) (hz:=hz) (g:=g) (cap:=cap) hS2 ⟨aa,aa⟩ ⟨aa,aa⟩ hN) λv Fs' L' ⟨e1,e2,b51,e3⟩=>?_;subst e1;subst e2;subst e3;refine(aN)<|ao ?_ ?_
    ·intro hc51;refine(fb)<|(qA)<|(dm) ?_;refine dj O eA call419 nA (xo (r:=r3) (g:=g) (cap:=cap) hS2 ⟨aa,aa⟩ ⟨aa,aa⟩ hN) λv Fs' L' ⟨e1,z57,hz57,e2⟩=>?_;subst e1;subst e2;replace hS2:=hz57;refine(aN)<|(fb)<|(qA) ?_;refine dj O eA call418 nA (Ab (r:=r3) (q:=q) (hz:=hz) (g:=g) (cap:=cap) hS2 ⟨aa,aa⟩ ⟨aa,aa⟩ hN) λv Fs' L' ⟨e1,e2,b62,e3⟩=>?_;subst e1;subst e2;subst e3;refine(aN)<|ao ?_ ?_
     ·intro hc62;refine(cO)<|(qA) ?_;refine dj O eA call419 nA (xo (r:=r3) (g:=g) (cap:=cap) hS2 ⟨aa,aa⟩ ⟨aa,aa⟩ hN) λv Fs' L' ⟨e1,z67,hz67,e2⟩=>?_;subst e1;subst e2;replace hS2:=hz67;refine(aN)<|(zd)<|aH [] [eW g _] ?_;exact(by refine⟨O,_,?_,O⟩;assumption)
     ·intro hc62;refine(bX)<|(zd)<|aH [] [eW g _] ?_;exact(by refine⟨O,_,?_,O⟩;assumption)
    ·intro hc51;refine(bX)<|(zd)<|aH [] [eW g _] ?_;exact(by refine⟨O,_,?_,O⟩;assumption)
   ·intro hc40;refine(bX)<|(lL)<|(qA)<|(dm) ?_;refine dj O eA call418 nA (Ab (r:=r3) (q:=q) (hz:=hz) (g:=g) (cap:=cap) hS2 ⟨aa,aa⟩ ⟨aa,aa⟩ hN) λv Fs' L' ⟨e1,e2,b51,e3⟩=>?_;subst e1;subst e2;subst e3;refine(aN)<|ao ?_ ?_
    ·intro hc51;refine(fb)<|(qA)<|(dm) ?_;refine dj O eA call419 nA (xo (r:=r3) (g:=g) (cap:=cap) hS2 ⟨aa,aa⟩ ⟨aa,aa⟩ hN) λv Fs' L' ⟨e1,z57,hz57,e2⟩=>?_;subst e1;subst e2;replace hS2:=hz57;refine(aN)<|(fb)<|(qA) ?_;refine dj O eA call418 nA (Ab (r:=r3) (q:=q) (hz:=hz) (g:=g) (cap:=cap) hS2 ⟨aa,aa⟩ ⟨aa,aa⟩ hN) λv Fs' L' ⟨e1,e2,b62,e3⟩=>?_;subst e1;subst e2;subst e3;refine(aN)<|ao ?_ ?_
     ·intro hc62;refine(cO)<|(qA) ?_;refine dj O eA call419 nA (xo (r:=r3) (g:=g) (cap:=cap) hS2 ⟨aa,aa⟩ ⟨aa,aa⟩ hN) λv Fs' L' ⟨e1,z67,hz67,e2⟩=>?_;subst e1;subst e2;replace hS2:=hz67;refine(aN)<|(zd)<|aH [] [eW g _] ?_;exact(by refine⟨O,_,?_,O⟩;assumption)
     ·intro hc62;refine(bX)<|(zd)<|aH [] [eW g _] ?_;exact(by refine⟨O,_,?_,O⟩;assumption)
    ·intro hc51;refine(bX)<|(zd)<|aH [] [eW g _] ?_;exact(by refine⟨O,_,?_,O⟩;assumption)
  ·intro hc34;refine(OB)<|(fb)<|(dG)<|(jg)<|(dm) ?_;refine dj O eA call417 nA (ac5 (r:=rr) (a:=b) (m:=rt-l+1) ⟨aa,aa⟩) λv Fs' L' ⟨e1,k74,b74,e2,h74,h74',e3⟩=>?_;subst e1;subst e2;subst e3;refine(dm)<|(jL)<|(x7)<|(aN)<|jl ([eW g _]) [(79,82)] (λx=>jw S N x) (λ_=>[]) (λ_=>[]) (λx=>[eW g x]) ?_ ?_
   ·refine ao ?_ ?_
    ·intro hc78;refine(aY)<|(dG) ?_;refine dj O eA call419 nA (xo (r:=r3) (g:=g) (cap:=cap) hS2 ⟨aa,aa⟩ ⟨aa,aa⟩ hN) λv Fs' L' ⟨e1,z82a,hz82a,e2⟩=>?_;subst e1;subst e2;refine(aN) ?_;exact⟨_,hz82a,lA,kA,fA,hA⟩
    ·intro hc78;refine(bX) ?_;exact⟨_,hS2,lA,kA,fA,hA⟩
   ·intro z82 g82 hz82;refine(bJ)<|(iC)<|(nz)<|aU [(13,14),(85,99)] (λ(x:Int×Int×List BI)=>(l<=x.2.1/\x.2.1<=x.1/\x.1<=rt)/\jw S N x.2.2) (λx=>[(14,iv x.1),(13,iv x.2.1)]) (λ_=>[]) (λx=>[eW g x.2.2]) (λx=>(rt-x.1).toNat) (((l,l,z82):Int×Int×List BI)) (⟨⟨oA,oA,oA⟩,hz82⟩) λ⟨i,j,ws⟩ fr2 ⟨⟨h8,h9,h10⟩,hS3⟩=>?_;dsimp only at h8 h9 h10 hS3;refine(lN)<|ao ?_ ?_
    ·intro hc87;have hlt:i<rt:=of_decide_eq_true hc87;refine(j5)<|(OC) ?_;refine dj O eA call418 nA (Ab (r:=r3) (q:=q) (hz:=hz) (g:=g) (cap:=cap) hS3 ⟨aa,aa⟩ ⟨aa,aa⟩ hN) λv Fs' L' ⟨e1,e2,b93,e3⟩=>?_;subst e1;subst e2;subst e3;refine(aN)<|ao ?_ ?_
     ·intro hc93;refine(OC) ?_;refine dj O eA call419 nA (xo (r:=r3) (g:=g) (cap:=cap) hS3 ⟨aa,aa⟩ ⟨aa,aa⟩ hN) λv Fs' L' ⟨e1,z97,hz97,e2⟩=>?_;subst e1;subst e2;refine(aN)<|(aY)<|(dm)<|(I4) ?_;exact⟨(i+1,j+1,_),oA,⟨⟨oA,oA,oA⟩,hz97⟩,lA,kA,fA,hA⟩
     ·intro hc93;refine(bX)<|(jM) ?_;exact⟨(i+1,j,_),oA,⟨⟨oA,oA,oA⟩,hS3⟩,lA,kA,fA,hA⟩
    ·intro hc87;have hge:=of_decide_eq_false hc87;refine(eG)<|(OC) ?_;refine dj O eA call419 nA (xo (r:=r3) (g:=g) (cap:=cap) hS3 ⟨aa,aa⟩ ⟨aa,aa⟩ hN) λv Fs' L' ⟨e1,z103,hz103,e2⟩=>?_;subst e1;subst e2;refine(dF)<|(fb)<|(jg)<|(aB)<|(xZ)<|(bt)<|ao ?_ ?_
     ·intro hc104;have hj:=of_decide_eq_true hc104;refine(OC)<|(jg)<|(dm)<|(jg)<|(bt)<|(sL)<|(ir) ?_;exact⟨(j+1,rt,kk-(j-l+1),b74,_),oA,⟨⟨oA,oA,oA,oA,oA⟩,hz103⟩,lA,kA,fA,hA⟩
     ·intro hc104;refine(fb)<|(jg)<|(aB)<|(AS)<|(bt)<|ao ?_ ?_
      ·intro hc118;have hj:=of_decide_eq_true hc118;refine(aY)<|(jg)<|(iR)<|(ir) ?_;exact⟨(l,j-1,kk,b74,_),oA,⟨⟨oA,oA,oA,oA,oA⟩,hz103⟩,lA,kA,fA,hA⟩
      ·intro hc118;refine(AW)<|aH [] [eW g _] ?_;exact(by refine⟨O,_,?_,O⟩;assumption)
end Go.Proofs
namespace Go.Proofs
open Tryz
open Go.V
theorem qq (el:List RE):∀y∈el,(RE.enc y).length=6:=λ_ _=>rfl
inductive tW (S:BI->Prop) (h:PH):Nat->(bH->List Int)->Nat->Prop where
 |mk {r:Nat} (el:List RE) (m:Nat) (V:Nat->bH->List Int) (z:Nat->Nat):el.length=4->1<=m->m<=4->(aO r 0 (el.flatMap RE.enc++[iv m])).p h->
  (∀(i:Nat) (e:RE),i<m->el[i]? =some e->e.c=none->S (e.b,e.id)/\V i=λ_=>[e.id])->
  (∀(i:Nat) (e:RE) (c:Nat),i<m->el[i]? =some e->e.c=some c->tW S h c (V i) (z i))->
  tW S h r (λq=>(List.range m).flatMap λi=>match el[i]? with|some e=>if Ai e.b.1 e.b.2.1 e.b.2.2.1 e.b.2.2.2 q.1 q.2.1 q.2.2.1 q.2.2.2 then V i q else []|none=>[]) (((List.range m).map λi=>1+z i).sum)
theorem tW.mono {S:BI->Prop} {h h':PH} (hle:PH.le h h') {r:Nat} {V:bH->List Int} {z:Nat} (k:tW S h r V z):tW S h' r V z:=by
 induction k with
 |mk el m V z h1 h2 h3 h4 h5 _ ih=>exact .mk el m V z h1 h2 h3 ((aO _ _ _).mono hle h4) h5 ih
theorem Vd {g:Nat->List Int} {w:Nat->Nat}:∀n:Nat,(∀i,i<n->(g i).length<=w i)->((List.range n).flatMap g).length<=((List.range n).map w).sum
 |0,_=>by simp
 |n+1,h=>by
  have h1:=Vd n λi hi=>h i aa;have h2:=h n aa;rw[Du,ft,dX,Bl,aW];simp only[dC,Dn,jz,dV,th,Po,List.sum_nil];omega
theorem tW.len {S:BI->Prop} {h:PH} {r:Nat} {V:bH->List Int} {z:Nat} (k:tW S h r V z):∀q,(V q).length<=z:=by
 induction k with
 |mk el m V z h1 h2 h3 h4 h5 _ ih=>
  intro q;refine Vd m λi hi=>?_;cases he:el[i]? with
  |none=>simp
  |some e=>
   simp only;split
   ·cases hc:e.c with
    |none=>rw[(h5 i e hi he hc).2];simp
    |some c=>have:=ih i e c hi he hc q;omega
   ·simp
def zB (n z:Nat):Prop:=z<=2*n/\(2<=n->z+2<=2*n)
def kL (S:BI->Prop) (r:Nat) (V:bH->List Int) (z:Nat):an where
 p h:=tW S h r V z
 mono:=λhle k=>k.mono hle
variable {S:BI->Prop} {N g a n cap:Nat} {xs:List BI} {hz:Bool} {k:Int}
theorem GJ (hS:jw S N xs) (hN:a+n<=N) (hb:N<=1048576) (h2:4<=n) (hcap:n<=cap):ai prog 384 [uZ g a n cap].toArray [] [eW g xs]
  (λv Fs' L'=>(v= .tuple #[uZ g a (n/2) cap,uZ g (a+n/2) (n-n/2) (cap-n/2)]/\Fs'=[])/\∃xs',jw S N xs'/\L'=[eW g xs']):=by
 refine am func384 λ_=>(ba)<|(gb)<|(cF)<|aS eA call410 (ahl (g:=g) hS aa hN hb hcap aa) λv Fs' L' ⟨e1,e2,b7,e3⟩=>?_;subst e1;subst e2;subst e3;refine(cF)<|(dH)<|(W6)<|(iz)<|(aB)<|aS eA call411 (adq (g:=g) hS hN hb aa ⟨aa,aa⟩) λv Fs' L' ⟨e1,zs,hzs,e2⟩=>?_;subst e1;subst e2;refine(cn)<|(C6)<|(zn) ?_;refine ac O (qi (size:=5) ab O O O O .none (.some O (l:=n/2) aa) aa aa aa O)<|(zn) ?_;refine ac O (qi (size:=5) ab O O O O (.some O (l:=n/2) aa) .none aa aa aa O)<|(wv)<|(wv)<|(pH)<|(xY)<|aH [] [eW g _] ?_;exact⟨⟨by simp[bw,Gh],rfl⟩,zs,hzs,O⟩
theorem akX {r:Nat} {V:bH->List Int} {z:Nat}:ai prog 412 [.pointer (some ⟨r,0,none⟩)].toArray [kL S r V z] []
  (λv Fs' L'=>(∃b,v=Fc b/\Fs'=[])/\L'=[]):=by
 refine z7 (α:=List RE×Nat) (φ:=λy=>y.1.length=4/\1<=y.2/\y.2<=4) (G:=λy=>[aO r 0 (y.1.flatMap RE.enc++[iv y.2])]) (λhp al=>?_) λy hy=>?_
 ·have:=al _ (.head _);cases this with
  |mk el m V z h1 h2 h3 h4 h5 h6=>exact⟨(el,m),⟨h1,h2,h3⟩,.cons h4 (λ_ h=>nomatch h)⟩
 obtain⟨el,m⟩:=y;obtain⟨h1,h2,h3⟩:=hy;dsimp only at h1 h2 h3;obtain⟨e0,he0⟩:∃e,el[0]? =some e:=⟨_,aG aa⟩;refine am func412 λ_=>(wL) ?_;intro r2;refine(qC)<|(Fy) ?_;refine fg (s:=6) (i:=0) ab O O O O O aa (by show _<4;omega) O<|(cQ) ?_;refine aK ab O O O (Il (i:=0) (m:=4) (aR mA) (qq el) he0 O aa) O O<|(aq) ?_;intro r3;refine(dS)<|(vD)<|aU [(4,4),(11,27)] (λ(x:Nat×bH)=>1<=x.1/\x.1<=m) (λx=>[(4,iv x.1)]) (λ_=>[]) (λx=>[(r3,.cells #[.float .f64 x.2.1,.float .f64 x.2.2.1,.float .f64 x.2.2.2.1,.float .f64 x.2.2.2.2] 226 (0,0))]) (λx=>m-x.1) ((1,e0.b)) (⟨oA,oA⟩) λ⟨i,b⟩ fr ⟨h4,h5⟩=>?_
 try dsimp only at h4 h5
 refine(lL)<|(Fy) ?_;refine az ab O O O (KC (i:=0) (aR mA) (qq el) O aa) O<|(kU)<|ao ?_ ?_
 ·intro hc16;have hlt:i<m:=by have:=of_decide_eq_true hc16;dsimp only at this;omega
  obtain⟨e,he⟩:∃e,el[i]? =some e:=⟨_,aG aa⟩;refine(j5)<|(AP)<|(JI)<|(zn)<|(fa) ?_;refine ac O (fg (s:=6) (i:=i) ab O O O O O aa (by show _<4;omega) O)<|(iU) ?_;refine ac O (aK ab O O O (Il (i:=0) (m:=4) (aR mA) (qq el) he O aa) O O) ?_;refine ac O (λkX=>aj eA call416 (We (a:=b.1) (b:=b.2.1) (c:=b.2.2.1) (d:=b.2.2.2) (a':=e.b.1) (b':=e.b.2.1) (c':=e.b.2.2.1) (d':=e.b.2.2.2)) kX)<|(jY)<|(cu)<|(jM) ?_;exact⟨(i+1,(mn b.1 e.b.1,mn b.2.1 e.b.2.1,mx b.2.2.1 e.b.2.2.1,mx b.2.2.2 e.b.2.2.2)),oA,⟨oA,oA⟩,lA,kA,fA,hA⟩
 ·intro hc16;refine(y9)<|(gq)<|(eF)<|(kS) ?_;exact⟨⟨b,O,O⟩,O⟩
end Go.Proofs
