import Derived.Test.YtjebnpkebccffaaGreatDoorZDscan
import Derived.Test.YtjebnpkebccffaaGreatDoorZKdp
set_option linter.unusedSimpArgs false
set_option linter.unusedVariables false
set_option linter.unusedSectionVars false
set_option maxRecDepth 100000
set_option maxHeartbeats 8000000
namespace Go.Proofs.YtjebnpkebccffaaGreatDoor
open Go.RowKit Go.Proofs.Tryz
theorem bU5(a b s:Nat)(hb:b<2^s)(h:a*2^s<18446744073709551616)(hs:s<64):bits BinOp.or IntKind.u64 ((a*2^s:Nat):Int) (b:Int)=((a*2^s+b:Nat):Int):=by
 have h2:2^s<=2^64:=Nat.pow_le_pow_right (by omega) (by omega);rw[bits_or_u64_nat _ b h (by omega),Nat.mul_comm a,Nat.two_pow_add_eq_or_of_lt hb]
theorem aM0{x1 x0 d s:Nat}(hs:s<64)(h1:x1<d)(hd:d*2^s<B64)(h0:x0<B64):x1*2^s<B64/\x0/2^(64-s)<2^s/\x1*2^s+x0/2^(64-s)<d*2^s/\(x1*2^s+x0/2^(64-s))*B64+x0*2^s%B64=(x1*B64+x0)*2^s:=by
 have hp:0<2^s:=Nat.pow_pos (by omega);have e:2^(64-s)*2^s=B64:=by
  rw[<- Nat.pow_add,show 64-s+s=64 by omega];rfl
 have a1:(x1+1)*2^s<=d*2^s:=Nat.mul_le_mul_right _ h1;rw[Nat.add_mul,Nat.one_mul]at a1;have a2:x0/2^(64-s)<2^s:=by
  rw[Nat.div_lt_iff_lt_mul (Nat.pow_pos (by omega)),Nat.mul_comm,e];exact h0
 have a3:x0*2^s/B64=x0/2^(64-s):=by
  rw[<- e,Nat.mul_div_mul_right _ _ hp]
 have a4:=Nat.div_add_mod (x0*2^s) B64;rw[a3]at a4;refine⟨by omega,a2,by omega,?_⟩;rw[Nat.add_mul,Nat.add_mul,Nat.mul_assoc,Nat.mul_comm (2^s),<- Nat.mul_assoc,Nat.mul_comm (x0/_)];omega
structure WG (d x1 x0 q r1 r0:Nat):Prop where
 lo:q*d<=x1*B64+x0
 hi:x1*B64+x0<q*d+B64+d
 r:r0+B64*r1=x1*B64+x0-q*d
 q:q<B64
 r0:r0<B64
theorem wg_of{d m x1 x0:Nat}(hT:d<B64)(hT2:B64<=2*d)(hm:(B64*B64-1)/d=B64+m)(h1:x1<d)(h0:x0<B64):WG d x1 x0 (adS (mwH m x1 0) x1 (adC (mwL m x1 0) x0 0)) (sbD x1 (mwH d (adS (mwH m x1 0) x1 (adC (mwL m x1 0) x0 0)) 0) (sbB x0 (mwL d (adS (mwH m x1 0) x1 (adC (mwL m x1 0) x0 0)) 0) 0)) (sbD x0 (mwL d (adS (mwH m x1 0) x1 (adC (mwL m x1 0) x0 0)) 0) 0):=by
 obtain⟨c1,c2,c3⟩:=dE9 B64 d m x1 x0 aA6 hT2 hT hm h1 h0;have e1:=bK4 m x1 0;have e2:=cE8 (mwL m x1 0) x0 0;have e3:=cE7 (mwL m x1 0) x0 0;generalize mwL m x1 0=l at *;generalize mwH m x1 0=h at *;generalize adS l x0 0=s at *;generalize adC l x0 0=c at *;have e4:m*x1+x0=B64*(h+c)+s:=by rw[Nat.mul_add];omega
 have e5:(m*x1+x0)/B64=h+c:=by rw[e4,Nat.mul_add_div aA6,Nat.div_eq_of_lt e3,Nat.add_zero]
 rw[e5]at c1 c2 c3;have e6:adS h x1 c=h+c+x1:=by unfold adS;rw[Nat.mod_eq_of_lt (by omega)];omega
 rw[e6];generalize h+c+x1=q at *;have f1:=bK4 d q 0;have f2:=aR5 d q 0;have f3:=cE9 hT c3 (show 0<B64 from aA6);have f4:=cQ2 h0 f2 (show 0<=1 by omega);have f5:=aO0 x0 (mwL d q 0) 0;have f6:=cQ2 (show x1<B64 by omega) f3 f5;have f7:=aO0 x1 (mwH d q 0) (sbB x0 (mwL d q 0) 0);have f8:=cQ1 x0 (mwL d q 0) 0;have f9:=cQ1 x1 (mwH d q 0) (sbB x0 (mwL d q 0) 0);refine⟨c1,c2,?_,c3,f8⟩;generalize sbD x1 (mwH d q 0) (sbB x0 (mwL d q 0) 0)=r1 at *;generalize sbB x1 (mwH d q 0) (sbB x0 (mwL d q 0) 0)=b2 at *;generalize sbD x0 (mwL d q 0) 0=r0 at *;generalize sbB x0 (mwL d q 0) 0=b1 at *;generalize mwL d q 0=p0 at *;generalize mwH d q 0=p1 at *;have g1:d*q=q*d:=Nat.mul_comm _ _;have g2:B64*(r1+p1+b1)=B64*(x1+B64*b2):=by rw[f6]
 rw[Nat.mul_add,Nat.mul_add,Nat.mul_add]at g2;have g3:B64*x1=x1*B64:=Nat.mul_comm _ _;have g4:B64*(r1+1)<=B64*B64:=Nat.mul_le_mul_left _ (by omega);rw[Nat.mul_add,Nat.mul_one]at g4;have g5:b2=0\/b2=1:=by omega
 rcases g5 with rfl|rfl
 ·rw[Nat.mul_zero,Nat.mul_zero]at g2;omega
 ·rw[Nat.mul_one]at g2;omega
theorem dQ3(x1 x0 d m q r1 r0 Q R:Nat)(w:World)(hs2:64-Lib.bitLen d=0)(h:WG d x1 x0 q r1 r0)(hd:d<B64)(hm:m<B64)(h1:x1<d)(h0:x0<B64)(g1:r1=0)(g2:r0<d)(eq:q=adS (mwH m x1 0) x1 (adC (mwL m x1 0) x0 0))(er1:r1=sbD x1 (mwH d q 0) (sbB x0 (mwL d q 0) 0))(er0:r0=sbD x0 (mwL d q 0) 0)(hQ:Q=q)(hR:R=r0)(hQw:Q<B64):
  Calls prog 276 #[.int .u64 (x1:Int),.int .u64 (x0:Int),.int .u64 (d:Int),.int .u64 (m:Int)] w fun e w'=>e=.returned (.tuple #[.int .u64 (Q:Int),.int .u64 (R:Int)])/\w=w':=by
 have hB:B64=18446744073709551616:=rfl;have hx1:x1<B64:=by omega
 have hc1:adC (mwL m x1 0) x0 0<=1:=aX0 (aR5 _ _ _) h0 (by omega);have hb1:=aO0 x0 (mwL d q 0) 0;have hr0:=h.r0;have HN:=hiD (fun w=>aJ6 d hd w);rw[hs2]at HN;have HM1:Hid (∀ w,Calls prog 200 #[.int .u64 (m:Int),.int .u64 (x1:Int)] w fun e w'=>e=.returned (.tuple #[.int .u64 ((mwH m x1 0:Nat):Int),.int .u64 ((mwL m x1 0:Nat):Int)])/\w=w'):=fun w=>aD2 m x1 hm hx1 w
 have HM2:Hid (∀ w,Calls prog 200 #[.int .u64 (d:Int),.int .u64 (q:Int)] w fun e w'=>e=.returned (.tuple #[.int .u64 ((mwH d q 0:Nat):Int),.int .u64 ((mwL d q 0:Nat):Int)])/\w=w'):=fun w=>aD2 d q hd h.q w
 have HA1:=hiD (fun w=>aD9 (mwL m x1 0) x0 0 (by omega) w);have HA2:=hiD (fun w=>aD9 (mwH m x1 0) x1 (adC (mwL m x1 0) x0 0) hc1 w);rw[<- eq]at HA2;have HS1:=hiD (fun w=>aE7 x0 (mwL d q 0) 0 (by omega) w);rw[<- er0]at HS1;have HS2:=hiD (fun w=>aE7 x1 (mwH d q 0) (sbB x0 (mwL d q 0) 0) hb1 w);rw[<- er1]at HS2;have f1:((r1:Int)==0)=true:=beqT (by omega);have f1':r1=0:=g1;have f2:decide (d<=r0)=false:=decF (by omega);rw[hQ];rw[hR];clear eq er1 er0 h hc1 hb1 hQ hR hQw hB hx1 hr0 hd hm h1 h0 hs2 g2;generalize mwL m x1 0=l at *;generalize mwH m x1 0=hh at *;generalize adC l x0 0=c1 at *;generalize adS l x0 0=ss at *;generalize mwL d q 0=p0 at *;generalize mwH d q 0=p1 at *;generalize sbB x0 p0 0=bb at *;go_enter func276,ntmps276;go_wp2_with fail;refine(HN.out _).mono ?_;rintro e w' ⟨rfl,rfl⟩;go_wp2_with fail;refine(HM1.out _).mono ?_;rintro e w' ⟨rfl,rfl⟩;go_wp2_with fail;refine(HA1.out _).mono ?_;rintro e w' ⟨rfl,rfl⟩;go_wp2_with fail;refine(HA2.out _).mono ?_;rintro e w' ⟨rfl,rfl⟩;go_wp2_with fail;refine(HM2.out _).mono ?_;rintro e w' ⟨rfl,rfl⟩;go_wp2_with fail;refine(HS1.out _).mono ?_;rintro e w' ⟨rfl,rfl⟩;go_wp2_with fail;refine(HS2.out _).mono ?_;rintro e w' ⟨rfl,rfl⟩;go_wp2_with fail;go_ret2;exact⟨rfl,rfl⟩
theorem dQ4(x1 x0 d m q r1 r0 Q R:Nat)(w:World)(hs2:64-Lib.bitLen d=0)(h:WG d x1 x0 q r1 r0)(hd:d<B64)(hm:m<B64)(h1:x1<d)(h0:x0<B64)(g1:r1=0)(g2:d<=r0)(eq:q=adS (mwH m x1 0) x1 (adC (mwL m x1 0) x0 0))(er1:r1=sbD x1 (mwH d q 0) (sbB x0 (mwL d q 0) 0))(er0:r0=sbD x0 (mwL d q 0) 0)(hQ:Q=q+1)(hR:R=r0-d)(hQw:Q<B64):
  Calls prog 276 #[.int .u64 (x1:Int),.int .u64 (x0:Int),.int .u64 (d:Int),.int .u64 (m:Int)] w fun e w'=>e=.returned (.tuple #[.int .u64 (Q:Int),.int .u64 (R:Int)])/\w=w':=by
 have hB:B64=18446744073709551616:=rfl;have hx1:x1<B64:=by omega
 have hc1:adC (mwL m x1 0) x0 0<=1:=aX0 (aR5 _ _ _) h0 (by omega);have hb1:=aO0 x0 (mwL d q 0) 0;have hr0:=h.r0;have HN:=hiD (fun w=>aJ6 d hd w);rw[hs2]at HN;have HM1:Hid (∀ w,Calls prog 200 #[.int .u64 (m:Int),.int .u64 (x1:Int)] w fun e w'=>e=.returned (.tuple #[.int .u64 ((mwH m x1 0:Nat):Int),.int .u64 ((mwL m x1 0:Nat):Int)])/\w=w'):=fun w=>aD2 m x1 hm hx1 w
 have HM2:Hid (∀ w,Calls prog 200 #[.int .u64 (d:Int),.int .u64 (q:Int)] w fun e w'=>e=.returned (.tuple #[.int .u64 ((mwH d q 0:Nat):Int),.int .u64 ((mwL d q 0:Nat):Int)])/\w=w'):=fun w=>aD2 d q hd h.q w
 have HA1:=hiD (fun w=>aD9 (mwL m x1 0) x0 0 (by omega) w);have HA2:=hiD (fun w=>aD9 (mwH m x1 0) x1 (adC (mwL m x1 0) x0 0) hc1 w);rw[<- eq]at HA2;have HS1:=hiD (fun w=>aE7 x0 (mwL d q 0) 0 (by omega) w);rw[<- er0]at HS1;have HS2:=hiD (fun w=>aE7 x1 (mwH d q 0) (sbB x0 (mwL d q 0) 0) hb1 w);rw[<- er1]at HS2;have f1:((r1:Int)==0)=true:=beqT (by omega);have f1':r1=0:=g1;have f2:decide (d<=r0)=true:=decT (by omega);obtain⟨S,hS⟩:∃ S,S=r0-d:=⟨_,rfl⟩;rw[<- hS]at hR;obtain⟨q1,hq1⟩:∃ q1,q1=q+1:=⟨_,rfl⟩;rw[<- hq1]at hQ;have f3:IntKind.u64.wrap ((q:Int)+1)=(q1:Int):=by rw[IntKind.wrap_u64];omega
 have f4:IntKind.u64.wrap ((r0:Int)-(d:Int))=(S:Int):=by rw[IntKind.wrap_u64];omega
 rw[hQ];rw[hR];clear eq er1 er0 h hc1 hb1 hQ hR hQw hB hx1 hr0 hd hm h1 h0 hs2 hS hq1 g2;generalize mwL m x1 0=l at *;generalize mwH m x1 0=hh at *;generalize adC l x0 0=c1 at *;generalize adS l x0 0=ss at *;generalize mwL d q 0=p0 at *;generalize mwH d q 0=p1 at *;generalize sbB x0 p0 0=bb at *;go_enter func276,ntmps276;go_wp2_with fail;refine(HN.out _).mono ?_;rintro e w' ⟨rfl,rfl⟩;go_wp2_with fail;refine(HM1.out _).mono ?_;rintro e w' ⟨rfl,rfl⟩;go_wp2_with fail;refine(HA1.out _).mono ?_;rintro e w' ⟨rfl,rfl⟩;go_wp2_with fail;refine(HA2.out _).mono ?_;rintro e w' ⟨rfl,rfl⟩;go_wp2_with fail;refine(HM2.out _).mono ?_;rintro e w' ⟨rfl,rfl⟩;go_wp2_with fail;refine(HS1.out _).mono ?_;rintro e w' ⟨rfl,rfl⟩;go_wp2_with fail;refine(HS2.out _).mono ?_;rintro e w' ⟨rfl,rfl⟩;go_wp2_with fail;go_ret2;exact⟨rfl,rfl⟩
theorem dQ5(x1 x0 d m q r1 r0 Q R:Nat)(w:World)(hs2:64-Lib.bitLen d=0)(h:WG d x1 x0 q r1 r0)(hd:d<B64)(hm:m<B64)(h1:x1<d)(h0:x0<B64)(g1:r1=1)(g2:r0+B64-d<d)(g3:r0+B64-d<B64)(eq:q=adS (mwH m x1 0) x1 (adC (mwL m x1 0) x0 0))(er1:r1=sbD x1 (mwH d q 0) (sbB x0 (mwL d q 0) 0))(er0:r0=sbD x0 (mwL d q 0) 0)(hQ:Q=q+1)(hR:R=r0+B64-d)(hQw:Q<B64):
  Calls prog 276 #[.int .u64 (x1:Int),.int .u64 (x0:Int),.int .u64 (d:Int),.int .u64 (m:Int)] w fun e w'=>e=.returned (.tuple #[.int .u64 (Q:Int),.int .u64 (R:Int)])/\w=w':=by
 have hB:B64=18446744073709551616:=rfl;have hx1:x1<B64:=by omega
 have hc1:adC (mwL m x1 0) x0 0<=1:=aX0 (aR5 _ _ _) h0 (by omega);have hb1:=aO0 x0 (mwL d q 0) 0;have hr0:=h.r0;have HN:=hiD (fun w=>aJ6 d hd w);rw[hs2]at HN;have HM1:Hid (∀ w,Calls prog 200 #[.int .u64 (m:Int),.int .u64 (x1:Int)] w fun e w'=>e=.returned (.tuple #[.int .u64 ((mwH m x1 0:Nat):Int),.int .u64 ((mwL m x1 0:Nat):Int)])/\w=w'):=fun w=>aD2 m x1 hm hx1 w
 have HM2:Hid (∀ w,Calls prog 200 #[.int .u64 (d:Int),.int .u64 (q:Int)] w fun e w'=>e=.returned (.tuple #[.int .u64 ((mwH d q 0:Nat):Int),.int .u64 ((mwL d q 0:Nat):Int)])/\w=w'):=fun w=>aD2 d q hd h.q w
 have HA1:=hiD (fun w=>aD9 (mwL m x1 0) x0 0 (by omega) w);have HA2:=hiD (fun w=>aD9 (mwH m x1 0) x1 (adC (mwL m x1 0) x0 0) hc1 w);rw[<- eq]at HA2;have HS1:=hiD (fun w=>aE7 x0 (mwL d q 0) 0 (by omega) w);rw[<- er0]at HS1;have HS2:=hiD (fun w=>aE7 x1 (mwH d q 0) (sbB x0 (mwL d q 0) 0) hb1 w);rw[<- er1]at HS2;have f1:((r1:Int)==0)=false:=beqF (by omega);have f1':¬ r1=0:=by omega
 obtain⟨S,hS⟩:∃ S,S=r0+B64-d:=⟨_,rfl⟩;rw[<- hS]at g2 g3 hR;obtain⟨q1,hq1⟩:∃ q1,q1=q+1:=⟨_,rfl⟩;have f3:IntKind.u64.wrap ((q:Int)+1)=(q1:Int):=by rw[IntKind.wrap_u64];omega
 have f4:IntKind.u64.wrap ((r0:Int)-(d:Int))=(S:Int):=by rw[IntKind.wrap_u64];omega
 rw[<- hq1]at hQ;have f2:decide (d<=S)=false:=decF (by omega);rw[hQ];rw[hR];clear eq er1 er0 h hc1 hb1 hQ hR hQw hB hx1 hr0 hd hm h1 h0 hs2 hS hq1 g2 g3;generalize mwL m x1 0=l at *;generalize mwH m x1 0=hh at *;generalize adC l x0 0=c1 at *;generalize adS l x0 0=ss at *;generalize mwL d q 0=p0 at *;generalize mwH d q 0=p1 at *;generalize sbB x0 p0 0=bb at *;go_enter func276,ntmps276;go_wp2_with fail;refine(HN.out _).mono ?_;rintro e w' ⟨rfl,rfl⟩;go_wp2_with fail;refine(HM1.out _).mono ?_;rintro e w' ⟨rfl,rfl⟩;go_wp2_with fail;refine(HA1.out _).mono ?_;rintro e w' ⟨rfl,rfl⟩;go_wp2_with fail;refine(HA2.out _).mono ?_;rintro e w' ⟨rfl,rfl⟩;go_wp2_with fail;refine(HM2.out _).mono ?_;rintro e w' ⟨rfl,rfl⟩;go_wp2_with fail;refine(HS1.out _).mono ?_;rintro e w' ⟨rfl,rfl⟩;go_wp2_with fail;refine(HS2.out _).mono ?_;rintro e w' ⟨rfl,rfl⟩;go_wp2_with fail;go_ret2;exact⟨rfl,rfl⟩
theorem dQ6(x1 x0 d m q r1 r0 Q R:Nat)(w:World)(hs2:64-Lib.bitLen d=0)(h:WG d x1 x0 q r1 r0)(hd:d<B64)(hm:m<B64)(h1:x1<d)(h0:x0<B64)(g1:r1=1)(g2:d<=r0+B64-d)(g3:r0+B64-d<B64)(eq:q=adS (mwH m x1 0) x1 (adC (mwL m x1 0) x0 0))(er1:r1=sbD x1 (mwH d q 0) (sbB x0 (mwL d q 0) 0))(er0:r0=sbD x0 (mwL d q 0) 0)(hQ:Q=q+2)(hR:R=r0+B64-d-d)(hQw:Q<B64):
  Calls prog 276 #[.int .u64 (x1:Int),.int .u64 (x0:Int),.int .u64 (d:Int),.int .u64 (m:Int)] w fun e w'=>e=.returned (.tuple #[.int .u64 (Q:Int),.int .u64 (R:Int)])/\w=w':=by
 have hB:B64=18446744073709551616:=rfl;have hx1:x1<B64:=by omega
 have hc1:adC (mwL m x1 0) x0 0<=1:=aX0 (aR5 _ _ _) h0 (by omega);have hb1:=aO0 x0 (mwL d q 0) 0;have hr0:=h.r0;have HN:=hiD (fun w=>aJ6 d hd w);rw[hs2]at HN;have HM1:Hid (∀ w,Calls prog 200 #[.int .u64 (m:Int),.int .u64 (x1:Int)] w fun e w'=>e=.returned (.tuple #[.int .u64 ((mwH m x1 0:Nat):Int),.int .u64 ((mwL m x1 0:Nat):Int)])/\w=w'):=fun w=>aD2 m x1 hm hx1 w
 have HM2:Hid (∀ w,Calls prog 200 #[.int .u64 (d:Int),.int .u64 (q:Int)] w fun e w'=>e=.returned (.tuple #[.int .u64 ((mwH d q 0:Nat):Int),.int .u64 ((mwL d q 0:Nat):Int)])/\w=w'):=fun w=>aD2 d q hd h.q w
 have HA1:=hiD (fun w=>aD9 (mwL m x1 0) x0 0 (by omega) w);have HA2:=hiD (fun w=>aD9 (mwH m x1 0) x1 (adC (mwL m x1 0) x0 0) hc1 w);rw[<- eq]at HA2;have HS1:=hiD (fun w=>aE7 x0 (mwL d q 0) 0 (by omega) w);rw[<- er0]at HS1;have HS2:=hiD (fun w=>aE7 x1 (mwH d q 0) (sbB x0 (mwL d q 0) 0) hb1 w);rw[<- er1]at HS2;have f1:((r1:Int)==0)=false:=beqF (by omega);have f1':¬ r1=0:=by omega
 obtain⟨S,hS⟩:∃ S,S=r0+B64-d:=⟨_,rfl⟩;rw[<- hS]at g2 g3 hR;obtain⟨q1,hq1⟩:∃ q1,q1=q+1:=⟨_,rfl⟩;have f3:IntKind.u64.wrap ((q:Int)+1)=(q1:Int):=by rw[IntKind.wrap_u64];omega
 have f4:IntKind.u64.wrap ((r0:Int)-(d:Int))=(S:Int):=by rw[IntKind.wrap_u64];omega
 have f2:decide (d<=S)=true:=decT (by omega);obtain⟨S2,hS2⟩:∃ S2,S2=S-d:=⟨_,rfl⟩;rw[<- hS2]at hR;obtain⟨q2,hq2⟩:∃ q2,q2=q+2:=⟨_,rfl⟩;rw[<- hq2]at hQ;have f5:IntKind.u64.wrap ((q1:Int)+1)=(q2:Int):=by rw[IntKind.wrap_u64];omega
 have f6:IntKind.u64.wrap ((S:Int)-(d:Int))=(S2:Int):=by rw[IntKind.wrap_u64];omega
 rw[hQ];rw[hR];clear eq er1 er0 h hc1 hb1 hQ hR hQw hB hx1 hr0 hd hm h1 h0 hs2 hS hq1 hS2 hq2 g2 g3;generalize mwL m x1 0=l at *;generalize mwH m x1 0=hh at *;generalize adC l x0 0=c1 at *;generalize adS l x0 0=ss at *;generalize mwL d q 0=p0 at *;generalize mwH d q 0=p1 at *;generalize sbB x0 p0 0=bb at *;go_enter func276,ntmps276;go_wp2_with fail;refine(HN.out _).mono ?_;rintro e w' ⟨rfl,rfl⟩;go_wp2_with fail;refine(HM1.out _).mono ?_;rintro e w' ⟨rfl,rfl⟩;go_wp2_with fail;refine(HA1.out _).mono ?_;rintro e w' ⟨rfl,rfl⟩;go_wp2_with fail;refine(HA2.out _).mono ?_;rintro e w' ⟨rfl,rfl⟩;go_wp2_with fail;refine(HM2.out _).mono ?_;rintro e w' ⟨rfl,rfl⟩;go_wp2_with fail;refine(HS1.out _).mono ?_;rintro e w' ⟨rfl,rfl⟩;go_wp2_with fail;refine(HS2.out _).mono ?_;rintro e w' ⟨rfl,rfl⟩;go_wp2_with fail;go_ret2;exact⟨rfl,rfl⟩
theorem dF1(z1 z0 c s x1 x0 d m q r1 r0 Q R F:Nat)(w:World)(hs0:s≠0)(hs:s<64)(hs2:64-Lib.bitLen c=s)(hcb:c<B64)(hz1:z1<c)(hz0:z0<B64)(ex1:x1=z1*2^s+z0/2^(64-s))(ex0:x0=z0*2^s%B64)(ed:d=c*2^s)(hF:F=R/2^s)(h:WG d x1 x0 q r1 r0)(hd:d<B64)(hm:m<B64)(h1:x1<d)(h0:x0<B64)(g1:r1=0)(g2:r0<d)(eq:q=adS (mwH m x1 0) x1 (adC (mwL m x1 0) x0 0))(er1:r1=sbD x1 (mwH d q 0) (sbB x0 (mwL d q 0) 0))(er0:r0=sbD x0 (mwL d q 0) 0)(hQ:Q=q)(hR:R=r0)(hQw:Q<B64):
  Calls prog 276 #[.int .u64 (z1:Int),.int .u64 (z0:Int),.int .u64 (c:Int),.int .u64 (m:Int)] w fun e w'=>e=.returned (.tuple #[.int .u64 (Q:Int),.int .u64 (F:Int)])/\w=w':=by
 have hB:B64=18446744073709551616:=rfl;have hx1:x1<B64:=by omega
 have hc1:adC (mwL m x1 0) x0 0<=1:=aX0 (aR5 _ _ _) h0 (by omega);have hb1:=aO0 x0 (mwL d q 0) 0;have hr0:=h.r0;have HN:=hiD (fun w=>aJ6 c hcb w);rw[hs2]at HN;have HM1:Hid (∀ w,Calls prog 200 #[.int .u64 (m:Int),.int .u64 (x1:Int)] w fun e w'=>e=.returned (.tuple #[.int .u64 ((mwH m x1 0:Nat):Int),.int .u64 ((mwL m x1 0:Nat):Int)])/\w=w'):=fun w=>aD2 m x1 hm hx1 w
 have HM2:Hid (∀ w,Calls prog 200 #[.int .u64 (d:Int),.int .u64 (q:Int)] w fun e w'=>e=.returned (.tuple #[.int .u64 ((mwH d q 0:Nat):Int),.int .u64 ((mwL d q 0:Nat):Int)])/\w=w'):=fun w=>aD2 d q hd h.q w
 have HA1:=hiD (fun w=>aD9 (mwL m x1 0) x0 0 (by omega) w);have HA2:=hiD (fun w=>aD9 (mwH m x1 0) x1 (adC (mwL m x1 0) x0 0) hc1 w);rw[<- eq]at HA2;have HS1:=hiD (fun w=>aE7 x0 (mwL d q 0) 0 (by omega) w);rw[<- er0]at HS1;have HS2:=hiD (fun w=>aE7 x1 (mwH d q 0) (sbB x0 (mwL d q 0) 0) hb1 w);rw[<- er1]at HS2;obtain⟨y1,y2,y3,y4⟩:=aM0 hs hz1 (by rw[<- ed];exact hd) hz0;obtain⟨A1,hA1⟩:∃ A,A=z1*2^s:=⟨_,rfl⟩;obtain⟨B1,hB1⟩:∃ B,B=z0/2^(64-s):=⟨_,rfl⟩;have p0:((s:Int)==0)=false:=beqF (by omega);have p0':¬ s=0:=hs0;have p1:IntKind.u64.wrap ((z1:Int)*2^s)=(A1:Int):=aQ8 hA1 (by omega);have p2:(z0:Int)/2^(64-s)=(B1:Int):=by rw[hB1,Int.natCast_ediv,Int.natCast_pow];rfl
 have p3:bits BinOp.or IntKind.u64 (A1:Int) (B1:Int)=(x1:Int):=by rw[hA1,bU5 z1 B1 s (by omega) (by omega) hs,ex1,hB1]
 have p4:IntKind.u64.wrap ((z0:Int)*2^s)=(x0:Int):=by
  rw[IntKind.wrap_u64,ex0,hB,Int.natCast_emod,Int.natCast_mul,Int.natCast_pow];rfl
 have p5:IntKind.u64.wrap ((c:Int)*2^s)=(d:Int):=aQ8 ed hd;have p6:IntKind.u64.wrap (64-(s:Int))=((64-s:Nat):Int):=by rw[IntKind.wrap_u64];omega
 have p7:decide (64<=s)=false:=decF (by omega);have p8:min s 64=s:=by omega
 have f1:((r1:Int)==0)=true:=beqT (by omega);have f1':r1=0:=g1;have f2:decide (d<=r0)=false:=decF (by omega);rw[hR]at hF;have f9:(r0:Int)/2^s=(F:Int):=by rw[hF,Int.natCast_ediv,Int.natCast_pow];rfl
 rw[hQ];clear eq er1 er0 h hc1 hb1 hQ hR hQw hB hx1 hr0 hd hm h1 h0 hs2 hs0 hs hcb hz1 hz0 ex1 ex0 ed hF y1 y2 y3 y4 hA1 hB1 g2;generalize mwL m x1 0=l at *;generalize mwH m x1 0=hh at *;generalize adC l x0 0=c1 at *;generalize adS l x0 0=ss at *;generalize mwL d q 0=p0 at *;generalize mwH d q 0=p1 at *;generalize sbB x0 p0 0=bb at *;go_enter func276,ntmps276;go_wp2_with fail;refine(HN.out _).mono ?_;rintro e w' ⟨rfl,rfl⟩;go_wp2_with fail;refine(HM1.out _).mono ?_;rintro e w' ⟨rfl,rfl⟩;go_wp2_with fail;refine(HA1.out _).mono ?_;rintro e w' ⟨rfl,rfl⟩;go_wp2_with fail;refine(HA2.out _).mono ?_;rintro e w' ⟨rfl,rfl⟩;go_wp2_with fail;refine(HM2.out _).mono ?_;rintro e w' ⟨rfl,rfl⟩;go_wp2_with fail;refine(HS1.out _).mono ?_;rintro e w' ⟨rfl,rfl⟩;go_wp2_with fail;refine(HS2.out _).mono ?_;rintro e w' ⟨rfl,rfl⟩;go_wp2_with fail;go_ret2;exact⟨rfl,rfl⟩
theorem dF2(z1 z0 c s x1 x0 d m q r1 r0 Q R F:Nat)(w:World)(hs0:s≠0)(hs:s<64)(hs2:64-Lib.bitLen c=s)(hcb:c<B64)(hz1:z1<c)(hz0:z0<B64)(ex1:x1=z1*2^s+z0/2^(64-s))(ex0:x0=z0*2^s%B64)(ed:d=c*2^s)(hF:F=R/2^s)(h:WG d x1 x0 q r1 r0)(hd:d<B64)(hm:m<B64)(h1:x1<d)(h0:x0<B64)(g1:r1=0)(g2:d<=r0)(eq:q=adS (mwH m x1 0) x1 (adC (mwL m x1 0) x0 0))(er1:r1=sbD x1 (mwH d q 0) (sbB x0 (mwL d q 0) 0))(er0:r0=sbD x0 (mwL d q 0) 0)(hQ:Q=q+1)(hR:R=r0-d)(hQw:Q<B64):
  Calls prog 276 #[.int .u64 (z1:Int),.int .u64 (z0:Int),.int .u64 (c:Int),.int .u64 (m:Int)] w fun e w'=>e=.returned (.tuple #[.int .u64 (Q:Int),.int .u64 (F:Int)])/\w=w':=by
 have hB:B64=18446744073709551616:=rfl;have hx1:x1<B64:=by omega
 have hc1:adC (mwL m x1 0) x0 0<=1:=aX0 (aR5 _ _ _) h0 (by omega);have hb1:=aO0 x0 (mwL d q 0) 0;have hr0:=h.r0;have HN:=hiD (fun w=>aJ6 c hcb w);rw[hs2]at HN;have HM1:Hid (∀ w,Calls prog 200 #[.int .u64 (m:Int),.int .u64 (x1:Int)] w fun e w'=>e=.returned (.tuple #[.int .u64 ((mwH m x1 0:Nat):Int),.int .u64 ((mwL m x1 0:Nat):Int)])/\w=w'):=fun w=>aD2 m x1 hm hx1 w
 have HM2:Hid (∀ w,Calls prog 200 #[.int .u64 (d:Int),.int .u64 (q:Int)] w fun e w'=>e=.returned (.tuple #[.int .u64 ((mwH d q 0:Nat):Int),.int .u64 ((mwL d q 0:Nat):Int)])/\w=w'):=fun w=>aD2 d q hd h.q w
 have HA1:=hiD (fun w=>aD9 (mwL m x1 0) x0 0 (by omega) w);have HA2:=hiD (fun w=>aD9 (mwH m x1 0) x1 (adC (mwL m x1 0) x0 0) hc1 w);rw[<- eq]at HA2;have HS1:=hiD (fun w=>aE7 x0 (mwL d q 0) 0 (by omega) w);rw[<- er0]at HS1;have HS2:=hiD (fun w=>aE7 x1 (mwH d q 0) (sbB x0 (mwL d q 0) 0) hb1 w);rw[<- er1]at HS2;obtain⟨y1,y2,y3,y4⟩:=aM0 hs hz1 (by rw[<- ed];exact hd) hz0;obtain⟨A1,hA1⟩:∃ A,A=z1*2^s:=⟨_,rfl⟩;obtain⟨B1,hB1⟩:∃ B,B=z0/2^(64-s):=⟨_,rfl⟩;have p0:((s:Int)==0)=false:=beqF (by omega);have p0':¬ s=0:=hs0;have p1:IntKind.u64.wrap ((z1:Int)*2^s)=(A1:Int):=aQ8 hA1 (by omega);have p2:(z0:Int)/2^(64-s)=(B1:Int):=by rw[hB1,Int.natCast_ediv,Int.natCast_pow];rfl
 have p3:bits BinOp.or IntKind.u64 (A1:Int) (B1:Int)=(x1:Int):=by rw[hA1,bU5 z1 B1 s (by omega) (by omega) hs,ex1,hB1]
 have p4:IntKind.u64.wrap ((z0:Int)*2^s)=(x0:Int):=by
  rw[IntKind.wrap_u64,ex0,hB,Int.natCast_emod,Int.natCast_mul,Int.natCast_pow];rfl
 have p5:IntKind.u64.wrap ((c:Int)*2^s)=(d:Int):=aQ8 ed hd;have p6:IntKind.u64.wrap (64-(s:Int))=((64-s:Nat):Int):=by rw[IntKind.wrap_u64];omega
 have p7:decide (64<=s)=false:=decF (by omega);have p8:min s 64=s:=by omega
 have f1:((r1:Int)==0)=true:=beqT (by omega);have f1':r1=0:=g1;have f2:decide (d<=r0)=true:=decT (by omega);obtain⟨S,hS⟩:∃ S,S=r0-d:=⟨_,rfl⟩;rw[<- hS]at hR;obtain⟨q1,hq1⟩:∃ q1,q1=q+1:=⟨_,rfl⟩;rw[<- hq1]at hQ;have f3:IntKind.u64.wrap ((q:Int)+1)=(q1:Int):=by rw[IntKind.wrap_u64];omega
 have f4:IntKind.u64.wrap ((r0:Int)-(d:Int))=(S:Int):=by rw[IntKind.wrap_u64];omega
 rw[hR]at hF;have f9:(S:Int)/2^s=(F:Int):=by rw[hF,Int.natCast_ediv,Int.natCast_pow];rfl
 rw[hQ];clear eq er1 er0 h hc1 hb1 hQ hR hQw hB hx1 hr0 hd hm h1 h0 hs2 hs0 hs hcb hz1 hz0 ex1 ex0 ed hF y1 y2 y3 y4 hA1 hB1 hS hq1 g2;generalize mwL m x1 0=l at *;generalize mwH m x1 0=hh at *;generalize adC l x0 0=c1 at *;generalize adS l x0 0=ss at *;generalize mwL d q 0=p0 at *;generalize mwH d q 0=p1 at *;generalize sbB x0 p0 0=bb at *;go_enter func276,ntmps276;go_wp2_with fail;refine(HN.out _).mono ?_;rintro e w' ⟨rfl,rfl⟩;go_wp2_with fail;refine(HM1.out _).mono ?_;rintro e w' ⟨rfl,rfl⟩;go_wp2_with fail;refine(HA1.out _).mono ?_;rintro e w' ⟨rfl,rfl⟩;go_wp2_with fail;refine(HA2.out _).mono ?_;rintro e w' ⟨rfl,rfl⟩;go_wp2_with fail;refine(HM2.out _).mono ?_;rintro e w' ⟨rfl,rfl⟩;go_wp2_with fail;refine(HS1.out _).mono ?_;rintro e w' ⟨rfl,rfl⟩;go_wp2_with fail;refine(HS2.out _).mono ?_;rintro e w' ⟨rfl,rfl⟩;go_wp2_with fail;go_ret2;exact⟨rfl,rfl⟩
theorem dF3(z1 z0 c s x1 x0 d m q r1 r0 Q R F:Nat)(w:World)(hs0:s≠0)(hs:s<64)(hs2:64-Lib.bitLen c=s)(hcb:c<B64)(hz1:z1<c)(hz0:z0<B64)(ex1:x1=z1*2^s+z0/2^(64-s))(ex0:x0=z0*2^s%B64)(ed:d=c*2^s)(hF:F=R/2^s)(h:WG d x1 x0 q r1 r0)(hd:d<B64)(hm:m<B64)(h1:x1<d)(h0:x0<B64)(g1:r1=1)(g2:r0+B64-d<d)(g3:r0+B64-d<B64)(eq:q=adS (mwH m x1 0) x1 (adC (mwL m x1 0) x0 0))(er1:r1=sbD x1 (mwH d q 0) (sbB x0 (mwL d q 0) 0))(er0:r0=sbD x0 (mwL d q 0) 0)(hQ:Q=q+1)(hR:R=r0+B64-d)(hQw:Q<B64):
  Calls prog 276 #[.int .u64 (z1:Int),.int .u64 (z0:Int),.int .u64 (c:Int),.int .u64 (m:Int)] w fun e w'=>e=.returned (.tuple #[.int .u64 (Q:Int),.int .u64 (F:Int)])/\w=w':=by
 have hB:B64=18446744073709551616:=rfl;have hx1:x1<B64:=by omega
 have hc1:adC (mwL m x1 0) x0 0<=1:=aX0 (aR5 _ _ _) h0 (by omega);have hb1:=aO0 x0 (mwL d q 0) 0;have hr0:=h.r0;have HN:=hiD (fun w=>aJ6 c hcb w);rw[hs2]at HN;have HM1:Hid (∀ w,Calls prog 200 #[.int .u64 (m:Int),.int .u64 (x1:Int)] w fun e w'=>e=.returned (.tuple #[.int .u64 ((mwH m x1 0:Nat):Int),.int .u64 ((mwL m x1 0:Nat):Int)])/\w=w'):=fun w=>aD2 m x1 hm hx1 w
 have HM2:Hid (∀ w,Calls prog 200 #[.int .u64 (d:Int),.int .u64 (q:Int)] w fun e w'=>e=.returned (.tuple #[.int .u64 ((mwH d q 0:Nat):Int),.int .u64 ((mwL d q 0:Nat):Int)])/\w=w'):=fun w=>aD2 d q hd h.q w
 have HA1:=hiD (fun w=>aD9 (mwL m x1 0) x0 0 (by omega) w);have HA2:=hiD (fun w=>aD9 (mwH m x1 0) x1 (adC (mwL m x1 0) x0 0) hc1 w);rw[<- eq]at HA2;have HS1:=hiD (fun w=>aE7 x0 (mwL d q 0) 0 (by omega) w);rw[<- er0]at HS1;have HS2:=hiD (fun w=>aE7 x1 (mwH d q 0) (sbB x0 (mwL d q 0) 0) hb1 w);rw[<- er1]at HS2;obtain⟨y1,y2,y3,y4⟩:=aM0 hs hz1 (by rw[<- ed];exact hd) hz0;obtain⟨A1,hA1⟩:∃ A,A=z1*2^s:=⟨_,rfl⟩;obtain⟨B1,hB1⟩:∃ B,B=z0/2^(64-s):=⟨_,rfl⟩;have p0:((s:Int)==0)=false:=beqF (by omega);have p0':¬ s=0:=hs0;have p1:IntKind.u64.wrap ((z1:Int)*2^s)=(A1:Int):=aQ8 hA1 (by omega);have p2:(z0:Int)/2^(64-s)=(B1:Int):=by rw[hB1,Int.natCast_ediv,Int.natCast_pow];rfl
 have p3:bits BinOp.or IntKind.u64 (A1:Int) (B1:Int)=(x1:Int):=by rw[hA1,bU5 z1 B1 s (by omega) (by omega) hs,ex1,hB1]
 have p4:IntKind.u64.wrap ((z0:Int)*2^s)=(x0:Int):=by
  rw[IntKind.wrap_u64,ex0,hB,Int.natCast_emod,Int.natCast_mul,Int.natCast_pow];rfl
 have p5:IntKind.u64.wrap ((c:Int)*2^s)=(d:Int):=aQ8 ed hd;have p6:IntKind.u64.wrap (64-(s:Int))=((64-s:Nat):Int):=by rw[IntKind.wrap_u64];omega
 have p7:decide (64<=s)=false:=decF (by omega);have p8:min s 64=s:=by omega
 have f1:((r1:Int)==0)=false:=beqF (by omega);have f1':¬ r1=0:=by omega
 obtain⟨S,hS⟩:∃ S,S=r0+B64-d:=⟨_,rfl⟩;rw[<- hS]at g2 g3 hR;obtain⟨q1,hq1⟩:∃ q1,q1=q+1:=⟨_,rfl⟩;have f3:IntKind.u64.wrap ((q:Int)+1)=(q1:Int):=by rw[IntKind.wrap_u64];omega
 have f4:IntKind.u64.wrap ((r0:Int)-(d:Int))=(S:Int):=by rw[IntKind.wrap_u64];omega
 rw[<- hq1]at hQ;have f2:decide (d<=S)=false:=decF (by omega);rw[hR]at hF;have f9:(S:Int)/2^s=(F:Int):=by rw[hF,Int.natCast_ediv,Int.natCast_pow];rfl
 rw[hQ];clear eq er1 er0 h hc1 hb1 hQ hR hQw hB hx1 hr0 hd hm h1 h0 hs2 hs0 hs hcb hz1 hz0 ex1 ex0 ed hF y1 y2 y3 y4 hA1 hB1 hS hq1 g2 g3;generalize mwL m x1 0=l at *;generalize mwH m x1 0=hh at *;generalize adC l x0 0=c1 at *;generalize adS l x0 0=ss at *;generalize mwL d q 0=p0 at *;generalize mwH d q 0=p1 at *;generalize sbB x0 p0 0=bb at *;go_enter func276,ntmps276;go_wp2_with fail;refine(HN.out _).mono ?_;rintro e w' ⟨rfl,rfl⟩;go_wp2_with fail;refine(HM1.out _).mono ?_;rintro e w' ⟨rfl,rfl⟩;go_wp2_with fail;refine(HA1.out _).mono ?_;rintro e w' ⟨rfl,rfl⟩;go_wp2_with fail;refine(HA2.out _).mono ?_;rintro e w' ⟨rfl,rfl⟩;go_wp2_with fail;refine(HM2.out _).mono ?_;rintro e w' ⟨rfl,rfl⟩;go_wp2_with fail;refine(HS1.out _).mono ?_;rintro e w' ⟨rfl,rfl⟩;go_wp2_with fail;refine(HS2.out _).mono ?_;rintro e w' ⟨rfl,rfl⟩;go_wp2_with fail;go_ret2;exact⟨rfl,rfl⟩
theorem dF4(z1 z0 c s x1 x0 d m q r1 r0 Q R F:Nat)(w:World)(hs0:s≠0)(hs:s<64)(hs2:64-Lib.bitLen c=s)(hcb:c<B64)(hz1:z1<c)(hz0:z0<B64)(ex1:x1=z1*2^s+z0/2^(64-s))(ex0:x0=z0*2^s%B64)(ed:d=c*2^s)(hF:F=R/2^s)(h:WG d x1 x0 q r1 r0)(hd:d<B64)(hm:m<B64)(h1:x1<d)(h0:x0<B64)(g1:r1=1)(g2:d<=r0+B64-d)(g3:r0+B64-d<B64)(eq:q=adS (mwH m x1 0) x1 (adC (mwL m x1 0) x0 0))(er1:r1=sbD x1 (mwH d q 0) (sbB x0 (mwL d q 0) 0))(er0:r0=sbD x0 (mwL d q 0) 0)(hQ:Q=q+2)(hR:R=r0+B64-d-d)(hQw:Q<B64):
  Calls prog 276 #[.int .u64 (z1:Int),.int .u64 (z0:Int),.int .u64 (c:Int),.int .u64 (m:Int)] w fun e w'=>e=.returned (.tuple #[.int .u64 (Q:Int),.int .u64 (F:Int)])/\w=w':=by
 have hB:B64=18446744073709551616:=rfl;have hx1:x1<B64:=by omega
 have hc1:adC (mwL m x1 0) x0 0<=1:=aX0 (aR5 _ _ _) h0 (by omega);have hb1:=aO0 x0 (mwL d q 0) 0;have hr0:=h.r0;have HN:=hiD (fun w=>aJ6 c hcb w);rw[hs2]at HN;have HM1:Hid (∀ w,Calls prog 200 #[.int .u64 (m:Int),.int .u64 (x1:Int)] w fun e w'=>e=.returned (.tuple #[.int .u64 ((mwH m x1 0:Nat):Int),.int .u64 ((mwL m x1 0:Nat):Int)])/\w=w'):=fun w=>aD2 m x1 hm hx1 w
 have HM2:Hid (∀ w,Calls prog 200 #[.int .u64 (d:Int),.int .u64 (q:Int)] w fun e w'=>e=.returned (.tuple #[.int .u64 ((mwH d q 0:Nat):Int),.int .u64 ((mwL d q 0:Nat):Int)])/\w=w'):=fun w=>aD2 d q hd h.q w
 have HA1:=hiD (fun w=>aD9 (mwL m x1 0) x0 0 (by omega) w);have HA2:=hiD (fun w=>aD9 (mwH m x1 0) x1 (adC (mwL m x1 0) x0 0) hc1 w);rw[<- eq]at HA2;have HS1:=hiD (fun w=>aE7 x0 (mwL d q 0) 0 (by omega) w);rw[<- er0]at HS1;have HS2:=hiD (fun w=>aE7 x1 (mwH d q 0) (sbB x0 (mwL d q 0) 0) hb1 w);rw[<- er1]at HS2;obtain⟨y1,y2,y3,y4⟩:=aM0 hs hz1 (by rw[<- ed];exact hd) hz0;obtain⟨A1,hA1⟩:∃ A,A=z1*2^s:=⟨_,rfl⟩;obtain⟨B1,hB1⟩:∃ B,B=z0/2^(64-s):=⟨_,rfl⟩;have p0:((s:Int)==0)=false:=beqF (by omega);have p0':¬ s=0:=hs0;have p1:IntKind.u64.wrap ((z1:Int)*2^s)=(A1:Int):=aQ8 hA1 (by omega);have p2:(z0:Int)/2^(64-s)=(B1:Int):=by rw[hB1,Int.natCast_ediv,Int.natCast_pow];rfl
 have p3:bits BinOp.or IntKind.u64 (A1:Int) (B1:Int)=(x1:Int):=by rw[hA1,bU5 z1 B1 s (by omega) (by omega) hs,ex1,hB1]
 have p4:IntKind.u64.wrap ((z0:Int)*2^s)=(x0:Int):=by
  rw[IntKind.wrap_u64,ex0,hB,Int.natCast_emod,Int.natCast_mul,Int.natCast_pow];rfl
 have p5:IntKind.u64.wrap ((c:Int)*2^s)=(d:Int):=aQ8 ed hd;have p6:IntKind.u64.wrap (64-(s:Int))=((64-s:Nat):Int):=by rw[IntKind.wrap_u64];omega
 have p7:decide (64<=s)=false:=decF (by omega);have p8:min s 64=s:=by omega
 have f1:((r1:Int)==0)=false:=beqF (by omega);have f1':¬ r1=0:=by omega
 obtain⟨S,hS⟩:∃ S,S=r0+B64-d:=⟨_,rfl⟩;rw[<- hS]at g2 g3 hR;obtain⟨q1,hq1⟩:∃ q1,q1=q+1:=⟨_,rfl⟩;have f3:IntKind.u64.wrap ((q:Int)+1)=(q1:Int):=by rw[IntKind.wrap_u64];omega
 have f4:IntKind.u64.wrap ((r0:Int)-(d:Int))=(S:Int):=by rw[IntKind.wrap_u64];omega
 have f2:decide (d<=S)=true:=decT (by omega);obtain⟨S2,hS2⟩:∃ S2,S2=S-d:=⟨_,rfl⟩;rw[<- hS2]at hR;obtain⟨q2,hq2⟩:∃ q2,q2=q+2:=⟨_,rfl⟩;rw[<- hq2]at hQ;have f5:IntKind.u64.wrap ((q1:Int)+1)=(q2:Int):=by rw[IntKind.wrap_u64];omega
 have f6:IntKind.u64.wrap ((S:Int)-(d:Int))=(S2:Int):=by rw[IntKind.wrap_u64];omega
 rw[hR]at hF;have f9:(S2:Int)/2^s=(F:Int):=by rw[hF,Int.natCast_ediv,Int.natCast_pow];rfl
 rw[hQ];clear eq er1 er0 h hc1 hb1 hQ hR hQw hB hx1 hr0 hd hm h1 h0 hs2 hs0 hs hcb hz1 hz0 ex1 ex0 ed hF y1 y2 y3 y4 hA1 hB1 hS hq1 hS2 hq2 g2 g3;generalize mwL m x1 0=l at *;generalize mwH m x1 0=hh at *;generalize adC l x0 0=c1 at *;generalize adS l x0 0=ss at *;generalize mwL d q 0=p0 at *;generalize mwH d q 0=p1 at *;generalize sbB x0 p0 0=bb at *;go_enter func276,ntmps276;go_wp2_with fail;refine(HN.out _).mono ?_;rintro e w' ⟨rfl,rfl⟩;go_wp2_with fail;refine(HM1.out _).mono ?_;rintro e w' ⟨rfl,rfl⟩;go_wp2_with fail;refine(HA1.out _).mono ?_;rintro e w' ⟨rfl,rfl⟩;go_wp2_with fail;refine(HA2.out _).mono ?_;rintro e w' ⟨rfl,rfl⟩;go_wp2_with fail;refine(HM2.out _).mono ?_;rintro e w' ⟨rfl,rfl⟩;go_wp2_with fail;refine(HS1.out _).mono ?_;rintro e w' ⟨rfl,rfl⟩;go_wp2_with fail;refine(HS2.out _).mono ?_;rintro e w' ⟨rfl,rfl⟩;go_wp2_with fail;go_ret2;exact⟨rfl,rfl⟩
theorem bU6(x1 x0 d:Nat)(hd0:9223372036854775808<=d)(hd:d<B64)(h1:x1<d)(h0:x0<B64)(w:World):
  Calls prog 276 #[.int .u64 (x1:Int),.int .u64 (x0:Int),.int .u64 (d:Int),.int .u64 (rcpN d:Int)] w fun e w'=>e=.returned (.tuple #[.int .u64 (((x1*B64+x0)/d:Nat):Int),.int .u64 (((x1*B64+x0)%d:Nat):Int)])/\w=w':=by
 have hB:B64=18446744073709551616:=rfl;obtain⟨v1,v2,-⟩:=bH0 hd0 hd;have h:=wg_of hd (by omega) v1 h1 h0;have hs2:64-Lib.bitLen d=0:=by rw[bG9 63 d hd0 hd hd]
 obtain⟨q,eq⟩:∃ q,q=adS (mwH (rcpN d) x1 0) x1 (adC (mwL (rcpN d) x1 0) x0 0):=⟨_,rfl⟩;rw[<- eq]at h;obtain⟨r0,er0⟩:∃ r,r=sbD x0 (mwL d q 0) 0:=⟨_,rfl⟩;obtain⟨r1,er1⟩:∃ r,r=sbD x1 (mwH d q 0) (sbB x0 (mwL d q 0) 0):=⟨_,rfl⟩;rw[<- er0,<- er1]at h;obtain⟨zz1,zz2,zz3⟩:=cU5 (show B64<=2*d by omega) hd h.lo h.hi;have hr:=h.r;have hlo:=h.lo;have hhi:=h.hi;have hq:=h.q;have hr0:=h.r0;have hQw:(x1*B64+x0)/d<B64:=by
  rw[Nat.div_lt_iff_lt_mul (by omega)];have:(x1+1)*B64<=d*B64:=Nat.mul_le_mul_right _ (by omega);rw[Nat.add_mul,Nat.one_mul]at this;rw[Nat.mul_comm B64 d];omega
 generalize(x1*B64+x0)/d=Q at *;generalize(x1*B64+x0)%d=R at *;generalize x1*B64+x0=NN at *;generalize q*d=X at *;have hc:r1=0\/r1=1:=by
  have:B64*r1<B64*2:=by omega
  have:=Nat.lt_of_mul_lt_mul_left this;omega
 rcases hc with hc'|hc'
 ·rw[hc',Nat.mul_zero]at hr;by_cases g:r0<d
  ·obtain⟨w1,w2⟩:=zz1 (by omega);exact dQ3 x1 x0 d (rcpN d) q r1 r0 Q R w hs2 h hd v2 h1 h0 hc' g eq er1 er0 w1.symm (by omega) hQw
  ·obtain⟨w1,w2⟩:=zz2 (by omega) (by omega);exact dQ4 x1 x0 d (rcpN d) q r1 r0 Q R w hs2 h hd v2 h1 h0 hc' (by omega) eq er1 er0 w1.symm (by omega) hQw
 ·rw[hc',Nat.mul_one]at hr;by_cases g:r0+B64-d<d
  ·obtain⟨w1,w2⟩:=zz2 (by omega) (by omega);exact dQ5 x1 x0 d (rcpN d) q r1 r0 Q R w hs2 h hd v2 h1 h0 hc' g (by omega) eq er1 er0 w1.symm (by omega) hQw
  ·obtain⟨w1,w2⟩:=zz3 (by omega);exact dQ6 x1 x0 d (rcpN d) q r1 r0 Q R w hs2 h hd v2 h1 h0 hc' (by omega) (by omega) eq er1 er0 w1.symm (by omega) hQw
theorem cU7(z1 z0 c:Nat)(hc0:c≠0)(hc:c<B64)(h1:z1<c)(h0:z0<B64)(w:World):
  Calls prog 276 #[.int .u64 (z1:Int),.int .u64 (z0:Int),.int .u64 (c:Int),.int .u64 (rcpN (c*2^shl64 c):Int)] w fun e w'=>e=.returned (.tuple #[.int .u64 (((z1*B64+z0)/c:Nat):Int),.int .u64 (((z1*B64+z0)%c:Nat):Int)])/\w=w':=by
 obtain⟨s1,s2,s3,s4,s5⟩:=aJ7 hc0 hc;by_cases hs0:shl64 c=0
 ·rw[hs0,Nat.pow_zero,Nat.mul_one]at s3 ⊢;exact bU6 z1 z0 c s3 hc h1 h0 w
 have hB:B64=18446744073709551616:=rfl;obtain⟨s,es⟩:∃ s,s=shl64 c:=⟨_,rfl⟩;rw[<- es]at s1 s2 s3 s4 s5 hs0 ⊢;obtain⟨y1,y2,y3,y4⟩:=aM0 s1 h1 s4 h0;obtain⟨d,ed⟩:∃ d,d=c*2^s:=⟨_,rfl⟩;obtain⟨x1,ex1⟩:∃ x,x=z1*2^s+z0/2^(64-s):=⟨_,rfl⟩;obtain⟨x0,ex0⟩:∃ x,x=z0*2^s%B64:=⟨_,rfl⟩;rw[<- ed]at s3 s4 y3 ⊢;rw[<- ex1]at y3 y4;rw[<- ex0]at y4;have hx0:x0<B64:=by rw[ex0];exact Nat.mod_lt _ aA6
 obtain⟨v1,v2,-⟩:=bH0 s3 s4;have h:=wg_of s4 (by omega) v1 y3 hx0;have eQ:(z1*B64+z0)/c=(x1*B64+x0)/d:=by rw[y4,ed,Nat.mul_div_mul_right _ _ (Nat.pow_pos (by omega))]
 have eR:(z1*B64+z0)%c=(x1*B64+x0)%d/2^s:=by rw[y4,ed,Nat.mul_mod_mul_right,Nat.mul_div_cancel _ (Nat.pow_pos (by omega))]
 rw[eQ,eR];obtain⟨q,eq⟩:∃ q,q=adS (mwH (rcpN d) x1 0) x1 (adC (mwL (rcpN d) x1 0) x0 0):=⟨_,rfl⟩;rw[<- eq]at h;obtain⟨r0,er0⟩:∃ r,r=sbD x0 (mwL d q 0) 0:=⟨_,rfl⟩;obtain⟨r1,er1⟩:∃ r,r=sbD x1 (mwH d q 0) (sbB x0 (mwL d q 0) 0):=⟨_,rfl⟩;rw[<- er0,<- er1]at h;obtain⟨zz1,zz2,zz3⟩:=cU5 (show B64<=2*d by omega) s4 h.lo h.hi;have hr:=h.r;have hlo:=h.lo;have hhi:=h.hi;have hq:=h.q;have hr0:=h.r0;have hQw:(x1*B64+x0)/d<B64:=by
  rw[Nat.div_lt_iff_lt_mul (by omega)];have:(x1+1)*B64<=d*B64:=Nat.mul_le_mul_right _ (by omega);rw[Nat.add_mul,Nat.one_mul]at this;rw[Nat.mul_comm B64 d];omega
 generalize(x1*B64+x0)/d=Q at *;generalize(x1*B64+x0)%d=R at *;generalize x1*B64+x0=NN at *;generalize q*d=X at *;have hc:r1=0\/r1=1:=by
  have:B64*r1<B64*2:=by omega
  have:=Nat.lt_of_mul_lt_mul_left this;omega
 rcases hc with hc'|hc'
 ·rw[hc',Nat.mul_zero]at hr;by_cases g:r0<d
  ·obtain⟨w1,w2⟩:=zz1 (by omega);exact dF1 z1 z0 c s x1 x0 d (rcpN d) q r1 r0 Q R _ w hs0 s1 s2 hc h1 h0 ex1 ex0 ed rfl h s4 v2 y3 hx0 hc' g eq er1 er0 w1.symm (by omega) hQw
  ·obtain⟨w1,w2⟩:=zz2 (by omega) (by omega);exact dF2 z1 z0 c s x1 x0 d (rcpN d) q r1 r0 Q R _ w hs0 s1 s2 hc h1 h0 ex1 ex0 ed rfl h s4 v2 y3 hx0 hc' (by omega) eq er1 er0 w1.symm (by omega) hQw
 ·rw[hc',Nat.mul_one]at hr;by_cases g:r0+B64-d<d
  ·obtain⟨w1,w2⟩:=zz2 (by omega) (by omega);exact dF3 z1 z0 c s x1 x0 d (rcpN d) q r1 r0 Q R _ w hs0 s1 s2 hc h1 h0 ex1 ex0 ed rfl h s4 v2 y3 hx0 hc' g (by omega) eq er1 er0 w1.symm (by omega) hQw
  ·obtain⟨w1,w2⟩:=zz3 (by omega);exact dF4 z1 z0 c s x1 x0 d (rcpN d) q r1 r0 Q R _ w hs0 s1 s2 hc h1 h0 ex1 ex0 ed rfl h s4 v2 y3 hx0 hc' (by omega) (by omega) eq er1 er0 w1.symm (by omega) hQw
theorem cM7(c:Nat)(hc2:2<=c)(hc:c<B64)(hne:c*2^shl64 c≠B64-1)(zb xb zc xc m:Nat)(xs:List Nat)(cz cx:Array Value)(Tz Tx:TypeId)(w:World)(hm:xs.length=m)(hm2:2<=m)(hm1:m<=1000000)(hxs:∀ x∈xs,x<B64)(hz:w.heap[zb]? = some (.cells cz Tz (0,0)))(hzo:m<=cz.size)(hx:w.heap[xb]? = some (.cells cx Tx (0,0)))(hxc:Has cx 0 xs):
  Calls prog 249 #[.slice (some ⟨zb,0,none⟩) m zc,.int .u64 0,.slice (some ⟨xb,0,none⟩) m xc,.int .u64 (c:Int)] w fun e w' =>
   e=.returned (.int .u64 ((val xs%c:Nat):Int))/\w'=aB2 w zb 0 (dvL c xs):=by
 have HM:=hiD hm;have HZ:=hiD hz;have HX:=hiD hx;have HXC:=hiD hxc;have HXS:=hiD hxs;have HR:=hiD (fun w=>cH3 c _ (by omega) hc rfl hne w);have HW:=hiD (fun x1 x0 h1 h0 w=>cU7 x1 x0 c (by omega) hc h1 h0 w);have HT:Hid (0<c):=by show 0<c;omega
 generalize rcpN (c*2^shl64 c)=rc at *;have q1:((m:Int)==1)=false:=beqF (by omega);have hz0:Hid (val (xs.drop m)%c=0/\dvL c (xs.drop m)=[]):=by
  have:xs.drop m=[]:=by rw[<- hm];exact List.drop_length
  show val (xs.drop m)%c=0/\_;rw[this];exact⟨by simp[val],rfl⟩
 clear hm hz hx hxc hxs hc2 hc hne;go_enter func249,ntmps249;go_wp2_with fail;refine(HR.out _).mono ?_;rintro e w' ⟨rfl,rfl⟩;go_wp2_with fail
 go_loopw [8,12] (fun r k wr=>∃ j:Nat,j<=m/\k=.int .i64 ((j:Int)-1)/\r=.int .u64 ((val (xs.drop j)%c:Nat):Int)/\wr=aB2 w zb j (dvL c (xs.drop j))) (fun _ k _=>(intOf k+1).toNat)
 case atStart =>
  refine⟨m,Nat.le_refl _,rfl,?_,?_⟩
  ·rw[hz0.out.1];rfl
  ·rw[hz0.out.2];rfl
 case round =>
  obtain⟨j,hj,rfl,rfl,hwr⟩:=hrel;have HWR:=hiD hwr;clear hwr;by_cases h0:j=0
  ·subst h0;have g1:decide ((0:Int)<=((0:Nat):Int)-1)=false:=by decide
   rw[List.drop_zero];rw[List.drop_zero]at HWR;go_wp2_with fail;go_ret;exact⟨rfl,HWR.out⟩
  ·obtain⟨i,rfl⟩:∃ i,j=i+1:=⟨j-1,by omega⟩;have hi:i<xs.length:=by rw[HM.out];omega
   have hd:xs.drop i=xs.getD i 0::xs.drop (i+1):=bF4 hi;have hxl:xs.getD i 0<B64:=bF3 HXS.out i;have hrl:val (xs.drop (i+1))%c<c:=Nat.mod_lt _ HT.out;have c1:wr.cell? ⟨xb,i,none⟩=some (.int .u64 ((xs.getD i 0:Nat):Int)):=by
    have:=aF1 (l:=dvL c (xs.drop (i+1))) (zo:=i+1) HZ.out HX.out HXC.out i hi (fun _=>Or.inr (by omega));rw[HWR.out];rw[Nat.zero_add]at this;exact this
   have hb:=aB9 HZ.out (i+1) (dvL c (xs.drop (i+1)));rw[<- HWR.out]at hb;obtain⟨u,c2⟩:∃ u,wr.cell? ⟨zb,i,none⟩=some u:=by
    refine⟨cz[i]'(by omega),?_⟩;rw[aA2 hb,aD8 _ _ _ _ (Or.inl (by omega))];exact Array.getElem?_eq_getElem (by omega)
   have f2:=aA1 hb i;have hfin:wr.setCell ⟨zb,i,none⟩ (.int .u64 (((val (xs.drop (i+1))%c*B64+xs.getD i 0)/c:Nat):Int))=aB2 w zb i (dvL c (xs.drop i)):=by
    rw[HWR.out,bU3 HZ.out,hd];rfl
   have hrem:val (xs.drop i)%c=(val (xs.drop (i+1))%c*B64+xs.getD i 0)%c:=by rw[hd,dP9]
   have HF:=hiD hfin;have HRM:=hiD hrem;have HXL:=hiD hxl;have HRL:=hiD hrl;have g1:decide ((0:Int)<=((i+1:Nat):Int)-1)=true:=decT (by omega);have g2:((i+1:Nat):Int)-1=(i:Int):=by omega
   rw[g2]at g1 ⊢;have him:i<m:=by omega
   clear hfin hrem hxl hrl hb hd hi g2 hj h0;generalize val (xs.drop (i+1))%c=R at *;generalize xs.getD i 0=X at *;have HWC:Hid (∀ w,Calls prog 276 #[.int .u64 (R:Int),.int .u64 (X:Int),.int .u64 (c:Int),.int .u64 (rc:Int)] w fun e w'=>e=.returned (.tuple #[.int .u64 (((R*B64+X)/c:Nat):Int),.int .u64 (((R*B64+X)%c:Nat):Int)])/\w=w'):=fun w=>HW.out R X HRL.out HXL.out w
   generalize(R*B64+X)/c=Q1 at *;generalize(R*B64+X)%c=R1 at *;go_wp2_with fail;refine(HWC.out _).mono ?_;rintro e w' ⟨rfl,rfl⟩;go_wp2_with fail;go_roundw
   case rel=>exact⟨i,by omega,by go_num,by rw[HRM.out],HF.out⟩
   case measure=>first|(simp[intOf];done)|(simp[intOf];omega)
theorem dF5(c:Nat)(hc2:2<=c)(hc:c<B64)(hne:c*2^shl64 c≠B64-1)(z x:Value)(bz bx:Option Nat)(n:Nat)(w:World)(hz:BufAt w z bz)(hx:NatAt w x n bx)(hn:Sm n):
  Calls prog 223 #[z,x,.int .u64 (c:Int)] w (DivW w bz (quoN n c) (remN n c)):=by
 by_cases hs:n<B64
 ·exact bA6 z x bz bx n c w hz hx hs hc (by omega)
 ·have h0:n≠0:=by have:=aA6;omega
  have h2:2<=(dig n).length:=by
   rcases Nat.lt_or_ge (dig n).length 2 with h|h
   ·exact absurd (aV9.1 (by omega)) hs
   ·exact h
  obtain⟨kx,cx,rfl,rfl,hk,hl,hp,hs',hh⟩:=aF2 hx h0;have hlen:(dig n).length<=100000:=hn;have HV:Hid (val (dvL c (dig n))=n/c/\val (dig n)%c=n%c):=⟨by rw[dQ0 (by omega),aJ4],by rw[aJ4]⟩;have HLT:=hiD (dX2 (T:=c) (by omega) (dig n) (aN9 n));have HDL:=hiD (aN9 n);have HZ:=hiD hz;have HK:=hiD hk;have HH:=hiD hh;obtain⟨ds,hds⟩:∃ ds,ds=dig n:=⟨_,rfl⟩;have HQ:Hid (quoN n c=n/c/\remN n c=n%c):=⟨rfl,rfl⟩;rw[<- hds]at HV HLT HDL HH hl h2 hlen ⊢;generalize quoN n c=QQ at *;generalize remN n c=RR at *;clear hds hz hk hh hx hn h0 hs;have HC:=hiD (show 2<=c/\c<B64/\c*2^shl64 c≠B64-1 from⟨hc2,hc,hne⟩);have q1:((ds.length:Int)==0)=false:=beqF (by omega);have q2:((c:Int)==0)=false:=beqF (by omega);have q3:((c:Int)==1)=false:=beqF (by omega);have q2':¬ c=0:=by omega
  have q3':¬ c=1:=by omega
  clear hc2 hc hne;go_enter func223,ntmps223;go_wp2_with fail;refine(aH2 z bz ds.length _ HZ.out (by omega) (by omega)).mono ?_;rintro e w1 ⟨k,cs,rfl,hk,hn,hp',hs',hown⟩;have hk1:=aE2 hown HK.out;have HO:=hiD hown;have HK1:=hiD hk1;have HKK:=hiD hk;clear hown hk1 hk;go_wp2_with fail;refine(cM7 c HC.out.1 HC.out.2.1 HC.out.2.2 k kx cs.size cx.size ds.length ds cs cx 165 165 _ rfl h2 (by omega) HDL.out HKK.out hn HK1.out HH.out).mono ?_;rintro e w2 ⟨rfl,hw2⟩;have hb:=aB9 HKK.out 0 (dvL c ds);rw[<- hw2]at hb;have hbh:=aI9 cs 0 (dvL c ds) (by rw[cA5];omega);have HB:=hiD hb;have HBH:=hiD hbh;have HPK:=hiD (aE6 (Kept.refl (fun i=>i=k) w1) k 0 (dvL c ds) (fun _=>rfl));rw[<- hw2]at HPK;have HRR:Hid (val ds%c=RR):=by show val ds%c=RR;rw[HV.out.2];exact HQ.out.2.symm
  clear hb hbh hw2;go_wp2_with fail;refine(aH8 k 0 cs.size ds.length (dvL c ds) _ 165 _ (cA5 _ _) (by omega) (by omega) HLT.out HB.out HBH.out).mono ?_;rintro e w3 ⟨rfl,rfl⟩;go_wp2_with fail;go_ret2;have:=aK0 HB.out HLT.out HV.out.1 HBH.out (by rw[aB1,cA5];omega) (by rw[aB1];omega) (by rw[aB1];omega);rw[aB1]at this;obtain⟨v',b',h1,h2',h3,h4⟩:=aJ0 HO.out HPK.out this;refine⟨v',b',?_,by rw[HQ.out.1];exact h2',h3,h4⟩;injection h1 with h1;rw[<- h1,HV.out.1];have hrr:=HRR.out;have hrr2:((val ds%c:Nat):Int)=(RR:Int):=by rw[hrr]
  rw[Int.natCast_emod]at hrr2;simp[hrr2]
end Go.Proofs.YtjebnpkebccffaaGreatDoor
