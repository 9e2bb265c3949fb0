import Derived.Test.YtjebnpkebccffaaGreatDoorZExpn
import Init
set_option linter.unusedSimpArgs false
set_option linter.unusedVariables false
set_option linter.unusedSectionVars false
set_option maxRecDepth 100000
set_option maxHeartbeats 8000000
namespace Go.Proofs.YtjebnpkebccffaaGreatDoor
open Go.RowKit Go.Proofs.Tryz
theorem aT2{b y1 y0 N1 n0 q r:Nat}(h:q*y1+r=N1):q*y0<=b*r+n0↔q*(y1*b+y0)<=N1*b+n0:=by
 have e1:q*(y1*b+y0)=q*y1*b+q*y0:=by rw[Nat.mul_add,Nat.mul_assoc]
 have e2:N1*b=q*y1*b+b*r:=by rw[<- h,Nat.add_mul,Nat.mul_comm r b]
 rw[e1,e2];omega
theorem cH2{b Y N1 n0 q:Nat}(hN:N1<Y)(h0:n0<b)(hq:b<=q):N1*b+n0<q*Y:=by
 have h1:(N1+1)*b<=Y*b:=Nat.mul_le_mul_right b hN;have h2:b*Y<=q*Y:=Nat.mul_le_mul_right Y hq;rw[Nat.add_mul,Nat.one_mul]at h1;rw[Nat.mul_comm Y b]at h1;omega
theorem aY7{b y1 y0 N1 n0:Nat}(hy:0<y1)(h0:n0<b):N1*b+n0<(N1/y1+1)*(y1*b+y0):=by
 have h1:N1<(N1/y1+1)*y1:=by
  rw[Nat.add_mul,Nat.one_mul];have:=Nat.div_add_mod N1 y1;have h2:=Nat.mod_lt N1 hy;rw[Nat.mul_comm]at this;omega
 have h3:(N1+1)*b<=(N1/y1+1)*y1*b:=Nat.mul_le_mul_right b h1;rw[Nat.add_mul,Nat.one_mul]at h3;rw[Nat.mul_add,<- Nat.mul_assoc];omega
theorem aQ7{b y1 y0 N1 n0 q r:Nat}(h:q*y1+r=N1)(hN:N1<y1*b+y0)(hy0:y0<b)(hr:b<=r):q<b/\q*(y1*b+y0)<=N1*b+n0:=by
 have hq:q<b:=by
  rcases Nat.lt_or_ge q b with h'|h'
  ·exact h'
  ·exfalso
   have h1:b*y1<=q*y1:=Nat.mul_le_mul_right y1 h';rw[Nat.mul_comm b y1]at h1;omega
 refine⟨hq,(aT2 h).1 ?_⟩;have h1:q*y0<=b*b:=Nat.mul_le_mul (Nat.le_of_lt hq) (Nat.le_of_lt hy0);have h2:b*b<=b*r:=Nat.mul_le_mul_left b hr;omega
theorem cU6{Y N q:Nat}(h1:q*Y<=N)(h2:N<(q+1)*Y):q=N/Y:=by
 have hY:0<Y:=by
  rcases Nat.eq_zero_or_pos Y with h|h
  ·subst h;simp at h2
  ·exact h
 exact(Nat.div_eq_of_lt_le h1 h2).symm
theorem dF0{B V2 v' U3 u' P q:Nat}(hP:0<P)(hv:v'<P)(hu:u'<P)(hq:q=U3/V2)(hV:B<=V2+1)(hqB:q<=B)(hV0:0<V2):
  (U3*P+u')/(V2*P+v')<=q/\q<=(U3*P+u')/(V2*P+v')+1:=by
 have hVP:0<V2*P+v':=by
  have:=Nat.mul_pos hV0 hP;omega
 have h3:=Nat.div_add_mod U3 V2;have h4:=Nat.mod_lt U3 hV0;rw[<- hq]at h3;constructor
 ·rw[<- Nat.lt_succ_iff,Nat.div_lt_iff_lt_mul hVP];have h5:U3+1<=(q+1)*V2:=by rw[Nat.add_mul,Nat.one_mul,Nat.mul_comm];omega
  have h6:(U3+1)*P<=(q+1)*V2*P:=Nat.mul_le_mul_right P h5;have h7:(U3+1)*P=U3*P+P:=by rw[Nat.add_mul,Nat.one_mul]
  have h8:q.succ*(V2*P+v')=(q+1)*V2*P+(q+1)*v':=by rw[Nat.mul_add,<- Nat.mul_assoc]
  rw[h8];generalize(q+1)*V2*P=X at *;generalize(q+1)*v'=Y at *;omega
 ·cases q with
  | zero=>exact Nat.zero_le _
  | succ p =>
   refine Nat.succ_le_succ ?_;rw[Nat.le_div_iff_mul_le hVP]
   -- p*(V2*P+v')<=(p+1)*V2*P<=U3*P
   have h5:p*v'<=p*P:=Nat.mul_le_mul_left p (Nat.le_of_lt hv);have h6:p*P<=V2*P:=Nat.mul_le_mul_right P (by omega);have h7:(p+1)*V2*P<=U3*P:=Nat.mul_le_mul_right P (by rw[Nat.mul_comm];omega);rw[Nat.add_mul,Nat.one_mul,Nat.add_mul]at h7;rw[Nat.mul_add,<- Nat.mul_assoc];omega
theorem dX3{B v1 v' u' P:Nat}(hP:0<P)(hv:v'<P)(h2:B<=2*v1)(hB:2<=B)(hU:v1*B*P+u'<(v1*P+v')*B):
  B-2<=(v1*B*P+u')/(v1*P+v')/\(v1*B*P+u')/(v1*P+v')<=B-1:=by
 have hv1:0<v1:=by omega
 have hVP:0<v1*P+v':=by
  have:=Nat.mul_pos hv1 hP;omega
 constructor
 ·rw[Nat.le_div_iff_mul_le hVP];obtain⟨c,rfl⟩:∃ c,B=c+2:=⟨B-2,by omega⟩;rw[Nat.add_sub_cancel,Nat.mul_add];have h5:c*v'<=c*P:=Nat.mul_le_mul_left c (Nat.le_of_lt hv);have h6:(c+2)*P<=2*v1*P:=Nat.mul_le_mul_right P h2;have e1:v1*(c+2)*P=c*(v1*P)+2*v1*P:=by
   rw[Nat.mul_add,Nat.add_mul,Nat.mul_comm v1 c,Nat.mul_assoc c,Nat.mul_comm v1 2]
  rw[Nat.add_mul]at h6;rw[e1];omega
 ·rw[<- Nat.lt_succ_iff,Nat.div_lt_iff_lt_mul hVP,show(B-1).succ=B by omega,Nat.mul_comm B];exact hU
theorem and32(v:Nat)(hv:v<18446744073709551616):bits BinOp.and IntKind.u64 (v:Int) 4294967295=((v%4294967296:Nat):Int):=by
 have h:=bits_and_u64_nat v 4294967295 hv (by decide);rw[Nat.and_two_pow_sub_one_eq_mod v 32]at h;exact h
theorem or_zero(v:Nat)(hv:v<18446744073709551616):bits BinOp.or IntKind.u64 (v:Int) 0=(v:Int):=by
 have h:=bits_or_u64_nat v 0 hv (by decide);rw[Nat.or_zero]at h;exact h
theorem bG9(k x:Nat)(h1:2^k<=x)(h2:x<2^(k+1))(h:x<2^64):Lib.bitLen x=k+1:=by
 rw[Lib.bitLen_shift k x h1 h,show x/2^k=1 from Nat.div_eq_of_lt_le (by omega) (by rw[Nat.pow_succ]at h2;omega)];rfl
theorem dX4(y:Nat)(h1:9223372036854775808<=y)(h2:y<18446744073709551616)(w:World):Calls prog 291 #[.int .u64 (y:Int)] w fun e w'=>e=.returned (.int .i64 0)/\w=w':=by
 refine(Tryz.bits_LeadingZeros64 y w (by omega) (by omega)).mono ?_;rintro e w' ⟨rfl,rfl⟩;refine⟨?_,rfl⟩;rw[Int.toNat_natCast,bG9 63 y h1 h2 h2];rfl
structure BD (y hi lo y1 y0 n1 n0:Nat):Prop where
 ey:y=y1*4294967296+y0
 elo:lo=n1*4294967296+n0
 by1:2147483648<=y1/\y1<4294967296
 by0:y0<4294967296
 bn1:n1<4294967296
 bn0:n0<4294967296
 bhi:hi<y
theorem dQ1{b y hi lo n1 n0 q1 q0 R1 R:Nat}(hlo:lo=n1*b+n0)(h1:q1*y+R1=hi*b+n1)(h2:q0*y+R=R1*b+n0)(hR:R<y):
  (hi*(b*b)+lo)/y=q1*b+q0/\(hi*(b*b)+lo)%y=R:=by
 have e:hi*(b*b)+lo=y*(q1*b+q0)+R:=by
  have h3:(q1*y+R1)*b=(hi*b+n1)*b:=by rw[h1]
  rw[Nat.add_mul,Nat.add_mul]at h3;rw[Nat.mul_add,Nat.mul_comm y q0,<- Nat.mul_assoc,<- Nat.mul_assoc,Nat.mul_comm y q1];omega
 rw[e,Nat.mul_add_div (by omega),Nat.div_eq_of_lt hR,Nat.mul_add_mod,Nat.mod_eq_of_lt hR];exact⟨rfl,rfl⟩
theorem aY8{y hi lo n1 n0 q1 q0 R1 R:Nat}(hlo:lo=n1*4294967296+n0)(h1:q1*y+R1=hi*4294967296+n1)(h2:q0*y+R=R1*4294967296+n0)(hR:R<y):
  (hi*18446744073709551616+lo)/y=q1*4294967296+q0/\(hi*18446744073709551616+lo)%y=R:=dQ1 (b:=4294967296) hlo h1 h2 hR
theorem aI2{b y1 y0 N1 n0 q:Nat}(h2:q*(y1*b+y0)<=N1*b+n0)(h3:N1*b+n0<(q+1)*(y1*b+y0)):q=(N1*b+n0)/(y1*b+y0):=cU6 h2 h3
theorem bU4(y hi lo y1 y0 n1 n0:Nat)(hbd:BD y hi lo y1 y0 n1 n0)(h0:hi≠0)(w:World):Calls prog 288 #[.int .u64 (hi:Int),.int .u64 (lo:Int),.int .u64 (y:Int)] w fun e w'=>e=.returned (.tuple #[.int .u64 (((hi*18446744073709551616+lo)/y:Nat):Int),.int .u64 (((hi*18446744073709551616+lo)%y:Nat):Int)])/\w=w':=by
 obtain⟨z1,z2,z3,z4,z5,z6,z7⟩:=hbd;obtain⟨Q,hQ⟩:∃ Q,Q=(hi*18446744073709551616+lo)/y:=⟨_,rfl⟩;obtain⟨R,hR⟩:∃ R,R=(hi*18446744073709551616+lo)%y:=⟨_,rfl⟩;rw[<- hQ,<- hR];have HQE:=hiD (And.intro hQ hR);clear hQ hR;have HBD:Hid (BD y hi lo y1 y0 n1 n0):=⟨z1,z2,z3,z4,z5,z6,z7⟩;have hy:9223372036854775808<=y/\y<18446744073709551616:=by omega
 have hlo:lo<18446744073709551616:=by omega
 have HL:=hiD (dX4 y hy.1 hy.2);have q1:((y:Int)==0)=false:=beqF (by omega);have q2:decide (y<=hi)=false:=decF (by omega);have q3:((hi:Int)==0)=false:=beqF (by omega);have q4:IntKind.u64.wrap (y:Int)=(y:Int):=by rw[IntKind.wrap_u64];omega
 have q5:(y:Int)/4294967296=(y1:Int):=by omega
 have q6:bits BinOp.and IntKind.u64 (y:Int) 4294967295=(y0:Int):=by rw[and32 y hy.2];omega
 have q7:IntKind.u64.wrap (hi:Int)=(hi:Int):=by rw[IntKind.wrap_u64];omega
 have q8:(lo:Int)/18446744073709551616=0:=by omega
 have q9:bits BinOp.or IntKind.u64 (hi:Int) 0=(hi:Int):=or_zero hi (by omega);have q10:IntKind.u64.wrap (lo:Int)=(lo:Int):=by rw[IntKind.wrap_u64];omega
 have q11:(lo:Int)/4294967296=(n1:Int):=by omega
 have q12:bits BinOp.and IntKind.u64 (lo:Int) 4294967295=(n0:Int):=by rw[and32 lo hlo];omega
 have q13:((y1:Int)==0)=false:=beqF (by omega);have q13':¬ y1=0:=by omega
 have hN1:hi<y1*4294967296+y0:=by omega
 obtain⟨Q0,hQ0⟩:∃ Q0,Q0=hi/y1:=⟨_,rfl⟩;obtain⟨R0,hR0⟩:∃ R0,R0=hi%y1:=⟨_,rfl⟩;have hdm:Q0*y1+R0=hi:=by
  have:=Nat.div_add_mod hi y1;rw[Nat.mul_comm]at this;rw[hQ0,hR0];exact this
 have hR0b:R0<y1:=by rw[hR0];exact Nat.mod_lt _ (by omega)
 have hQ0b:Q0<8589934592:=by
  rw[hQ0,Nat.div_lt_iff_lt_mul (by omega)];have:8589934592*2147483648<=8589934592*y1:=Nat.mul_le_mul_left _ (by omega);omega
 have hup0:hi*4294967296+n1<(Q0+1)*(y1*4294967296+y0):=by rw[hQ0];exact aY7 (by omega) (by omega)
 obtain⟨T0,hT0⟩:∃ T0,T0=Q0*y1:=⟨_,rfl⟩;have q14:IntKind.u64.wrap ((hi:Int)/(y1:Int))=(Q0:Int):=by rw[<- Int.natCast_ediv,<- hQ0,IntKind.wrap_u64];omega
 have q15:IntKind.u64.wrap ((Q0:Int)*(y1:Int))=(T0:Int):=by rw[<- Int.natCast_mul,<- hT0,IntKind.wrap_u64];omega
 have q16:IntKind.u64.wrap ((hi:Int)-(T0:Int))=(R0:Int):=by rw[IntKind.wrap_u64];omega
 have HS:=hiD (show Q0*y1+R0=hi/\R0<4294967296/\hi*4294967296+n1<(Q0+1)*(y1*4294967296+y0)/\Q0<8589934592 from⟨hdm,by omega,hup0,hQ0b⟩);have HY1:=hiD (show y1<4294967296/\2147483648<=y1 from⟨z3.2,z3.1⟩);clear z1 z2 z3 z4 z5 z6 z7 h0 hy hlo hQ0 hR0 hdm hR0b hQ0b hup0 hT0;have HN1:=hiD hN1;clear hN1;go_enter func288,ntmps288;go_wp2_with fail;refine(HL.out _).mono ?_;rintro e w' ⟨rfl,rfl⟩;go_wp2_with fail
 go_loop [15,16] (fun a b=>∃ q r:Nat,a=.int .u64 (q:Int)/\b=.int .u64 (r:Int)/\q*y1+r=hi/\r<4294967296/\hi*4294967296+n1<(q+1)*(y1*4294967296+y0)/\q<8589934592) (fun a _=>(intOf a).toNat)
 case atStart=>exact⟨Q0,R0,rfl,rfl,HS.out⟩
 case round =>
  obtain⟨q,r,rfl,rfl,hqr,hr,hup,hqs⟩:=hrel;have hN1:=HN1.out;have hy1:=HY1.out;by_cases hb:4294967296<=q
  ·have c1:decide ((4294967296:Int)<=(q:Int))=true:=decT (by omega);have hlow:hi*4294967296+n1<q*(y1*4294967296+y0):=cH2 hN1 HBD.out.bn1 hb;have hq1:1<=q:=by
    omega
   obtain⟨q',hq'⟩:∃ q',q=q'+1:=⟨q-1,by omega⟩;obtain⟨r',hr'⟩:∃ r',r'=r+y1:=⟨_,rfl⟩;have c5:IntKind.u64.wrap ((q:Int)-1)=(q':Int):=by rw[IntKind.wrap_u64];omega
   have c6:IntKind.u64.wrap ((r:Int)+(y1:Int))=(r':Int):=by rw[IntKind.wrap_u64];omega
   have hqr':q'*y1+r'=hi:=by rw[hq',Nat.add_mul,Nat.one_mul]at hqr;omega
   have hup':hi*4294967296+n1<(q'+1)*(y1*4294967296+y0):=by rw[<- hq'];exact hlow
   by_cases hr2:4294967296<=r'
   ·have c7:decide ((4294967296:Int)<=(r':Int))=true:=decT (by omega);have hov:=aQ7 (b:=4294967296) (y0:=y0) (n0:=n1) hqr' hN1 HBD.out.by0 hr2;have HE:=hiD (aI2 hov.2 hup');have HR:=hiD hqr';have HL:=hiD hov.1;clear hqr hr hup hqs hlow hq1 hr' hq' hqr' hN1 hy1 hup' hr2 hov hb;have hq1:=HE.out;have hl1:=HL.out;have hbd:=HBD.out;have hby0:=hbd.by0;have hby1:=hbd.by1;have hN1:=HN1.out;have hy1:=HY1.out;obtain⟨R1,hR1⟩:∃ R1,R1=(hi*4294967296+n1)%(y1*4294967296+y0):=⟨_,rfl⟩;have hdm:q'*y+R1=hi*4294967296+n1:=by
     have:=Nat.div_add_mod (hi*4294967296+n1) (y1*4294967296+y0);rw[<- hq1,<- hR1,<- hbd.ey,Nat.mul_comm]at this;exact this
    have hR1b:R1<y1*4294967296+y0:=by rw[hR1];exact Nat.mod_lt _ (by omega)
    obtain⟨D1,hD1⟩:∃ D,D=IntKind.u64.wrap ((hi:Int)*4294967296):=⟨_,rfl⟩;obtain⟨D2,hD2⟩:∃ D,D=IntKind.u64.wrap (D1+(n1:Int)):=⟨_,rfl⟩;obtain⟨D3,hD3⟩:∃ D,D=IntKind.u64.wrap ((q':Int)*(y:Int)):=⟨_,rfl⟩;have u1:IntKind.u64.wrap (D2-D3)=(R1:Int):=by
     rw[<- Int.natCast_mul]at hD3;rw[IntKind.wrap_u64]at hD1 hD2 hD3 ⊢;have hey:=hbd.ey;generalize q'*y=T at *;omega
    obtain⟨Q0,hQ0⟩:∃ Q0,Q0=R1/y1:=⟨_,rfl⟩;obtain⟨R0,hR0⟩:∃ R0,R0=R1%y1:=⟨_,rfl⟩;have hdm2:Q0*y1+R0=R1:=by
     have:=Nat.div_add_mod R1 y1;rw[Nat.mul_comm]at this;rw[hQ0,hR0];exact this
    have hR0b:R0<y1:=by rw[hR0];exact Nat.mod_lt _ (by omega)
    have hQ0b:Q0<8589934592:=by
     rw[hQ0,Nat.div_lt_iff_lt_mul (by omega)];have:8589934592*2147483648<=8589934592*y1:=Nat.mul_le_mul_left _ (by omega);have:=hbd.by0;omega
    have hup0:R1*4294967296+n0<(Q0+1)*(y1*4294967296+y0):=by rw[hQ0];exact aY7 (by omega) hbd.bn0
    obtain⟨T0,hT0⟩:∃ T0,T0=Q0*y1:=⟨_,rfl⟩;have q13'':¬ y1=0:=by omega
    have u2:IntKind.u64.wrap ((R1:Int)/(y1:Int))=(Q0:Int):=by rw[<- Int.natCast_ediv,<- hQ0,IntKind.wrap_u64];omega
    have u3:IntKind.u64.wrap ((Q0:Int)*(y1:Int))=(T0:Int):=by rw[<- Int.natCast_mul,<- hT0,IntKind.wrap_u64];omega
    have u4:IntKind.u64.wrap ((R1:Int)-(T0:Int))=(R0:Int):=by rw[IntKind.wrap_u64];omega
    have HS2:=hiD (show Q0*y1+R0=R1/\R0<4294967296/\R1*4294967296+n0<(Q0+1)*(y1*4294967296+y0)/\Q0<8589934592 from⟨hdm2,by omega,hup0,hQ0b⟩);have HQ1:=hiD (show q'*y+R1=hi*4294967296+n1/\R1<y1*4294967296+y0 from⟨hdm,hR1b⟩)
    replace hD1:=hD1.symm
    replace hD2:=hD2.symm
    replace hD3:=hD3.symm
    have HN2:=hiD hR1b;clear hq1 hl1 hbd hby0 hby1 hN1 hy1 hR1 hdm hR1b hQ0 hR0 hdm2 hR0b hQ0b hup0 hT0 HE HR HL HN1 HS;generalize q'=Q1 at *;go_wp2_with fail
    go_loop [18,16] (fun a b=>∃ q r:Nat,a=.int .u64 (q:Int)/\b=.int .u64 (r:Int)/\q*y1+r=R1/\r<4294967296/\R1*4294967296+n0<(q+1)*(y1*4294967296+y0)/\q<8589934592) (fun a _=>(intOf a).toNat)
    case atStart=>exact⟨Q0,R0,rfl,rfl,HS2.out⟩
    case round =>
     obtain⟨q,r,rfl,rfl,hqr,hr,hup,hqs⟩:=hrel;have hN1:=HN2.out;have hy1:=HY1.out;by_cases hb:4294967296<=q
     ·have c1:decide ((4294967296:Int)<=(q:Int))=true:=decT (by omega);have hlow:R1*4294967296+n0<q*(y1*4294967296+y0):=cH2 hN1 HBD.out.bn0 hb;have hq1:1<=q:=by
       omega
      obtain⟨q',hq'⟩:∃ q',q=q'+1:=⟨q-1,by omega⟩;obtain⟨r',hr'⟩:∃ r',r'=r+y1:=⟨_,rfl⟩;have c5:IntKind.u64.wrap ((q:Int)-1)=(q':Int):=by rw[IntKind.wrap_u64];omega
      have c6:IntKind.u64.wrap ((r:Int)+(y1:Int))=(r':Int):=by rw[IntKind.wrap_u64];omega
      have hqr':q'*y1+r'=R1:=by rw[hq',Nat.add_mul,Nat.one_mul]at hqr;omega
      have hup':R1*4294967296+n0<(q'+1)*(y1*4294967296+y0):=by rw[<- hq'];exact hlow
      by_cases hr2:4294967296<=r'
      ·have c7:decide ((4294967296:Int)<=(r':Int))=true:=decT (by omega);have hov:=aQ7 (b:=4294967296) (y0:=y0) (n0:=n0) hqr' hN1 HBD.out.by0 hr2;have HE:=hiD (aI2 hov.2 hup');have HR:=hiD hqr';have HL:=hiD hov.1;clear hqr hr hup hqs hlow hq1 hr' hq' hqr' hN1 hy1 hup' hr2 hov hb;have hq0:=HE.out;have hbd:=HBD.out;have hQ1:=HQ1.out;have hey:=hbd.ey;have hdm:=Nat.div_add_mod (R1*4294967296+n0) (y1*4294967296+y0);rw[<- hq0,<- hey,Nat.mul_comm]at hdm;have hRb:(R1*4294967296+n0)%y<y:=Nat.mod_lt _ (by have:=hbd.by1;omega);obtain⟨e1,e2⟩:=aY8 hbd.elo hQ1.1 hdm hRb;have hQ:=HQE.out.1;have hR:=HQE.out.2;rw[e2]at hR;rw[<- hR]at hdm hRb;have hy1:=HY1.out;have hy0:=hbd.by0;have hQb:Q<18446744073709551616:=by
        rw[hQ,Nat.div_lt_iff_lt_mul (by omega)];have:(hi+1)*18446744073709551616<=y*18446744073709551616:=Nat.mul_le_mul_right _ hbd.bhi;rw[Nat.add_mul,Nat.one_mul]at this;rw[Nat.mul_comm 18446744073709551616];omega
       rw[<- hQ]at e1;obtain⟨P2,hP2⟩:∃ P,P=IntKind.u64.wrap ((R1:Int)*4294967296):=⟨_,rfl⟩;obtain⟨P3,hP3⟩:∃ P,P=IntKind.u64.wrap (P2+(n0:Int)):=⟨_,rfl⟩;obtain⟨P4,hP4⟩:∃ P,P=IntKind.u64.wrap ((q':Int)*(y:Int)):=⟨_,rfl⟩;obtain⟨P1,hP1⟩:∃ P,P=IntKind.u64.wrap ((Q1:Int)*4294967296):=⟨_,rfl⟩;have g2:IntKind.u64.wrap (P1+(q':Int))=(Q:Int):=by
        rw[IntKind.wrap_u64]at hP1 ⊢;omega
       have g3:IntKind.u64.wrap (P3-P4)=(R:Int):=by
        rw[<- Int.natCast_mul]at hP4;rw[IntKind.wrap_u64]at hP2 hP3 hP4 ⊢;generalize q'*y=T at *;omega
       have g4:IntKind.u64.wrap (R:Int)=(R:Int):=by rw[IntKind.wrap_u64];omega
       replace hP1:=hP1.symm
       replace hP2:=hP2.symm
       replace hP3:=hP3.symm
       replace hP4:=hP4.symm
       clear hq0 hbd hQ1 hey hdm hR hRb e1 e2 hy1 hy0 hQ hQb HE HR HL;go_wp2_with fail;go_ret2;exact⟨rfl,rfl⟩
      ·have c7:decide ((4294967296:Int)<=(r':Int))=false:=decF (by omega);have HN:=hiD (show q'*y1+r'=R1/\r'<4294967296/\R1*4294967296+n0<(q'+1)*(y1*4294967296+y0)/\q'<8589934592 from⟨hqr',by omega,hup',by omega⟩);have HM:Hid ((intOf (.int .u64 (q':Int))).toNat<(intOf (.int .u64 (q:Int))).toNat):=by show((q':Int)).toNat<((q:Int)).toNat;omega
       clear hqr hr hup hqs hlow hq1 hr' hq' hqr' hN1 hy1 hup' hr2 hb;go_wp2_with fail;go_round
       case rel=>exact⟨q',r',rfl,rfl,HN.out⟩
       case measure=>exact HM.out
     ·have c1:decide ((4294967296:Int)<=(q:Int))=false:=decF (by omega);obtain⟨X,hX⟩:∃ X,X=q*y0:=⟨_,rfl⟩;obtain⟨Z,hZ⟩:∃ Z,Z=4294967296*r:=⟨_,rfl⟩;obtain⟨Z2,hZ2⟩:∃ Z2,Z2=Z+n0:=⟨_,rfl⟩;have hXb:X<=4294967295*4294967295:=by rw[hX];exact Nat.mul_le_mul (by omega) (by have:=HBD.out.by0;omega)
      have hn0b:=HBD.out.bn0;have c2:IntKind.u64.wrap ((q:Int)*(y0:Int))=(X:Int):=by rw[<- Int.natCast_mul,<- hX,IntKind.wrap_u64];omega
      have c3:IntKind.u64.wrap (4294967296*(r:Int))=(Z:Int):=by rw[IntKind.wrap_u64];omega
      have c4:IntKind.u64.wrap ((Z:Int)+(n0:Int))=(Z2:Int):=by rw[IntKind.wrap_u64];omega
      by_cases hc:Z2<X
      ·have c8:decide (Z2<X)=true:=decT (by omega);have hlow:R1*4294967296+n0<q*(y1*4294967296+y0):=by
        have h:=(not_congr (aT2 (b:=4294967296) (y0:=y0) (n0:=n0) hqr)).1 (by omega);omega
       have hq1:1<=q:=by
        rcases Nat.eq_zero_or_pos q with h|h
        ·rw[h,Nat.zero_mul]at hX;omega
        ·exact h
       obtain⟨q',hq'⟩:∃ q',q=q'+1:=⟨q-1,by omega⟩;obtain⟨r',hr'⟩:∃ r',r'=r+y1:=⟨_,rfl⟩;have c5:IntKind.u64.wrap ((q:Int)-1)=(q':Int):=by rw[IntKind.wrap_u64];omega
       have c6:IntKind.u64.wrap ((r:Int)+(y1:Int))=(r':Int):=by rw[IntKind.wrap_u64];omega
       have hqr':q'*y1+r'=R1:=by rw[hq',Nat.add_mul,Nat.one_mul]at hqr;omega
       have hup':R1*4294967296+n0<(q'+1)*(y1*4294967296+y0):=by rw[<- hq'];exact hlow
       by_cases hr2:4294967296<=r'
       ·have c7:decide ((4294967296:Int)<=(r':Int))=true:=decT (by omega);have hov:=aQ7 (b:=4294967296) (y0:=y0) (n0:=n0) hqr' hN1 HBD.out.by0 hr2;have HE:=hiD (aI2 hov.2 hup');have HR:=hiD hqr';have HL:=hiD hov.1;clear hqr hr hup hqs hlow hq1 hr' hq' hqr' hN1 hy1 hup' hr2 hov hb;have hq0:=HE.out;have hbd:=HBD.out;have hQ1:=HQ1.out;have hey:=hbd.ey;have hdm:=Nat.div_add_mod (R1*4294967296+n0) (y1*4294967296+y0);rw[<- hq0,<- hey,Nat.mul_comm]at hdm;have hRb:(R1*4294967296+n0)%y<y:=Nat.mod_lt _ (by have:=hbd.by1;omega);obtain⟨e1,e2⟩:=aY8 hbd.elo hQ1.1 hdm hRb;have hQ:=HQE.out.1;have hR:=HQE.out.2;rw[e2]at hR;rw[<- hR]at hdm hRb;have hy1:=HY1.out;have hy0:=hbd.by0;have hQb:Q<18446744073709551616:=by
         rw[hQ,Nat.div_lt_iff_lt_mul (by omega)];have:(hi+1)*18446744073709551616<=y*18446744073709551616:=Nat.mul_le_mul_right _ hbd.bhi;rw[Nat.add_mul,Nat.one_mul]at this;rw[Nat.mul_comm 18446744073709551616];omega
        rw[<- hQ]at e1;obtain⟨P2,hP2⟩:∃ P,P=IntKind.u64.wrap ((R1:Int)*4294967296):=⟨_,rfl⟩;obtain⟨P3,hP3⟩:∃ P,P=IntKind.u64.wrap (P2+(n0:Int)):=⟨_,rfl⟩;obtain⟨P4,hP4⟩:∃ P,P=IntKind.u64.wrap ((q':Int)*(y:Int)):=⟨_,rfl⟩;obtain⟨P1,hP1⟩:∃ P,P=IntKind.u64.wrap ((Q1:Int)*4294967296):=⟨_,rfl⟩;have g2:IntKind.u64.wrap (P1+(q':Int))=(Q:Int):=by
         rw[IntKind.wrap_u64]at hP1 ⊢;omega
        have g3:IntKind.u64.wrap (P3-P4)=(R:Int):=by
         rw[<- Int.natCast_mul]at hP4;rw[IntKind.wrap_u64]at hP2 hP3 hP4 ⊢;generalize q'*y=T at *;omega
        have g4:IntKind.u64.wrap (R:Int)=(R:Int):=by rw[IntKind.wrap_u64];omega
        replace hP1:=hP1.symm
        replace hP2:=hP2.symm
        replace hP3:=hP3.symm
        replace hP4:=hP4.symm
        clear hq0 hbd hQ1 hey hdm hR hRb e1 e2 hy1 hy0 hQ hQb HE HR HL;go_wp2_with fail;go_ret2;exact⟨rfl,rfl⟩
       ·have c7:decide ((4294967296:Int)<=(r':Int))=false:=decF (by omega);have HN:=hiD (show q'*y1+r'=R1/\r'<4294967296/\R1*4294967296+n0<(q'+1)*(y1*4294967296+y0)/\q'<8589934592 from⟨hqr',by omega,hup',by omega⟩);have HM:Hid ((intOf (.int .u64 (q':Int))).toNat<(intOf (.int .u64 (q:Int))).toNat):=by show((q':Int)).toNat<((q:Int)).toNat;omega
        clear hqr hr hup hqs hlow hq1 hr' hq' hqr' hN1 hy1 hup' hr2 hb;go_wp2_with fail;go_round
        case rel=>exact⟨q',r',rfl,rfl,HN.out⟩
        case measure=>exact HM.out
      ·have c8:decide (Z2<X)=false:=decF (by omega);have hfit:=(aT2 (b:=4294967296) (y0:=y0) (n0:=n0) hqr).1 (by omega);have HE:=hiD (aI2 hfit hup);have HR:=hiD hqr;have HL:=hiD (show q<4294967296 by omega);clear hqr hr hup hqs hX hZ hZ2 hXb hn0b hc hfit hb hN1 hy1;have hq0:=HE.out;have hbd:=HBD.out;have hQ1:=HQ1.out;have hey:=hbd.ey;have hdm:=Nat.div_add_mod (R1*4294967296+n0) (y1*4294967296+y0);rw[<- hq0,<- hey,Nat.mul_comm]at hdm;have hRb:(R1*4294967296+n0)%y<y:=Nat.mod_lt _ (by have:=hbd.by1;omega);obtain⟨e1,e2⟩:=aY8 hbd.elo hQ1.1 hdm hRb;have hQ:=HQE.out.1;have hR:=HQE.out.2;rw[e2]at hR;rw[<- hR]at hdm hRb;have hy1:=HY1.out;have hy0:=hbd.by0;have hQb:Q<18446744073709551616:=by
        rw[hQ,Nat.div_lt_iff_lt_mul (by omega)];have:(hi+1)*18446744073709551616<=y*18446744073709551616:=Nat.mul_le_mul_right _ hbd.bhi;rw[Nat.add_mul,Nat.one_mul]at this;rw[Nat.mul_comm 18446744073709551616];omega
       rw[<- hQ]at e1;obtain⟨P2,hP2⟩:∃ P,P=IntKind.u64.wrap ((R1:Int)*4294967296):=⟨_,rfl⟩;obtain⟨P3,hP3⟩:∃ P,P=IntKind.u64.wrap (P2+(n0:Int)):=⟨_,rfl⟩;obtain⟨P4,hP4⟩:∃ P,P=IntKind.u64.wrap ((q:Int)*(y:Int)):=⟨_,rfl⟩;obtain⟨P1,hP1⟩:∃ P,P=IntKind.u64.wrap ((Q1:Int)*4294967296):=⟨_,rfl⟩;have g2:IntKind.u64.wrap (P1+(q:Int))=(Q:Int):=by
        rw[IntKind.wrap_u64]at hP1 ⊢;omega
       have g3:IntKind.u64.wrap (P3-P4)=(R:Int):=by
        rw[<- Int.natCast_mul]at hP4;rw[IntKind.wrap_u64]at hP2 hP3 hP4 ⊢;generalize q*y=T at *;omega
       have g4:IntKind.u64.wrap (R:Int)=(R:Int):=by rw[IntKind.wrap_u64];omega
       replace hP1:=hP1.symm
       replace hP2:=hP2.symm
       replace hP3:=hP3.symm
       replace hP4:=hP4.symm
       clear hq0 hbd hQ1 hey hdm hR hRb e1 e2 hy1 hy0 hQ hQb HE HR HL;go_wp2_with fail;go_ret2;exact⟨rfl,rfl⟩
   ·have c7:decide ((4294967296:Int)<=(r':Int))=false:=decF (by omega);have HN:=hiD (show q'*y1+r'=hi/\r'<4294967296/\hi*4294967296+n1<(q'+1)*(y1*4294967296+y0)/\q'<8589934592 from⟨hqr',by omega,hup',by omega⟩);have HM:Hid ((intOf (.int .u64 (q':Int))).toNat<(intOf (.int .u64 (q:Int))).toNat):=by show((q':Int)).toNat<((q:Int)).toNat;omega
    clear hqr hr hup hqs hlow hq1 hr' hq' hqr' hN1 hy1 hup' hr2 hb;go_wp2_with fail;go_round
    case rel=>exact⟨q',r',rfl,rfl,HN.out⟩
    case measure=>exact HM.out
  ·have c1:decide ((4294967296:Int)<=(q:Int))=false:=decF (by omega);obtain⟨X,hX⟩:∃ X,X=q*y0:=⟨_,rfl⟩;obtain⟨Z,hZ⟩:∃ Z,Z=4294967296*r:=⟨_,rfl⟩;obtain⟨Z2,hZ2⟩:∃ Z2,Z2=Z+n1:=⟨_,rfl⟩;have hXb:X<=4294967295*4294967295:=by rw[hX];exact Nat.mul_le_mul (by omega) (by have:=HBD.out.by0;omega)
   have hn0b:=HBD.out.bn1;have c2:IntKind.u64.wrap ((q:Int)*(y0:Int))=(X:Int):=by rw[<- Int.natCast_mul,<- hX,IntKind.wrap_u64];omega
   have c3:IntKind.u64.wrap (4294967296*(r:Int))=(Z:Int):=by rw[IntKind.wrap_u64];omega
   have c4:IntKind.u64.wrap ((Z:Int)+(n1:Int))=(Z2:Int):=by rw[IntKind.wrap_u64];omega
   by_cases hc:Z2<X
   ·have c8:decide (Z2<X)=true:=decT (by omega);have hlow:hi*4294967296+n1<q*(y1*4294967296+y0):=by
     have h:=(not_congr (aT2 (b:=4294967296) (y0:=y0) (n0:=n1) hqr)).1 (by omega);omega
    have hq1:1<=q:=by
     rcases Nat.eq_zero_or_pos q with h|h
     ·rw[h,Nat.zero_mul]at hX;omega
     ·exact h
    obtain⟨q',hq'⟩:∃ q',q=q'+1:=⟨q-1,by omega⟩;obtain⟨r',hr'⟩:∃ r',r'=r+y1:=⟨_,rfl⟩;have c5:IntKind.u64.wrap ((q:Int)-1)=(q':Int):=by rw[IntKind.wrap_u64];omega
    have c6:IntKind.u64.wrap ((r:Int)+(y1:Int))=(r':Int):=by rw[IntKind.wrap_u64];omega
    have hqr':q'*y1+r'=hi:=by rw[hq',Nat.add_mul,Nat.one_mul]at hqr;omega
    have hup':hi*4294967296+n1<(q'+1)*(y1*4294967296+y0):=by rw[<- hq'];exact hlow
    by_cases hr2:4294967296<=r'
    ·have c7:decide ((4294967296:Int)<=(r':Int))=true:=decT (by omega);have hov:=aQ7 (b:=4294967296) (y0:=y0) (n0:=n1) hqr' hN1 HBD.out.by0 hr2;have HE:=hiD (aI2 hov.2 hup');have HR:=hiD hqr';have HL:=hiD hov.1;clear hqr hr hup hqs hlow hq1 hr' hq' hqr' hN1 hy1 hup' hr2 hov hb;have hq1:=HE.out;have hl1:=HL.out;have hbd:=HBD.out;have hby0:=hbd.by0;have hby1:=hbd.by1;have hN1:=HN1.out;have hy1:=HY1.out;obtain⟨R1,hR1⟩:∃ R1,R1=(hi*4294967296+n1)%(y1*4294967296+y0):=⟨_,rfl⟩;have hdm:q'*y+R1=hi*4294967296+n1:=by
      have:=Nat.div_add_mod (hi*4294967296+n1) (y1*4294967296+y0);rw[<- hq1,<- hR1,<- hbd.ey,Nat.mul_comm]at this;exact this
     have hR1b:R1<y1*4294967296+y0:=by rw[hR1];exact Nat.mod_lt _ (by omega)
     obtain⟨D1,hD1⟩:∃ D,D=IntKind.u64.wrap ((hi:Int)*4294967296):=⟨_,rfl⟩;obtain⟨D2,hD2⟩:∃ D,D=IntKind.u64.wrap (D1+(n1:Int)):=⟨_,rfl⟩;obtain⟨D3,hD3⟩:∃ D,D=IntKind.u64.wrap ((q':Int)*(y:Int)):=⟨_,rfl⟩;have u1:IntKind.u64.wrap (D2-D3)=(R1:Int):=by
      rw[<- Int.natCast_mul]at hD3;rw[IntKind.wrap_u64]at hD1 hD2 hD3 ⊢;have hey:=hbd.ey;generalize q'*y=T at *;omega
     obtain⟨Q0,hQ0⟩:∃ Q0,Q0=R1/y1:=⟨_,rfl⟩;obtain⟨R0,hR0⟩:∃ R0,R0=R1%y1:=⟨_,rfl⟩;have hdm2:Q0*y1+R0=R1:=by
      have:=Nat.div_add_mod R1 y1;rw[Nat.mul_comm]at this;rw[hQ0,hR0];exact this
     have hR0b:R0<y1:=by rw[hR0];exact Nat.mod_lt _ (by omega)
     have hQ0b:Q0<8589934592:=by
      rw[hQ0,Nat.div_lt_iff_lt_mul (by omega)];have:8589934592*2147483648<=8589934592*y1:=Nat.mul_le_mul_left _ (by omega);have:=hbd.by0;omega
     have hup0:R1*4294967296+n0<(Q0+1)*(y1*4294967296+y0):=by rw[hQ0];exact aY7 (by omega) hbd.bn0
     obtain⟨T0,hT0⟩:∃ T0,T0=Q0*y1:=⟨_,rfl⟩;have q13'':¬ y1=0:=by omega
     have u2:IntKind.u64.wrap ((R1:Int)/(y1:Int))=(Q0:Int):=by rw[<- Int.natCast_ediv,<- hQ0,IntKind.wrap_u64];omega
     have u3:IntKind.u64.wrap ((Q0:Int)*(y1:Int))=(T0:Int):=by rw[<- Int.natCast_mul,<- hT0,IntKind.wrap_u64];omega
     have u4:IntKind.u64.wrap ((R1:Int)-(T0:Int))=(R0:Int):=by rw[IntKind.wrap_u64];omega
     have HS2:=hiD (show Q0*y1+R0=R1/\R0<4294967296/\R1*4294967296+n0<(Q0+1)*(y1*4294967296+y0)/\Q0<8589934592 from⟨hdm2,by omega,hup0,hQ0b⟩);have HQ1:=hiD (show q'*y+R1=hi*4294967296+n1/\R1<y1*4294967296+y0 from⟨hdm,hR1b⟩)
     replace hD1:=hD1.symm
     replace hD2:=hD2.symm
     replace hD3:=hD3.symm
     have HN2:=hiD hR1b;clear hq1 hl1 hbd hby0 hby1 hN1 hy1 hR1 hdm hR1b hQ0 hR0 hdm2 hR0b hQ0b hup0 hT0 HE HR HL HN1 HS;generalize q'=Q1 at *;go_wp2_with fail
     go_loop [18,16] (fun a b=>∃ q r:Nat,a=.int .u64 (q:Int)/\b=.int .u64 (r:Int)/\q*y1+r=R1/\r<4294967296/\R1*4294967296+n0<(q+1)*(y1*4294967296+y0)/\q<8589934592) (fun a _=>(intOf a).toNat)
     case atStart=>exact⟨Q0,R0,rfl,rfl,HS2.out⟩
     case round =>
      obtain⟨q,r,rfl,rfl,hqr,hr,hup,hqs⟩:=hrel;have hN1:=HN2.out;have hy1:=HY1.out;by_cases hb:4294967296<=q
      ·have c1:decide ((4294967296:Int)<=(q:Int))=true:=decT (by omega);have hlow:R1*4294967296+n0<q*(y1*4294967296+y0):=cH2 hN1 HBD.out.bn0 hb;have hq1:1<=q:=by
        omega
       obtain⟨q',hq'⟩:∃ q',q=q'+1:=⟨q-1,by omega⟩;obtain⟨r',hr'⟩:∃ r',r'=r+y1:=⟨_,rfl⟩;have c5:IntKind.u64.wrap ((q:Int)-1)=(q':Int):=by rw[IntKind.wrap_u64];omega
       have c6:IntKind.u64.wrap ((r:Int)+(y1:Int))=(r':Int):=by rw[IntKind.wrap_u64];omega
       have hqr':q'*y1+r'=R1:=by rw[hq',Nat.add_mul,Nat.one_mul]at hqr;omega
       have hup':R1*4294967296+n0<(q'+1)*(y1*4294967296+y0):=by rw[<- hq'];exact hlow
       by_cases hr2:4294967296<=r'
       ·have c7:decide ((4294967296:Int)<=(r':Int))=true:=decT (by omega);have hov:=aQ7 (b:=4294967296) (y0:=y0) (n0:=n0) hqr' hN1 HBD.out.by0 hr2;have HE:=hiD (aI2 hov.2 hup');have HR:=hiD hqr';have HL:=hiD hov.1;clear hqr hr hup hqs hlow hq1 hr' hq' hqr' hN1 hy1 hup' hr2 hov hb;have hq0:=HE.out;have hbd:=HBD.out;have hQ1:=HQ1.out;have hey:=hbd.ey;have hdm:=Nat.div_add_mod (R1*4294967296+n0) (y1*4294967296+y0);rw[<- hq0,<- hey,Nat.mul_comm]at hdm;have hRb:(R1*4294967296+n0)%y<y:=Nat.mod_lt _ (by have:=hbd.by1;omega);obtain⟨e1,e2⟩:=aY8 hbd.elo hQ1.1 hdm hRb;have hQ:=HQE.out.1;have hR:=HQE.out.2;rw[e2]at hR;rw[<- hR]at hdm hRb;have hy1:=HY1.out;have hy0:=hbd.by0;have hQb:Q<18446744073709551616:=by
         rw[hQ,Nat.div_lt_iff_lt_mul (by omega)];have:(hi+1)*18446744073709551616<=y*18446744073709551616:=Nat.mul_le_mul_right _ hbd.bhi;rw[Nat.add_mul,Nat.one_mul]at this;rw[Nat.mul_comm 18446744073709551616];omega
        rw[<- hQ]at e1;obtain⟨P2,hP2⟩:∃ P,P=IntKind.u64.wrap ((R1:Int)*4294967296):=⟨_,rfl⟩;obtain⟨P3,hP3⟩:∃ P,P=IntKind.u64.wrap (P2+(n0:Int)):=⟨_,rfl⟩;obtain⟨P4,hP4⟩:∃ P,P=IntKind.u64.wrap ((q':Int)*(y:Int)):=⟨_,rfl⟩;obtain⟨P1,hP1⟩:∃ P,P=IntKind.u64.wrap ((Q1:Int)*4294967296):=⟨_,rfl⟩;have g2:IntKind.u64.wrap (P1+(q':Int))=(Q:Int):=by
         rw[IntKind.wrap_u64]at hP1 ⊢;omega
        have g3:IntKind.u64.wrap (P3-P4)=(R:Int):=by
         rw[<- Int.natCast_mul]at hP4;rw[IntKind.wrap_u64]at hP2 hP3 hP4 ⊢;generalize q'*y=T at *;omega
        have g4:IntKind.u64.wrap (R:Int)=(R:Int):=by rw[IntKind.wrap_u64];omega
        replace hP1:=hP1.symm
        replace hP2:=hP2.symm
        replace hP3:=hP3.symm
        replace hP4:=hP4.symm
        clear hq0 hbd hQ1 hey hdm hR hRb e1 e2 hy1 hy0 hQ hQb HE HR HL;go_wp2_with fail;go_ret2;exact⟨rfl,rfl⟩
       ·have c7:decide ((4294967296:Int)<=(r':Int))=false:=decF (by omega);have HN:=hiD (show q'*y1+r'=R1/\r'<4294967296/\R1*4294967296+n0<(q'+1)*(y1*4294967296+y0)/\q'<8589934592 from⟨hqr',by omega,hup',by omega⟩);have HM:Hid ((intOf (.int .u64 (q':Int))).toNat<(intOf (.int .u64 (q:Int))).toNat):=by show((q':Int)).toNat<((q:Int)).toNat;omega
        clear hqr hr hup hqs hlow hq1 hr' hq' hqr' hN1 hy1 hup' hr2 hb;go_wp2_with fail;go_round
        case rel=>exact⟨q',r',rfl,rfl,HN.out⟩
        case measure=>exact HM.out
      ·have c1:decide ((4294967296:Int)<=(q:Int))=false:=decF (by omega);obtain⟨X,hX⟩:∃ X,X=q*y0:=⟨_,rfl⟩;obtain⟨Z,hZ⟩:∃ Z,Z=4294967296*r:=⟨_,rfl⟩;obtain⟨Z2,hZ2⟩:∃ Z2,Z2=Z+n0:=⟨_,rfl⟩;have hXb:X<=4294967295*4294967295:=by rw[hX];exact Nat.mul_le_mul (by omega) (by have:=HBD.out.by0;omega)
       have hn0b:=HBD.out.bn0;have c2:IntKind.u64.wrap ((q:Int)*(y0:Int))=(X:Int):=by rw[<- Int.natCast_mul,<- hX,IntKind.wrap_u64];omega
       have c3:IntKind.u64.wrap (4294967296*(r:Int))=(Z:Int):=by rw[IntKind.wrap_u64];omega
       have c4:IntKind.u64.wrap ((Z:Int)+(n0:Int))=(Z2:Int):=by rw[IntKind.wrap_u64];omega
       by_cases hc:Z2<X
       ·have c8:decide (Z2<X)=true:=decT (by omega);have hlow:R1*4294967296+n0<q*(y1*4294967296+y0):=by
         have h:=(not_congr (aT2 (b:=4294967296) (y0:=y0) (n0:=n0) hqr)).1 (by omega);omega
        have hq1:1<=q:=by
         rcases Nat.eq_zero_or_pos q with h|h
         ·rw[h,Nat.zero_mul]at hX;omega
         ·exact h
        obtain⟨q',hq'⟩:∃ q',q=q'+1:=⟨q-1,by omega⟩;obtain⟨r',hr'⟩:∃ r',r'=r+y1:=⟨_,rfl⟩;have c5:IntKind.u64.wrap ((q:Int)-1)=(q':Int):=by rw[IntKind.wrap_u64];omega
        have c6:IntKind.u64.wrap ((r:Int)+(y1:Int))=(r':Int):=by rw[IntKind.wrap_u64];omega
        have hqr':q'*y1+r'=R1:=by rw[hq',Nat.add_mul,Nat.one_mul]at hqr;omega
        have hup':R1*4294967296+n0<(q'+1)*(y1*4294967296+y0):=by rw[<- hq'];exact hlow
        by_cases hr2:4294967296<=r'
        ·have c7:decide ((4294967296:Int)<=(r':Int))=true:=decT (by omega);have hov:=aQ7 (b:=4294967296) (y0:=y0) (n0:=n0) hqr' hN1 HBD.out.by0 hr2;have HE:=hiD (aI2 hov.2 hup');have HR:=hiD hqr';have HL:=hiD hov.1;clear hqr hr hup hqs hlow hq1 hr' hq' hqr' hN1 hy1 hup' hr2 hov hb;have hq0:=HE.out;have hbd:=HBD.out;have hQ1:=HQ1.out;have hey:=hbd.ey;have hdm:=Nat.div_add_mod (R1*4294967296+n0) (y1*4294967296+y0);rw[<- hq0,<- hey,Nat.mul_comm]at hdm;have hRb:(R1*4294967296+n0)%y<y:=Nat.mod_lt _ (by have:=hbd.by1;omega);obtain⟨e1,e2⟩:=aY8 hbd.elo hQ1.1 hdm hRb;have hQ:=HQE.out.1;have hR:=HQE.out.2;rw[e2]at hR;rw[<- hR]at hdm hRb;have hy1:=HY1.out;have hy0:=hbd.by0;have hQb:Q<18446744073709551616:=by
          rw[hQ,Nat.div_lt_iff_lt_mul (by omega)];have:(hi+1)*18446744073709551616<=y*18446744073709551616:=Nat.mul_le_mul_right _ hbd.bhi;rw[Nat.add_mul,Nat.one_mul]at this;rw[Nat.mul_comm 18446744073709551616];omega
         rw[<- hQ]at e1;obtain⟨P2,hP2⟩:∃ P,P=IntKind.u64.wrap ((R1:Int)*4294967296):=⟨_,rfl⟩;obtain⟨P3,hP3⟩:∃ P,P=IntKind.u64.wrap (P2+(n0:Int)):=⟨_,rfl⟩;obtain⟨P4,hP4⟩:∃ P,P=IntKind.u64.wrap ((q':Int)*(y:Int)):=⟨_,rfl⟩;obtain⟨P1,hP1⟩:∃ P,P=IntKind.u64.wrap ((Q1:Int)*4294967296):=⟨_,rfl⟩;have g2:IntKind.u64.wrap (P1+(q':Int))=(Q:Int):=by
          rw[IntKind.wrap_u64]at hP1 ⊢;omega
         have g3:IntKind.u64.wrap (P3-P4)=(R:Int):=by
          rw[<- Int.natCast_mul]at hP4;rw[IntKind.wrap_u64]at hP2 hP3 hP4 ⊢;generalize q'*y=T at *;omega
         have g4:IntKind.u64.wrap (R:Int)=(R:Int):=by rw[IntKind.wrap_u64];omega
         replace hP1:=hP1.symm
         replace hP2:=hP2.symm
         replace hP3:=hP3.symm
         replace hP4:=hP4.symm
         clear hq0 hbd hQ1 hey hdm hR hRb e1 e2 hy1 hy0 hQ hQb HE HR HL;go_wp2_with fail;go_ret2;exact⟨rfl,rfl⟩
        ·have c7:decide ((4294967296:Int)<=(r':Int))=false:=decF (by omega);have HN:=hiD (show q'*y1+r'=R1/\r'<4294967296/\R1*4294967296+n0<(q'+1)*(y1*4294967296+y0)/\q'<8589934592 from⟨hqr',by omega,hup',by omega⟩);have HM:Hid ((intOf (.int .u64 (q':Int))).toNat<(intOf (.int .u64 (q:Int))).toNat):=by show((q':Int)).toNat<((q:Int)).toNat;omega
         clear hqr hr hup hqs hlow hq1 hr' hq' hqr' hN1 hy1 hup' hr2 hb;go_wp2_with fail;go_round
         case rel=>exact⟨q',r',rfl,rfl,HN.out⟩
         case measure=>exact HM.out
       ·have c8:decide (Z2<X)=false:=decF (by omega);have hfit:=(aT2 (b:=4294967296) (y0:=y0) (n0:=n0) hqr).1 (by omega);have HE:=hiD (aI2 hfit hup);have HR:=hiD hqr;have HL:=hiD (show q<4294967296 by omega);clear hqr hr hup hqs hX hZ hZ2 hXb hn0b hc hfit hb hN1 hy1;have hq0:=HE.out;have hbd:=HBD.out;have hQ1:=HQ1.out;have hey:=hbd.ey;have hdm:=Nat.div_add_mod (R1*4294967296+n0) (y1*4294967296+y0);rw[<- hq0,<- hey,Nat.mul_comm]at hdm;have hRb:(R1*4294967296+n0)%y<y:=Nat.mod_lt _ (by have:=hbd.by1;omega);obtain⟨e1,e2⟩:=aY8 hbd.elo hQ1.1 hdm hRb;have hQ:=HQE.out.1;have hR:=HQE.out.2;rw[e2]at hR;rw[<- hR]at hdm hRb;have hy1:=HY1.out;have hy0:=hbd.by0;have hQb:Q<18446744073709551616:=by
         rw[hQ,Nat.div_lt_iff_lt_mul (by omega)];have:(hi+1)*18446744073709551616<=y*18446744073709551616:=Nat.mul_le_mul_right _ hbd.bhi;rw[Nat.add_mul,Nat.one_mul]at this;rw[Nat.mul_comm 18446744073709551616];omega
        rw[<- hQ]at e1;obtain⟨P2,hP2⟩:∃ P,P=IntKind.u64.wrap ((R1:Int)*4294967296):=⟨_,rfl⟩;obtain⟨P3,hP3⟩:∃ P,P=IntKind.u64.wrap (P2+(n0:Int)):=⟨_,rfl⟩;obtain⟨P4,hP4⟩:∃ P,P=IntKind.u64.wrap ((q:Int)*(y:Int)):=⟨_,rfl⟩;obtain⟨P1,hP1⟩:∃ P,P=IntKind.u64.wrap ((Q1:Int)*4294967296):=⟨_,rfl⟩;have g2:IntKind.u64.wrap (P1+(q:Int))=(Q:Int):=by
         rw[IntKind.wrap_u64]at hP1 ⊢;omega
        have g3:IntKind.u64.wrap (P3-P4)=(R:Int):=by
         rw[<- Int.natCast_mul]at hP4;rw[IntKind.wrap_u64]at hP2 hP3 hP4 ⊢;generalize q*y=T at *;omega
        have g4:IntKind.u64.wrap (R:Int)=(R:Int):=by rw[IntKind.wrap_u64];omega
        replace hP1:=hP1.symm
        replace hP2:=hP2.symm
        replace hP3:=hP3.symm
        replace hP4:=hP4.symm
        clear hq0 hbd hQ1 hey hdm hR hRb e1 e2 hy1 hy0 hQ hQb HE HR HL;go_wp2_with fail;go_ret2;exact⟨rfl,rfl⟩
    ·have c7:decide ((4294967296:Int)<=(r':Int))=false:=decF (by omega);have HN:=hiD (show q'*y1+r'=hi/\r'<4294967296/\hi*4294967296+n1<(q'+1)*(y1*4294967296+y0)/\q'<8589934592 from⟨hqr',by omega,hup',by omega⟩);have HM:Hid ((intOf (.int .u64 (q':Int))).toNat<(intOf (.int .u64 (q:Int))).toNat):=by show((q':Int)).toNat<((q:Int)).toNat;omega
     clear hqr hr hup hqs hlow hq1 hr' hq' hqr' hN1 hy1 hup' hr2 hb;go_wp2_with fail;go_round
     case rel=>exact⟨q',r',rfl,rfl,HN.out⟩
     case measure=>exact HM.out
   ·have c8:decide (Z2<X)=false:=decF (by omega);have hfit:=(aT2 (b:=4294967296) (y0:=y0) (n0:=n1) hqr).1 (by omega);have HE:=hiD (aI2 hfit hup);have HR:=hiD hqr;have HL:=hiD (show q<4294967296 by omega);clear hqr hr hup hqs hX hZ hZ2 hXb hn0b hc hfit hb hN1 hy1;have hq1:=HE.out;have hl1:=HL.out;have hbd:=HBD.out;have hby0:=hbd.by0;have hby1:=hbd.by1;have hN1:=HN1.out;have hy1:=HY1.out;obtain⟨R1,hR1⟩:∃ R1,R1=(hi*4294967296+n1)%(y1*4294967296+y0):=⟨_,rfl⟩;have hdm:q*y+R1=hi*4294967296+n1:=by
     have:=Nat.div_add_mod (hi*4294967296+n1) (y1*4294967296+y0);rw[<- hq1,<- hR1,<- hbd.ey,Nat.mul_comm]at this;exact this
    have hR1b:R1<y1*4294967296+y0:=by rw[hR1];exact Nat.mod_lt _ (by omega)
    obtain⟨D1,hD1⟩:∃ D,D=IntKind.u64.wrap ((hi:Int)*4294967296):=⟨_,rfl⟩;obtain⟨D2,hD2⟩:∃ D,D=IntKind.u64.wrap (D1+(n1:Int)):=⟨_,rfl⟩;obtain⟨D3,hD3⟩:∃ D,D=IntKind.u64.wrap ((q:Int)*(y:Int)):=⟨_,rfl⟩;have u1:IntKind.u64.wrap (D2-D3)=(R1:Int):=by
     rw[<- Int.natCast_mul]at hD3;rw[IntKind.wrap_u64]at hD1 hD2 hD3 ⊢;have hey:=hbd.ey;generalize q*y=T at *;omega
    obtain⟨Q0,hQ0⟩:∃ Q0,Q0=R1/y1:=⟨_,rfl⟩;obtain⟨R0,hR0⟩:∃ R0,R0=R1%y1:=⟨_,rfl⟩;have hdm2:Q0*y1+R0=R1:=by
     have:=Nat.div_add_mod R1 y1;rw[Nat.mul_comm]at this;rw[hQ0,hR0];exact this
    have hR0b:R0<y1:=by rw[hR0];exact Nat.mod_lt _ (by omega)
    have hQ0b:Q0<8589934592:=by
     rw[hQ0,Nat.div_lt_iff_lt_mul (by omega)];have:8589934592*2147483648<=8589934592*y1:=Nat.mul_le_mul_left _ (by omega);have:=hbd.by0;omega
    have hup0:R1*4294967296+n0<(Q0+1)*(y1*4294967296+y0):=by rw[hQ0];exact aY7 (by omega) hbd.bn0
    obtain⟨T0,hT0⟩:∃ T0,T0=Q0*y1:=⟨_,rfl⟩;have q13'':¬ y1=0:=by omega
    have u2:IntKind.u64.wrap ((R1:Int)/(y1:Int))=(Q0:Int):=by rw[<- Int.natCast_ediv,<- hQ0,IntKind.wrap_u64];omega
    have u3:IntKind.u64.wrap ((Q0:Int)*(y1:Int))=(T0:Int):=by rw[<- Int.natCast_mul,<- hT0,IntKind.wrap_u64];omega
    have u4:IntKind.u64.wrap ((R1:Int)-(T0:Int))=(R0:Int):=by rw[IntKind.wrap_u64];omega
    have HS2:=hiD (show Q0*y1+R0=R1/\R0<4294967296/\R1*4294967296+n0<(Q0+1)*(y1*4294967296+y0)/\Q0<8589934592 from⟨hdm2,by omega,hup0,hQ0b⟩);have HQ1:=hiD (show q*y+R1=hi*4294967296+n1/\R1<y1*4294967296+y0 from⟨hdm,hR1b⟩)
    replace hD1:=hD1.symm
    replace hD2:=hD2.symm
    replace hD3:=hD3.symm
    have HN2:=hiD hR1b;clear hq1 hl1 hbd hby0 hby1 hN1 hy1 hR1 hdm hR1b hQ0 hR0 hdm2 hR0b hQ0b hup0 hT0 HE HR HL HN1 HS;generalize q=Q1 at *;go_wp2_with fail
    go_loop [18,16] (fun a b=>∃ q r:Nat,a=.int .u64 (q:Int)/\b=.int .u64 (r:Int)/\q*y1+r=R1/\r<4294967296/\R1*4294967296+n0<(q+1)*(y1*4294967296+y0)/\q<8589934592) (fun a _=>(intOf a).toNat)
    case atStart=>exact⟨Q0,R0,rfl,rfl,HS2.out⟩
    case round =>
     obtain⟨q,r,rfl,rfl,hqr,hr,hup,hqs⟩:=hrel;have hN1:=HN2.out;have hy1:=HY1.out;by_cases hb:4294967296<=q
     ·have c1:decide ((4294967296:Int)<=(q:Int))=true:=decT (by omega);have hlow:R1*4294967296+n0<q*(y1*4294967296+y0):=cH2 hN1 HBD.out.bn0 hb;have hq1:1<=q:=by
       omega
      obtain⟨q',hq'⟩:∃ q',q=q'+1:=⟨q-1,by omega⟩;obtain⟨r',hr'⟩:∃ r',r'=r+y1:=⟨_,rfl⟩;have c5:IntKind.u64.wrap ((q:Int)-1)=(q':Int):=by rw[IntKind.wrap_u64];omega
      have c6:IntKind.u64.wrap ((r:Int)+(y1:Int))=(r':Int):=by rw[IntKind.wrap_u64];omega
      have hqr':q'*y1+r'=R1:=by rw[hq',Nat.add_mul,Nat.one_mul]at hqr;omega
      have hup':R1*4294967296+n0<(q'+1)*(y1*4294967296+y0):=by rw[<- hq'];exact hlow
      by_cases hr2:4294967296<=r'
      ·have c7:decide ((4294967296:Int)<=(r':Int))=true:=decT (by omega);have hov:=aQ7 (b:=4294967296) (y0:=y0) (n0:=n0) hqr' hN1 HBD.out.by0 hr2;have HE:=hiD (aI2 hov.2 hup');have HR:=hiD hqr';have HL:=hiD hov.1;clear hqr hr hup hqs hlow hq1 hr' hq' hqr' hN1 hy1 hup' hr2 hov hb;have hq0:=HE.out;have hbd:=HBD.out;have hQ1:=HQ1.out;have hey:=hbd.ey;have hdm:=Nat.div_add_mod (R1*4294967296+n0) (y1*4294967296+y0);rw[<- hq0,<- hey,Nat.mul_comm]at hdm;have hRb:(R1*4294967296+n0)%y<y:=Nat.mod_lt _ (by have:=hbd.by1;omega);obtain⟨e1,e2⟩:=aY8 hbd.elo hQ1.1 hdm hRb;have hQ:=HQE.out.1;have hR:=HQE.out.2;rw[e2]at hR;rw[<- hR]at hdm hRb;have hy1:=HY1.out;have hy0:=hbd.by0;have hQb:Q<18446744073709551616:=by
        rw[hQ,Nat.div_lt_iff_lt_mul (by omega)];have:(hi+1)*18446744073709551616<=y*18446744073709551616:=Nat.mul_le_mul_right _ hbd.bhi;rw[Nat.add_mul,Nat.one_mul]at this;rw[Nat.mul_comm 18446744073709551616];omega
       rw[<- hQ]at e1;obtain⟨P2,hP2⟩:∃ P,P=IntKind.u64.wrap ((R1:Int)*4294967296):=⟨_,rfl⟩;obtain⟨P3,hP3⟩:∃ P,P=IntKind.u64.wrap (P2+(n0:Int)):=⟨_,rfl⟩;obtain⟨P4,hP4⟩:∃ P,P=IntKind.u64.wrap ((q':Int)*(y:Int)):=⟨_,rfl⟩;obtain⟨P1,hP1⟩:∃ P,P=IntKind.u64.wrap ((Q1:Int)*4294967296):=⟨_,rfl⟩;have g2:IntKind.u64.wrap (P1+(q':Int))=(Q:Int):=by
        rw[IntKind.wrap_u64]at hP1 ⊢;omega
       have g3:IntKind.u64.wrap (P3-P4)=(R:Int):=by
        rw[<- Int.natCast_mul]at hP4;rw[IntKind.wrap_u64]at hP2 hP3 hP4 ⊢;generalize q'*y=T at *;omega
       have g4:IntKind.u64.wrap (R:Int)=(R:Int):=by rw[IntKind.wrap_u64];omega
       replace hP1:=hP1.symm
       replace hP2:=hP2.symm
       replace hP3:=hP3.symm
       replace hP4:=hP4.symm
       clear hq0 hbd hQ1 hey hdm hR hRb e1 e2 hy1 hy0 hQ hQb HE HR HL;go_wp2_with fail;go_ret2;exact⟨rfl,rfl⟩
      ·have c7:decide ((4294967296:Int)<=(r':Int))=false:=decF (by omega);have HN:=hiD (show q'*y1+r'=R1/\r'<4294967296/\R1*4294967296+n0<(q'+1)*(y1*4294967296+y0)/\q'<8589934592 from⟨hqr',by omega,hup',by omega⟩);have HM:Hid ((intOf (.int .u64 (q':Int))).toNat<(intOf (.int .u64 (q:Int))).toNat):=by show((q':Int)).toNat<((q:Int)).toNat;omega
       clear hqr hr hup hqs hlow hq1 hr' hq' hqr' hN1 hy1 hup' hr2 hb;go_wp2_with fail;go_round
       case rel=>exact⟨q',r',rfl,rfl,HN.out⟩
       case measure=>exact HM.out
     ·have c1:decide ((4294967296:Int)<=(q:Int))=false:=decF (by omega);obtain⟨X,hX⟩:∃ X,X=q*y0:=⟨_,rfl⟩;obtain⟨Z,hZ⟩:∃ Z,Z=4294967296*r:=⟨_,rfl⟩;obtain⟨Z2,hZ2⟩:∃ Z2,Z2=Z+n0:=⟨_,rfl⟩;have hXb:X<=4294967295*4294967295:=by rw[hX];exact Nat.mul_le_mul (by omega) (by have:=HBD.out.by0;omega)
      have hn0b:=HBD.out.bn0;have c2:IntKind.u64.wrap ((q:Int)*(y0:Int))=(X:Int):=by rw[<- Int.natCast_mul,<- hX,IntKind.wrap_u64];omega
      have c3:IntKind.u64.wrap (4294967296*(r:Int))=(Z:Int):=by rw[IntKind.wrap_u64];omega
      have c4:IntKind.u64.wrap ((Z:Int)+(n0:Int))=(Z2:Int):=by rw[IntKind.wrap_u64];omega
      by_cases hc:Z2<X
      ·have c8:decide (Z2<X)=true:=decT (by omega);have hlow:R1*4294967296+n0<q*(y1*4294967296+y0):=by
        have h:=(not_congr (aT2 (b:=4294967296) (y0:=y0) (n0:=n0) hqr)).1 (by omega);omega
       have hq1:1<=q:=by
        rcases Nat.eq_zero_or_pos q with h|h
        ·rw[h,Nat.zero_mul]at hX;omega
        ·exact h
       obtain⟨q',hq'⟩:∃ q',q=q'+1:=⟨q-1,by omega⟩;obtain⟨r',hr'⟩:∃ r',r'=r+y1:=⟨_,rfl⟩;have c5:IntKind.u64.wrap ((q:Int)-1)=(q':Int):=by rw[IntKind.wrap_u64];omega
       have c6:IntKind.u64.wrap ((r:Int)+(y1:Int))=(r':Int):=by rw[IntKind.wrap_u64];omega
       have hqr':q'*y1+r'=R1:=by rw[hq',Nat.add_mul,Nat.one_mul]at hqr;omega
       have hup':R1*4294967296+n0<(q'+1)*(y1*4294967296+y0):=by rw[<- hq'];exact hlow
       by_cases hr2:4294967296<=r'
       ·have c7:decide ((4294967296:Int)<=(r':Int))=true:=decT (by omega);have hov:=aQ7 (b:=4294967296) (y0:=y0) (n0:=n0) hqr' hN1 HBD.out.by0 hr2;have HE:=hiD (aI2 hov.2 hup');have HR:=hiD hqr';have HL:=hiD hov.1;clear hqr hr hup hqs hlow hq1 hr' hq' hqr' hN1 hy1 hup' hr2 hov hb;have hq0:=HE.out;have hbd:=HBD.out;have hQ1:=HQ1.out;have hey:=hbd.ey;have hdm:=Nat.div_add_mod (R1*4294967296+n0) (y1*4294967296+y0);rw[<- hq0,<- hey,Nat.mul_comm]at hdm;have hRb:(R1*4294967296+n0)%y<y:=Nat.mod_lt _ (by have:=hbd.by1;omega);obtain⟨e1,e2⟩:=aY8 hbd.elo hQ1.1 hdm hRb;have hQ:=HQE.out.1;have hR:=HQE.out.2;rw[e2]at hR;rw[<- hR]at hdm hRb;have hy1:=HY1.out;have hy0:=hbd.by0;have hQb:Q<18446744073709551616:=by
         rw[hQ,Nat.div_lt_iff_lt_mul (by omega)];have:(hi+1)*18446744073709551616<=y*18446744073709551616:=Nat.mul_le_mul_right _ hbd.bhi;rw[Nat.add_mul,Nat.one_mul]at this;rw[Nat.mul_comm 18446744073709551616];omega
        rw[<- hQ]at e1;obtain⟨P2,hP2⟩:∃ P,P=IntKind.u64.wrap ((R1:Int)*4294967296):=⟨_,rfl⟩;obtain⟨P3,hP3⟩:∃ P,P=IntKind.u64.wrap (P2+(n0:Int)):=⟨_,rfl⟩;obtain⟨P4,hP4⟩:∃ P,P=IntKind.u64.wrap ((q':Int)*(y:Int)):=⟨_,rfl⟩;obtain⟨P1,hP1⟩:∃ P,P=IntKind.u64.wrap ((Q1:Int)*4294967296):=⟨_,rfl⟩;have g2:IntKind.u64.wrap (P1+(q':Int))=(Q:Int):=by
         rw[IntKind.wrap_u64]at hP1 ⊢;omega
        have g3:IntKind.u64.wrap (P3-P4)=(R:Int):=by
         rw[<- Int.natCast_mul]at hP4;rw[IntKind.wrap_u64]at hP2 hP3 hP4 ⊢;generalize q'*y=T at *;omega
        have g4:IntKind.u64.wrap (R:Int)=(R:Int):=by rw[IntKind.wrap_u64];omega
        replace hP1:=hP1.symm
        replace hP2:=hP2.symm
        replace hP3:=hP3.symm
        replace hP4:=hP4.symm
        clear hq0 hbd hQ1 hey hdm hR hRb e1 e2 hy1 hy0 hQ hQb HE HR HL;go_wp2_with fail;go_ret2;exact⟨rfl,rfl⟩
       ·have c7:decide ((4294967296:Int)<=(r':Int))=false:=decF (by omega);have HN:=hiD (show q'*y1+r'=R1/\r'<4294967296/\R1*4294967296+n0<(q'+1)*(y1*4294967296+y0)/\q'<8589934592 from⟨hqr',by omega,hup',by omega⟩);have HM:Hid ((intOf (.int .u64 (q':Int))).toNat<(intOf (.int .u64 (q:Int))).toNat):=by show((q':Int)).toNat<((q:Int)).toNat;omega
        clear hqr hr hup hqs hlow hq1 hr' hq' hqr' hN1 hy1 hup' hr2 hb;go_wp2_with fail;go_round
        case rel=>exact⟨q',r',rfl,rfl,HN.out⟩
        case measure=>exact HM.out
      ·have c8:decide (Z2<X)=false:=decF (by omega);have hfit:=(aT2 (b:=4294967296) (y0:=y0) (n0:=n0) hqr).1 (by omega);have HE:=hiD (aI2 hfit hup);have HR:=hiD hqr;have HL:=hiD (show q<4294967296 by omega);clear hqr hr hup hqs hX hZ hZ2 hXb hn0b hc hfit hb hN1 hy1;have hq0:=HE.out;have hbd:=HBD.out;have hQ1:=HQ1.out;have hey:=hbd.ey;have hdm:=Nat.div_add_mod (R1*4294967296+n0) (y1*4294967296+y0);rw[<- hq0,<- hey,Nat.mul_comm]at hdm;have hRb:(R1*4294967296+n0)%y<y:=Nat.mod_lt _ (by have:=hbd.by1;omega);obtain⟨e1,e2⟩:=aY8 hbd.elo hQ1.1 hdm hRb;have hQ:=HQE.out.1;have hR:=HQE.out.2;rw[e2]at hR;rw[<- hR]at hdm hRb;have hy1:=HY1.out;have hy0:=hbd.by0;have hQb:Q<18446744073709551616:=by
        rw[hQ,Nat.div_lt_iff_lt_mul (by omega)];have:(hi+1)*18446744073709551616<=y*18446744073709551616:=Nat.mul_le_mul_right _ hbd.bhi;rw[Nat.add_mul,Nat.one_mul]at this;rw[Nat.mul_comm 18446744073709551616];omega
       rw[<- hQ]at e1;obtain⟨P2,hP2⟩:∃ P,P=IntKind.u64.wrap ((R1:Int)*4294967296):=⟨_,rfl⟩;obtain⟨P3,hP3⟩:∃ P,P=IntKind.u64.wrap (P2+(n0:Int)):=⟨_,rfl⟩;obtain⟨P4,hP4⟩:∃ P,P=IntKind.u64.wrap ((q:Int)*(y:Int)):=⟨_,rfl⟩;obtain⟨P1,hP1⟩:∃ P,P=IntKind.u64.wrap ((Q1:Int)*4294967296):=⟨_,rfl⟩;have g2:IntKind.u64.wrap (P1+(q:Int))=(Q:Int):=by
        rw[IntKind.wrap_u64]at hP1 ⊢;omega
       have g3:IntKind.u64.wrap (P3-P4)=(R:Int):=by
        rw[<- Int.natCast_mul]at hP4;rw[IntKind.wrap_u64]at hP2 hP3 hP4 ⊢;generalize q*y=T at *;omega
       have g4:IntKind.u64.wrap (R:Int)=(R:Int):=by rw[IntKind.wrap_u64];omega
       replace hP1:=hP1.symm
       replace hP2:=hP2.symm
       replace hP3:=hP3.symm
       replace hP4:=hP4.symm
       clear hq0 hbd hQ1 hey hdm hR hRb e1 e2 hy1 hy0 hQ hQb HE HR HL;go_wp2_with fail;go_ret2;exact⟨rfl,rfl⟩
def shl64(d:Nat):Nat:=63-Nat.log2 d
theorem aJ7{d:Nat}(h0:d≠0)(h:d<B64):shl64 d<64/\64-Lib.bitLen d=shl64 d/\9223372036854775808<=d*2^shl64 d/\d*2^shl64 d<B64/\d<2^(64-shl64 d):=by
 have h1:=Nat.log2_self_le h0;have h2:=Nat.lt_log2_self (n:=d);have h3:Nat.log2 d<64:=by
  rw[Nat.log2_lt h0];exact h
 have h4:=bG9 (Nat.log2 d) d h1 h2 h;unfold shl64;have e63:(2:Nat)^Nat.log2 d*2^(63-Nat.log2 d)=9223372036854775808:=by
  rw[<- Nat.pow_add,show Nat.log2 d+(63-Nat.log2 d)=63 by omega]
 have e64:(2:Nat)^(Nat.log2 d+1)*2^(63-Nat.log2 d)=B64:=by
  rw[<- Nat.pow_add,show Nat.log2 d+1+(63-Nat.log2 d)=64 by omega];rfl
 refine⟨by omega,by omega,?_,?_,?_⟩
 ·rw[<- e63];exact Nat.mul_le_mul_right _ h1
 ·rw[<- e64];exact Nat.mul_lt_mul_of_pos_right h2 (Nat.pow_pos (by omega))
 ·rw[show 64-(63-Nat.log2 d)=Nat.log2 d+1 by omega];exact h2
def rcpN(u:Nat):Nat:=(B64*B64-1)/u-B64
theorem bH0{u:Nat}(h1:9223372036854775808<=u)(h2:u<B64):(B64*B64-1)/u=B64+rcpN u/\rcpN u<B64/\((B64-1-u)*18446744073709551616+18446744073709551615)/u=rcpN u:=by
 have hB:B64=18446744073709551616:=rfl;have e:B64*B64-1=u*B64+((B64-1-u)*18446744073709551616+18446744073709551615):=by
  rw[hB];omega
 have e2:(B64*B64-1)/u=B64+((B64-1-u)*18446744073709551616+18446744073709551615)/u:=by
  rw[e,Nat.mul_add_div (by omega)]
 have e3:((B64-1-u)*18446744073709551616+18446744073709551615)/u=rcpN u:=by
  unfold rcpN;rw[e2,Nat.add_sub_cancel_left]
 refine⟨by rw[e2,e3],?_,e3⟩;rw[<- e3,Nat.div_lt_iff_lt_mul (by omega)];rw[hB];omega
theorem bd_of{y hi lo:Nat}(h1:9223372036854775808<=y)(h2:y<B64)(h3:hi<y)(h4:lo<B64):BD y hi lo (y/4294967296) (y%4294967296) (lo/4294967296) (lo%4294967296):=by
 have hB:B64=18446744073709551616:=rfl;exact⟨by omega,by omega,by omega,by omega,by omega,by omega,h3⟩
theorem cM6(y hi lo:Nat)(h1:9223372036854775808<=y)(h2:y<B64)(h3:hi<y)(h4:lo<B64)(h0:hi≠0)(w:World):Calls prog 274 #[.int .u64 (hi:Int),.int .u64 (lo:Int),.int .u64 (y:Int)] w fun e w'=>e=.returned (.tuple #[.int .u64 (((hi*18446744073709551616+lo)/y:Nat):Int),.int .u64 (((hi*18446744073709551616+lo)%y:Nat):Int)])/\w=w':=by
 have H:=hiD (fun w=>bU4 y hi lo _ _ _ _ (bd_of h1 h2 h3 h4) h0 w);generalize(hi*18446744073709551616+lo)/y=Q at *;generalize(hi*18446744073709551616+lo)%y=R at *;clear h1 h2 h3 h4 h0;go_enter func274,ntmps274;go_wp2_with fail;refine(H.out _).mono ?_;rintro e w' ⟨rfl,rfl⟩;go_wp2_with fail;go_ret2;exact⟨rfl,rfl⟩
theorem cA6(u z:Nat)(h1:9223372036854775808<=u)(h2:u<B64)(hne:u≠B64-1)(hz:z=B64-1-u)(w:World):Calls prog 274 #[.int .u64 (z:Int),.int .u64 18446744073709551615,.int .u64 (u:Int)] w fun e w'=>(∃ r0:Nat,e=.returned (.tuple #[.int .u64 (rcpN u:Int),.int .u64 (r0:Int)]))/\w=w':=by
 have hB:B64=18446744073709551616:=rfl;have r3:=(bH0 h1 h2).2.2;rw[<- hz]at r3;refine(cM6 u z 18446744073709551615 h1 h2 (by omega) (by omega) (by omega) w).mono ?_;rintro e w' ⟨rfl,rfl⟩;exact⟨⟨_,by rw[r3]⟩,rfl⟩
theorem dQ2(u:Nat)(h:u<B64):bits BinOp.xor IntKind.u64 IntKind.u64.max (u:Int)=((B64-1-u:Nat):Int):=by
 have hB:B64=18446744073709551616:=rfl;have h1:(BitVec.ofInt 64 (u:Int)).toNat=u:=by
  rw[BitVec.ofInt_natCast,BitVec.toNat_ofNat];exact Nat.mod_eq_of_lt (by omega)
 have h2:BitVec.ofInt 64 IntKind.u64.max=BitVec.allOnes 64:=by decide
 show IntKind.u64.wrap ((BitVec.ofInt 64 IntKind.u64.max ^^^ BitVec.ofInt 64 (u:Int)).toNat:Int)=_;rw[h2,BitVec.allOnes_xor,BitVec.toNat_not,h1,IntKind.wrap_u64];omega
theorem aQ8{d s u:Nat}(hu:u=d*2^s)(h:u<B64):IntKind.u64.wrap ((d:Int)*2^s)=(u:Int):=by
 have e:((d:Int)*2^s)=(u:Int):=by rw[hu,Int.natCast_mul,Int.natCast_pow];rfl
 have hB:B64=18446744073709551616:=rfl;rw[e,IntKind.wrap_u64];omega
theorem cH3(d u:Nat)(hd0:d≠0)(hd:d<B64)(hu:u=d*2^shl64 d)(hne:u≠B64-1)(w:World):Calls prog 275 #[.int .u64 (d:Int)] w fun e w'=>e=.returned (.int .u64 (rcpN u:Int))/\w=w':=by
 have hB:B64=18446744073709551616:=rfl;obtain⟨s1,s2,s3,s4,s5⟩:=aJ7 hd0 hd;rw[<- hu]at s3 s4;have HN:=hiD (fun w=>aJ6 d hd w);rw[s2]at HN;obtain⟨z,hz⟩:∃ z,z=B64-1-u:=⟨_,rfl⟩;have HD:=hiD (fun w=>cA6 u z s3 s4 hne hz w);have q1:=aQ8 hu s4;have q2:bits BinOp.xor IntKind.u64 IntKind.u64.max (u:Int)=(z:Int):=by rw[dQ2 u s4,hz]
 generalize rcpN u=rr at HD ⊢;generalize shl64 d=s at *;clear hd0 hd hu hne s2 s3 s4 s5 hz hB;go_enter func275,ntmps275;go_wp2_with fail;refine(HN.out _).mono ?_;rintro e w' ⟨rfl,rfl⟩;go_wp2_with fail;refine(HD.out _).mono ?_;rintro e w' ⟨⟨r0,rfl⟩,rfl⟩;go_wp2_with fail;go_ret;exact⟨rfl,rfl⟩
end Go.Proofs.YtjebnpkebccffaaGreatDoor
