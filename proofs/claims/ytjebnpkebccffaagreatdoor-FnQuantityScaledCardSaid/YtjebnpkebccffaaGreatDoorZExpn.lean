import Derived.Test.YtjebnpkebccffaaGreatDoorZIntd
import Derived.Lib.BitFns
import Derived.Laws.BitsAll
import Derived.Laws.Bits64
set_option linter.unusedSimpArgs false
set_option linter.unusedVariables false
set_option linter.unusedSectionVars false
set_option maxRecDepth 100000
set_option maxHeartbeats 8000000
namespace Go.Proofs.YtjebnpkebccffaaGreatDoor
open Go.RowKit Go.Proofs.Tryz
def ev(k M j:Nat):Nat:=k/2^(M-j)
def vv(k M j:Nat):Nat:=(k*2^(64-M+j))%18446744073709551616
def exOK(k:Nat):Bool :=
 decide (k<2)||(decide (1<=Lib.bitLen k-1)&&decide (Lib.bitLen k<=9)&&decide (2<=Lib.bitLen k)&&decide (ev k (Lib.bitLen k-1) 0=1)&&decide (ev k (Lib.bitLen k-1) (Lib.bitLen k-1)=k) &&
  (List.range 9).all fun j=>decide (Lib.bitLen k-1<=j)||((decide (9223372036854775808<=vv k (Lib.bitLen k-1) j)||decide (ev k (Lib.bitLen k-1) (j+1)=2*ev k (Lib.bitLen k-1) j)) &&
   (decide (vv k (Lib.bitLen k-1) j<9223372036854775808)||decide (ev k (Lib.bitLen k-1) (j+1)=2*ev k (Lib.bitLen k-1) j+1))&&decide (2*ev k (Lib.bitLen k-1) j<=k)))
theorem cF9:(List.range 512).all exOK=true:=by decide +kernel
theorem cG0(k M:Nat)(h:k<512)(h2:2<=k)(hM:Lib.bitLen k=M+1):(1<=M/\M<=8)/\ev k M 0=1/\ev k M M=k /\
  ∀ j,j<M->(vv k M j<9223372036854775808->ev k M (j+1)=2*ev k M j)/\(9223372036854775808<=vv k M j->ev k M (j+1)=2*ev k M j+1)/\2*ev k M j<=k:=by
 have h0:=List.all_eq_true.1 cF9 k (List.mem_range.2 h);unfold exOK at h0;rw[hM]at h0;simp only[Nat.add_sub_cancel,Bool.or_eq_true,Bool.and_eq_true,decide_eq_true_eq,List.all_eq_true,List.mem_range]at h0;rcases h0 with h0|⟨⟨⟨⟨⟨a1,a2⟩,a3⟩,a4⟩,a5⟩,a6⟩
 ·omega
 ·refine⟨⟨a1,by omega⟩,a4,a5,fun j hj=>?_⟩;rcases a6 j (by omega)with h|⟨⟨h1,h2⟩,h3⟩
  ·omega
  ·refine⟨fun h=>?_,fun h=>?_,h3⟩
   ·rcases h1 with h1|h1
    ·omega
    ·exact h1
   ·rcases h2 with h2|h2
    ·omega
    ·exact h2
theorem bK6(k:Nat)(h:k<512)(h2:2<=k):∃ M,Lib.bitLen k=M+1:=by
 have h0:=List.all_eq_true.1 cF9 k (List.mem_range.2 h);unfold exOK at h0;simp only[Bool.or_eq_true,Bool.and_eq_true,decide_eq_true_eq,List.all_eq_true,List.mem_range]at h0;rcases h0 with h0|⟨⟨⟨⟨⟨a1,a2⟩,a3⟩,a4⟩,a5⟩,a6⟩
 ·omega
 ·exact⟨Lib.bitLen k-1,by omega⟩
theorem cS5(k M j:Nat):vv k M (j+1)=(vv k M j*2)%18446744073709551616:=by
 unfold vv;rw[<- Nat.add_assoc,Nat.pow_succ,<- Nat.mul_assoc,Nat.mod_mul_mod]
theorem vv_lt(k M j:Nat):vv k M j<18446744073709551616:=Nat.mod_lt _ (by omega)
theorem cS6(v:Nat)(hv:v<18446744073709551616):bits .and .u64 (v:Int) 9223372036854775808=if v<9223372036854775808 then 0 else 9223372036854775808:=by
 have h1:(BitVec.ofInt 64 (v:Int)).toNat=v:=by rw[BitVec.ofInt_natCast,BitVec.toNat_ofNat];exact Nat.mod_eq_of_lt (by omega)
 have h2:(BitVec.ofInt 64 (9223372036854775808:Int)).toNat=9223372036854775808:=by decide
 show IntKind.u64.wrap ((BitVec.ofInt 64 (v:Int) &&& BitVec.ofInt 64 9223372036854775808).toNat:Int)=_;rw[BitVec.toNat_and,h1,h2,IntKind.wrap_u64];have h3:v &&& 9223372036854775808=if v<9223372036854775808 then 0 else 9223372036854775808:=by
  have e1:v &&& 9223372036854775808=(v/2^63%2)*2^63:=by
   apply Nat.eq_of_testBit_eq;intro i;rw[Nat.testBit_and,show(9223372036854775808:Nat)=2^63 from by decide,Nat.testBit_two_pow];by_cases hi:63=i
   ·subst hi;rw[Nat.testBit_eq_decide_div_mod_eq,Nat.testBit_eq_decide_div_mod_eq,Nat.mul_div_cancel _ (by decide)];have:v/2^63%2=0\/v/2^63%2=1:=by omega
    rcases this with h|h<;>rw[h]<;>decide
   ·have:v/2^63%2=0\/v/2^63%2=1:=by omega
    rcases this with h|h<;>rw[h]
    ·simp[hi]
    ·rw[Nat.one_mul,Nat.testBit_two_pow];simp[hi]
  rw[e1,show(2:Nat)^63=9223372036854775808 from by decide];split
  ·rename_i h;have:v/9223372036854775808=0:=by omega
   rw[this]
  ·rename_i h;have:v/9223372036854775808=1:=by omega
   rw[this]
 rw[h3];split<;>rfl
theorem aJ6(x:Nat)(hx:x<B64)(w:World):
  Calls prog 222 #[.int .u64 x] w fun e w'=>e=.returned (.int .u64 ((64-Lib.bitLen x:Nat):Int))/\w=w':=by
 have hb:Lib.bitLen x<=64:=by
  have aux:∀ f n,Lib.bitLenAux f n<=f:=by
   intro f
   induction f with
   | zero=>intro n;exact Nat.le_refl _
   | succ f ih =>
    intro n;unfold Lib.bitLenAux;split
    ·omega
    ·have:=ih (n/2);omega
  exact aux 64 x
 have he:(64:Int)-((Lib.bitLen x:Nat):Int)=((64-Lib.bitLen x:Nat):Int):=by omega
 have h:=(Tryz.bits_LeadingZeros (x:Int) w (by omega) (by unfold B64 at hx;omega));simp only[Int.toNat_natCast]at h;rw[he]at h;have H:=hiD h;clear h he;generalize hk:64-Lib.bitLen x=k at *;have:k<=64:=by omega
 clear hk;go_enter func222,ntmps222;go_wp2_with fail;refine H.out.mono ?_;rintro e w' ⟨rfl,rfl⟩;go_wp2_with fail;go_ret;exact⟨rfl,rfl⟩
theorem aO8(a:Option Addr)(l c:Nat)(w:World):
  Calls prog 133 #[.slice none 0 0,.slice a l c] w fun e w'=>e=.returned (.bool false)/\Drew w w':=by
 have g1:decide (0<((0:Nat):Int))=false:=by decide
 go_enter func133,ntmps133;go_wp2_with fail
 go_quiet (fail)
 go_wp2_with fail;go_ret;exact⟨rfl,_,rfl⟩
theorem aM7(w:World):
  Calls prog 169 #[] w fun e w'=>e=.returned (.pointer (some ⟨w.heap.size,0,none⟩))/\w'=w.alloc (.cells #[.pointer none] 309):=by
 go_enter func169,ntmps169;go_wp2_with fail;go_ret;exact⟨rfl,rfl⟩
theorem aM8(s:Nat)(u:FrameMode)(w:World)(h:w.cell? ⟨s,0,none⟩=some (.pointer none)):
  CallsD prog 170 #[.pointer (some ⟨s,0,none⟩)] u w fun e u' w'=>u'=u/\(e=.returned (.tuple #[])/\w=w'):=by
 go_enter_d func170,ntmps170
 go_wp2_with fail
 go_end0
 exact⟨rfl,rfl⟩
theorem cG1{w:World}{v:Value}{n:Nat}{b:Option Nat}(h:NatAt w v n b)(h0:n≠0):Calls prog 137 #[v] w fun e w'=>e=.returned v/\w=w':=by
 obtain⟨k,cs,rfl,rfl,hk,hl,hp,hs,hh⟩:=aF2 h h0;have:=aH8 k 0 cs.size (dig n).length (dig n) cs 165 w rfl (by omega) hl (aN9 n) hk hh;rwa[aJ4]at this
def ExpSt(wb:World)(n:Nat)(vz vzz:Value)(bz bzz:Option Nat)(wr:World):Prop :=
 NatAt wr vz n bz/\BufAt wr vzz bzz/\Kept (fun _=>False) wb wr/\(∀ k,bz=some k->wb.heap.size<=k)/\(∀ k,bzz=some k->wb.heap.size<=k)/\(∀ k,bz=some k->bzz≠some k)
theorem bE4{wb wr wr':World}{n n':Nat}{vz vzz v':Value}{bz bzz b':Option Nat}(h:ExpSt wb n vz vzz bz bzz wr)(hr:NatAt wr' v' n' b'/\Kept (fun k=>bzz=some k) wr wr'/\Own wr bzz b'):ExpSt wb n' v' vz b' bz wr':=by
 obtain⟨h1,h2,h3,h4,h5,h6⟩:=h;obtain⟨r1,r2,r3⟩:=hr;refine⟨r1,(h1.kept r2 (fun k hk hs=>h6 k hk hs)).buf,h3.trans r2 (fun _ _ f=>f) (fun i hi hs=>by have:=h5 i hs;omega),?_,h4,?_⟩
 ·intro k hk;rcases r3 with r3|⟨j,hj,hjs⟩
  ·exact h5 k (by rw[<- r3,hk])
  ·have e:k=j:=by rw[hk]at hj;exact Option.some.inj hj
   have:=h3.size;omega
 ·intro k hk hz;rcases r3 with r3|⟨j,hj,hjs⟩
  ·exact h6 k hz (by rw[<- r3,hk])
  ·have e:k=j:=by rw[hk]at hj;exact Option.some.inj hj
   have:=h1.lts k hz;omega
def dK9(wb:World)(a k M:Nat)(z v zz j:Value)(wr:World):Prop :=
 ∃ i bz bzz,i<=M/\j=.int .i64 ((i:Nat):Int)/\v=.int .u64 ((vv k M i:Nat):Int)/\ExpSt wb (a^ev k M i) z zz bz bzz wr
theorem cG2(a e:Nat):a^e*a^e=a^(2*e):=by rw[<- Nat.pow_add];congr 1;omega
theorem cL5(x y:Value)(bx by_:Option Nat)(a k:Nat)(w:World)(hx:NatAt w x a bx)(hy:NatAt w y k by_)(ha:2<=a)(ha1:a<B64)(hk:2<=k)(hk1:k<512)(hsq:a^(k/2)<B64):
  Calls prog 195 #[.slice none 0 0,.pointer none,x,y,.slice none 0 0,.bool false] w (aH4 w none (a^k)):=by
 obtain⟨M,hM⟩:=bK6 k hk1 hk;have ex:=aH5 (n:=a) (by omega) ha1;have ey:=aH5 (n:=k) (by omega) (by unfold B64;omega);obtain⟨kx,cx,rfl,rfl,hkx,hlx,hpx,hsx,hhx⟩:=aF2 hx (by omega);obtain⟨ky,cy,rfl,rfl,hky,hly,hpy,hsy,hhy⟩:=aF2 hy (by omega);have cx0:w.cell? ⟨kx,0,none⟩=some (.int .u64 ((a:Nat):Int)):=by
  rw[aA2 hkx];have:=hhx 0 (by rw[ex];simp);rw[ex]at this;exact this
 have cy0:w.cell? ⟨ky,0,none⟩=some (.int .u64 ((k:Nat):Int)):=by
  rw[aA2 hky];have:=hhy 0 (by rw[ey];simp);rw[ey]at this;exact this
 rw[ex]at hx ⊢;rw[ey]at hy ⊢;have HX:=hiD hx;have HYL:Hid (ky<w.heap.size):=hy.lt;have a1:((a:Int)==1)=false:=beqF (by omega);have a2:((k:Int)==1)=false:=beqF (by omega);simp only[List.length_cons,List.length_nil,Nat.zero_add]at *;clear hx hy hkx hky hhx hhy ex ey
 go_enter_defers func195,ntmps195
 go_wp2_with fail;refine(aO8 _ _ _ _).mono ?_;rintro e w1 ⟨rfl,n1,rfl⟩;go_wp2_with fail;refine(aO8 _ _ _ _).mono ?_;rintro e w1 ⟨rfl,n2,rfl⟩;go_wp2_with fail;refine(aM7 _).mono ?_;rintro e w1 ⟨rfl,hw1⟩;have hnew:w1.heap=w.heap.push (.cells #[.pointer none] 309):=by rw[hw1];rfl
 have hkw:Kept (fun _=>False) w w1:=by rw[hw1];exact((Kept.refl _ _).drewN _).alloc _
 have hst:w1.cell? ⟨w.heap.size,0,none⟩=some (.pointer none):=by
  have:w1.heap[w.heap.size]? = some (.cells #[.pointer none] 309):=by rw[hnew];simp
  rw[aA2 this];rfl
 have hlt:w.heap.size<w1.heap.size:=by rw[hnew];simp
 have cx1:w1.cell? ⟨kx,0,none⟩=some (.int .u64 ((a:Nat):Int)):=by rw[hkw.below.cell HX.out.lt];exact cx0
 have cy1:w1.cell? ⟨ky,0,none⟩=some (.int .u64 ((k:Nat):Int)):=by rw[hkw.below.cell HYL.out];exact cy0
 have HKW:=hiD hkw;have HLT:=hiD hlt;clear hw1 hnew cx0 cy0 hkw hlt;have esz:(w.drewN (n1+n2)).heap.size=w.heap.size:=rfl;rw[esz];generalize hS:w.heap.size=S at *;have HS:=hiD hS;clear hS esz;go_wp2_with fail;refine(aW2 (.slice none 0 0) (.slice (some ⟨kx,0,none⟩) 1 cx.size) none (some kx) a _ rfl (HX.out.kept HKW.out (fun _ _ h=>h)) (Sm.one ha1)).mono ?_;rintro e w2 ⟨vz,bz,rfl,h⟩;have cy2:w2.cell? ⟨ky,0,none⟩=some (.int .u64 ((k:Nat):Int)):=by
  have:=(h.2.1.mono (U:=fun _=>False) (fun _ _ h=>by cases h)).below.cell (p:=⟨ky,0,none⟩) (by have:=HYL.out;have:=HLT.out;have:=HKW.out.size;show ky<_;omega);rw[this];exact cy1
 have HZ:=hiD h;clear h cx1 cy1;go_wp2_with fail;refine(aJ6 k (by unfold B64;omega) _).mono ?_;rintro e w3 ⟨rfl,rfl⟩;have hF:=cG0 k M hk1 hk hM;rw[hM];obtain⟨⟨hM1,hM2⟩,F0,FM,F⟩:=hF;have e1:IntKind.u64.wrap ((k:Int)*2^(63-M+1))=((vv k M 0:Nat):Int):=by
  rw[IntKind.wrap_u64];unfold vv;rw[show 63-M+1=64-M+0 by omega];simp
 have e2:(64:Int)-(((63-M:Nat):Int)+1)=(M:Int):=by omega
 have HF:=hiD F;have HFM:=hiD FM;have HSTART:Hid (ExpSt w1 (a^ev k M 0) vz (.slice none 0 0) bz none w2):=by
  rw[F0,Nat.pow_one];obtain⟨h1,h2,h3⟩:=HZ.out;refine⟨h1,rfl,h2.mono (fun _ _ h=>by cases h),?_,by simp,by simp⟩;intro j hj;rcases h3 with h3|⟨i,hi,his⟩
  ·rw[h3]at hj;cases hj
  ·rw[hi]at hj;injection hj with hj;omega
 have HE1:=hiD e1;have HE2:=hiD e2;have e3:=HE1.out;have e4:=HE2.out;clear F FM F0 cy2 HZ e1 e2;go_wp2_with fail;clear e3 e4
 go_loopw [0,15,19,21] (fun z v zz j wr=>dK9 w1 a k M z v zz j wr) (fun _ _ _ j _=>M-(intOf j).toNat)
 case atStart=>exact⟨0,bz,none,Nat.zero_le _,rfl,rfl,HSTART.out⟩
 case round =>
  obtain⟨i,bz',bzz',hi,rfl,rfl,hst⟩:=hrel;have HST:=hiD hst;clear hst;by_cases hlt:i<M
  ·obtain⟨f1,f2,f3⟩:=HF.out i hlt;have hlt2:a^ev k M i<B64:=Nat.lt_of_le_of_lt (Nat.pow_le_pow_right (by omega) (by omega)) hsq;have hne:a^ev k M i≠0:=Nat.pos_iff_ne_zero.1 (Nat.pow_pos (by omega));have hv:=vv_lt k M i;have hw:IntKind.u64.wrap (((vv k M i:Nat):Int)*2)=((vv k M (i+1):Nat):Int):=by rw[IntKind.wrap_u64,cS5];omega
   have hand:=cS6 _ hv;have HFF:=hiD (And.intro f1 f2);have HW2:=hiD hw;have HAND:=hiD hand;have HLT2:=hiD hlt2;have HNE:=hiD hne;clear f1 f2 f3 hw hand hlt2 hne;go_wp2_with fail;refine(cF7 (some ⟨S,0,none⟩) u19 u0 bzz' bz' (a^ev k M i) wr HST.out.2.1 HST.out.1 HNE.out HLT2.out).mono ?_;rintro e w3 ⟨v3,b3,rfl,h3⟩;rw[cG2]at h3;have HST3:=hiD (bE4 HST.out h3);clear h3;have hand:=HAND.out;have hw:=HW2.out;by_cases hbit:vv k M i<9223372036854775808
   ·rw[if_pos hbit]at hand;have hev:=HFF.out.1 hbit;rw[<- hev]at HST3;clear hbit hev;obtain⟨v1,HV1⟩:∃ v1,Hid (vv k M (i+1)=v1):=⟨_,hiD rfl⟩;rw[HV1.out]at hw;clear HW2;go_wp2_with fail;go_roundw
    case rel=>exact⟨i+1,b3,bz',by omega,by go_num,by rw[HV1.out],HST3.out⟩
    case measure=>simp[intOf];omega
   ·rw[if_neg hbit]at hand;have hev:=HFF.out.2 (by omega);have hx3:NatAt w3 (.slice (some ⟨kx,0,none⟩) 1 cx.size) a (some kx):=(HX.out.kept HKW.out (fun _ _ h=>h)).kept HST3.out.2.2.1 (fun _ _ h=>h);have hsm:Sm (a^(2*ev k M i)):=by
     refine Sm.of 2 ?_ (by omega);rw[<- cG2,Nat.pow_two];exact Nat.mul_lt_mul'' HLT2.out HLT2.out
    have HX3:=hiD hx3;have HSM:=hiD hsm;have HEV:=hiD hev;clear hbit hev hx3 hsm;obtain⟨v1,HV1⟩:∃ v1,Hid (vv k M (i+1)=v1):=⟨_,hiD rfl⟩;rw[HV1.out]at hw;clear HW2;go_wp2_with fail;refine(aX3 (some ⟨S,0,none⟩) u0 v3 _ bz' b3 (some kx) (a^(2*ev k M i)) a w3 HST3.out.2.1 HST3.out.1 HX3.out (by omega) ha1 HSM.out).mono ?_;rintro e w4 ⟨v4,b4,rfl,h4⟩;have HST4:=hiD (bE4 HST3.out h4);clear h4;rw[<- Nat.pow_succ,Nat.succ_eq_add_one,<- HEV.out]at HST4;go_wp2_with fail;go_roundw
    case rel=>exact⟨i+1,b4,b3,by omega,by go_num,by rw[HV1.out],HST4.out⟩
    case measure=>simp[intOf];omega
  ·have:i=M:=by omega
   subst this;rw[HFM.out]at HST;have hne:a^k≠0:=Nat.pos_iff_ne_zero.1 (Nat.pow_pos (by omega));have HNE:=hiD hne;have hstk:wr.cell? ⟨S,0,none⟩=some (.pointer none):=by rw[HST.out.2.2.1.below.cell HLT.out];exact hst
   have HSTK:=hiD hstk;clear hne hstk;go_wp2_with fail
   go_loop [0,22] (fun z i=>z=u0/\i=.int .i64 (-1)) (fun _ _=>0)
   case atStart=>exact⟨rfl,rfl⟩
   case round =>
    obtain⟨rfl,rfl⟩:=hrel;go_wp2_with fail;refine(cG1 HST.out.1 HNE.out).mono ?_;rintro e w4 ⟨rfl,rfl⟩;go_wp2_with fail;try simp only[Exit.inBlock,Exit.then]
    refine leaves_cons (f:=170) (args:=#[.pointer (some ⟨S,0,none⟩)]) (by simp) (by simp[go_sem]) ?_;refine(aM8 S .returning wr HSTK.out).mono ?_;rintro e u' w4 ⟨rfl,rfl,rfl⟩;refine⟨_,results_tmp rfl _ _ _,?_⟩;obtain⟨h1,h2,h3,h4,h5,h6⟩:=HST.out;refine⟨u0,bz',rfl,h1,HKW.out.trans h3 (fun _ _ f=>f.elim) (fun _ _ f=>f.elim),?_⟩;cases bz' with
    | none=>exact Or.inl rfl
    | some q=>exact Or.inr ⟨q,rfl,by have:=h4 q rfl;have:=HKW.out.size;omega⟩
theorem cS7(x:Value)(bx:Option Nat)(n:Nat)(w:World)(hx:NatAt w x n bx)(hn:Sm n):
  Calls prog 134 #[.slice none 0 0,x] w (aH4 w none n):=aW2 _ _ none bx n w rfl hx hn
theorem bS8(x y:Value)(bx by_:Option Nat)(a:Nat)(w:World)(hx:NatAt w x a bx)(hy:NatAt w y 1 by_)(ha:2<=a)(ha1:a<B64):
  Calls prog 195 #[.slice none 0 0,.pointer none,x,y,.slice none 0 0,.bool false] w (aH4 w none a):=by
 have ex:=aH5 (n:=a) (by omega) ha1;have ey:=aH5 (n:=1) (by omega) (by unfold B64;omega);obtain⟨kx,cx,rfl,rfl,hkx,hlx,hpx,hsx,hhx⟩:=aF2 hx (by omega);obtain⟨ky,cy,rfl,rfl,hky,hly,hpy,hsy,hhy⟩:=aF2 hy (by omega);have cx0:w.cell? ⟨kx,0,none⟩=some (.int .u64 ((a:Nat):Int)):=by
  rw[aA2 hkx];have:=hhx 0 (by rw[ex];simp);rw[ex]at this;exact this
 have cy0:w.cell? ⟨ky,0,none⟩=some (.int .u64 1):=by
  rw[aA2 hky];have:=hhy 0 (by rw[ey];simp);rw[ey]at this;exact this
 rw[ex]at hx ⊢;rw[ey]at hy ⊢;have HX:=hiD hx;have a1:((a:Int)==1)=false:=beqF (by omega);simp only[List.length_cons,List.length_nil,Nat.zero_add]at *;clear hx hy hkx hky hhx hhy ex ey
 go_enter_defers func195,ntmps195
 go_wp2_with fail;refine(aO8 _ _ _ _).mono ?_;rintro e w1 ⟨rfl,n1,rfl⟩;go_wp2_with fail;refine(aO8 _ _ _ _).mono ?_;rintro e w1 ⟨rfl,n2,rfl⟩;go_wp2_with fail;refine(cS7 _ _ _ _ (Drew.natAt ⟨_,rfl⟩ HX.out) (Sm.one ha1)).mono ?_;rintro e w2 ⟨vz,bz,rfl,h1,h2,h3⟩;have H:=hiD (And.intro h1 (And.intro h2.undrewN h3));clear h1 h2 h3;go_wp2_with fail;refine⟨_,results_tmp rfl _ _ _,?_⟩;exact⟨_,_,rfl,H.out.1,H.out.2.1,H.out.2.2⟩
theorem bZ6(x y:Value)(bx by_:Option Nat)(a k:Nat)(w:World)(hx:NatAt w x a bx)(hy:NatAt w y k by_)(ha:2<=a)(ha1:a<B64)(hk:1<=k)(hk1:k<512)(hsq:a^(k/2)<B64):
  Calls prog 195 #[.slice none 0 0,.pointer none,x,y,.slice none 0 0,.bool false] w (aH4 w none (a^k)):=by
 rcases Nat.lt_or_ge k 2 with h|h
 ·have:k=1:=by omega
  subst this;rw[Nat.pow_one];exact bS8 x y bx by_ a w hx hy ha ha1
 ·exact cL5 x y bx by_ a k w hx hy ha ha1 h hk1 hsq
theorem bM7(z x y:Nat)(a k:Nat)(bx by_:Option Nat)(rz rx ry:List Value)(Tz Tx Ty:TypeId)(w:World)(hz:IntAt w z 0 none rz Tz)(hx:IntAt w x (a:Int) bx rx Tx)(hy:IntAt w y (k:Int) by_ ry Ty)(ha:2<=a)(ha1:a<B64)(hk:1<=k)(hk1:k<512)(hsq:a^(k/2)<B64):
  Calls prog 157 #[.pointer (some ⟨z,0,none⟩),.pointer (some ⟨x,0,none⟩),.pointer (some ⟨y,0,none⟩),.pointer none,.bool false] w (aF5 w z none ((a^k:Nat):Int) rz Tz):=by
 obtain⟨vz,hz1,⟨rfl,_⟩,hz3⟩:=hz;obtain⟨vx,hx1,hx2,hx3⟩:=hx;obtain⟨vy,hy1,hy2,hy3⟩:=hy;obtain⟨cz0,cz1,fz0,fz1⟩:=aA5 hz1;obtain⟨cx0,cx1,_,_⟩:=aA5 hx1;obtain⟨cy0,cy1,_,_⟩:=aA5 hy1;rw[decF (show ¬ ((a:Int)<0)by omega)]at cx0;rw[decF (show ¬ ((k:Int)<0)by omega)]at cy0;simp only[Int.natAbs_natCast]at hx2 hy2;have HC:=hiD (bZ6 vx vy bx by_ a k w hx2 hy2 ha ha1 hk hk1 hsq);have HZ1:=hiD hz1;have HX1:=hiD hx1;have ep:0<(dig (a^k)).length:=aB3 (Nat.pos_iff_ne_zero.1 (Nat.pow_pos (by omega)));generalize hL:(dig (a^k)).length=L at *;have HL:=hiD hL;have g1:decide ((0:Int)<(L:Int))=true:=decT (by omega);clear hz1 hx1 hy1 hx2 hy2 hsq hL;go_enter func157,ntmps157;go_wp2_with fail;refine HC.out.mono ?_;rintro e w1 ⟨v',b',rfl,h1,h2,h3⟩;obtain⟨a',c',rfl⟩:=aB6 h1;have ez:=h2.at HZ1.out (by simp);obtain⟨d0,d1,d2,d3⟩:=aA5 ez;have ex:=h2.at HX1.out (by simp);obtain⟨e0,_,_,_⟩:=aA5 ex;rw[decF (show ¬ ((a:Int)<0)by omega)]at e0;have H:=hiD (And.intro h1 (And.intro h2 h3));clear h1 h2 h3 ez ex cx0 cx1 cy0 cy1 cz0 cz1 fz0 fz1;rw[HL.out];go_wp2_with fail;go_ret;have:=aW3 (n:=((a^k:Nat):Int)) HZ1.out hz3 (by rw[Int.natAbs_natCast];exact H.out.1) H.out.2.1 H.out.2.2;rw[decF (show ¬ (((a^k:Nat):Int)<0)by omega),HL.out]at this;exact this
theorem bM8(z x y:Nat)(a k:Nat)(bx by_:Option Nat)(rz rx ry:List Value)(Tz Tx Ty:TypeId)(w:World)(hz:IntAt w z 0 none rz Tz)(hx:IntAt w x (a:Int) bx rx Tx)(hy:IntAt w y (k:Int) by_ ry Ty)(ha:2<=a)(ha1:a<B64)(hk:1<=k)(hk1:k<512)(hsq:a^(k/2)<B64):
  Calls prog 118 #[.pointer (some ⟨z,0,none⟩),.pointer (some ⟨x,0,none⟩),.pointer (some ⟨y,0,none⟩),.pointer none] w (aF5 w z none ((a^k:Nat):Int) rz Tz):=by
 have H:=hiD (bM7 z x y a k bx by_ rz rx ry Tz Tx Ty w hz hx hy ha ha1 hk hk1 hsq);clear hz hx hy hsq;go_enter func118,ntmps118;go_wp2_with fail;refine H.out.mono ?_;rintro e w1 ⟨rfl,h⟩;have H:=hiD h;clear h;go_wp2_with fail;go_ret;exact⟨rfl,H.out⟩
theorem cS8:(List.range 64).all (fun s=>decide (bits .and .u64 (s:Int) 63=(s:Int)))=true:=by decide +kernel
theorem and63(s:Nat)(h:s<64):bits .and .u64 (s:Int) 63=(s:Int):=by
 have:=List.all_eq_true.1 cS8 s (List.mem_range.2 h)
 simpa using this
theorem dC7:(List.range 64).all (fun s=>decide (s=0)||decide ((1:Int)/2^(64-s)=0))=true:=by decide +kernel
theorem shr1(s:Nat)(h:s<64)(h0:1<=s):(1:Int)/2^(64-s)=0:=by
 have:=List.all_eq_true.1 dC7 s (List.mem_range.2 h);simp only[Bool.or_eq_true,decide_eq_true_eq]at this;rcases this with h|h
 ·omega
 ·exact h
theorem dC8:(List.range 64).all (fun s=>decide (IntKind.u64.wrap ((2:Int)^s)=((2^s:Nat):Int)))=true:=by decide +kernel
theorem shl1(s:Nat)(h:s<64):IntKind.u64.wrap ((2:Int)^s)=((2^s:Nat):Int):=by
 have:=List.all_eq_true.1 dC8 s (List.mem_range.2 h)
 simpa using this
theorem bZ7(zb xb zc xc s:Nat)(cz cx:Array Value)(w:World)(h1:1<=s)(h2:s<64)(hz:w.heap[zb]? = some (.cells cz 165 (0,0)))(hzp:0<cz.size)(hx:w.heap[xb]? = some (.cells cx 165 (0,0)))(hxc:Has cx 0 [1]):
  Calls prog 166 #[.slice (some ⟨zb,0,none⟩) 1 zc,.slice (some ⟨xb,0,none⟩) 1 xc,.int .u64 (s:Int)] w fun e w'=>e=.returned (.int .u64 0)/\w'=aB2 w zb 0 [2^s]:=by
 have c1:w.cell? ⟨xb,0,none⟩=some (.int .u64 1):=by rw[aA2 hx];exact hxc 0 (by simp)
 have c2:w.cell? ⟨zb,0,none⟩=some (cz[0]):=by rw[aA2 hz];exact Array.getElem?_eq_getElem hzp
 have f2:=aA1 hz 0;have a1:((s:Int)==0)=false:=beqF (by omega);have e1:=and63 s h2;have e2:=and63 (64-s) (by omega);have e0:IntKind.u64.wrap ((64:Int)-(s:Int))=((64-s:Nat):Int):=by rw[IntKind.wrap_u64];omega
 have e3:=shr1 s h2 h1;have e4:=shl1 s h2;clear hz hx hxc;go_enter func166,ntmps166;go_wp2_with fail
 go_loop [8] (fun i=>i=.int .i64 0) (fun _=>0)
 case atStart=>rfl
 case round =>
  subst hrel;go_wp2_with fail;go_ret;exact⟨rfl,by simp[aB2]⟩
theorem cS9(zb xb zc xc s:Nat)(cz cx:Array Value)(w:World)(h1:1<=s)(h2:s<64)(hz:w.heap[zb]? = some (.cells cz 165 (0,0)))(hzp:0<cz.size)(hx:w.heap[xb]? = some (.cells cx 165 (0,0)))(hxc:Has cx 0 [1]):
  Calls prog 136 #[.slice (some ⟨zb,0,none⟩) 1 zc,.slice (some ⟨xb,0,none⟩) 1 xc,.int .u64 (s:Int)] w fun e w'=>e=.returned (.int .u64 0)/\w'=aB2 w zb 0 [2^s]:=by
 have H:=hiD (bZ7 zb xb zc xc s cz cx w h1 h2 hz hzp hx hxc);clear hz hx hxc;go_enter func136,ntmps136;go_wp2_with fail;refine H.out.mono ?_;rintro e w1 ⟨rfl,h⟩;have H:=hiD h;clear h;go_wp2_with fail;go_ret;exact⟨rfl,H.out⟩
theorem dC9(s:Nat)(h2:s<64):2^s<B64:=Nat.pow_lt_pow_right (by omega) h2
theorem bZ8(z x:Value)(bz bx:Option Nat)(s:Nat)(w:World)(hz:BufAt w z bz)(hx:NatAt w x 1 bx)(h1:1<=s)(h2:s<64):
  Calls prog 96 #[z,x,.int .u64 (s:Int)] w (aH4 w bz (2^s)):=by
 have ex:=aH5 (n:=1) (by omega) (by unfold B64;omega);obtain⟨kx,cx,rfl,rfl,hkx,hlx,hpx,hsx,hhx⟩:=aF2 hx (by omega);rw[ex]at hhx ⊢;have HZ:=hiD hz;have HK:=hiD hkx;have HH:=hiD hhx;have a1:((s:Int)==0)=false:=beqF (by omega);have a2:IntKind.u64.wrap ((s:Int)/64)=0:=by rw[IntKind.wrap_u64];omega
 have a3:IntKind.u64.wrap ((s:Int)%64)=(s:Int):=by rw[IntKind.wrap_u64];omega
 have a4:(s:Int)/64=0:=by omega
 have a5:(s:Int)%64=(s:Int):=by omega
 simp only[List.length_cons,List.length_nil,Nat.zero_add];clear hz hx hkx hhx ex;go_enter func96,ntmps96;go_wp2_with fail;refine(aH2 z bz 2 _ HZ.out (by omega) (by omega)).mono ?_;rintro e w1 ⟨k,cs,rfl,hk,hn,hp',hs',hown⟩;have hk1:=aE2 hown HK.out;have HO:=hiD hown;have HK1:=hiD hk1;have HKK:=hiD hk;clear hown hk1 hk;have p1:=aB9 HKK.out 0 [2^s];have b2:(w1.heap[k]? = some (.cells cs 165 (0,0))):=HKK.out;go_wp2_with fail;refine(cS9 k kx cs.size cx.size s cs cx _ h1 h2 HKK.out (by omega) HK1.out HH.out).mono ?_;rintro e w2 ⟨rfl,hw2⟩;rw[<- hw2]at p1;have c2:w2.cell? ⟨k,1,none⟩=some (cs[1]):=by
  rw[aA2 p1,aD8 _ _ _ _ (Or.inr (by simp))];exact Array.getElem?_eq_getElem (by omega)
 have f2:=aA1 p1 1;have hfin:w2.setCell ⟨k,1,none⟩ (.int .u64 0)=aB2 w1 k 0 [2^s,0]:=by
  rw[hw2];rfl
 have HF:=hiD hfin;have hcl:∀ ty w,(Builtin.clear_ #[107] ty #[.slice (some ⟨k,0,none⟩) 0 cs.size]).run prog w=.ok (.tuple #[]) w:=fun ty w=>by
  simp[Builtin.clear_,run_underlying underlying107]
 clear hw2 p1 hfin b2;go_wp2_with fail;clear hcl;have hfb:=aB9 HKK.out 0 [2^s,0];rw[<- HF.out]at hfb;have e2:∀ x∈[2^s,0],x<B64:=by
  intro x hx;have:=dC9 s h2;simp at hx;rcases hx with rfl|rfl
  ·exact this
  ·unfold B64;omega
 have e1:val [2^s,0]=2^s:=by simp[val]
 refine(aH8 k 0 cs.size 2 _ _ 165 _ rfl (by omega) (by omega) e2 hfb (aI9 _ _ _ (by simp;omega))).mono ?_;rintro e w3 ⟨rfl,rfl⟩;have HFB:=hiD hfb;have E2:=hiD e2;have E1:=hiD e1;clear e1 e2 hfb;go_wp2_with fail;go_ret;refine aJ0 HO.out ?_ ?_
 ·rw[HF.out];exact aE6 (Kept.refl _ _) k 0 _ (fun _=>rfl)
 ·have:=aK0 HFB.out E2.out E1.out (aI9 _ _ _ (by simp;omega)) (by rw[aB1];simp;omega) (by rw[aB1];omega) (by rw[aB1];omega);rw[aB1]at this;rw[E1.out];exact this
def zInt:Obj:=.cells #[.bool false,.slice none 0 0] 109
theorem aG7(w:World):IntAt (w.alloc zInt) w.heap.size 0 none [] 109 :=
 ⟨.slice none 0 0,aA0 _ _,⟨rfl,rfl⟩,by simp⟩
theorem IntAt.old{w w':World}{p:Nat}{n:Int}{b:Option Nat}{rest:List Value}{T:TypeId}(h:IntAt w p n b rest T)(hk:Kept (fun _=>False) w w'):IntAt w' p n b rest T :=
 h.kept hk (fun f=>f) (fun _ _ f=>f)
theorem bC5{w w1 w3 w4:World}{z:Nat}{n:Int}{e:Ending}(hw1:w1.heap.size<=w3.heap.size)(hk:Kept (fun _=>False) w w3)(hz:w.heap.size<=z)(h:aF5 w3 z none n [] 109 e w4):aR6 w n e w4:=by
 obtain⟨rfl,b',h1,h2,h3⟩:=h;refine⟨z,b',rfl,hz,h1,hk.trans h2 (fun _ _ f=>f) (fun i hi hs=>?_),fun k hk'=>?_⟩
 ·rcases hs with hs|hs
  ·omega
  ·cases hs
 ·rcases h3 with h3|⟨j,hj,hjs⟩
  ·rw[h3]at hk';cases hk'
  ·rw[hj]at hk';injection hk' with hk';have:=hk.size;omega
theorem cL6(k:Nat)(h:k<40):10^(k/2)<B64:=by
 have h1:10^(k/2)<=10^19:=Nat.pow_le_pow_right (by omega) (by omega);have h2:(10:Nat)^19<B64:=by unfold B64;decide
 omega
theorem cT0(k:Nat)(h1:1<=k)(h2:k<40)(w w2 w3:World)(p1 p2:Nat)(b1 b2:Option Nat)(a1:IntAt w2 p1 10 b1 [] 109)(a2:IntAt w3 p2 (k:Int) b2 [] 109)(hk2:Kept (fun _=>False) (w.alloc zInt) w2)(hk3:Kept (fun _=>False) w2 w3):
  Calls prog 118 #[.pointer (some ⟨w.heap.size,0,none⟩),.pointer (some ⟨p1,0,none⟩),.pointer (some ⟨p2,0,none⟩),.pointer none] w3 (aR6 w ((10^k:Nat):Int)):=by
 refine(bM8 w.heap.size p1 p2 10 k b1 b2 [] [] [] 109 109 109 w3 (((aG7 w).old hk2).old hk3) (a1.old hk3) a2 (by omega) (by unfold B64;omega) h1 (by omega) (cL6 k h2)).mono ?_;intro e w4 h;exact bC5 (w1:=w2) hk3.size ((((Kept.refl _ w).alloc zInt).trans hk2 (fun _ _ f=>f) (fun _ _ f=>f)).trans hk3 (fun _ _ f=>f) (fun _ _ f=>f)) (Nat.le_refl _) h
theorem aD4(k:Nat)(h1:k<=9223372036854775807)(w:World):Calls prog 58 #[.int .i64 (k:Int)] w (aR6 w k):=by
 rcases Nat.eq_zero_or_pos k with h|h
 ·subst h;exact aL5 w
 ·exact cL3 k h h1 w
theorem aX6(k:Nat)(h1:1<=k)(h2:k<40)(w:World):Calls prog 185 #[.int .i32 (k:Int)] w (aR6 w ((10^k:Nat):Int)):=by
 have e1:IntKind.i64.wrap (k:Int)=(k:Int):=by rw[IntKind.wrap_i64];omega
 go_enter func185,ntmps185;go_wp2_with fail;refine(aD4 10 (by omega) _).mono ?_;rintro e w2 ⟨p1,b1,rfl,hp1,a1,k1,hb1⟩;have A1:=hiD a1;have K1:=hiD k1;clear a1 k1 hp1 hb1;go_wp2_with fail;refine(aD4 k (by omega) _).mono ?_;rintro e w3 ⟨p2,b2,rfl,hp2,a2,k2,hb2⟩;have A2:=hiD a2;have K2:=hiD k2;clear a2 k2 hp2 hb2;go_wp2_with fail;refine(cT0 k h1 h2 w w2 w3 p1 p2 b1 b2 A1.out A2.out K1.out K2.out).mono ?_;rintro e w4 h;have h':=h;obtain⟨p,b,rfl,_⟩:=h';have H:=hiD h;clear h A1 K1 A2 K2;go_wp2_with fail;go_ret;exact H.out
theorem bA8(z x y:Nat)(bz:Option Nat)(n:Int)(rz:List Value)(Tz:TypeId)(w:World)(h:Calls prog 98 #[.pointer (some ⟨z,0,none⟩),.pointer none,.pointer (some ⟨x,0,none⟩),.pointer (some ⟨y,0,none⟩)] w fun e w'=>e=.returned (.tuple #[])/\aF5 w z bz n rz Tz (.returned (.pointer (some ⟨z,0,none⟩))) w'):
  Calls prog 62 #[.pointer (some ⟨z,0,none⟩),.pointer (some ⟨x,0,none⟩),.pointer (some ⟨y,0,none⟩)] w (aF5 w z bz n rz Tz):=by
 have H:=hiD h;clear h;go_enter func62,ntmps62;go_wp2_with fail;refine H.out.mono ?_;rintro e w4 ⟨rfl,h⟩;have H:=hiD h;clear h;go_wp2_with fail;go_ret;exact H.out
theorem aG1(z k:Nat)(nz:Int)(bz:Option Nat)(rz:List Value)(Tz:TypeId)(w:World)(hz:IntAt w z nz bz rz Tz)(h1:k<=9223372036854775807):
  Calls prog 102 #[.pointer (some ⟨z,0,none⟩),.int .i64 (k:Int)] w (aF5 w z bz (k:Int) rz Tz):=by
 obtain⟨vz,hz1,hz2,hz3⟩:=hz;obtain⟨cz0,cz1,fz0,fz1⟩:=aA5 hz1;have HZ1:=hiD hz1;have HZ2:=hiD hz2;have a1:decide ((k:Int)<0)=false:=decF (by omega);have e1:IntKind.u64.wrap (k:Int)=(k:Int):=by rw[IntKind.wrap_u64];omega
 clear hz1 hz2;go_enter func102,ntmps102;go_wp2_with fail;refine(aQ1 vz bz k (by unfold B64;omega) _ HZ2.out.buf).mono ?_;rintro e w1 ⟨v',b',rfl,h⟩;obtain⟨a',c',rfl⟩:=aB6 h.1;have ez:=h.2.1.at HZ1.out hz3;obtain⟨d0,d1,d2,d3⟩:=aA5 ez;have H:=hiD h;clear h ez cz0 cz1 fz0 fz1;go_wp2_with fail;go_ret;have:=aW3 (n:=(k:Int)) HZ1.out hz3 (by rw[Int.natAbs_natCast];exact H.out.1) H.out.2.1 H.out.2.2;rw[a1]at this;exact this
theorem aR7(z k:Nat)(nz:Int)(bz:Option Nat)(rz:List Value)(Tz:TypeId)(w:World)(hz:IntAt w z nz bz rz Tz)(h0:1<=k)(h1:k<=9223372036854775807):
  Calls prog 102 #[.pointer (some ⟨z,0,none⟩),.int .i64 (-(k:Int))] w (aF5 w z bz (-(k:Int)) rz Tz):=by
 obtain⟨vz,hz1,hz2,hz3⟩:=hz;obtain⟨cz0,cz1,fz0,fz1⟩:=aA5 hz1;have HZ1:=hiD hz1;have HZ2:=hiD hz2;have a1:decide (-(k:Int)<0)=true:=decT (by omega);have e0:IntKind.i64.wrap (k:Int)=(k:Int):=by rw[IntKind.wrap_i64];omega
 have e1:IntKind.u64.wrap (k:Int)=(k:Int):=by rw[IntKind.wrap_u64];omega
 clear hz1 hz2;go_enter func102,ntmps102;go_wp2_with fail;refine(aQ1 vz bz k (by unfold B64;omega) _ HZ2.out.buf).mono ?_;rintro e w1 ⟨v',b',rfl,h⟩;obtain⟨a',c',rfl⟩:=aB6 h.1;have ez:=h.2.1.at HZ1.out hz3;obtain⟨d0,d1,d2,d3⟩:=aA5 ez;have H:=hiD h;clear h ez cz0 cz1 fz0 fz1;go_wp2_with fail;go_ret;have:=aW3 (n:=-(k:Int)) HZ1.out hz3 (by rw[Int.natAbs_neg,Int.natAbs_natCast];exact H.out.1) H.out.2.1 H.out.2.2;rw[a1]at this;exact this
def low(n:Int):Int:=IntKind.i64.wrap (if n<0 then -(IntKind.i64.wrap ((n.natAbs%B64:Nat):Int))else IntKind.i64.wrap ((n.natAbs%B64:Nat):Int))
theorem aW5(z x s:Nat)(nz:Int)(bz bx:Option Nat)(rz rx:List Value)(Tz Tx:TypeId)(w:World)(hz:IntAt w z nz bz rz Tz)(hx:IntAt w x 1 bx rx Tx)(hb1:bz≠some x)(hne:z≠x)(h1:1<=s)(h2:s<64):
  Calls prog 59 #[.pointer (some ⟨z,0,none⟩),.pointer (some ⟨x,0,none⟩),.int .u64 (s:Int)] w (aF5 w z bz ((2^s:Nat):Int) rz Tz):=by
 obtain⟨vz,hz1,hz2,hz3⟩:=hz;obtain⟨vx,hx1,hx2,hx3⟩:=hx;obtain⟨cz0,cz1,fz0,fz1⟩:=aA5 hz1;obtain⟨cx0,cx1,_,_⟩:=aA5 hx1;rw[decF (show ¬ ((1:Int)<0)by omega)]at cx0;have HZ1:=hiD hz1;have HX1:=hiD hx1;have HZ2:=hiD hz2;have HX2:=hiD hx2;clear hz1 hx1 hz2 hx2;have setk:∀(w1:World) (v':Value) (b':Option Nat),NatAt w1 v' (2^s) b'/\Kept (fun k=>bz=some k) w.drew w1/\Own w.drew bz b' ->
   w1.cell? ⟨z,1,none⟩=some vz/\w1.cell? ⟨x,1,none⟩=some vx/\w1.cell? ⟨z,0,none⟩=some (.bool (decide (nz<0)))/\w1.cell? ⟨x,0,none⟩=some (.bool false)/\w1.frozen? ⟨z,0,none⟩=false/\w1.frozen? ⟨z,1,none⟩=false /\
   Hid (NatAt w1 v' (2^s) b'/\Kept (fun k=>bz=some k) w w1/\Own w bz b'):=by
  intro w1 v' b' ⟨h1,h2,h3⟩;have h2':Kept (fun k=>bz=some k) w w1:=⟨h2.os,h2.tape,h2.output,h2.size,h2.block⟩;have ez:=h2'.at HZ1.out hz3;have ex:=h2'.at HX1.out hb1;obtain⟨c1,c2,c3,c4⟩:=aA5 ez;obtain⟨d1,d2,_,_⟩:=aA5 ex;exact⟨c2,d2,c1,d1,c3,c4,h1,h2',h3⟩
 have SETK:=hiD setk;clear setk;go_enter func59,ntmps59;go_wp2_with fail
 go_region_with (go_at_call 96;refine(bZ8 vz vx bz bx s w.drew (by exact HZ2.out.buf) (by exact HX2.out) h1 h2).mono ?_;rintro e w1 ⟨v',b',rfl,h⟩;obtain⟨a',c',rfl⟩:=aB6 h.1;obtain⟨k1,k2,k3,k4,k5,k6,k7⟩:=SETK.out w1 _ b' h;clear h)
 all_goals
  go_wp2_with fail;go_ret;have:=aW3 (n:=((2^s:Nat):Int)) HZ1.out hz3 (by rw[Int.natAbs_natCast];exact k7.out.1) k7.out.2.1 k7.out.2.2;rw[decF (Int.not_lt.2 (Int.natCast_nonneg (2^s)))]at this;exact this
theorem QRRes.undrew{w:World}{k:Nat}{z r:Nat}{bz br:Option Nat}{q s:Int}{rz rr:List Value}{Tz Tr:TypeId}{e:Ending}{w':World}(h:QRRes (w.drewN k) z r bz br q s rz rr Tz Tr e w'):QRRes w z r bz br q s rz rr Tz Tr e w':=by
 obtain⟨h1,bq,bs,h2,h3,h4,h5,h6,h7⟩:=h;exact⟨h1,bq,bs,h2,h3,h4.undrewN,h5,h6,h7⟩
theorem IntAt.drewN{w:World}{p:Nat}{n:Int}{b:Option Nat}{rest:List Value}{T:TypeId}(h:IntAt w p n b rest T)(k:Nat):IntAt (w.drewN k) p n b rest T:=h.move rfl (fun _ _=>rfl)
theorem bS9{a b:Option Nat}(h:∀ k,a=some k->b≠some k):aK6 a b=false:=by
 unfold aK6;cases a with
 | none=>rfl
 | some k =>
  have:=h k rfl;cases b with
  | none=>rfl
  | some j =>
   have hne:k≠j:=by intro e;subst e;exact this rfl
   simp[hne]
theorem aX7(z x y r:Nat)(nz n m nr:Int)(bz bx by_ br:Option Nat)(rz rx ry rr:List Value)(Tz Tx Ty Tr:TypeId)(w:World)(hz:IntAt w z nz bz rz Tz)(hx:IntAt w x n bx rx Tx)(hy:IntAt w y m by_ ry Ty)(hr:IntAt w r nr br rr Tr)(hzx:z≠x)(hzy:z≠y)(hrx:r≠x)(hry:r≠y)(hzr:z≠r)(hb:bz≠some x/\bz≠some y/\bz≠some r/\br≠some x/\br≠some y/\br≠some z)(hap:∀ k,bz=some k->by_≠some k)(hn0:0<=n)(hm0:0<m)(hdiv:∀(W:World) (vz vr vx vy:Value),W.heap=w.heap->NatAt W vz nz.natAbs bz->NatAt W vr nr.natAbs br->NatAt W vx n.natAbs bx->NatAt W vy m.natAbs by_->Calls prog 196 #[vz,.pointer none,vr,vx,vy] W (QR W bz br (quoN n.natAbs m.natAbs) (remN n.natAbs m.natAbs))):
  Calls prog 119 #[.pointer (some ⟨z,0,none⟩),.pointer (some ⟨x,0,none⟩),.pointer (some ⟨y,0,none⟩),.pointer (some ⟨r,0,none⟩)] w (QRRes w z r bz br (n.tdiv m) (n.tmod m) rz rr Tz Tr):=by
 have HQ:Hid (∀ k,Calls prog 158 #[.pointer (some ⟨z,0,none⟩),.pointer (some ⟨x,0,none⟩),.pointer (some ⟨y,0,none⟩),.pointer (some ⟨r,0,none⟩)] (w.drewN k) (QRRes (w.drewN k) z r bz br (n.tdiv m) (n.tmod m) rz rr Tz Tr)) :=
  fun k=>aQ3 z x y r nz n m nr bz bx by_ br rz rx ry rr Tz Tx Ty Tr (w.drewN k) (hz.drewN k) (hx.drewN k) (hy.drewN k) (hr.drewN k) hzx hzy hrx hry hzr hb (by omega) (fun W vz vr vx vy hh=>hdiv W vz vr vx vy hh)
 obtain⟨vz,hz1,hz2,hz3⟩:=hz;obtain⟨vy,hy1,hy2,hy3⟩:=hy;have hq:=fun n=>aE8 (w:=w.drewN n) hzy hz1 hy1;obtain⟨cz0,cz1,fz0,fz1⟩:=aA5 hz1;obtain⟨cy0,cy1,_,_⟩:=aA5 hy1;have hal:=fun n=>aO6 vz vy bz by_ (w.drewN n) (by exact hz2.buf) (by exact hy2.buf);rw[bS9 hap]at hal;have HAL:=hiD hal;have hs:(∀ e w',QRRes w z r bz br (n.tdiv m) (n.tmod m) rz rr Tz Tr e w'->w'.cell? ⟨r,0,none⟩=some (.bool false)):=by
  intro e w' ⟨_,bq,bs,_,⟨v,h1,_,_⟩,_⟩;have:¬ (n.tmod m<0):=by have:=Int.tmod_nonneg m hn0;omega
  rw[decF this]at h1;exact(aA5 h1).1
 have HS:=hiD hs;clear hz1 hz2 hy1 hy2 hal hs hx hr hdiv;go_enter func119,ntmps119;go_wp2_with fail
 go_quiet ((go_at_call 133;first|exact aO7 (HAL.out _)|exact aX5 (HAL.out _)))
 go_wp2_with fail;refine(HQ.out _).mono ?_;rintro e w2 h;have h:=h.undrew;have c:=HS.out _ _ h;have he:=h.1;subst he;have H:=hiD h;clear h HS HQ HAL cz0 cz1 fz0 fz1 cy0 cy1;go_wp2_with fail;go_ret2;exact H.out
theorem bM9(z x y r:Nat)(nz n m nr:Int)(bz bx by_ br:Option Nat)(rz rx ry rr:List Value)(Tz Tx Ty Tr:TypeId)(w:World)(hz:IntAt w z nz bz rz Tz)(hx:IntAt w x n bx rx Tx)(hy:IntAt w y m by_ ry Ty)(hr:IntAt w r nr br rr Tr)(hzx:z≠x)(hzy:z≠y)(hrx:r≠x)(hry:r≠y)(hzr:z≠r)(hb:bz≠some x/\bz≠some y/\bz≠some r/\br≠some x/\br≠some y/\br≠some z)(hap:∀ k,bz=some k->by_≠some k)(hn0:0<=n)(hm0:0<m)(hdiv:∀(W:World) (vz vr vx vy:Value),NatAt W vz nz.natAbs bz->NatAt W vr nr.natAbs br->NatAt W vx n.natAbs bx->NatAt W vy m.natAbs by_->Calls prog 196 #[vz,.pointer none,vr,vx,vy] W (QR W bz br (quoN n.natAbs m.natAbs) (remN n.natAbs m.natAbs))):
  Calls prog 119 #[.pointer (some ⟨z,0,none⟩),.pointer (some ⟨x,0,none⟩),.pointer (some ⟨y,0,none⟩),.pointer (some ⟨r,0,none⟩)] w (QRRes w z r bz br (n.tdiv m) (n.tmod m) rz rr Tz Tr) :=
 aX7 z x y r nz n m nr bz bx by_ br rz rx ry rr Tz Tx Ty Tr w hz hx hy hr hzx hzy hrx hry hzr hb hap hn0 hm0 (fun W vz vr vx vy _=>hdiv W vz vr vx vy)
def Sep(p:Nat)(b:Option Nat)(q:Nat)(c:Option Nat):Prop:=p≠q/\b≠some q/\c≠some p/\∀ k,b=some k->c≠some k
theorem Sep.symm{p q:Nat}{b c:Option Nat}(h:Sep p b q c):Sep q c p b:=⟨h.1.symm,h.2.2.1,h.2.1,fun k hc hb=>h.2.2.2 k hb hc⟩
theorem Sep.own{w:World}{p q:Nat}{b b' c:Option Nat}(h:Sep p b q c)(ho:Own w b b')(hq:q<w.heap.size)(hc:∀ k,c=some k->k<w.heap.size):Sep p b' q c:=by
 rcases ho with rfl|⟨j,rfl,hj⟩
 ·exact h
 ·refine⟨h.1,fun e=>?_,h.2.2.1,fun k hk hc'=>?_⟩
  ·injection e with e;omega
  ·injection hk with hk;have:=hc k hc';omega
theorem Sep.fresh{w:World}{p q:Nat}{b c:Option Nat}(hp:w.heap.size<=p)(hb:∀ k,b=some k->w.heap.size<=k)(hq:q<w.heap.size)(hc:∀ k,c=some k->k<w.heap.size):Sep p b q c:=by
 refine⟨by omega,fun e=>?_,fun e=>?_,fun k hk hc'=>?_⟩
 ·have:=hb _ e;omega
 ·have:=hc _ e;omega
 ·have:=hb _ hk;have:=hc _ hc';omega
theorem aV1(a c n m:Nat)(bz br bx by_:Option Nat)(hn:n<B64)(hm:m<B64)(hm0:m≠0)(hap:∀ k,bz=some k->br≠some k):
  ∀(W:World) (vz vr vx vy:Value),NatAt W vz a bz->NatAt W vr c br->NatAt W vx n bx->NatAt W vy m by_->Calls prog 196 #[vz,.pointer none,vr,vx,vy] W (QR W bz br (quoN n m) (remN n m)) :=
 fun W vz vr vx vy hz hr hx hy=>aQ2 none vz vr vx vy bz br bx by_ n m W hz.buf hr.buf hy hx hm hm0 hap (bA6 vz vx bz bx n m W hz.buf hx hn hm hm0)
theorem bD5(z x y r n m:Nat)(nz nr:Int)(bz bx by_ br:Option Nat)(rz rx ry rr:List Value)(Tz Tx Ty Tr:TypeId)(w:World)(hz:IntAt w z nz bz rz Tz)(hx:IntAt w x (n:Int) bx rx Tx)(hy:IntAt w y (m:Int) by_ ry Ty)(hr:IntAt w r nr br rr Tr)(h1:Sep z bz x bx)(h2:Sep z bz y by_)(h3:Sep r br x bx)(h4:Sep r br y by_)(h5:Sep z bz r br)(hn:n<B64)(hm:m<B64)(hm0:m≠0):
  Calls prog 119 #[.pointer (some ⟨z,0,none⟩),.pointer (some ⟨x,0,none⟩),.pointer (some ⟨y,0,none⟩),.pointer (some ⟨r,0,none⟩)] w (QRRes w z r bz br ((n/m:Nat):Int) ((n%m:Nat):Int) rz rr Tz Tr):=by
 have:=bM9 z x y r nz (n:Int) (m:Int) nr bz bx by_ br rz rx ry rr Tz Tx Ty Tr w hz hx hy hr h1.1 h2.1 h3.1 h4.1 h5.1 ⟨h1.2.1,h2.2.1,h5.2.1,h3.2.1,h4.2.1,h5.2.2.1⟩ h2.2.2.2 (by omega) (by omega)
  (aV1 _ _ _ _ bz br bx by_ (by rw[Int.natAbs_natCast];exact hn) (by rw[Int.natAbs_natCast];exact hm) (by rw[Int.natAbs_natCast];exact hm0) h5.2.2.2)
 have e1:(n:Int).tdiv (m:Int)=((n/m:Nat):Int):=rfl;have e2:(n:Int).tmod (m:Int)=((n%m:Nat):Int):=rfl;rw[e1,e2]at this;exact this
def Mine(w:World)(x:Nat)(bx:Option Nat)(p:Nat)(b:Option Nat):Prop:=∀ k,(k=p\/b=some k)->k<w.heap.size->(k=x\/bx=some k)
theorem Mine.new{w:World}{x p:Nat}{bx b:Option Nat}(hp:w.heap.size<=p)(hb:∀ k,b=some k->w.heap.size<=k):Mine w x bx p b:=by
 intro k hk hlt;rcases hk with hk|hk
 ·omega
 ·have:=hb k hk;omega
theorem Mine.own{w wr:World}{x p:Nat}{bx b b':Option Nat}(h:Mine w x bx p b)(ho:Own wr b b')(hs:w.heap.size<=wr.heap.size):Mine w x bx p b':=by
 intro k hk hlt;rcases ho with rfl|⟨j,rfl,hj⟩
 ·exact h k hk hlt
 ·rcases hk with hk|hk
  ·exact h k (Or.inl hk) hlt
  ·injection hk with hk;omega
structure RSt (w:World) (x y:Nat) (bx by_:Option Nat) (ry:List Value) (Ty:TypeId) (n f t pd pq pm:Nat) (wr:World):Prop where
 ex:∃ bd bq bm rd rq Td Tq nq nm,IntAt wr pd ((n/f^t:Nat):Int) bd rd Td/\IntAt wr pq nq bq rq Tq/\IntAt wr pm nm bm [] 109/\IntAt wr y (f:Int) by_ ry Ty /\
  Sep pd bd pq bq/\Sep pd bd pm bm/\Sep pq bq pm bm/\Sep pd bd y by_/\Sep pq bq y by_/\Sep pm bm y by_ /\
  Mine w x bx pd bd/\Mine w x bx pq bq/\Mine w x bx pm bm
 kept:Kept (fun k=>k=x\/bx=some k) w wr
theorem cG3{S:Nat->Prop}{w w1 w2:World}(h:Kept S w w1)(k:Kept (fun _=>False) w1 w2):Kept S w w2:=h.trans k (fun _ _ h=>h) (fun _ _ f=>f.elim)
theorem RSt.old{w:World}{x y:Nat}{bx by_:Option Nat}{ry:List Value}{Ty:TypeId}{n f t pd pq pm:Nat}{wr wr':World}(h:RSt w x y bx by_ ry Ty n f t pd pq pm wr)(k:Kept (fun _=>False) wr wr'):RSt w x y bx by_ ry Ty n f t pd pq pm wr':=by
 obtain⟨⟨bd,bq,bm,rd,rq,Td,Tq,nq,nm,a1,a2,a3,a4,rest⟩,hk⟩:=h;exact⟨⟨bd,bq,bm,rd,rq,Td,Tq,nq,nm,a1.old k,a2.old k,a3.old k,a4.old k,rest⟩,cG3 hk k⟩
theorem RSt.divmod{w:World}{x y:Nat}{bx by_:Option Nat}{ry:List Value}{Ty:TypeId}{n f t pd pq pm:Nat}{wr:World}(h:RSt w x y bx by_ ry Ty n f t pd pq pm wr)(hn:n<B64)(hf:f<B64)(hf0:f≠0):
  Calls prog 119 #[.pointer (some ⟨pq,0,none⟩),.pointer (some ⟨pd,0,none⟩),.pointer (some ⟨y,0,none⟩),.pointer (some ⟨pm,0,none⟩)] wr fun e w' =>
   e=.returned (.tuple #[.pointer (some ⟨pq,0,none⟩),.pointer (some ⟨pm,0,none⟩)])/\RSt w x y bx by_ ry Ty n f (t+1) pq pd pm w'/\RSt w x y bx by_ ry Ty n f t pd pq pm w'/\∃ bm,IntAt w' pm ((n/f^t%f:Nat):Int) bm [] 109:=by
 obtain⟨⟨bd,bq,bm,rd,rq,Td,Tq,nq,nm,a1,a2,a3,a4,s1,s2,s3,s4,s5,s6,m1,m2,m3⟩,hk⟩:=h;refine(bD5 pq pd y pm (n/f^t) f nq nm bq bd by_ bm rq rd ry [] Tq Td Ty 109 wr a2 a1 a4 a3 s1.symm s5 s2.symm s6 s3 (Nat.lt_of_le_of_lt (Nat.div_le_self _ _) hn) hf hf0).mono ?_;rintro e w' ⟨rfl,bq',bm',c1,c2,ck,o1,o2,hap⟩;have hlt1:=a1.lt;have hlt4:=a4.lt;have k1:IntAt w' pd ((n/f^t:Nat):Int) bd rd Td:=a1.kept ck (by
  rintro(h|h|h|h)
  ·exact s1.1 h
  ·exact s2.1 h
  ·exact s1.2.2.1 h
  ·exact s2.2.2.1 h) (fun k hk=>by
  rintro(h|h|h|h)
  ·subst h;exact s1.2.1 hk
  ·subst h;exact s2.2.1 hk
  ·exact s1.2.2.2 k hk h
  ·exact s2.2.2.2 k hk h)
 have k4:IntAt w' y (f:Int) by_ ry Ty:=a4.kept ck (by
  rintro(h|h|h|h)
  ·exact s5.1 h.symm
  ·exact s6.1 h.symm
  ·exact s5.2.1 h
  ·exact s6.2.1 h) (fun k hk=>by
  rintro(h|h|h|h)
  ·subst h;exact s5.2.2.1 hk
  ·subst h;exact s6.2.2.1 hk
  ·exact s5.2.2.2 k h hk
  ·exact s6.2.2.2 k h hk)
 have t1:Sep pq bq' pd bd:=s1.symm.own o1 a1.lt a1.lts;have t2:Sep pm bm' pd bd:=s2.symm.own o2 a1.lt a1.lts;have t5:Sep pq bq' y by_:=s5.own o1 a4.lt a4.lts;have t6:Sep pm bm' y by_:=s6.own o2 a4.lt a4.lts;have t3:Sep pq bq' pm bm':=by
  refine⟨s3.1,aK3 o1 a3.lt s3.2.1,aK3 o2 a2.lt s3.2.2.1,hap⟩
 have hk':Kept (fun k=>k=x\/bx=some k) w w':=hk.trans ck (fun _ _ h=>h) (fun i hi h=>by
  rcases h with h|h|h|h
  ·exact m2 i (Or.inl h) hi
  ·exact m3 i (Or.inl h) hi
  ·exact m2 i (Or.inr h) hi
  ·exact m3 i (Or.inr h) hi)
 have n2:=m2.own o1 hk.size;have n3:=m3.own o2 hk.size;have e:n/f^t/f=n/f^(t+1):=by rw[Nat.div_div_eq_div_mul,Nat.pow_succ]
 refine⟨rfl,⟨⟨bq',bd,bm',rq,rd,Tq,Td,_,_,by rw[<- e];exact c1,k1,c2,k4,t1,t3,t2.symm,t5,s4,t6,n2,m1,n3⟩,hk'⟩,⟨⟨bd,bq',bm',rd,rq,Td,Tq,_,_,k1,c1,c2,k4,t1.symm,t2.symm,t3,s4,t5,t6,m1,n2,n3⟩,hk'⟩,bm',c2⟩
theorem RSt.cmp0{w:World}{x y:Nat}{bx by_:Option Nat}{ry:List Value}{Ty:TypeId}{n f t pd pq pm:Nat}{wr w1:World}(h:RSt w x y bx by_ ry Ty n f t pd pq pm wr){e:Ending}(hN:aR6 wr 0 e w1)(hv:n/f^t≠0):
  ∃ p0,e=.returned (.pointer (some ⟨p0,0,none⟩))/\RSt w x y bx by_ ry Ty n f t pd pq pm w1/\Calls prog 103 #[.pointer (some ⟨pd,0,none⟩),.pointer (some ⟨p0,0,none⟩)] w1 fun e w'=>e=.returned (.int .i64 1)/\Drew w1 w':=by
 obtain⟨p0,b0,rfl,hp,hi,hk,hb⟩:=hN;have h':=h.old hk;obtain⟨⟨bd,bq,bm,rd,rq,Td,Tq,nq,nm,a1,a2,a3,a4,s1,s2,s3,s4,s5,s6,m1,m2,m3⟩,hk0⟩:=h;refine⟨p0,rfl,h',?_⟩;have:=aW4 pd p0 _ _ bd b0 rd [] Td 109 w1 (a1.old hk) hi (by have:=a1.lt;omega);have e:cmpZ ((n/f^t:Nat):Int) 0=1:=by
  generalize n/f^t=q at hv ⊢;unfold cmpZ;rw[if_neg (by omega),if_pos (by omega)]
 rwa[e]at this
theorem dD0{pm m:Nat}{bm:Option Nat}{wr w1:World}(a:IntAt wr pm (m:Int) bm [] 109){e:Ending}(hN:aR6 wr 0 e w1):
  ∃ p0,e=.returned (.pointer (some ⟨p0,0,none⟩))/\Kept (fun _=>False) wr w1/\Calls prog 103 #[.pointer (some ⟨pm,0,none⟩),.pointer (some ⟨p0,0,none⟩)] w1 fun e w'=>e=.returned (.int .i64 (if m=0 then 0 else 1))/\Drew w1 w':=by
 obtain⟨p0,b0,rfl,hp,hi,hk,hb⟩:=hN;refine⟨p0,rfl,hk,?_⟩;have:=aW4 pm p0 _ _ bm b0 [] [] 109 109 w1 (a.old hk) hi (by have:=a.lt;omega);have e:cmpZ (m:Int) 0=if m=0 then 0 else 1:=by
  unfold cmpZ;split
  ·omega
  ·split
   ·rw[if_neg (by omega)]
   ·rw[if_pos (by omega)]
 rwa[e]at this
theorem Drew.old{w w':World}(h:Drew w w'):Kept (fun _=>False) w w':=h.kept
theorem RSt.start{w w1 w2:World}{x y p1 p2:Nat}{bx by_ b1 b2:Option Nat}{rx ry:List Value}{Tx Ty:TypeId}{n f:Nat}(hx:IntAt w x (n:Int) bx rx Tx)(hy:IntAt w y (f:Int) by_ ry Ty)(hs:Sep x bx y by_)(hp1:w.heap.size<=p1)(a1:IntAt w1 p1 0 b1 [] 109)(k1:Kept (fun _=>False) w w1)(q1:∀ k,b1=some k->w.heap.size<=k)(hp2:w1.heap.size<=p2)(a2:IntAt w2 p2 0 b2 [] 109)(k2:Kept (fun _=>False) w1 w2)(q2:∀ k,b2=some k->w1.heap.size<=k):
  RSt w x y bx by_ ry Ty n f 0 x p1 p2 w2:=by
 have k:=k1.trans k2 (fun _ _ f=>f) (fun _ _ f=>f);have hw:=k1.size;have p2n:w.heap.size<=p2:=by omega
 have q2n:∀ k,b2=some k->w.heap.size<=k:=fun k h=>by have:=q2 k h;omega
 refine⟨⟨bx,b1,b2,rx,[],Tx,109,0,0,by rw[Nat.pow_zero,Nat.div_one];exact hx.old k,a1.old k2,a2,hy.old k,(Sep.fresh hp1 q1 hx.lt hx.lts).symm,(Sep.fresh p2n q2n hx.lt hx.lts).symm,(Sep.fresh hp2 q2 a1.lt a1.lts).symm,hs,Sep.fresh hp1 q1 hy.lt hy.lts,Sep.fresh p2n q2n hy.lt hy.lts,?_,Mine.new hp1 q1,Mine.new p2n q2n⟩,k.mono (fun _ _ f=>f.elim)⟩;intro k hk _;exact hk
theorem dD1{n f t:Nat}(hn:n<B64)(h0:n≠0)(hf:2<=f)(h:f^t∣n):t<64:=by
 rcases Nat.lt_or_ge t 64 with h'|h'
 ·exact h'
 ·exfalso
  have h1:f^t<=n:=Nat.le_of_dvd (by omega) h;have h2:2^64<=f^t:=Nat.le_trans (Nat.pow_le_pow_left hf 64) (Nat.pow_le_pow_right (by omega) h');unfold B64 at hn;omega
def dW6(w:World)(x:Nat)(bx:Option Nat)(n f:Nat)(e:Ending)(w':World):Prop :=
 ∃ t p b r T,e=.returned (.tuple #[.pointer (some ⟨p,0,none⟩),.int .i32 ((t:Nat):Int)])/\f^t∣n/\n/f^t%f≠0/\IntAt w' p ((n/f^t:Nat):Int) b r T/\Kept (fun k=>k=x\/bx=some k) w w'/\Mine w x bx p b
theorem aN5(x y n f:Nat)(bx by_:Option Nat)(rx ry:List Value)(Tx Ty:TypeId)(w:World)(hx:IntAt w x (n:Int) bx rx Tx)(hy:IntAt w y (f:Int) by_ ry Ty)(hs:Sep x bx y by_)(hn:n<B64)(hn0:n≠0)(hf:f<B64)(hf2:2<=f):
  Calls prog 189 #[.pointer (some ⟨x,0,none⟩),.pointer (some ⟨y,0,none⟩)] w (dW6 w x bx n f):=by
 have HX:=hiD hx;have HY:=hiD hy;have HSP:=hiD hs;clear hx hy hs;go_enter func189,ntmps189;go_wp2_with fail;refine(aL5 _).mono ?_;rintro e w1 ⟨p1,b1,rfl,hp1,a1,k1,q1⟩;have A1:=hiD a1;have K1:=hiD k1;have Q1:=hiD q1;have P1:=hiD hp1;clear a1 k1 q1 hp1;go_wp2_with fail;refine(aL5 _).mono ?_;rintro e w2 ⟨p2,b2,rfl,hp2,a2,k2,q2⟩;have H0:=hiD (RSt.start HX.out HY.out HSP.out P1.out A1.out K1.out Q1.out hp2 a2 k2 q2);clear a2 k2 q2 hp2 A1 K1 Q1 P1 HX HY HSP;go_wp2_with fail
 go_loopw [0,5,6] (fun d t q wr=>∃(t' pd pq:Nat),d=.pointer (some ⟨pd,0,none⟩)/\t=.int .i32 (t':Int)/\q=.pointer (some ⟨pq,0,none⟩)/\f^t'∣n/\RSt w x y bx by_ ry Ty n f t' pd pq p2 wr) (fun _ t _ _=>64-(intOf t).toNat)
 case atStart=>exact⟨0,x,p1,rfl,rfl,rfl,by simp,H0.out⟩
 case round =>
  obtain⟨t,pd,pq,rfl,rfl,rfl,hdv,hst⟩:=hrel;have ht:=dD1 hn hn0 hf2 hdv;have hnz:n/f^t≠0:=by
   have h1:f^t<=n:=Nat.le_of_dvd (by omega) hdv;have:=Nat.div_pos h1 (Nat.pow_pos (by omega));omega
  have HST:=hiD hst;have HDV:=hiD hdv;have HNZ:=hiD hnz;clear hst hdv hnz H0;go_wp2_with fail;refine(aL5 _).mono ?_;intro e w3 h;obtain⟨p0,rfl,hst3,hc⟩:=HST.out.cmp0 h HNZ.out;have HST3:=hiD hst3;have HC:=hiD hc;clear h hst3 hc;go_wp2_with fail;refine HC.out.mono ?_;rintro e w4 ⟨rfl,hd⟩;have HST4:=hiD (HST3.out.old hd.old);clear hd;go_wp2_with fail;refine(HST4.out.divmod hn hf (by omega)).mono ?_;rintro e w5 ⟨rfl,g1,g2,bm,g3⟩;have G1:=hiD g1;have G2:=hiD g2;have G3:=hiD g3;clear g1 g2 g3 HC HST3 HST4;go_wp2_with fail;refine(aL5 _).mono ?_;intro e w6 h;obtain⟨p6,rfl,hk6,hc⟩:=dD0 G3.out h;have HK6:=hiD hk6;have HC:=hiD hc;clear h hk6 hc;go_wp2_with fail;refine HC.out.mono ?_;rintro e w7 ⟨rfl,hd⟩;have HK7:=hiD (cG3 HK6.out hd.old);clear hd HC HK6;by_cases hz:n/f^t%f=0
  ·rw[if_pos hz];have HZ:=hiD hz;clear hz;go_wp2_with fail;go_roundw
   case rel =>
    refine⟨t+1,pq,pd,rfl,by go_num,rfl,?_,G1.out.old HK7.out⟩;obtain⟨c,hc⟩:=HDV.out;have hz:=HZ.out;rw[hc,Nat.mul_div_cancel_left _ (Nat.pow_pos (by omega))]at hz;obtain⟨c',hc'⟩:=Nat.dvd_of_mod_eq_zero hz;exact⟨c',by rw[hc,hc',Nat.pow_succ,Nat.mul_assoc]⟩
   case measure=>simp[intOf];omega
  ·rw[if_neg hz];have HZ:=hiD hz;clear hz;go_wp2_with fail;go_ret2;obtain⟨⟨bd,bq,bm,rd,rq,Td,Tq,nq,nm,a1,a2,a3,a4,s1,s2,s3,s4,s5,s6,m1,m2,m3⟩,hk⟩:=G2.out.old HK7.out;exact⟨t,pd,bd,rd,Td,rfl,HDV.out,HZ.out,a1,hk,m1⟩
end Go.Proofs.YtjebnpkebccffaaGreatDoor
