import Derived.Test.YtjebnpkebccffaaGreatDoorZMlg
set_option linter.unusedSimpArgs false
set_option linter.unusedVariables false
set_option linter.unusedSectionVars false
set_option maxRecDepth 100000
set_option maxHeartbeats 8000000
namespace Go.Proofs.YtjebnpkebccffaaGreatDoor
open Go.RowKit Go.Proofs.Tryz
theorem cJ0(z x:Value)(bz bx:Option Nat)(n:Nat)(w:World)(hz:BufAt w z bz)(hx:NatAt w x n bx)(hn:Sm n):
  Calls prog 223 #[z,x,.int .u64 1] w (DivW w bz (quoN n 1) (remN n 1)):=by
 have e1:quoN n 1=n:=Nat.div_one n;have e2:remN n 1=0:=Nat.mod_one n;rw[e1,e2];have H:=hiD (aW2 z x bz bx n w hz hx hn);obtain⟨a,c,rfl⟩:=aB6 hx;clear hz hx e1 e2;generalize hL:(dig n).length=L at *;clear hL;go_enter func223,ntmps223;go_wp2_with fail;refine H.out.mono ?_;rintro e w1 ⟨v',b',rfl,h⟩;have H:=hiD h;clear h;go_wp2_with fail;go_ret2;exact⟨v',b',rfl,H.out⟩
theorem cN6{m:Nat}(h0:m≠0)(h:m<B64)(hT:TopOk m):m*2^shl64 m≠B64-1:=by
 unfold TopOk topW at hT;rw[aH5 h0 h]at hT
 simpa using hT
theorem dG8(s:Option Addr)(z z2 u v:Value)(bz bz2 bu bv:Option Nat)(n m:Nat)(w:World)(hz:BufAt w z bz)(hz2:BufAt w z2 bz2)(hu:NatAt w u n bu)(hv:NatAt w v m bv)(hm:2<=(dig m).length)(hlt:n<m)(hn:Sm n)(hap:∀ k,bz=some k->bz2≠some k):Calls prog 196 #[z,.pointer s,z2,u,v] w (QR w bz bz2 (quoN n m) (remN n m)):=by
 have e1:quoN n m=0:=Nat.div_eq_of_lt hlt;have e2:remN n m=n:=Nat.mod_eq_of_lt hlt;rw[e1,e2];have HC:=hiD (bZ3 u v bu bv n m w hu hv);have hcn:cmpN n m = -1:=by unfold cmpN;rw[if_pos hlt]
 rw[hcn]at HC;have HU:=hiD hu;obtain⟨av,cv,rfl⟩:=aB6 hv;obtain⟨az,lz,cz,rfl,hz0⟩:=aH7 hz;have HZ:=hiD hz0;have HZ2:=hiD hz2;have HA:=hiD hap;have HN:=hiD hn;have a1:(((dig m).length:Int)==0)=false:=beqF (by omega);have a2:(((dig m).length:Int)==1)=false:=beqF (by omega);clear hz hz2 hu hv e1 e2 hcn hz0 hap hlt hn;generalize(dig m).length=L at *;go_enter func196,ntmps196;go_wp2_with fail;refine HC.out.mono ?_;rintro e w1 ⟨rfl,hd⟩;have HU1:=hiD (HU.out.kept hd.kept (fun _ _ (f:False)=>f));have HD:=hiD hd;clear hd;go_wp2_with fail;refine(aW2 z2 u bz2 bu n w1 (HZ2.out.kept HD.out.kept (fun _ _ (f:False)=>f)) HU1.out HN.out).mono ?_;rintro e w2 ⟨vr,br,rfl,h1,h2,h3⟩;have H:=hiD (And.intro h1 (And.intro h2 h3));clear h1 h2 h3;go_wp2_with fail;go_ret2;obtain⟨h1,h2,h3⟩:=H.out;have hk0:Kept (fun _=>False) w w1:=HD.out.kept;have hzw1:=HZ.out.kept hk0 (fun _ _ (f:False)=>f);refine⟨_,bz,vr,br,rfl,hzw1.kept h2 (fun k hk h=>HA.out k hk h),h1,hk0.trans h2 (fun _ _ f=>f.elim) (fun _ _ h=>Or.inr h),Or.inl rfl,?_,?_⟩
 ·rcases h3 with h|⟨j,hj,hjs⟩
  ·exact Or.inl h
  ·exact Or.inr ⟨j,hj,by have:=hk0.size;omega⟩
 ·intro k hk hr;rcases h3 with h|⟨j,hj,hjs⟩
  ·exact HA.out k hk (by rw[<- h,hr])
  ·rw[hj]at hr;injection hr with hr;have:=hzw1.lts k hk;omega
theorem dG9(z z2 u v:Value)(bz bz2:Option Nat)(ku kv:Nat)(n m:Nat)(w:World)(hz:BufAt w z bz)(hz2:BufAt w z2 bz2)(hu:NatAt w u n (some ku))(hv:NatAt w v m (some kv))(hm:2<=(dig m).length)(hle:m<=n)(hn:(dig n).length<=900)(hm40:(dig m).length<40)(hT:TopOk m)(hap:∀ k,bz=some k->bz2≠some k)(hux:bz2≠some ku)(huy:bz2≠some kv)(hg:bz≠some 15/\bz2≠some 15)(ht:ThrD w):Calls prog 196 #[z,.pointer none,z2,u,v] w (QR w bz bz2 (quoN n m) (remN n m)):=by
 have HC:=hiD (bZ3 u v (some ku) (some kv) n m w hu hv);obtain⟨cc,hcn,hcc⟩:∃ cc,cmpN n m=cc/\decide (cc<0)=false:=by
  refine⟨_,rfl,?_⟩;unfold cmpN;rw[if_neg (by omega)];split<;>rfl
 rw[hcn]at HC;have HU:=hiD hu;have HV:=hiD hv;obtain⟨av,cv,rfl⟩:=aB6 hv;have HZ:=hiD hz;have HZ2:=hiD hz2;have HL:=hiD (show 2<=(dig m).length/\(dig m).length<40/\(dig m).length<=(dig n).length/\(dig n).length<=900 from⟨hm,hm40,aM4 hle,hn⟩);have HA:=hiD (And.intro hap (And.intro hux (And.intro huy (And.intro hg ht))));have HTO:=hiD hT;have a1:(((dig m).length:Int)==0)=false:=beqF (by omega);have a2:(((dig m).length:Int)==1)=false:=beqF (by omega);clear hz hz2 hu hv hcn hap hle hn hm hm40 hT hux huy hg ht;generalize hLL:(dig m).length=L at *
 go_enter_defers func196,ntmps196
 go_wp2_with fail;refine HC.out.mono ?_;rintro e w1 ⟨rfl,hd⟩;have HK1:=hiD (show Kept (fun _=>False) w w1 from hd.kept);clear hd;go_wp2_with fail;refine(aM7 _).mono ?_;rintro e w2 ⟨rfl,hw2⟩;have hnew:w2.heap=w1.heap.push (.cells #[.pointer none] 309):=by rw[hw2];rfl
 have hkw:Kept (fun _=>False) w w2:=by rw[hw2];exact HK1.out.trans ((Kept.refl _ _).alloc _) (fun _ _ f=>f) (fun _ _ f=>f)
 have hst:StkAt w2 w1.heap.size none 0 0 none:=⟨by rw[hnew];simp,rfl,rfl,rfl⟩;have hs1:w.heap.size<=w1.heap.size:=HK1.out.size;have hs2:w2.heap.size=w1.heap.size+1:=by rw[hnew];simp
 generalize hS:w1.heap.size=S at *;have H2:=hiD (And.intro hkw (And.intro hst (And.intro hs1 hs2)));clear hw2 hnew hkw hst hs1 hs2 hS HK1;go_wp2_with fail;have hnf:∀ k (b:Option Nat),b=some k->¬ (fun _:Nat=>False) k:=fun _ _ _ f=>f
 refine(bV4 z z2 u _ bz bz2 ku kv S n m w2 (HZ.out.kept H2.out.1 (fun _ _ (f:False)=>f)) (HZ2.out.kept H2.out.1 (fun _ _ (f:False)=>f)) (HU.out.kept H2.out.1 (fun _ _ (f:False)=>f)) (HV.out.kept H2.out.1 (fun _ _ (f:False)=>f)) H2.out.2.1 (by rw[hLL];exact HL.out.1) (by rw[hLL];exact HL.out.2.1) (by rw[hLL];exact HL.out.2.2.1) HL.out.2.2.2 HTO.out HA.out.1 HA.out.2.1 HA.out.2.2.1 HA.out.2.2.2.1 (aB8 H2.out.1 HA.out.2.2.2.2)).mono ?_;rintro e w3 ⟨vq,bq,vr,br,rfl,h1,h2,h3,h4,h5,h6,si,h7,h8⟩;have H3:=hiD (And.intro h1 (And.intro h2 (And.intro h3 (And.intro h4 (And.intro h5 (And.intro h6 (And.intro h7 h8)))))));clear h1 h2 h3 h4 h5 h6 h7 h8;go_wp2_with fail;try simp only[Exit.inBlock,Exit.then]
 refine leaves_cons (f:=170) (args:=#[.pointer (some ⟨S,0,none⟩)]) (by simp) (by simp[go_sem]) ?_;refine(cN3 S 0 si .returning w3 H3.out.2.2.2.2.2.2.1).mono ?_;rintro e u' w4 ⟨rfl,rfl,hk4⟩;refine⟨_,results_tmp2 rfl _ _ _,?_⟩;obtain⟨h1,h2,h3,h4,h5,h6,h7,h8⟩:=H3.out;obtain⟨g1,g2,g3,g4⟩:=H2.out;have hsz:=h3.size;have own:∀ {b b':Option Nat},Own w2 b b'->Own w b b':=by
  intro b b' ho;rcases ho with h|⟨j,hj,hjs⟩
  ·exact Or.inl h
  ·exact Or.inr ⟨j,hj,by omega⟩
 refine⟨vq,bq,vr,br,rfl,h1.kept hk4 (fun k hk e=>bO9 h7 h1.buf k e hk),h2.kept hk4 (fun k hk e=>bO9 h7 h2.buf k e hk),?_,own h4,own h5,h6⟩;exact(g1.trans h3 (U:=fun k=>bz=some k\/bz2=some k) (fun _ _ f=>f.elim) (fun i hi h=>by rcases h with h|h|h;exact Or.inl h;exact Or.inr h;omega)).trans hk4 (fun _ _ h=>h) (fun i hi h=>by have:=h8 i h;omega)
theorem cX1(z z2 u v:Value)(bz bz2 bu bv:Option Nat)(n m:Nat)(w:World)(hz:BufAt w z bz)(hz2:BufAt w z2 bz2)(hu:NatAt w u n bu)(hv:NatAt w v m bv)(hm0:m≠0)(hn:(dig n).length<=900)(hm:(dig m).length<40)(hT:TopOk m)(hap:∀ k,bz=some k->bz2≠some k)(hap2:∀ k,bz2=some k->bu≠some k/\bv≠some k)(hg:bz≠some 15/\bz2≠some 15)(ht:ThrD w):
  Calls prog 196 #[z,.pointer none,z2,u,v] w (QR w bz bz2 (quoN n m) (remN n m)):=by
 have hsn:Sm n:=by show(dig n).length<=100000;omega
 by_cases hw:m<B64
 ·by_cases h1:m=1
  ·subst h1;exact aQ2 none z z2 u v bz bz2 bu bv n 1 w hz hz2 hv hu hw hm0 hap (cJ0 z u bz bu n w hz hu hsn)
  ·exact aQ2 none z z2 u v bz bz2 bu bv n m w hz hz2 hv hu hw hm0 hap (dF5 m (by omega) hw (cN6 hm0 hw hT) z u bz bu n w hz hu hsn)
 ·have h2:=bP0 hw;by_cases hlt:n<m
  ·exact dG8 none z z2 u v bz bz2 bu bv n m w hz hz2 hu hv h2 hlt hsn hap
  ·obtain⟨ku,rfl⟩:=aP4 hu (by omega);obtain⟨kv,rfl⟩:=aP4 hv hm0;exact dG9 z z2 u v bz bz2 ku kv n m w hz hz2 hu hv h2 (by omega) hn hm hT hap (fun e=>(hap2 ku e).1 rfl) (fun e=>(hap2 kv e).2 rfl) hg ht
theorem xp_ne{a b:Option Nat}(h:∀ k,b=some k->a≠some k):a≠b\/a=none:=by
 cases a with
 | none=>exact Or.inr rfl
 | some k=>exact Or.inl (fun e=>h k e.symm rfl)
theorem xp_sq{n:Nat}(h0:n≠0)(h:(dig n).length<12):n*n≠0/\(dig (n*n)).length<40:=by
 have h1:n<B64^11:=Nat.lt_of_lt_of_le (aD0 n) (Nat.pow_le_pow_right aA6 (by omega));have h2:n*n<B64^22:=by
  rw[show(22:Nat)=11+11 from rfl,Nat.pow_add];exact Nat.mul_lt_mul'' h1 h1
 exact⟨Nat.mul_ne_zero h0 h0,by have:=aD3 h2;omega⟩
theorem bP1{w w':World}(hk:Kept (fun _=>False) w w')(h:ThrK w/\ThrS w):ThrK w'/\ThrS w':=⟨aB8 hk h.1,aB8 hk h.2.1,aB8 hk h.2.2⟩
theorem cN7(x y:Value)(bx by_:Option Nat)(a k:Nat)(w:World)(hx:NatAt w x a bx)(hy:NatAt w y k by_)(ha:2<=a)(ha1:a<B64)(hk:2<=k)(hk1:k<512)(hsq:(dig (a^(k/2))).length<12)(ht:ThrK w/\ThrS w):
  Calls prog 195 #[.slice none 0 0,.pointer none,x,y,.slice none 0 0,.bool false] w (aH4 w none (a^k)):=by
 obtain⟨M,hM⟩:=bK6 k hk1 hk;have ex:=aH5 (n:=a) (by omega) ha1;have ey:=aH5 (n:=k) (by omega) (by unfold B64;omega);obtain⟨kx,cx,rfl,rfl,hkx,hlx,hpx,hsx,hhx⟩:=aF2 hx (by omega);obtain⟨ky,cy,rfl,rfl,hky,hly,hpy,hsy,hhy⟩:=aF2 hy (by omega);have cx0:w.cell? ⟨kx,0,none⟩=some (.int .u64 ((a:Nat):Int)):=by
  rw[aA2 hkx];have:=hhx 0 (by rw[ex];simp);rw[ex]at this;exact this
 have cy0:w.cell? ⟨ky,0,none⟩=some (.int .u64 ((k:Nat):Int)):=by
  rw[aA2 hky];have:=hhy 0 (by rw[ey];simp);rw[ey]at this;exact this
 rw[ex]at hx ⊢;rw[ey]at hy ⊢;have HX:=hiD hx;have HYL:Hid (ky<w.heap.size):=hy.lt;have a1:((a:Int)==1)=false:=beqF (by omega);have a2:((k:Int)==1)=false:=beqF (by omega);simp only[List.length_cons,List.length_nil,Nat.zero_add]at *;clear hx hy hkx hky hhx hhy ex ey
 go_enter_defers func195,ntmps195
 go_wp2_with fail;refine(aO8 _ _ _ _).mono ?_;rintro e w1 ⟨rfl,n1,rfl⟩;go_wp2_with fail;refine(aO8 _ _ _ _).mono ?_;rintro e w1 ⟨rfl,n2,rfl⟩;go_wp2_with fail;refine(aM7 _).mono ?_;rintro e w1 ⟨rfl,hw1⟩;have hnew:w1.heap=w.heap.push (.cells #[.pointer none] 309):=by rw[hw1];rfl
 have hkw:Kept (fun _=>False) w w1:=by rw[hw1];exact((Kept.refl _ _).drewN _).alloc _
 have hst:w1.cell? ⟨w.heap.size,0,none⟩=some (.pointer none):=by
  have:w1.heap[w.heap.size]? = some (.cells #[.pointer none] 309):=by rw[hnew];simp
  rw[aA2 this];rfl
 have hlt:w.heap.size<w1.heap.size:=by rw[hnew];simp
 have cx1:w1.cell? ⟨kx,0,none⟩=some (.int .u64 ((a:Nat):Int)):=by rw[hkw.below.cell HX.out.lt];exact cx0
 have cy1:w1.cell? ⟨ky,0,none⟩=some (.int .u64 ((k:Nat):Int)):=by rw[hkw.below.cell HYL.out];exact cy0
 have HKW:=hiD hkw;have HT1:Hid (ThrK w1/\ThrS w1):=⟨aB8 hkw ht.1,aB8 hkw ht.2.1,aB8 hkw ht.2.2⟩;clear ht;have HLT:=hiD hlt;clear hw1 hnew cx0 cy0 hkw hlt;have esz:(w.drewN (n1+n2)).heap.size=w.heap.size:=rfl;rw[esz];generalize hS:w.heap.size=S at *;have HS:=hiD hS;clear hS esz;go_wp2_with fail;refine(aW2 (.slice none 0 0) (.slice (some ⟨kx,0,none⟩) 1 cx.size) none (some kx) a _ rfl (HX.out.kept HKW.out (fun _ _ h=>h)) (Sm.one ha1)).mono ?_;rintro e w2 ⟨vz,bz,rfl,h⟩;have cy2:w2.cell? ⟨ky,0,none⟩=some (.int .u64 ((k:Nat):Int)):=by
  have:=(h.2.1.mono (U:=fun _=>False) (fun _ _ h=>by cases h)).below.cell (p:=⟨ky,0,none⟩) (by have:=HYL.out;have:=HLT.out;have:=HKW.out.size;show ky<_;omega);rw[this];exact cy1
 have HZ:=hiD h;clear h cx1 cy1;go_wp2_with fail;refine(aJ6 k (by unfold B64;omega) _).mono ?_;rintro e w3 ⟨rfl,rfl⟩;have hF:=cG0 k M hk1 hk hM;rw[hM];obtain⟨⟨hM1,hM2⟩,F0,FM,F⟩:=hF;have e1:IntKind.u64.wrap ((k:Int)*2^(63-M+1))=((vv k M 0:Nat):Int):=by
  rw[IntKind.wrap_u64];unfold vv;rw[show 63-M+1=64-M+0 by omega];simp
 have e2:(64:Int)-(((63-M:Nat):Int)+1)=(M:Int):=by omega
 have HF:=hiD F;have HFM:=hiD FM;have HSTART:Hid (ExpSt w1 (a^ev k M 0) vz (.slice none 0 0) bz none w2):=by
  rw[F0,Nat.pow_one];obtain⟨h1,h2,h3⟩:=HZ.out;refine⟨h1,rfl,h2.mono (fun _ _ h=>by cases h),?_,by simp,by simp⟩;intro j hj;rcases h3 with h3|⟨i,hi,his⟩
  ·rw[h3]at hj;cases hj
  ·rw[hi]at hj;injection hj with hj;omega
 have HE1:=hiD e1;have HE2:=hiD e2;have e3:=HE1.out;have e4:=HE2.out;clear F FM F0 cy2 HZ e1 e2;go_wp2_with fail;clear e3 e4
 go_loopw [0,15,19,21] (fun z v zz j wr=>dK9 w1 a k M z v zz j wr) (fun _ _ _ j _=>M-(intOf j).toNat)
 case atStart=>exact⟨0,bz,none,Nat.zero_le _,rfl,rfl,HSTART.out⟩
 case round =>
  obtain⟨i,bz',bzz',hi,rfl,rfl,hst⟩:=hrel;have HST:=hiD hst;clear hst;by_cases hlt:i<M
  ·obtain⟨f1,f2,f3⟩:=HF.out i hlt;have hlt2:(dig (a^ev k M i)).length<12:=Nat.lt_of_le_of_lt (aM4 (Nat.pow_le_pow_right (by omega) (by omega))) hsq;have hne:a^ev k M i≠0:=Nat.pos_iff_ne_zero.1 (Nat.pow_pos (by omega));have hv:=vv_lt k M i;have hw:IntKind.u64.wrap (((vv k M i:Nat):Int)*2)=((vv k M (i+1):Nat):Int):=by rw[IntKind.wrap_u64,cS5];omega
   have hand:=cS6 _ hv;have HFF:=hiD (And.intro f1 f2);have HW2:=hiD hw;have HAND:=hiD hand;have HLT2:=hiD hlt2;have HNE:=hiD hne;clear f1 f2 f3 hw hand hlt2 hne;go_wp2_with fail;refine(dS5 (some ⟨S,0,none⟩) u19 u0 bzz' bz' (a^ev k M i) wr HST.out.2.1 HST.out.1 HNE.out HLT2.out (xp_ne HST.out.2.2.2.2.2) ⟨aB8 HST.out.2.2.1 HT1.out.2.1,aB8 HST.out.2.2.1 HT1.out.2.2⟩).mono ?_;rintro e w3 ⟨v3,b3,rfl,h3⟩;rw[cG2]at h3;have HST3:=hiD (bE4 HST.out h3);clear h3;have hand:=HAND.out;have hw:=HW2.out;by_cases hbit:vv k M i<9223372036854775808
   ·rw[if_pos hbit]at hand;have hev:=HFF.out.1 hbit;rw[<- hev]at HST3;clear hbit hev;obtain⟨v1,HV1⟩:∃ v1,Hid (vv k M (i+1)=v1):=⟨_,hiD rfl⟩;rw[HV1.out]at hw;clear HW2;go_wp2_with fail;go_roundw
    case rel=>exact⟨i+1,b3,bz',by omega,by go_num,by rw[HV1.out],HST3.out⟩
    case measure=>simp[intOf];omega
   ·rw[if_neg hbit]at hand;have hev:=HFF.out.2 (by omega);have hx3:NatAt w3 (.slice (some ⟨kx,0,none⟩) 1 cx.size) a (some kx):=(HX.out.kept HKW.out (fun _ _ h=>h)).kept HST3.out.2.2.1 (fun _ _ h=>h);have hsm:a^(2*ev k M i)≠0/\(dig (a^(2*ev k M i))).length<40:=by
     rw[<- cG2];exact xp_sq HNE.out HLT2.out
    have hkx:bz'≠some kx:=by
     intro e;have h1:=HST3.out.2.2.2.2.1 kx e;have h2:=(HX.out.kept HKW.out (fun _ _ h=>h)).lt;omega
    have HKX:=hiD hkx;clear hkx;have HX3:=hiD hx3;have HSM:=hiD hsm;have HEV:=hiD hev;clear hbit hev hx3 hsm;obtain⟨v1,HV1⟩:∃ v1,Hid (vv k M (i+1)=v1):=⟨_,hiD rfl⟩;rw[HV1.out]at hw;clear HW2;go_wp2_with fail;refine(dS4 (some ⟨S,0,none⟩) u0 v3 _ bz' b3 (some kx) (a^(2*ev k M i)) a w3 HST3.out.2.1 HST3.out.1 HX3.out HSM.out.1 (by omega) HSM.out.2 (by rw[aH5 (by omega) ha1];simp) (xp_ne HST3.out.2.2.2.2.2) (Or.inl HKX.out) (aB8 HST3.out.2.2.1 HT1.out.1)).mono ?_;rintro e w4 ⟨v4,b4,rfl,h4⟩;have HST4:=hiD (bE4 HST3.out h4);clear h4;rw[<- Nat.pow_succ,Nat.succ_eq_add_one,<- HEV.out]at HST4;go_wp2_with fail;go_roundw
    case rel=>exact⟨i+1,b4,b3,by omega,by go_num,by rw[HV1.out],HST4.out⟩
    case measure=>simp[intOf];omega
  ·have:i=M:=by omega
   subst this;rw[HFM.out]at HST;have hne:a^k≠0:=Nat.pos_iff_ne_zero.1 (Nat.pow_pos (by omega));have HNE:=hiD hne;have hstk:wr.cell? ⟨S,0,none⟩=some (.pointer none):=by rw[HST.out.2.2.1.below.cell HLT.out];exact hst
   have HSTK:=hiD hstk;clear hne hstk;go_wp2_with fail
   go_loop [0,22] (fun z i=>z=u0/\i=.int .i64 (-1)) (fun _ _=>0)
   case atStart=>exact⟨rfl,rfl⟩
   case round =>
    obtain⟨rfl,rfl⟩:=hrel;go_wp2_with fail;refine(cG1 HST.out.1 HNE.out).mono ?_;rintro e w4 ⟨rfl,rfl⟩;go_wp2_with fail;try simp only[Exit.inBlock,Exit.then]
    refine leaves_cons (f:=170) (args:=#[.pointer (some ⟨S,0,none⟩)]) (by simp) (by simp[go_sem]) ?_;refine(aM8 S .returning wr HSTK.out).mono ?_;rintro e u' w4 ⟨rfl,rfl,rfl⟩;refine⟨_,results_tmp rfl _ _ _,?_⟩;obtain⟨h1,h2,h3,h4,h5,h6⟩:=HST.out;refine⟨u0,bz',rfl,h1,HKW.out.trans h3 (fun _ _ f=>f.elim) (fun _ _ f=>f.elim),?_⟩;cases bz' with
    | none=>exact Or.inl rfl
    | some q=>exact Or.inr ⟨q,rfl,by have:=h4 q rfl;have:=HKW.out.size;omega⟩
theorem cX2(x y:Value)(bx by_:Option Nat)(a k:Nat)(w:World)(hx:NatAt w x a bx)(hy:NatAt w y k by_)(ha:2<=a)(ha1:a<B64)(hk:1<=k)(hk1:k<512)(hsq:(dig (a^(k/2))).length<12)(ht:ThrK w/\ThrS w):
  Calls prog 195 #[.slice none 0 0,.pointer none,x,y,.slice none 0 0,.bool false] w (aH4 w none (a^k)):=by
 rcases Nat.lt_or_ge k 2 with h|h
 ·have:k=1:=by omega
  subst this;rw[Nat.pow_one];exact bS8 x y bx by_ a w hx hy ha ha1
 ·exact cN7 x y bx by_ a k w hx hy ha ha1 h hk1 hsq ht
theorem cC3(z x y:Nat)(a k:Nat)(bx by_:Option Nat)(rz rx ry:List Value)(Tz Tx Ty:TypeId)(w:World)(hz:IntAt w z 0 none rz Tz)(hx:IntAt w x (a:Int) bx rx Tx)(hy:IntAt w y (k:Int) by_ ry Ty)(ha:2<=a)(ha1:a<B64)(hk:1<=k)(hk1:k<512)(hsq:(dig (a^(k/2))).length<12)(ht:ThrK w/\ThrS w):
  Calls prog 157 #[.pointer (some ⟨z,0,none⟩),.pointer (some ⟨x,0,none⟩),.pointer (some ⟨y,0,none⟩),.pointer none,.bool false] w (aF5 w z none ((a^k:Nat):Int) rz Tz):=by
 obtain⟨vz,hz1,⟨rfl,_⟩,hz3⟩:=hz;obtain⟨vx,hx1,hx2,hx3⟩:=hx;obtain⟨vy,hy1,hy2,hy3⟩:=hy;obtain⟨cz0,cz1,fz0,fz1⟩:=aA5 hz1;obtain⟨cx0,cx1,_,_⟩:=aA5 hx1;obtain⟨cy0,cy1,_,_⟩:=aA5 hy1;rw[decF (show ¬ ((a:Int)<0)by omega)]at cx0;rw[decF (show ¬ ((k:Int)<0)by omega)]at cy0;simp only[Int.natAbs_natCast]at hx2 hy2;have HC:=hiD (cX2 vx vy bx by_ a k w hx2 hy2 ha ha1 hk hk1 hsq ht);have HZ1:=hiD hz1;have HX1:=hiD hx1;have ep:0<(dig (a^k)).length:=aB3 (Nat.pos_iff_ne_zero.1 (Nat.pow_pos (by omega)));generalize hL:(dig (a^k)).length=L at *;have HL:=hiD hL;have g1:decide ((0:Int)<(L:Int))=true:=decT (by omega);clear hz1 hx1 hy1 hx2 hy2 hsq ht hL;go_enter func157,ntmps157;go_wp2_with fail;refine HC.out.mono ?_;rintro e w1 ⟨v',b',rfl,h1,h2,h3⟩;obtain⟨a',c',rfl⟩:=aB6 h1;have ez:=h2.at HZ1.out (by simp);obtain⟨d0,d1,d2,d3⟩:=aA5 ez;have ex:=h2.at HX1.out (by simp);obtain⟨e0,_,_,_⟩:=aA5 ex;rw[decF (show ¬ ((a:Int)<0)by omega)]at e0;have H:=hiD (And.intro h1 (And.intro h2 h3));clear h1 h2 h3 ez ex cx0 cx1 cy0 cy1 cz0 cz1 fz0 fz1;rw[HL.out];go_wp2_with fail;go_ret;have:=aW3 (n:=((a^k:Nat):Int)) HZ1.out hz3 (by rw[Int.natAbs_natCast];exact H.out.1) H.out.2.1 H.out.2.2;rw[decF (show ¬ (((a^k:Nat):Int)<0)by omega),HL.out]at this;exact this
theorem aW8(z x y:Nat)(a k:Nat)(bx by_:Option Nat)(rz rx ry:List Value)(Tz Tx Ty:TypeId)(w:World)(hz:IntAt w z 0 none rz Tz)(hx:IntAt w x (a:Int) bx rx Tx)(hy:IntAt w y (k:Int) by_ ry Ty)(ha:2<=a)(ha1:a<B64)(hk:1<=k)(hk1:k<512)(hsq:(dig (a^(k/2))).length<12)(ht:ThrK w/\ThrS w):
  Calls prog 118 #[.pointer (some ⟨z,0,none⟩),.pointer (some ⟨x,0,none⟩),.pointer (some ⟨y,0,none⟩),.pointer none] w (aF5 w z none ((a^k:Nat):Int) rz Tz):=by
 have H:=hiD (cC3 z x y a k bx by_ rz rx ry Tz Tx Ty w hz hx hy ha ha1 hk hk1 hsq ht);clear hz hx hy hsq ht;go_enter func118,ntmps118;go_wp2_with fail;refine H.out.mono ?_;rintro e w1 ⟨rfl,h⟩;have H:=hiD h;clear h;go_wp2_with fail;go_ret;exact⟨rfl,H.out⟩
theorem aW9(k:Nat)(h:k<=180):(dig (10^(k/2))).length<12:=by
 have h1:10^(k/2)<=10^90:=Nat.pow_le_pow_right (by omega) (by omega);have h2:(10:Nat)^90<B64^11:=by unfold B64;decide
 have:=aD3 (Nat.lt_of_le_of_lt h1 h2);omega
theorem cN8(k:Nat)(h1:1<=k)(h2:k<=180)(w w2 w3:World)(p1 p2:Nat)(b1 b2:Option Nat)(a1:IntAt w2 p1 10 b1 [] 109)(a2:IntAt w3 p2 (k:Int) b2 [] 109)(ht:ThrK w/\ThrS w)(hk2:Kept (fun _=>False) (w.alloc zInt) w2)(hk3:Kept (fun _=>False) w2 w3):
  Calls prog 118 #[.pointer (some ⟨w.heap.size,0,none⟩),.pointer (some ⟨p1,0,none⟩),.pointer (some ⟨p2,0,none⟩),.pointer none] w3 (aR6 w ((10^k:Nat):Int)):=by
 refine(aW8 w.heap.size p1 p2 10 k b1 b2 [] [] [] 109 109 109 w3 (((aG7 w).old hk2).old hk3) (a1.old hk3) a2 (by omega) (by unfold B64;omega) h1 (by omega) (aW9 k h2) (bP1 hk3 (bP1 hk2 (bP1 ((Kept.refl _ w).alloc zInt) ht)))).mono ?_;intro e w4 h;exact bC5 (w1:=w2) hk3.size ((((Kept.refl _ w).alloc zInt).trans hk2 (fun _ _ f=>f) (fun _ _ f=>f)).trans hk3 (fun _ _ f=>f) (fun _ _ f=>f)) (Nat.le_refl _) h
theorem bL1(k:Nat)(h1:1<=k)(h2:k<=180)(w:World)(ht:ThrK w/\ThrS w):Calls prog 185 #[.int .i32 (k:Int)] w (aR6 w ((10^k:Nat):Int)):=by
 have e1:IntKind.i64.wrap (k:Int)=(k:Int):=by rw[IntKind.wrap_i64];omega
 have HT:=hiD ht;clear ht;go_enter func185,ntmps185;go_wp2_with fail;refine(aD4 10 (by omega) _).mono ?_;rintro e w2 ⟨p1,b1,rfl,hp1,a1,k1,hb1⟩;have A1:=hiD a1;have K1:=hiD k1;clear a1 k1 hp1 hb1;go_wp2_with fail;refine(aD4 k (by omega) _).mono ?_;rintro e w3 ⟨p2,b2,rfl,hp2,a2,k2,hb2⟩;have A2:=hiD a2;have K2:=hiD k2;clear a2 k2 hp2 hb2;go_wp2_with fail;refine(cN8 k h1 h2 w w2 w3 p1 p2 b1 b2 A1.out A2.out HT.out K1.out K2.out).mono ?_;rintro e w4 h;have h':=h;obtain⟨p,b,rfl,_⟩:=h';have H:=hiD h;clear h A1 K1 A2 K2;go_wp2_with fail;go_ret;exact H.out
theorem dH0{k:Nat}(h:k<40):Sm (10^k):=by
 refine Sm.of 3 ?_ (by omega);exact Nat.lt_of_le_of_lt (Nat.pow_le_pow_right (by omega) (show k<=39 by omega)) (by unfold B64;decide)
theorem aR3(z x y:Nat)(nz n m:Int)(bz bx by_:Option Nat)(rz rx ry:List Value)(Tz Tx Ty:TypeId)(w:World)(hz:IntAt w z nz bz rz Tz)(hx:IntAt w x n bx rx Tx)(hy:IntAt w y m by_ ry Ty)(hxy:x≠y)(hzx:z=x\/(z≠x/\bz≠some x))(hzy:z≠y)(hby:bz≠some y)(hn0:n≠0)(hn:n.natAbs<B64)(hm:Sm m.natAbs):
  Calls prog 62 #[.pointer (some ⟨z,0,none⟩),.pointer (some ⟨x,0,none⟩),.pointer (some ⟨y,0,none⟩)] w (aF5 w z bz (n*m) rz Tz) :=
 bA8 z x y bz (n*m) rz Tz w (bA7 none z x y nz n m bz bx by_ rz rx ry Tz Tx Ty w hz hx hy hxy hzx hzy hby
  (fun W vz vx vy h1 h2 h3=>aX4 none vz vx vy bz bx by_ n.natAbs m.natAbs W h1.buf h2 h3 (by omega) hn hm))
structure Thr (w:World):Prop where
 ks:ThrK w/\ThrS w
 d:ThrD w
theorem Thr.kept{S:Nat->Prop}{w w':World}(h:Thr w)(hk:Kept S w w')(hs:∀ {k},(k=10\/k=11\/k=12\/k=15)->¬ S k):Thr w':=by
 have c:∀(b:Nat) (v:Value),(b=10\/b=11\/b=12\/b=15)->w.cell? ⟨b,0,none⟩=some v->w'.cell? ⟨b,0,none⟩=some v:=by
  intro b v hb hc;have:=hk.block b (aJ2 hc) (hs hb);rw[<- hc];simp[World.cell?,this]
 exact⟨⟨c _ _ (by simp) h.ks.1,c _ _ (by simp) h.ks.2.1,c _ _ (by simp) h.ks.2.2⟩,c _ _ (by simp) h.d⟩
theorem Thr.old{w w':World}(h:Thr w)(hk:Kept (fun _=>False) w w'):Thr w':=h.kept hk (fun _ f=>f)
theorem Thr.ne{w:World}{p k:Nat}{n:Int}{b:Option Nat}{r:List Value}{T:TypeId}(h:Thr w)(hp:IntAt w p n b r T)(hk:k=10\/k=11\/k=12\/k=15):k≠p:=by
 rintro rfl;obtain⟨v,h1,_⟩:=hp;obtain⟨c0,_⟩:=aA5 h1;have h2:=h.ks.1;have h3:=h.ks.2.1;have h4:=h.ks.2.2;have h5:=h.d;unfold ThrK at h2;unfold ThrD at h5;rcases hk with rfl|rfl|rfl|rfl
 ·rw[c0]at h3;injection h3 with h3;cases h3
 ·rw[c0]at h4;injection h4 with h4;cases h4
 ·rw[c0]at h2;injection h2 with h2;cases h2
 ·rw[c0]at h5;injection h5 with h5;cases h5
theorem bI1{N:Int}(hN:Sm N.natAbs):DivOK N 1 :=
 fun bx by_ W vz vr vx vy h1 h2 h3 h4=>aQ2 none vz vr vx vy none none bx by_ N.natAbs 1 W h1.buf h2.buf h4 h3 (by unfold B64;decide) (by omega) (fun _ h=>by cases h) (cJ0 vz vx none bx N.natAbs W h1.buf h3 hN)
def cX3(w:World)(N D:Int):Prop:=∀(bx by_:Option Nat) (W:World) (vz vr vx vy:Value),W.heap=(w.alloc zInt).heap->NatAt W vz 0 none->NatAt W vr 0 none->NatAt W vx N.natAbs bx->NatAt W vy D.natAbs by_->Calls prog 196 #[vz,.pointer none,vr,vx,vy] W (QR W none none (quoN N.natAbs D.natAbs) (remN N.natAbs D.natAbs))
theorem bV5{w w':World}(h:w'.heap=w.heap)(p:Addr):w'.cell? p=w.cell? p:=by unfold World.cell?;rw[h]
theorem cN9{w:World}{N D:Int}(ht:Thr w)(hN:(dig N.natAbs).length<=900)(hD0:D≠0)(hD:(dig D.natAbs).length<40)(hT:TopOk D.natAbs):cX3 w N D:=by
 intro bx by_ W vz vr vx vy hh h1 h2 h3 h4;have hd:ThrD W:=by
  unfold ThrD;rw[bV5 hh];exact(ht.old ((Kept.refl (fun _=>False) w).alloc zInt)).d
 exact cX1 vz vr vx vy none none bx by_ N.natAbs D.natAbs W h1.buf h2.buf h3 h4 (by omega) hN hD hT (fun _ h=>by cases h) (fun _ h=>by cases h) (by simp) hd
theorem QSt.divL{w0 w:World}{z rn rd ix iy:Nat}{s N D:Int}(h:QSt w z rn rd ix iy s N D)(hk0:Kept (fun k=>k=z) w0 w)(hD:D≠0)(hdiv:cX3 w N D):
  Calls prog 158 #[.pointer (some ⟨z,0,none⟩),.pointer (some ⟨ix,0,none⟩),.pointer (some ⟨iy,0,none⟩),.pointer (some ⟨w.heap.size,0,none⟩)] (w.alloc zInt) fun e w' =>
   e=.returned (.tuple #[.pointer (some ⟨z,0,none⟩),.pointer (some ⟨w.heap.size,0,none⟩)])/\QEnd w0 w' z rn rd iy w.heap.size (N.tdiv D) s D (N.tmod D):=by
 have ka:Kept (fun _=>False) w (w.alloc zInt):=(Kept.refl _ _).alloc _;have h':=h.old ka;obtain⟨a1,a2,a3,a4,a5,a6,⟨bx,rx,Tx,a7,a8,a9,a10⟩,⟨by_,ry,Ty,a11,a12,a13,a14⟩⟩:=h;obtain⟨c1,c2,c3,_,_,_,⟨bx',rx',Tx',c7,_⟩,⟨by',ry',Ty',c11,_⟩⟩:=h';have l1:=IntAt.lt a1;have l2:=a2.lt;have l3:=a3.lt;have lx:=a7.lt;have ly:=a11.lt;have d7:=a7.old ka;have d11:=a11.old ka;refine(aQ3 z ix iy w.heap.size 0 N D 0 none bx by_ none _ rx ry [] 112 Tx Ty 109 (w.alloc zInt) c1 d7 d11 (aG7 w) a8.1 a12.1 (by omega) (by omega) (by omega) ⟨by simp,by simp,by simp,by simp,by simp,by simp⟩ hD
  (fun W vz vr vx vy hh=>hdiv bx by_ W vz vr vx vy hh)).mono ?_
 rintro e w' ⟨rfl,bq,bs,e1,e2,ek,o1,o2,oa⟩;have hbq:∀ k,bq=some k->w.heap.size+1<=k:=by
  intro k hk;rcases o1 with o1|⟨j,hj,hjs⟩
  ·rw[o1]at hk;cases hk
  ·rw[hj]at hk;injection hk with hk;simp at hjs;omega
 have hbs:∀ k,bs=some k->w.heap.size+1<=k:=by
  intro k hk;rcases o2 with o2|⟨j,hj,hjs⟩
  ·rw[o2]at hk;cases hk
  ·rw[hj]at hk;injection hk with hk;simp at hjs;omega
 have hnot:∀ p b,p<w.heap.size->(∀ k,b=some k->k<w.heap.size)->p≠z->b≠some z->(¬ (p=z\/p=w.heap.size\/(none:Option Nat)=some p\/(none:Option Nat)=some p))/\∀ k,b=some k->¬ (k=z\/k=w.heap.size\/(none:Option Nat)=some k\/(none:Option Nat)=some k):=by
  intro p b hp hb h1 h2;refine⟨?_,fun k hk=>?_⟩
  ·rintro(h|h|h|h)
   ·exact h1 h
   ·omega
   ·cases h
   ·cases h
  ·rintro(h|h|h|h)
   ·subst h;exact h2 hk
   ·have:=hb k hk;omega
   ·cases h
   ·cases h
 obtain⟨n1,n2⟩:=hnot rn none l2 (by simp) a4.symm (by simp);obtain⟨m1,m2⟩:=hnot rd none l3 (by simp) a5.symm (by simp);obtain⟨y1,y2⟩:=hnot iy by_ ly a11.lts (fun e=>a12.1 e.symm) a12.2.2.1;have sepn:∀ p b q,p≠q->(∀ k,b=some k->w.heap.size+1<=k)->p<w.heap.size->Sep p none q b:=fun p b q h1 h2 h3=>⟨h1,by simp,fun e=>by have:=h2 _ e;omega,by simp⟩;refine⟨rfl,⟨bq,e1,fun k hk=>by have:=hbq k hk;have:=hk0.size;omega,sepn _ _ _ a4.symm hbq l2,sepn _ _ _ a5.symm hbq l3⟩,⟨bs,e2,sepn _ _ _ (by omega) hbs l2,sepn _ _ _ (by omega) hbs l3⟩,c2.kept ek n1 n2,c3.kept ek m1 m2,a6,⟨by_,ry,Ty,d11.kept ek y1 y2,a13,a14⟩,?_⟩;refine(hk0.trans ka (fun _ _ h=>h) (fun _ _ f=>f.elim)).trans ek (fun _ _ h=>h) (fun i hi h=>?_);have:=hk0.size;rcases h with h|h|h|h
 ·exact h
 ·omega
 ·cases h
 ·cases h
theorem bV6(k M:Nat)(hM:10^k=M)(hk1:1<=k)(hk:k<=180)(z x y rn rd:Nat)(n m sc s:Int)(b c:Option Nat)(w:World)(hq:QArgs w z rn rd)(hx:DecAt w x n sc b)(hy:DecAt w y m 0 c)(sx:Sep z none x b/\Sep rn none x b/\Sep rd none x b)(sy:Sep z none y c/\Sep rn none y c/\Sep rd none y c)(hs:sc-s=(k:Int))(hb:-1000000000<=s/\s<=1000000000 /\ -1000000000<=sc/\sc<=1000000000)(hD:(m*(M:Int))≠0)(ht:Thr w)(hm0:m≠0)(hm1:m.natAbs<B64)(hdv:∀ w,Thr w->cX3 w n (m*(M:Int)))(hRs:Sm (n.tmod (m*(M:Int))).natAbs)(hms:Sm (m*(M:Int)).natAbs)(hfs:Sm M):
  Calls prog 180 #[.pointer (some ⟨z,0,none⟩),.pointer (some ⟨x,0,none⟩),.pointer (some ⟨y,0,none⟩),.int .i32 s,.bool true,.pointer (some ⟨rn,0,none⟩),.pointer (some ⟨rd,0,none⟩)] w (QRD w z rn rd (n.tdiv (m*(M:Int))) (n.tmod (m*(M:Int))) (m*(M:Int)) s):=by
 have hM0:M≠0:=by have:=Nat.pow_pos (n:=k) (show 0<10 by omega);omega
 have HT:=hiD ht;clear ht;have HM:=hiD hM;have e1:IntKind.i32.wrap (sc-0)=sc:=by rw[IntKind.wrap_i32];omega
 have e2:s-sc = -(k:Int):=by omega
 have g2:decide ((0:Int) < -(k:Int))=false:=decF (by omega);have g3:decide (-(k:Int)<0)=true:=decT (by omega);have HX:=hiD hx;have HY:=hiD hy;have hdiv:=hiD hdv;have hR:=hiD hRs;have hDs:=hiD hms;have HFS:=hiD hfs;have HQ:=hiD hq;have SX:=hiD sx;have SY:=hiD sy;clear hq hx hy sx sy hdv hRs hms hM hfs;go_enter func180,ntmps180;go_wp2_with fail;refine(aB4 x n sc b w HX.out).mono ?_;rintro e w1 ⟨rfl,rfl⟩;go_wp2_with fail;refine(aB4 y m 0 c w HY.out).mono ?_;rintro e w1 ⟨rfl,rfl⟩
 go_wp2_with fail;refine(aA4 x n sc b w HX.out).mono ?_;rintro e w1 ⟨rfl,rfl⟩;go_wp2_with fail;have ka:Kept (fun _=>False) w (w.alloc zInt):=(Kept.refl _ _).alloc _;have KA:=hiD ka;clear ka;refine(aA4 y m 0 c (w.alloc zInt) (IntAt.old HY.out KA.out)).mono ?_;rintro e w1 ⟨rfl,rfl⟩;go_wp2_with fail;refine(bL1 k hk1 hk _ (HT.out.old KA.out).ks).mono ?_;rintro e w2 ⟨p2,b2,rfl,hp2,a2,k2,q2⟩;rw[HM.out]at a2;have A2:=hiD a2;have K2:=hiD k2;have P2:Hid (w.heap.size+1<=p2):=hiD (by simpa using hp2);clear a2 k2 q2 hp2;go_wp2_with fail;have hlf:=IntAt.lt HY.out;refine(aR3 w.heap.size y p2 0 m (M:Int) none c b2 [] _ [] 109 112 109 w2 ((aG7 w).old K2.out) ((IntAt.old HY.out KA.out).old K2.out) A2.out (by have:=P2.out;omega) (Or.inr ⟨by omega,by simp⟩) (by have:=P2.out;omega) (by simp) hm0 hm1 (by rw[Int.natAbs_natCast];exact HFS.out)).mono ?_;rintro e w4 h;obtain⟨p4,b4,rfl,hp4,a4,k4,q4⟩:=bC5 (w:=w) (w1:=w2) (Nat.le_refl _) (KA.out.trans K2.out (fun _ _ f=>f) (fun _ _ f=>f)) (Nat.le_refl _) h;have A4:=hiD a4;have K4:=hiD k4;have P4:=hiD hp4;have Q4:=hiD q4;clear h a4 k4 hp4 q4 A2 K2 P2 hlf;go_wp2_with fail;have QS:Hid (QSt w4 z rn rd x p4 0 n (m*(M:Int))):=by
  have hQ:=HQ.out.old K4.out;have sn:∀ {q:Nat},q<w.heap.size->Sep q none p4 b4:=fun h=>bN5 (w':=w) h P4.out Q4.out;exact⟨hQ.hz,hQ.hn,hQ.hd,hQ.zn,hQ.zd,hQ.nd,⟨b,_,_,IntAt.old HX.out K4.out,SX.out⟩,⟨b4,[],109,A4.out,sn (IntAt.lt HQ.out.hz),sn HQ.out.hn.lt,sn HQ.out.hd.lt⟩⟩
 have KW:Hid (Kept (fun _=>False) w w4):=K4.out;have HQZ:Hid (DecAt w z 0 0 none):=HQ.out.hz;clear HQ SX SY;have hqe:(binOp .eql 117 (.pointer (some ⟨p4,0,none⟩)) (.pointer (some ⟨z,0,none⟩))).run prog w4=.ok (.bool false) w4:=by
  obtain⟨a1,a2,a3,a4,a5,a6,⟨bx,rx,Tx,a7,a8⟩,⟨by_,ry,Ty,⟨vy,y1,_⟩,a12⟩⟩:=QS.out;obtain⟨vz,z1,_⟩:=a1;exact aE8 a12.1.1.symm y1 z1
 go_wp2_with fail;refine(aA4 z 0 0 none w4 QS.out.hz).mono ?_;rintro e w9 ⟨rfl,rfl⟩;go_wp2_with fail;refine(aC6 z 0 0 s none w4 QS.out.hz).mono ?_;rintro e w10 ⟨rfl,h1,h2⟩;have QT:=hiD (QS.out.scale h1 h2);have KT:=hiD (aY4 KW.out h2);have HT10:=hiD (HT.out.kept KT.out (fun e=>HT.out.ne HQZ.out e));clear h1 h2 QS KW hqe;go_wp2_with fail;refine(aA4 z 0 s none w10 QT.out.hz).mono ?_;rintro e w11 ⟨rfl,rfl⟩;go_wp2_with fail;refine(QT.out.divL KT.out hD (hdiv.out _ HT10.out)).mono ?_;rintro e w11 ⟨rfl,h1⟩;have QE:=hiD h1;clear h1 QT KT;go_wp2_with fail;refine(QE.out.num hR.out).mono ?_;rintro e w12 ⟨rfl,h1⟩;have QN:=hiD h1;clear h1 QE;go_wp2_with fail;refine(QEnd.den QN.out hDs.out).mono ?_;rintro e w13 ⟨rfl,h1⟩;have QF:=hiD h1;clear h1 QN;go_wp2_with fail;go_ret3;exact QF.out
theorem cO0(k M:Nat)(hM:10^k=M)(hk1:1<=k)(hk:k<40)(z x y rn rd:Nat)(n m sc s:Int)(b c:Option Nat)(w:World)(hq:QArgs w z rn rd)(hx:DecAt w x n sc b)(hy:DecAt w y m 0 c)(sx:Sep z none x b/\Sep rn none x b/\Sep rd none x b)(sy:Sep z none y c/\Sep rn none y c/\Sep rd none y c)(hs:s-sc=(k:Int))(hb:-1000000000<=s/\s<=1000000000 /\ -1000000000<=sc/\sc<=1000000000)(hD:m≠0)(hdv:DivOK (n*(M:Int)) m)(hRs:Sm ((n*(M:Int)).tmod m).natAbs)(hms:Sm m.natAbs)(hn0:n≠0)(hn1:n.natAbs<B64)(hfs:Sm M):
  Calls prog 180 #[.pointer (some ⟨z,0,none⟩),.pointer (some ⟨x,0,none⟩),.pointer (some ⟨y,0,none⟩),.int .i32 s,.bool true,.pointer (some ⟨rn,0,none⟩),.pointer (some ⟨rd,0,none⟩)] w (QRD w z rn rd ((n*(M:Int)).tdiv m) ((n*(M:Int)).tmod m) m s):=by
 have hM0:M≠0:=by have:=Nat.pow_pos (n:=k) (show 0<10 by omega);omega
 have HM:=hiD hM;have e1:IntKind.i32.wrap (sc-0)=sc:=by rw[IntKind.wrap_i32];omega
 have e2:s-sc=(k:Int):=hs;have g2:decide ((0:Int)<(k:Int))=true:=decT (by omega);have HX:=hiD hx;have HY:=hiD hy;have hdiv:=hiD hdv;have hR:=hiD hRs;have hDs:=hiD hms;have HFS:=hiD hfs;have HQ:=hiD hq;have SX:=hiD sx;have SY:=hiD sy;clear hq hx hy sx sy hdv hRs hms hM hfs;go_enter func180,ntmps180;go_wp2_with fail;refine(aB4 x n sc b w HX.out).mono ?_;rintro e w1 ⟨rfl,rfl⟩;go_wp2_with fail;refine(aB4 y m 0 c w HY.out).mono ?_;rintro e w1 ⟨rfl,rfl⟩
 go_wp2_with fail;have ka:Kept (fun _=>False) w (w.alloc zInt):=(Kept.refl _ _).alloc _;have KA:=hiD ka;clear ka;refine(aA4 x n sc b (w.alloc zInt) (IntAt.old HX.out KA.out)).mono ?_;rintro e w1 ⟨rfl,rfl⟩;go_wp2_with fail;refine(aX6 k hk1 (by omega) _).mono ?_;rintro e w2 ⟨p2,b2,rfl,hp2,a2,k2,q2⟩;rw[HM.out]at a2;have A2:=hiD a2;have K2:=hiD k2;have P2:Hid (w.heap.size+1<=p2):=hiD (by simpa using hp2);clear a2 k2 q2 hp2;go_wp2_with fail;have hlf:=IntAt.lt HX.out;refine(aR3 w.heap.size x p2 0 n (M:Int) none b b2 [] _ [] 109 112 109 w2 ((aG7 w).old K2.out) ((IntAt.old HX.out KA.out).old K2.out) A2.out (by have:=P2.out;omega) (Or.inr ⟨by omega,by simp⟩) (by have:=P2.out;omega) (by simp) hn0 hn1 (by rw[Int.natAbs_natCast];exact HFS.out)).mono ?_;rintro e w4 h;obtain⟨p4,b4,rfl,hp4,a4,k4,q4⟩:=bC5 (w:=w) (w1:=w2) (Nat.le_refl _) (KA.out.trans K2.out (fun _ _ f=>f) (fun _ _ f=>f)) (Nat.le_refl _) h;have A4:=hiD a4;have K4:=hiD k4;have P4:=hiD hp4;have Q4:=hiD q4;clear h a4 k4 hp4 q4 A2 K2 P2 hlf;go_wp2_with fail;refine(aA4 y m 0 c w4 (IntAt.old HY.out K4.out)).mono ?_;rintro e w5 ⟨rfl,rfl⟩;have QS:Hid (QSt w4 z rn rd p4 y 0 (n*(M:Int)) m):=by
  have hQ:=HQ.out.old K4.out;have sn:∀ {q:Nat},q<w.heap.size->Sep q none p4 b4:=fun h=>bN5 (w':=w) h P4.out Q4.out;exact⟨hQ.hz,hQ.hn,hQ.hd,hQ.zn,hQ.zd,hQ.nd,⟨b4,[],109,A4.out,sn (IntAt.lt HQ.out.hz),sn HQ.out.hn.lt,sn HQ.out.hd.lt⟩,⟨c,_,_,IntAt.old HY.out K4.out,SY.out⟩⟩
 have KW:Hid (Kept (fun _=>False) w w4):=K4.out;clear HQ SX SY;have hqe:(binOp .eql 117 (.pointer (some ⟨y,0,none⟩)) (.pointer (some ⟨z,0,none⟩))).run prog w4=.ok (.bool false) w4:=by
  obtain⟨a1,a2,a3,a4,a5,a6,⟨bx,rx,Tx,a7,a8⟩,⟨by_,ry,Ty,⟨vy,y1,_⟩,a12⟩⟩:=QS.out;obtain⟨vz,z1,_⟩:=a1;exact aE8 a12.1.1.symm y1 z1
 go_wp2_with fail;refine(aA4 z 0 0 none w4 QS.out.hz).mono ?_;rintro e w9 ⟨rfl,rfl⟩;go_wp2_with fail;refine(aC6 z 0 0 s none w4 QS.out.hz).mono ?_;rintro e w10 ⟨rfl,h1,h2⟩;have QT:=hiD (QS.out.scale h1 h2);have KT:=hiD (aY4 KW.out h2);clear h1 h2 QS KW hqe;go_wp2_with fail;refine(aA4 z 0 s none w10 QT.out.hz).mono ?_;rintro e w11 ⟨rfl,rfl⟩;go_wp2_with fail;refine(QT.out.div KT.out hD hdiv.out).mono ?_;rintro e w11 ⟨rfl,h1⟩;have QE:=hiD h1;clear h1 QT KT;go_wp2_with fail;refine(QE.out.num hR.out).mono ?_;rintro e w12 ⟨rfl,h1⟩;have QN:=hiD h1;clear h1 QE;go_wp2_with fail;refine(QEnd.den QN.out hDs.out).mono ?_;rintro e w13 ⟨rfl,h1⟩;have QF:=hiD h1;clear h1 QN;go_wp2_with fail;go_ret3;exact QF.out
theorem cC4{w:World}{x y:Nat}{n s:Int}{b c:Option Nat}(hx:DecAt w x n s b)(hy:DecAt w y 1 0 c)(hb:-1000000000<=s/\s<=1000000000)(hn:Sm n.natAbs):QuoOK w x y n 1 s:=by
 intro w' z rn rd hk hz hrn hrd hq;have:=bG2 z x y rn rd n 1 s s b c w' hq (IntAt.old hx hk) (IntAt.old hy hk) (aE9 hz hrn hrd (IntAt.lt hx) (IntAt.lts hx)) (aE9 hz hrn hrd (IntAt.lt hy) (IntAt.lts hy)) rfl (by omega) (by omega)
  (bI1 hn) (by rw[Int.tmod_one];exact Sm.one (by unfold B64;decide)) (Sm.one (by unfold B64;decide))
 rw[Int.tdiv_one,Int.tmod_one]at this;exact this
theorem cX4{w:World}{x y k M:Nat}{n sc s:Int}{b c:Option Nat}(hM:10^k=M)(hk1:1<=k)(hk:k<20)(hs:s-sc=(k:Int))(hx:DecAt w x n sc b)(hy:DecAt w y 1 0 c)(hb:-1000000000<=s/\s<=1000000000 /\ -1000000000<=sc/\sc<=1000000000)(hn:Sm (n*(M:Int)).natAbs)(hfs:Sm n.natAbs):QuoOK w x y (n*(M:Int)) 1 s:=by
 intro w' z rn rd hkw hz hrn hrd hq;have:=bT6 k M hM hk1 hk z x y rn rd n 1 sc s b c w' hq (IntAt.old hx hkw) (IntAt.old hy hkw) (aE9 hz hrn hrd (IntAt.lt hx) (IntAt.lts hx)) (aE9 hz hrn hrd (IntAt.lt hy) (IntAt.lts hy)) hs hb (by omega)
  (bI1 hn) (by rw[Int.tmod_one];exact Sm.one (by unfold B64;decide)) (Sm.one (by unfold B64;decide)) hfs
 rw[Int.tdiv_one,Int.tmod_one]at this;exact this
theorem cX5{w:World}{x y k M:Nat}{n sc s:Int}{b c:Option Nat}(hM:10^k=M)(hk1:1<=k)(hk:k<40)(hs:s-sc=(k:Int))(hx:DecAt w x n sc b)(hy:DecAt w y 1 0 c)(hb:-1000000000<=s/\s<=1000000000 /\ -1000000000<=sc/\sc<=1000000000)(hn:Sm (n*(M:Int)).natAbs)(hn0:n≠0)(hn1:n.natAbs<B64)(hfs:Sm M):QuoOK w x y (n*(M:Int)) 1 s:=by
 intro w' z rn rd hkw hz hrn hrd hq;have:=cO0 k M hM hk1 hk z x y rn rd n 1 sc s b c w' hq (IntAt.old hx hkw) (IntAt.old hy hkw) (aE9 hz hrn hrd (IntAt.lt hx) (IntAt.lts hx)) (aE9 hz hrn hrd (IntAt.lt hy) (IntAt.lts hy)) hs hb (by omega)
  (bI1 hn) (by rw[Int.tmod_one];exact Sm.one (by unfold B64;decide)) (Sm.one (by unfold B64;decide)) hn0 hn1 hfs
 rw[Int.tdiv_one,Int.tmod_one]at this;exact this
theorem cC5{w:World}{x y k M:Nat}{n sc s:Int}{b c:Option Nat}(hM:10^k=M)(hk1:1<=k)(hk:k<=180)(hs:sc-s=(k:Int))(hx:DecAt w x n sc b)(hy:DecAt w y 1 0 c)(hb:-1000000000<=s/\s<=1000000000 /\ -1000000000<=sc/\sc<=1000000000)(ht:Thr w)(hn:(dig n.natAbs).length<=900)(hMl:(dig M).length<40)(hMt:TopOk M)(hr:n.tmod (M:Int)=0):QuoOK w x y (n.tdiv (M:Int)) (M:Int) s:=by
 intro w' z rn rd hkw hz hrn hrd hq;have hM0:M≠0:=by have:=Nat.pow_pos (n:=k) (show 0<10 by omega);omega
 have hMs:Sm M:=by show(dig M).length<=100000;omega
 have:=bV6 k M hM hk1 hk z x y rn rd n 1 sc s b c w' hq (IntAt.old hx hkw) (IntAt.old hy hkw) (aE9 hz hrn hrd (IntAt.lt hx) (IntAt.lts hx)) (aE9 hz hrn hrd (IntAt.lt hy) (IntAt.lts hy)) hs hb (by rw[Int.one_mul];omega) (ht.old hkw) (by omega) (by unfold B64;decide)
  (by intro W hW;rw[Int.one_mul];exact cN9 hW hn (by omega) (by rw[Int.natAbs_natCast];exact hMl) (by rw[Int.natAbs_natCast];exact hMt)) (by rw[Int.one_mul,hr];exact Sm.one (by unfold B64;decide)) (by rw[Int.one_mul,Int.natAbs_natCast];exact hMs) hMs
 rw[Int.one_mul,hr]at this;exact this
theorem cX6{k:Nat}(h:k<=180):10^k<B64^10:=Nat.lt_of_le_of_lt (Nat.pow_le_pow_right (by omega) h) (by unfold B64;decide)
theorem cX7{k:Nat}(h:k<=180):Sm (10^k):=Sm.of 10 (cX6 h) (by omega)
theorem dS6{a k:Nat}(ha:a<B64)(h:k<=180):Sm (a*10^k):=by
 refine Sm.of 11 ?_ (by omega);rw[show(11:Nat)=10+1 from rfl,Nat.pow_succ,Nat.mul_comm (B64^10)];exact Nat.mul_lt_mul'' ha (cX6 h)
theorem bP2(s:Option Addr)(z x y:Value)(bz bx by_:Option Nat)(m:Nat)(w:World)(hz:BufAt w z bz)(hx:NatAt w x 0 bx)(hy:NatAt w y m by_)(hm0:m≠0):
  Calls prog 139 #[z,.pointer s,x,y] w (aH4 w bz (0*m)):=by
 obtain⟨a,c,rfl⟩:=aJ9 hx;obtain⟨a',c',rfl⟩:=aB6 hy;obtain⟨az,lz,cz,rfl,hz2⟩:=aH7 hz;have H:=hiD (bZ4 s az lz cz a' (dig m).length c' a c w);have HR:Hid (aH4 w bz (0*m) (.returned (.slice az 0 cz)) w):=⟨_,bz,rfl,by rw[Nat.zero_mul];exact hz2,Kept.refl _ _,Or.inl rfl⟩;have hp:=aB3 hm0;clear hz hx hy hz2 hm0;generalize(dig m).length=L at *;have a1:decide ((0:Int)<(L:Int))=true:=decT (by omega);go_enter func139,ntmps139;go_wp2_with fail;refine H.out.mono ?_;rintro e w1 ⟨rfl,rfl⟩;go_wp2_with fail;go_ret;exact HR.out
theorem bP3(z x y:Nat)(nz n m:Int)(bz bx by_:Option Nat)(rz rx ry:List Value)(Tz Tx Ty:TypeId)(w:World)(hz:IntAt w z nz bz rz Tz)(hx:IntAt w x n bx rx Tx)(hy:IntAt w y m by_ ry Ty)(hxy:x≠y)(hzx:z=x\/(z≠x/\bz≠some x))(hzy:z≠y)(hby:bz≠some y)(hn:n.natAbs<B64)(hm0:m.natAbs≠0)(hm:Sm m.natAbs):
  Calls prog 62 #[.pointer (some ⟨z,0,none⟩),.pointer (some ⟨x,0,none⟩),.pointer (some ⟨y,0,none⟩)] w (aF5 w z bz (n*m) rz Tz):=by
 by_cases hn0:n=0
 ·subst hn0;exact bA8 z x y bz (0*m) rz Tz w (bA7 none z x y nz 0 m bz bx by_ rz rx ry Tz Tx Ty w hz hx hy hxy hzx hzy hby
   (fun W vz vx vy h1 h2 h3=>bP2 none vz vx vy bz bx by_ m.natAbs W h1.buf h2 h3 hm0))
 ·exact aR3 z x y nz n m bz bx by_ rz rx ry Tz Tx Ty w hz hx hy hxy hzx hzy hby hn0 hn hm
theorem bD8(p k M:Nat)(hM:10^k=M)(n sc sc':Int)(b:Option Nat)(w:World)(hp:DecAt w p n sc b)(hk1:1<=k)(hk:k<=180)(hsc:sc'-sc=(k:Int))(hb1:-2000000000<=sc)(hb2:sc'<=2000000000)(hn:n.natAbs<B64)(ht:Thr w):
  Calls prog 146 #[.pointer (some ⟨p,0,none⟩),.int .i32 sc'] w (NewD w (n*(M:Int)) sc'):=by
 have hM0:M≠0:=by have:=Nat.pow_pos (n:=k) (show 0<10 by omega);omega
 have hMw:Sm M:=by rw[<- hM];exact cX7 hk
 have hMm:Sm (n.natAbs*M):=by rw[<- hM];exact dS6 hn hk
 have HM:=hiD hM;have HT:=hiD ht;clear hM ht;have HP:=hiD hp;have HN:=hiD hn;have e1:IntKind.i32.wrap (sc'-sc)=(k:Int):=by rw[hsc,IntKind.wrap_i32];omega
 have g1:decide ((k:Int)<0)=false:=decF (by omega);have g2:decide ((0:Int)<(k:Int))=true:=decT (by omega);clear hp hn;go_enter func146,ntmps146;go_wp2_with fail;refine(aB4 p n sc b w HP.out).mono ?_;rintro e w1 ⟨rfl,rfl⟩;rw[hsc]at e1;go_wp2_with fail;refine(bL1 k hk1 hk _ HT.out.ks).mono ?_;rintro e w2 ⟨y,by_,rfl,hy,ay,ky,qy⟩;rw[HM.out]at ay;have AY:=hiD ay;have KY:=hiD ky;have hpy:p<w.heap.size:=HP.out.lt;have HPY:Hid (p≠y):=by intro e;omega
 have HP2:=hiD (HP.out.old ky);clear ay ky qy hy;go_wp2_with fail;refine(aA4 p n sc b (w2.alloc zInt) (HP2.out.old ((Kept.refl _ _).alloc _))).mono ?_;rintro e w3 ⟨rfl,rfl⟩;go_wp2_with fail;have hz:=aG7 w2;have hyl:=AY.out.lt;refine(bP3 w2.heap.size p y 0 n (M:Int) none b by_ [] _ [] 109 112 109 (w2.alloc zInt) hz (HP2.out.old ((Kept.refl _ _).alloc _)) (AY.out.old ((Kept.refl _ _).alloc _)) HPY.out (Or.inr ⟨by have:=HP2.out.lt;omega,by simp⟩) (by omega) (by simp) HN.out (by rw[Int.natAbs_natCast];exact hM0) (by rw[Int.natAbs_natCast];exact hMw)).mono ?_;rintro e w4 h;have hnew:=bC5 (w1:=w2.alloc zInt) (Nat.le_refl _) (KY.out.trans ((Kept.refl (fun _=>False) w2).alloc zInt) (fun _ _ f=>f) (fun _ _ f=>f)) KY.out.size h;obtain⟨z,bz,rfl,hz1,az,kz,qz⟩:=hnew;have AZ:=hiD az;have KZ:=hiD kz;clear h hz az kz qz hz1;go_wp2_with fail;refine(aY2 z (n*(M:Int)) sc' bz [] 109 w4 AZ.out ?_).mono ?_
 ·rw[Int.natAbs_mul,Int.natAbs_natCast];exact hMm
 rintro e w5 ⟨q,bq,rfl,hq,aq,kq,qq⟩;have HF:Hid (NewD w (n*(M:Int)) sc' (.returned (.pointer (some ⟨q,0,none⟩))) w5):=⟨q,bq,rfl,by have:=KZ.out.size;omega,aq,KZ.out.trans kq (fun _ _ f=>f) (fun _ _ f=>f),fun k hk=>by have:=KZ.out.size;have:=qq k hk;omega⟩;clear aq kq qq hq;go_wp2_with fail;go_ret;exact HF.out
theorem cC6(p q k M:Nat)(hM:10^k=M)(n m sc sd:Int)(b c:Option Nat)(w:World)(hp:DecAt w p n sc b)(hq:DecAt w q m sd c)(hk1:1<=k)(hk:k<=180)(hsc:sc-sd=(k:Int))(hb1:-2000000000<=sd)(hb2:sc<=2000000000)(hn:m.natAbs<B64)(ht:Thr w):
  Calls prog 108 #[.pointer (some ⟨p,0,none⟩),.pointer (some ⟨q,0,none⟩)] w fun e w'=>∃ r,e=.returned (.tuple #[.pointer (some ⟨p,0,none⟩),.pointer (some ⟨r,0,none⟩)])/\NewD w (m*(M:Int)) sc (.returned (.pointer (some ⟨r,0,none⟩))) w':=by
 have HP:=hiD hp;have HQ:=hiD hq;have HR:=hiD (bD8 q k M hM m sd sc c w hq hk1 hk hsc hb1 hb2 hn ht);have g1:(sc==sd)=false:=beqF (by omega);have g2:decide (sd<sc)=true:=decT (by omega);clear hp hq hM;go_enter func108,ntmps108;go_wp2_with fail;refine(aB4 p n sc b w HP.out).mono ?_;rintro e w1 ⟨rfl,rfl⟩;go_wp2_with fail;refine(aB4 q m sd c w HQ.out).mono ?_;rintro e w1 ⟨rfl,rfl⟩;go_wp2_with fail;refine(aB4 p n sc b w HP.out).mono ?_;rintro e w1 ⟨rfl,rfl⟩;go_wp2_with fail;refine(aB4 q m sd c w HQ.out).mono ?_;rintro e w1 ⟨rfl,rfl⟩;go_wp2_with fail;refine(aB4 p n sc b w HP.out).mono ?_;rintro e w1 ⟨rfl,rfl⟩;go_wp2_with fail;refine HR.out.mono ?_;intro e w2 h;have h':=h;obtain⟨r,br,rfl,_⟩:=h';have H:=hiD h;clear h;go_wp2_with fail;go_ret2;exact⟨r,rfl,H.out⟩
theorem cC7(p q k M:Nat)(hM:10^k=M)(n m sc sd:Int)(b c:Option Nat)(w:World)(hp:DecAt w p n sc b)(hq:DecAt w q m sd c)(hk1:1<=k)(hk:k<=180)(hsc:sc-sd=(k:Int))(hb1:-2000000000<=sd)(hb2:sc<=2000000000)(hn:m.natAbs<B64)(ht:Thr w):
  Calls prog 68 #[.pointer (some ⟨p,0,none⟩),.pointer (some ⟨q,0,none⟩)] w (aL8 w (cmpZ n (m*(M:Int)))):=by
 refine aU3 p q n _ w ((cC6 p q k M hM n m sc sd b c w hp hq hk1 hk hsc hb1 hb2 hn ht).mono ?_);rintro e w1 ⟨r,rfl,r',br,he,hr,ar,kr,qr⟩;injection he with he;injection he with he;injection he with he;injection he with he;subst he;exact⟨p,r,b,br,sc,rfl,by have:=IntAt.lt hp;omega,IntAt.old hp kr,ar,kr⟩
theorem cC8{n:Nat}(h:n≠0):(dig n).length=n.log2/64+1:=by
 have h1:2^n.log2<=n:=Nat.log2_self_le h;have h2:n<2^(n.log2+1):=Nat.lt_log2_self;generalize n.log2=k at *;have hB:∀ j,B64^j=2^(64*j):=fun j=>by rw[Nat.pow_mul];rfl
 have a:n<B64^(k/64+1):=by
  rw[hB];exact Nat.lt_of_lt_of_le h2 (Nat.pow_le_pow_right (by omega) (by omega))
 have b:B64^(k/64)<=n:=by
  rw[hB];exact Nat.le_trans (Nat.pow_le_pow_right (by omega) (by omega)) h1
 have:=aD3 a;have:=cK3 b;omega
def tenOK(k:Nat):Bool :=
 let n:=10^k
 let L:=n.log2/64
 let P:=B64^L
 decide (n*2^shl64 (n/P)/P≠B64-1)&&decide (L+1<12)
theorem cX8:(List.range 181).all tenOK=true:=by decide +kernel
theorem cX9{k:Nat}(h:k<=180):TopOk (10^k)/\(dig (10^k)).length<12:=by
 have h0:=List.all_eq_true.1 cX8 k (List.mem_range.2 (by omega));have hn:10^k≠0:=Nat.pos_iff_ne_zero.1 (Nat.pow_pos (by omega));simp only[tenOK,Bool.and_eq_true,decide_eq_true_eq]at h0;have hl:=cC8 hn;refine⟨?_,by omega⟩;unfold TopOk topW;rw[hl,Nat.add_sub_cancel];exact h0.1
theorem bI2(z x:Nat)(nz sz n q sc s:Int)(bz b:Option Nat)(w:World)(hz:DecAt w z nz sz bz)(hx:DecAt w x n sc b)(ht:Thr w)(hn0:n≠0)(hl:(dig n.natAbs).length<=900)(hql:Sm q.natAbs)(hb:-1000<=s/\s<=1000 /\ -1000<=sc/\sc<=1000)(hcase:(sc=s/\q=n)\/(∃ k:Nat,k<=180/\1<=k/\sc-s=(k:Int)/\n=q*((10^k:Nat):Int))\/(∃ k:Nat,1<=k/\k<40/\s-sc=(k:Int)/\q=n*((10^k:Nat):Int)/\(k<20\/n.natAbs<B64))):
  Calls prog 66 #[.pointer (some ⟨z,0,none⟩),.pointer (some ⟨x,0,none⟩),.int .i32 s,RU] w (aG3 w z bz q s):=by
 have hsn:Sm n.natAbs:=by show(dig n.natAbs).length<=100000;omega
 rcases hcase with⟨rfl,rfl⟩|⟨k,hk,hk1,hks,rfl⟩|⟨k,hk1,hk,hks,rfl,hw⟩
 ·exact aN2 z x nz sz q sc q 1 sc bz b w hz hx (fun w' y c hkp h1 h2=>cC4 h1 h2 (by omega) hsn) hql
 ·have hM0:((10^k:Nat):Int)≠0:=by
   have:10^k≠0:=Nat.pos_iff_ne_zero.1 (Nat.pow_pos (by omega));omega
  refine aN2 z x nz sz _ sc q ((10^k:Nat):Int) s bz b w hz hx (fun w' y c hkp h1 h2=>?_) hql;have:=cC5 (s:=s) rfl hk1 hk hks h1 h2 (by omega) (ht.old hkp) hl (by have:=(cX9 hk).2;omega) (cX9 hk).1 (Int.mul_tmod_left _ _);rw[Int.mul_tdiv_cancel _ hM0]at this;exact this
 ·refine aN2 z x nz sz n sc _ 1 s bz b w hz hx (fun w' y c hkp h1 h2=>?_) hql;rcases hw with h|h
  ·exact cX4 rfl hk1 h hks h1 h2 (by omega) hql hsn
  ·exact cX5 rfl hk1 hk hks h1 h2 (by omega) hql hn0 h (dH0 hk)
def negN(A s:Nat):Nat:=if A%10^s=0 then A/10^s else A/10^s+1
def exN(A s:Nat):Bool:=decide (A%10^s=0)
theorem bP4(A i:Nat):A/10^(i+1)=A/10^i/10:=by rw[Nat.pow_succ,Nat.div_div_eq_div_mul]
theorem dH1(A i:Nat):A%10^(i+1)=A%10^i+10^i*(A/10^i%10):=by rw[Nat.pow_succ,Nat.mod_mul]
theorem dH2{A i s:Nat}(hi:i+1<=s)(h:A/10^i/10=0):negN A s=(if A=0 then 0 else 1)/\exN A s=decide (A=0):=by
 have hp:0<10^(i+1):=Nat.pow_pos (by omega);have h1:A<10^(i+1):=by
  rw[<- bP4]at h;exact(Nat.div_eq_zero_iff_lt hp).1 h
 have h2:A<10^s:=Nat.lt_of_lt_of_le h1 (Nat.pow_le_pow_right (by omega) hi);unfold negN exN;rw[Nat.mod_eq_of_lt h2,Nat.div_eq_of_lt h2];exact⟨by split<;>rfl,rfl⟩
theorem dH3{A i:Nat}(h:A/10^i/10=0):A%10^(i+1)=A:=by
 rw[<- bP4]at h;exact Nat.mod_eq_of_lt ((Nat.div_eq_zero_iff_lt (Nat.pow_pos (by omega))).1 h)
theorem bV7(A s:Nat)(hA:A<=9223372036854775807)(h0:0<A)(hs:s<=1000)(w:World):Calls prog 115 #[.int .i64 ((A:Nat):Int),.int .i32 (s:Int)] w (IntOk w ((negN A s:Nat):Int) (exN A s)):=by
 by_cases c0:s=0
 ·subst c0;have e1:negN A 0=A:=by simp[negN,Nat.mod_one]
  have e2:exN A 0=true:=by simp[exN,Nat.mod_one]
  rw[e1,e2];have HA:=hiD hA;clear e1 e2;go_enter func115,ntmps115;go_wp2_with fail;go_ret2;exact⟨rfl,rfl⟩
 ·have q0:((s:Int)==0)=false:=beqF (by omega);have HA0:=hiD h0;have H0A:Hid (A/10^0=A):=by show A/10^0=A;simp
  have HNZ:Hid (∀ i,i+1<=s->A/10^i/10=0->((negN A s:Nat):Int)=1/\exN A s=false):=fun i h1 h2=>by
   obtain⟨g1,g2⟩:=dH2 h1 h2;rw[g1,g2,if_neg (by omega)];exact⟨rfl,decide_eq_false (by omega)⟩
  have hgt:decide ((0:Int)<(A:Int))=true:=decT (by omega);clear c0;go_enter func115,ntmps115;go_wp2_with fail
  go_loop [6,7,8] (fun v6 v7 v8=>∃ i:Nat,v6=.int .i64 ((A/10^i:Nat):Int)/\v7=.bool (!decide (A%10^i=0))/\v8=.int .i32 (i:Int)/\i<=s/\0<A/10^i) (fun _ _ v8=>s-uI v8)
  case atStart=>exact⟨0,by rw[H0A.out],by simp[Nat.mod_one],rfl,by omega,by rw[H0A.out];exact HA0.out⟩
  case round =>
   obtain⟨i,rfl,rfl,rfl,hi,hv0⟩:=hrel;have hvA:A/10^i<=A:=Nat.div_le_self _ _;rcases Nat.lt_or_ge i s with hlt|hge
   ·have HD:=hiD (bP4 A i);have hr:=dH1 A i;have hp:0<10^i:=Nat.pow_pos (by omega);have HZ:=hiD (HNZ.out i (by omega));have HRZ:Hid (A/10^i/10=0->A%10^(i+1)=A):=dH3;generalize A/10^i=v at *;generalize hR:A%10^i=R at *;generalize hR2:A%10^(i+1)=R2 at *;have hz:R2=0↔(R=0/\v%10=0):=by
     rw[hr];constructor
     ·intro h;have h2:10^i*(v%10)=0:=by omega
      rcases Nat.mul_eq_zero.1 h2 with h3|h3
      ·omega
      ·exact⟨by omega,h3⟩
     ·rintro⟨h1,h2⟩;rw[h1,h2];simp
    have HREL:Hid (∀ fr:Bool,fr=(!decide (R2=0))->∀ x:Nat,x=v/10->0<x->∃ i':Nat,Value.int IntKind.i64 ((x:Nat):Int)=.int .i64 ((A/10^i':Nat):Int)/\Value.bool fr=.bool (!decide (A%10^i'=0))/\i'=i+1/\i'<=s/\0<A/10^i'):=fun fr h1 x h2 h3=>⟨i+1,by rw[HD.out,h2],by rw[h1,hR2],rfl,by omega,by rw[HD.out,<- h2];exact h3⟩;have HZR:=hiD hz;clear hr hp hz hR hR2;have hcase:(R=0/\v%10=0)\/(R=0/\v%10≠0)\/R≠0:=by omega
    rcases hcase with⟨r1,r2⟩|⟨r1,r2⟩|r1
    ·have hvt:0<v/10:=by omega
     have hfr:(!decide (R=0))=false:=by rw[r1];rfl
     rw[hfr];clear hfr;have HF:Hid (false=(!decide (R2=0))):=by show false=_;rw[decide_eq_true (HZR.out.2 ⟨r1,r2⟩)];rfl
     have HVT:=hiD hvt;have hv:¬ v/10=0:=by omega
     have m1:((v:Int)%10==0)=true:=beqT (by omega);have m2:((v:Int)%10 != 0)=false:=by simp only[bne,m1];rfl
     have m3:(v%10==0)=true:=by simpa using r2
     have d1:((v:Int)/10==0)=false:=beqF (by omega);have d2:(v/10==0)=false:=by simpa using hv
     clear r1 r2 hv hvt;go_wp2_with fail;go_round
     case rel =>
      obtain⟨i',e1,e2,rfl,h3,h4⟩:=HREL.out false HF.out (v/10) rfl HVT.out;exact⟨i+1,by rw[<- e1];congr 1,e2,by go_num,h3,h4⟩
     case measure=>simp[uI];omega
    ·have HF:Hid (true=(!decide (R2=0))):=by show true=_;rw[decide_eq_false (fun h=>r2 (HZR.out.1 h).2)];rfl
     have hfr:(!decide (R=0))=false:=by rw[r1];rfl
     rw[hfr];clear hfr;have m1:((v:Int)%10==0)=false:=beqF (by omega);have m2:((v:Int)%10 != 0)=true:=by simp only[bne,m1];rfl
     have m3:(v%10==0)=false:=by simpa using r2
     clear r1 r2;by_cases hv:v/10=0
     ·have d1:((v:Int)/10==0)=true:=beqT (by omega);have d2:(v/10==0)=true:=by simpa using hv
      have E1:=hiD (HZ.out hv);clear hv;go_wp2_with fail;go_ret2;exact⟨by rw[E1.out.1,E1.out.2];rfl,rfl⟩
     ·have HVT:Hid (0<v/10):=by show 0<v/10;omega
      have d1:((v:Int)/10==0)=false:=beqF (by omega);have d2:(v/10==0)=false:=by simpa using hv
      clear hv;go_wp2_with fail;go_round
      case rel =>
       obtain⟨i',e1,e2,rfl,h3,h4⟩:=HREL.out true HF.out (v/10) rfl HVT.out;exact⟨i+1,by rw[<- e1];congr 1,e2,by go_num,h3,h4⟩
      case measure=>simp[uI];omega
    ·have HF:Hid (true=(!decide (R2=0))):=by show true=_;rw[decide_eq_false (fun h=>r1 (HZR.out.1 h).1)];rfl
     have hfr:(!decide (R=0))=true:=by rw[decide_eq_false r1];rfl
     rw[hfr];clear hfr;clear r1;by_cases hv:v/10=0
     ·have d1:((v:Int)/10==0)=true:=beqT (by omega);have d2:(v/10==0)=true:=by simpa using hv
      have E1:=hiD (HZ.out hv);clear hv;go_wp2_with fail;go_ret2;exact⟨by rw[E1.out.1,E1.out.2];rfl,rfl⟩
     ·have HVT:Hid (0<v/10):=by show 0<v/10;omega
      have d1:((v:Int)/10==0)=false:=beqF (by omega);have d2:(v/10==0)=false:=by simpa using hv
      clear hv;go_wp2_with fail;go_round
      case rel =>
       obtain⟨i',e1,e2,rfl,h3,h4⟩:=HREL.out true HF.out (v/10) rfl HVT.out;exact⟨i+1,by rw[<- e1];congr 1,e2,by go_num,h3,h4⟩
      case measure=>simp[uI];omega
   ·obtain rfl:i=s:=by omega
    have HX:Hid (((negN A i:Nat):Int)=(if A%10^i=0 then((A/10^i:Nat):Int)else((A/10^i+1:Nat):Int))/\exN A i=decide (A%10^i=0)):=⟨by unfold negN;split<;>rfl,rfl⟩
    have hbd:A/10^i+1<=9223372036854775807\/i=0:=by
     rcases Nat.eq_zero_or_pos i with h|h
     ·exact Or.inr h
     ·left;have:A/10^i<=A/10^1:=Nat.div_le_div_left (Nat.pow_le_pow_right (by omega) h) (by omega);omega
    generalize A/10^i=v at *;by_cases hR:A%10^i=0
    ·have e1:=HX.out;rw[if_pos hR,decide_eq_true hR]at e1;have E1:=hiD e1;rw[decide_eq_true hR];clear e1 HX hR;go_wp2_with fail;go_ret2;exact⟨by rw[E1.out.1,E1.out.2];rfl,rfl⟩
    ·have e1:=HX.out;rw[if_neg hR,decide_eq_false hR]at e1;have E1:=hiD e1;have hb2:v+1<=9223372036854775807:=by
      rcases hbd with h|h
      ·exact h
      ·subst h;exact absurd (by simp[Nat.mod_one]) hR
     rw[decide_eq_false hR];clear e1 HX hR hbd;go_wp2_with fail;go_ret2;exact⟨by rw[E1.out.1,E1.out.2,Int.natCast_add];rfl,rfl⟩
end Go.Proofs.YtjebnpkebccffaaGreatDoor
