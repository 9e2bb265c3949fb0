import Derived.Test.YtjebnpkebccffaaGreatDoorZQcn
set_option linter.unusedSimpArgs false
set_option linter.unusedVariables false
set_option linter.unusedSectionVars false
set_option maxRecDepth 100000
set_option maxHeartbeats 8000000
namespace Go.Proofs.YtjebnpkebccffaaGreatDoor
open Go.RowKit Go.Proofs.Tryz
section
open Go.RowKit
open Go.Proofs.YtjebnpkebccffaaGreatDoorW.PrintLast
theorem aR4{w:World}{b:Nat}(h:w.heap[b]? = some (.cells #[.bool false,.slice none 0 0,.int .i64 0] 30 (0,0))):
  (((w.setCell ⟨b,0,none⟩ (.bool false)).setCell ⟨b,1,none⟩ (.slice none 0 0)).setCell ⟨b,2,none⟩ (.int .i64 0)).drew.heap[b]? = some (.cells #[.bool false,.slice none 0 0,.int .i64 0] 30 (0,0))/\Kept (fun i=>i=b) w (((w.setCell ⟨b,0,none⟩ (.bool false)).setCell ⟨b,1,none⟩ (.slice none 0 0)).setCell ⟨b,2,none⟩ (.int .i64 0)).drew:=by
 have hd:w.drew.heap[b]? = _:=h;have st:=aP2 hd (.bool false) (.slice none 0 0) (.int .i64 0);exact⟨st.1,(Kept.refl _ _).drew.trans st.2 (fun _ _ f=>f) (fun _ _ f=>f)⟩
theorem bX2(q:QW)(hq:QRight q)(h1:q.num.size+q.denom.size<=100)(h2:q.power.size<=2):DmB (aP7 q) 130 330:=by
 have hM:=bF0 (q.num++q.denom) 100 (by rw[ByteArray.size_append];exact h1);have hP:=bF0 q.power 2 h2;have hpw:-100<=pwr q/\pwr q<=100:=by unfold pwr;split<;>omega
 have hN:qN q<10^130:=by
  unfold qN;split
  ·have hp:q.place<=6:=by have:=hq.kinds;omega
   have e1:(1024:Nat)^q.place.toNat<=1024^6:=Nat.pow_le_pow_right (by omega) (by omega);have e2:(1024:Nat)^6<10^30:=by decide
   have e3:qM q*1024^q.place.toNat<10^100*10^30:=Nat.mul_lt_mul'' hM (Nat.lt_of_le_of_lt e1 e2);rwa[<- Nat.pow_add]at e3
  ·exact Nat.lt_of_lt_of_le hM (by decide)
 have hE:-200<=qE q/\qE q<=200:=by
  unfold qE;have:=hq.kinds;split
  ·omega
  ·split<;>omega
 exact nd_b hN hE.1 hE.2
def P60(pw:ByteArray):Prop:=Op.bytesLess pw.toList [54,48]=true\/(pw.toList==[54,48])=true\/pw.size≠2
structure OfOk2 (q:QW) (t:ByteArray) (d:Dm):Prop where
 text:t=aF0 q
 right:QRight q
 size:q.num.size+q.denom.size<=100
 pow:q.power.size<=2
 means:d=aP7 q
 p60:P60 q.power
 can:∃ c,CanOk (aP7 q) q.kind c
def bI7(q:QW)(t:ByteArray)(d:Dm)(k:Bool):Prop:=k=true->OfOk2 q t d
def cD5(w:World)(q:QW)(e:Ending)(w':World):Prop:=(∃(t cn:ByteArray) (p:Option Addr) (n c:Nat) (d:Dm) (k:Bool),e=.returned (.tuple #[.string t,.agg #[.bool d.neg,.slice p n c,.int .i64 d.e],.string cn,.bool k])/\bI7 q t d k/\∃ b,NsAt w' (.slice p n c) d.ds b)/\Kept (fun _=>False) w w'
theorem bI8(q:QW)(h1:q.num.size<=2147483647)(h2:q.denom.size<=2147483647)(h3:q.power.size<=2147483647)(w:World):Calls prog 11 #[.agg q.cells] w (cD5 w q):=by
 have HR:Hid (∀ w,Calls prog 29 #[.agg q.cells] w fun e w'=>(∃ k:Bool,e=.returned (.bool k)/\(k=true->QRight q))/\Kept (fun _=>False) w w'):=fun w=>bB6 q h1 h2 h3 w
 have HM:Hid (∀ w,QRight q->q.num.size+q.denom.size<=100->Calls prog 30 #[.agg q.cells] w (DmRes w (aP7 q))):=fun w hq hs=>bB9 q hq hs w
 have HWR:Hid (∀ w,QRight q->q.num.size+q.denom.size<=100->Calls prog 31 #[.agg q.cells] w fun e w'=>e=.returned (.string (aF0 q))/\Kept (fun _=>False) w w'):=fun w hq hs=>bB7 q hq ⟨by omega,by omega⟩ w;have HPF:Hid (∀ t d,bI7 q t d false):=fun t d h=>by cases h
 have HPT:Hid (∀ c k,QRight q->q.num.size+q.denom.size<=100->q.power.size<=2->P60 q.power->CanP (aP7 q) q.kind c k->bI7 q (aF0 q) (aP7 q) k):=fun c k hq hs hp h60 hc hk=>⟨rfl,hq,hs,hp,rfl,h60,c,hc hk⟩;have HB:Hid (QRight q->q.num.size+q.denom.size<=100->q.power.size<=2->DmB (aP7 q) 130 330):=fun hq hs hp=>bX2 q hq hs hp
 show Calls prog 11 #[.agg q.cells] w fun e w'=>(∃(t cn:ByteArray) (p:Option Addr) (n c:Nat) (d:Dm) (k:Bool),e=.returned (.tuple #[.string t,.agg #[.bool d.neg,.slice p n c,.int .i64 d.e],.string cn,.bool k])/\bI7 q t d k/\∃ b,NsAt w' (.slice p n c) d.ds b)/\Kept (fun _=>False) w w';generalize bI7 q=P at *;generalize QRight q=QR at *;generalize hD:aP7 q=D at *;generalize hT:aF0 q=T at *;clear hD hT;obtain⟨sg,nm,dt,dn,kd,pl,up,ps,pw⟩:=q;simp only[QW.cells]at *;have k0:Kept (fun _=>False) w ((w.alloc (.cells #[.int .i64 sg,.string nm,.bool dt,.string dn,.int .i64 kd,.int .i64 pl,.bool up,.int .i64 ps,.string pw] 23)).alloc (.cells #[.bool false,.slice none 0 0,.int .i64 0] 30)):=((Kept.refl _ _).alloc _).alloc _;have b1:=aA0 w (.cells #[.int .i64 sg,.string nm,.bool dt,.string dn,.int .i64 kd,.int .i64 pl,.bool up,.int .i64 ps,.string pw] 23);have b1:=((Kept.refl (fun _=>False) _).alloc (.cells #[.bool false,.slice none 0 0,.int .i64 0] 30)).at b1 (fun f=>f);have b2:=aA0 (w.alloc (.cells #[.int .i64 sg,.string nm,.bool dt,.string dn,.int .i64 kd,.int .i64 pl,.bool up,.int .i64 ps,.string pw] 23)) (.cells #[.bool false,.slice none 0 0,.int .i64 0] 30);have e2:(w.alloc (.cells #[.int .i64 sg,.string nm,.bool dt,.string dn,.int .i64 kd,.int .i64 pl,.bool up,.int .i64 ps,.string pw] 23)).heap.size=w.heap.size+1:=by simp
 rw[e2]at b2;generalize hW:(w.alloc (.cells #[.int .i64 sg,.string nm,.bool dt,.string dn,.int .i64 kd,.int .i64 pl,.bool up,.int .i64 ps,.string pw] 23)).alloc (.cells #[.bool false,.slice none 0 0,.int .i64 0] 30)=W at *;have B1:=hiD b1;have B2:=hiD b2;have K0:=hiD k0;obtain⟨c0,c1,c2,c3,c4,c5,c6,c7,c8⟩:=cell9 b1;clear b1 b2 k0 e2;go_enter func11,ntmps11;go_wp2_with fail;refine(HR.out _).mono ?_;rintro e w2 ⟨⟨k,rfl,hk⟩,hk2⟩;have G1:=hiD (hk2.at B1.out (fun f=>f));have G2:=hiD (hk2.at B2.out (fun f=>f));have K2:=hiD (K0.out.same hk2);have HK:=hiD hk;clear hk hk2 c0 c1 c2 c3 c4 c5 c6 c7 c8 hW;obtain⟨c0,c1,c2,c3,c4,c5,c6,c7,c8⟩:=cell9 G1.out;obtain⟨d0,d1,d2⟩:=cells3 G2.out;cases k
 ·skip;go_wp2_with fail;have hst:=aR4 G2.out;have hb2:w2.drew.heap[w.heap.size+1]? = _:=G2.out;obtain⟨d0,d1,d2⟩:=cells3 hb2;have f0:=aA1 G2.out 0;have f1:=aA1 G2.out 1;have f2:=aA1 G2.out 2;generalize hW3:(((w2.setCell ⟨w.heap.size+1,0,none⟩ (.bool false)).setCell ⟨w.heap.size+1,1,none⟩ (.slice none 0 0)).setCell ⟨w.heap.size+1,2,none⟩ (.int .i64 0)).drew=W3 at hst;have S1:=hiD hst.1;have K3:Hid (Kept (fun _=>False) w W3):=K2.out.trans hst.2 (fun _ _ f=>f) (fun j hj e=>by omega);clear hst hb2;refine start_ (n:=5) (S:=fun w'=>w'.cell? ⟨w.heap.size+1,0,none⟩=some (.bool false)/\w'.cell? ⟨w.heap.size+1,1,none⟩=some (.slice none 0 0)/\w'.cell? ⟨w.heap.size+1,2,none⟩=some (.int .i64 0)) (ds:=[2]) #[false,false,false,false,false] (by kernel_rfl) rfl rfl ⟨d0,d1,d2⟩ (fun hHeld=>?_);refine rgp 1 2 ?_;refine rgt 0 36 hHeld ?_;refine last_ (i:=2) (N:=none) #[true,true,true,false,false] rfl rfl (by kernel_rfl) (by decide) (fun K hK=>?_);refine skip_ (w1:=?_) (by rfl) rfl ?_ ?_;rotate_left
  ·go_simp;rfl
  refine hK.out _ _ ?_;clear hK K;refine rgp 3 4 ?_;refine rgp 4 5 ?_;refine done_ (by kernel_rfl) ?_;obtain⟨y0,y1,y2⟩:=cells3 S1.out;go_wp2_with fail;refine bodyPost_ret (v:=.tuple #[.string ⟨#[]⟩,.agg #[.bool false,.slice none 0 0,.int .i64 0],.string ⟨#[]⟩,.bool false]) ?_ rfl ⟨⟨_,_,none,0,0,⟨false,[],0⟩,false,rfl,HPF.out _ _,⟨none,rfl,rfl⟩⟩,K3.out⟩;simp[results,Tryz.f11,loadVar,go_sem,y0,y1,y2]
 ·have HQ:=hiD (HK.out rfl);by_cases hs:nm.size+dn.size<=100
  ·have hs1:decide ((100:Int)<(nm.size:Int)+(dn.size:Int))=false:=decF (by omega);by_cases hp:pw.size<=2
   ·have hp1:decide ((2:Int)<(pw.size:Int))=false:=decF (by omega);have h4:(Op.bytesLess pw.toList [54,48]=false/\(pw.toList==[54,48])=false/\pw.size=2)\/(Op.bytesLess pw.toList [54,48]=true\/(Op.bytesLess pw.toList [54,48]=false/\(pw.toList==[54,48])=true)\/(Op.bytesLess pw.toList [54,48]=false/\(pw.toList==[54,48])=false/\pw.size≠2)):=by
     cases Op.bytesLess pw.toList [54,48]<;>cases(pw.toList==[54,48])<;>simp
     omega
    rcases h4 with⟨hL,hE,hZ⟩|h4
    ·have hz1:((pw.size:Int)==2)=true:=beqT (by omega);have hz2:(pw.size==2)=true:=by simpa using hZ
     clear hZ;go_wp2_with fail;have hst:=aR4 G2.out;have hb2:w2.drew.heap[w.heap.size+1]? = _:=G2.out;obtain⟨d0,d1,d2⟩:=cells3 hb2;have f0:=aA1 G2.out 0;have f1:=aA1 G2.out 1;have f2:=aA1 G2.out 2;generalize hW3:(((w2.setCell ⟨w.heap.size+1,0,none⟩ (.bool false)).setCell ⟨w.heap.size+1,1,none⟩ (.slice none 0 0)).setCell ⟨w.heap.size+1,2,none⟩ (.int .i64 0)).drew=W3 at hst;have S1:=hiD hst.1;have K3:Hid (Kept (fun _=>False) w W3):=K2.out.trans hst.2 (fun _ _ f=>f) (fun j hj e=>by omega);clear hst hb2;refine start_ (n:=5) (S:=fun w'=>w'.cell? ⟨w.heap.size+1,0,none⟩=some (.bool false)/\w'.cell? ⟨w.heap.size+1,1,none⟩=some (.slice none 0 0)/\w'.cell? ⟨w.heap.size+1,2,none⟩=some (.int .i64 0)) (ds:=[2]) #[false,false,false,false,false] (by kernel_rfl) rfl rfl ⟨d0,d1,d2⟩ (fun hHeld=>?_);refine rgp 1 2 ?_;refine rgt 0 36 hHeld ?_;refine last_ (i:=2) (N:=none) #[true,true,true,false,false] rfl rfl (by kernel_rfl) (by decide) (fun K hK=>?_);refine skip_ (w1:=?_) (by rfl) rfl ?_ ?_;rotate_left
     ·go_simp;rfl
     refine hK.out _ _ ?_;clear hK K;refine rgp 3 4 ?_;refine rgp 4 5 ?_;refine done_ (by kernel_rfl) ?_;obtain⟨y0,y1,y2⟩:=cells3 S1.out;go_wp2_with fail;refine bodyPost_ret (v:=.tuple #[.string ⟨#[]⟩,.agg #[.bool false,.slice none 0 0,.int .i64 0],.string ⟨#[]⟩,.bool false]) ?_ rfl ⟨⟨_,_,none,0,0,⟨false,[],0⟩,false,rfl,HPF.out _ _,⟨none,rfl,rfl⟩⟩,K3.out⟩;simp[results,Tryz.f11,loadVar,go_sem,y0,y1,y2]
    ·have HB2:=HB.out HQ.out hs hp;have HCAN:Hid (∀ w v,DmAt w v D->Calls prog 13 #[v,.int .i64 kd] w (dM4 w D kd)):=fun w v hv=>aT7 v D kd w hv (by have:=HB2.len;omega) HB2.dig (by have:=HB2.lo;have:=HB2.hi;omega);have HPP:Hid (pw.size<=2):=hp;have H60:Hid (P60 pw):=by
      rcases h4 with h|⟨_,h⟩|⟨_,_,h⟩
      ·exact Or.inl h
      ·exact Or.inr (Or.inl h)
      ·exact Or.inr (Or.inr h)
     have HSS:Hid (nm.size+dn.size<=100):=hs;clear HB2;rcases h4 with hL|⟨hL,hE⟩|⟨hL,hE,hZ⟩;all_goals
      first
      | (
       have hz1:((pw.size:Int)==2)=false:=beqF (by omega);have hz2:(pw.size==2)=false:=by simpa using hZ
       clear hZ)
      | skip
      go_wp2_with fail;refine(HM.out _ HQ.out hs).mono ?_;rintro e w3 ⟨v3,rfl,hv3,hk3⟩;obtain⟨p,n,c,b,rfl,hns⟩:=hv3.shape;have g1:=hk3.at G1.out (fun f=>f);have g2:=hk3.at G2.out (fun f=>f);have hne:=hns.ne g2 (by decide);have st:=aP2 g2 (.bool D.neg) (.slice p n c) (.int .i64 D.e);obtain⟨d0,d1,d2⟩:=cells3 g2;have f0:=aA1 g2 0;have f1:=aA1 g2 1;have f2:=aA1 g2 2;generalize hW4:(((w3.setCell ⟨w.heap.size+1,0,none⟩ (.bool D.neg)).setCell ⟨w.heap.size+1,1,none⟩ (.slice p n c)).setCell ⟨w.heap.size+1,2,none⟩ (.int .i64 D.e))=W4 at st;have g3:=st.2.at g1 (by omega);have G4:=hiD st.1;have NS4:=hiD (hns.kept st.2 hne);have K4:Hid (Kept (fun _=>False) w W4):=(K2.out.same hk3).trans st.2 (fun _ _ f=>f) (fun j hj e=>by omega);have G3:=hiD g3;obtain⟨q0,q1,q2,q3,q4,q5,q6,q7,q8⟩:=cell9 g3;obtain⟨x0,x1,x2⟩:=cells3 G4.out;clear g1 g2 hne st g3 hns hk3 hv3;go_wp2_with fail;refine(HCAN.out W4 _ ⟨_,b,rfl,NS4.out⟩).mono ?_;rintro e w5 ⟨⟨t5,k5,rfl,hcp⟩,hk5⟩;have HCP:=hiD hcp;clear hcp;have hk5:=hk5.drew;have G7:Hid (w5.drew.heap[w.heap.size]? = _):=hk5.at G3.out (fun f=>f);have G8:Hid (w5.drew.heap[w.heap.size+1]? = _):=hk5.at G4.out (fun f=>f);have K8:=hiD (K4.out.same hk5);have NS8:=hiD (NS4.out.old hk5);clear hk5 hW4 q0 q1 q2 q3 q4 q5 q6 q7 q8 x0 x1 x2 d0 d1 d2 f0 f1 f2;obtain⟨q0,q1,q2,q3,q4,q5,q6,q7,q8⟩:=cell9 G7.out;obtain⟨x0,x1,x2⟩:=cells3 G8.out;go_wp2_with fail;refine start_ (n:=9) (S:=fun w'=>w'.cell? ⟨w.heap.size,0,none⟩=some (.int .i64 sg)/\w'.cell? ⟨w.heap.size,1,none⟩=some (.string nm)/\w'.cell? ⟨w.heap.size,2,none⟩=some (.bool dt)/\w'.cell? ⟨w.heap.size,3,none⟩=some (.string dn)/\w'.cell? ⟨w.heap.size,4,none⟩=some (.int .i64 kd)/\w'.cell? ⟨w.heap.size,5,none⟩=some (.int .i64 pl)/\w'.cell? ⟨w.heap.size,6,none⟩=some (.bool up)/\w'.cell? ⟨w.heap.size,7,none⟩=some (.int .i64 ps)/\w'.cell? ⟨w.heap.size,8,none⟩=some (.string pw)/\w'.cell? ⟨w.heap.size+1,0,none⟩=some (.bool D.neg)/\w'.cell? ⟨w.heap.size+1,1,none⟩=some (.slice p n c)/\w'.cell? ⟨w.heap.size+1,2,none⟩=some (.int .i64 D.e)) (ds:=[6]) #[false,false,false,false,false,false,false,false,false] (by kernel_rfl) rfl rfl ⟨q0,q1,q2,q3,q4,q5,q6,q7,q8,x0,x1,x2⟩ (fun hHeld=>?_);refine rgp 3 49 ?_;refine rgp 4 50 ?_;refine rgt 0 46 hHeld ?_;refine rgt 2 48 hHeld ?_;refine one_ (i:=1) (N:=some 47) #[true,true,true,true,true,false,false,false,false] rfl rfl (by kernel_rfl) (by decide) (fun K hK=>?_);refine goes_ func31 (by kernel_rfl) rfl #[.agg #[.int .i64 sg,.string nm,.bool dt,.string dn,.int .i64 kd,.int .i64 pl,.bool up,.int .i64 ps,.string pw]] (by rfl) rfl rfl (by simp only[List.map_toArray,List.map_cons,List.map_nil];rfl) ?_;with_reducible refine(HWR.out _ HQ.out hs).mono ?_
      rintro e w9 ⟨rfl,hk⟩;have G9:=hiD (hk.at G7.out (fun f=>f));have G10:=hiD (hk.at G8.out (fun f=>f));have K9:=hiD (K8.out.same hk);have NS9:=hiD (NS8.out.old hk);obtain⟨q0,q1,q2,q3,q4,q5,q6,q7,q8⟩:=cell9 G9.out;obtain⟨x0,x1,x2⟩:=cells3 G10.out;have st:=aP2 G10.out (.bool D.neg) (.slice p n c) (.int .i64 D.e);have f0:=aA1 G10.out 0;have f1:=aA1 G10.out 1;have f2:=aA1 G10.out 2;generalize hW3:(((w9.setCell ⟨w.heap.size+1,0,none⟩ (.bool D.neg)).setCell ⟨w.heap.size+1,1,none⟩ (.slice p n c)).setCell ⟨w.heap.size+1,2,none⟩ (.int .i64 D.e))=W3 at st;have S1:=hiD st.1;have S2:=hiD st.2;clear st hk;refine⟨_,rfl,?_⟩;refine hK.out _ _ ⟨q0,q1,q2,q3,q4,q5,q6,q7,q8,x0,x1,x2⟩ (fun hHeld=>?_);clear hK K;refine rgn 47 ?_;refine rgp 5 2 ?_;refine last_ (i:=6) (N:=none) #[true,true,true,true,true,true,true,false,false] rfl rfl (by kernel_rfl) (by decide) (fun K hK=>?_);refine skip_ (w1:=?_) (by rfl) rfl ?_ ?_;rotate_left
      ·go_simp;rfl
      refine hK.out _ _ ?_;clear hK K;refine rgp 7 4 ?_;refine rgp 8 5 ?_;refine done_ (by kernel_rfl) ?_;obtain⟨y0,y1,y2⟩:=cells3 S1.out;go_wp2_with fail;refine bodyPost_ret (v:=.tuple #[.string T,.agg #[.bool D.neg,.slice p n c,.int .i64 D.e],.string t5,.bool k5]) ?_ rfl ⟨⟨_,_,p,n,c,D,k5,rfl,HPT.out t5 k5 HQ.out HSS.out HPP.out H60.out HCP.out,⟨b,NS9.out.kept S2.out (NS9.out.ne G10.out (by decide))⟩⟩,K9.out.trans S2.out (fun _ _ f=>f) (fun j hj e=>by omega)⟩;simp[results,Tryz.f11,loadVar,go_sem,y0,y1,y2]
   ·have hp1:decide ((2:Int)<(pw.size:Int))=true:=decT (by omega);go_wp2_with fail;have hst:=aR4 G2.out;have hb2:w2.drew.heap[w.heap.size+1]? = _:=G2.out;obtain⟨d0,d1,d2⟩:=cells3 hb2;have f0:=aA1 G2.out 0;have f1:=aA1 G2.out 1;have f2:=aA1 G2.out 2;generalize hW3:(((w2.setCell ⟨w.heap.size+1,0,none⟩ (.bool false)).setCell ⟨w.heap.size+1,1,none⟩ (.slice none 0 0)).setCell ⟨w.heap.size+1,2,none⟩ (.int .i64 0)).drew=W3 at hst;have S1:=hiD hst.1;have K3:Hid (Kept (fun _=>False) w W3):=K2.out.trans hst.2 (fun _ _ f=>f) (fun j hj e=>by omega);clear hst hb2;refine start_ (n:=5) (S:=fun w'=>w'.cell? ⟨w.heap.size+1,0,none⟩=some (.bool false)/\w'.cell? ⟨w.heap.size+1,1,none⟩=some (.slice none 0 0)/\w'.cell? ⟨w.heap.size+1,2,none⟩=some (.int .i64 0)) (ds:=[2]) #[false,false,false,false,false] (by kernel_rfl) rfl rfl ⟨d0,d1,d2⟩ (fun hHeld=>?_);refine rgp 1 2 ?_;refine rgt 0 36 hHeld ?_;refine last_ (i:=2) (N:=none) #[true,true,true,false,false] rfl rfl (by kernel_rfl) (by decide) (fun K hK=>?_);refine skip_ (w1:=?_) (by rfl) rfl ?_ ?_;rotate_left
    ·go_simp;rfl
    refine hK.out _ _ ?_;clear hK K;refine rgp 3 4 ?_;refine rgp 4 5 ?_;refine done_ (by kernel_rfl) ?_;obtain⟨y0,y1,y2⟩:=cells3 S1.out;go_wp2_with fail;refine bodyPost_ret (v:=.tuple #[.string ⟨#[]⟩,.agg #[.bool false,.slice none 0 0,.int .i64 0],.string ⟨#[]⟩,.bool false]) ?_ rfl ⟨⟨_,_,none,0,0,⟨false,[],0⟩,false,rfl,HPF.out _ _,⟨none,rfl,rfl⟩⟩,K3.out⟩;simp[results,Tryz.f11,loadVar,go_sem,y0,y1,y2]
  ·have hs1:decide ((100:Int)<(nm.size:Int)+(dn.size:Int))=true:=decT (by omega);go_wp2_with fail;have hst:=aR4 G2.out;have hb2:w2.drew.heap[w.heap.size+1]? = _:=G2.out;obtain⟨d0,d1,d2⟩:=cells3 hb2;have f0:=aA1 G2.out 0;have f1:=aA1 G2.out 1;have f2:=aA1 G2.out 2;generalize hW3:(((w2.setCell ⟨w.heap.size+1,0,none⟩ (.bool false)).setCell ⟨w.heap.size+1,1,none⟩ (.slice none 0 0)).setCell ⟨w.heap.size+1,2,none⟩ (.int .i64 0)).drew=W3 at hst;have S1:=hiD hst.1;have K3:Hid (Kept (fun _=>False) w W3):=K2.out.trans hst.2 (fun _ _ f=>f) (fun j hj e=>by omega);clear hst hb2;refine start_ (n:=5) (S:=fun w'=>w'.cell? ⟨w.heap.size+1,0,none⟩=some (.bool false)/\w'.cell? ⟨w.heap.size+1,1,none⟩=some (.slice none 0 0)/\w'.cell? ⟨w.heap.size+1,2,none⟩=some (.int .i64 0)) (ds:=[2]) #[false,false,false,false,false] (by kernel_rfl) rfl rfl ⟨d0,d1,d2⟩ (fun hHeld=>?_);refine rgp 1 2 ?_;refine rgt 0 36 hHeld ?_;refine last_ (i:=2) (N:=none) #[true,true,true,false,false] rfl rfl (by kernel_rfl) (by decide) (fun K hK=>?_);refine skip_ (w1:=?_) (by rfl) rfl ?_ ?_;rotate_left
   ·go_simp;rfl
   refine hK.out _ _ ?_;clear hK K;refine rgp 3 4 ?_;refine rgp 4 5 ?_;refine done_ (by kernel_rfl) ?_;obtain⟨y0,y1,y2⟩:=cells3 S1.out;go_wp2_with fail;refine bodyPost_ret (v:=.tuple #[.string ⟨#[]⟩,.agg #[.bool false,.slice none 0 0,.int .i64 0],.string ⟨#[]⟩,.bool false]) ?_ rfl ⟨⟨_,_,none,0,0,⟨false,[],0⟩,false,rfl,HPF.out _ _,⟨none,rfl,rfl⟩⟩,K3.out⟩;simp[results,Tryz.f11,loadVar,go_sem,y0,y1,y2]
end
def sufL(q:QW):List UInt8 :=
 if q.kind=2 then(aT6 (q.place+1).toNat).data.toList
 else if q.kind=1 then(aV6 (q.place-1).toNat).data.toList
 else(if q.upper=true then(69:UInt8)else 101)::((sgStr q.psign).data.toList++q.power.data.toList)
def sgL(q:QW):List UInt8:=(sgStr q.sign).data.toList
def dsL(q:QW):List UInt8:=q.denom.data.toList
theorem dn_ds{q:QW}(hq:QRight q):dnL q=[]/\dsL q=[]\/dnL q=46::dsL q:=by
 unfold dnL dsL;cases hd:q.dot
 ·left;have h0:q.denom.size=0:=by
   rcases Nat.eq_zero_or_pos q.denom.size with h|h
   ·exact h
   ·have:=hq.dot (by omega);rw[hd]at this;cases this
  refine⟨by rw[if_neg (by decide)],List.eq_nil_of_length_eq_zero (by rw[Array.length_toList];exact h0)⟩
 ·right;rw[if_pos rfl]
theorem bX3{q:QW}(hq:QRight q):q.num.data.toList++dsL q≠[]:=by
 intro h;rw[List.append_eq_nil_iff]at h;have h1:q.num.size=0:=by have:=aD1 h.1;simpa using this
 have h2:q.denom.size=0:=by have:=aD1 (show q.denom.data.toList=[]from h.2);simpa using this
 exact hq.some (by omega)
theorem dM5(q:QW)(h0:0<=q.sign)(h2:q.sign<=2):(sgL q==[45])=(q.sign==2):=by
 have:q.sign=0\/q.sign=1\/q.sign=2:=by omega
 unfold sgL;rcases this with h|h|h<;>rw[h]<;>rfl
theorem qM_bv(q:QW):qM q=bv (q.num.data.toList++dsL q):=by
 unfold qM bv rd dsL;rw[aD5]
theorem dZ1(k:Nat):(aT6 k).data.toList.all (fun x=>isSf x.toNat)=true:=by
 unfold aT6;split<;>decide
theorem dZ2(k:Nat):(aV6 k).data.toList.all (fun x=>isSf x.toNat)=true:=by
 unfold aV6;split<;>decide
theorem cJ4{t:ByteArray}(h:t.data.toList.all (fun x=>isSf x.toNat)=true)(h0:t.data.toList≠[]):∃ c r,t.data.toList=c::r/\isSf c.toNat=true:=by
 cases hl:t.data.toList with
 | nil=>exact absurd hl h0
 | cons c r=>rw[hl]at h;simp only[List.all_cons,Bool.and_eq_true]at h;exact⟨c,r,rfl,h.1⟩
theorem dT5{q:QW}(hq:QRight q):PzOk (aF0 q) (sgL q==[45]) (sgL q) q.num.data.toList (dnL q) (dsL q) (sufL q):=by
 have hdn:=dn_ds hq;have hne:=bX3 hq;have plain:∀ t:ByteArray,t.data.toList=[]->PzOk (qbase q++t) (sgL q==[45]) (sgL q) q.num.data.toList (dnL q) (dsL q) []:=fun t ht =>
  dI9 (by rw[aD5,bB8,ht,List.append_nil];rfl) (aP6 _) (aF4 hq.num) hdn (aF4 hq.denom) hne
 have suf:∀ t:ByteArray,t.data.toList.all (fun x=>isSf x.toNat)=true->t.data.toList≠[]->PzOk (qbase q++t) (sgL q==[45]) (sgL q) q.num.data.toList (dnL q) (dsL q) t.data.toList:=fun t ht h0 =>
  dM1 (cD2 hq (cJ4 ht h0)) hdn (fun p nm dm=>cR2 (cD2 hq (cJ4 ht h0)) (dY7 ht) p nm dm)
 rcases hq.kinds with⟨hk,h1,h2⟩|⟨hk,h1,h2⟩|⟨hk,h1,h2,h3,h4,h5⟩
 ·rw[show aF0 q=qbase q++aT6 (q.place+1).toNat by unfold aF0;rw[if_pos hk],show sufL q=(aT6 (q.place+1).toNat).data.toList by unfold sufL;rw[if_pos hk]];by_cases hp:(aT6 (q.place+1).toNat).data.toList=[]
  ·rw[hp];exact plain _ hp
  ·exact suf _ (dZ1 _) hp
 ·rw[show aF0 q=qbase q++aV6 (q.place-1).toNat by unfold aF0;rw[if_neg (by omega),if_pos hk],show sufL q=(aV6 (q.place-1).toNat).data.toList by unfold sufL;rw[if_neg (by omega),if_pos hk]];refine suf _ (dZ2 _) ?_;have:q.place=1\/q.place=2\/q.place=3\/q.place=4\/q.place=5\/q.place=6:=by omega
  rcases this with h|h|h|h|h|h<;>rw[h]<;>decide
 ·have ex:∀(c:UInt8) (t:ByteArray),isSf c.toNat=true->t.data.toList=c::((sgStr q.psign).data.toList++q.power.data.toList)->PzOk (qbase q++t) (sgL q==[45]) (sgL q) q.num.data.toList (dnL q) (dsL q) (c::((sgStr q.psign).data.toList++q.power.data.toList)):=by
   intro c t hc ht;have W:=cD2 hq (suf:=t) ⟨c,_,ht,hc⟩;rw[ht]at W;refine dM1 W hdn (fun p nm dm=>dI8 W (aP6 _) ?_ (aF4 h1) p nm dm);intro h;have e:q.power.size=0:=aD1 h;omega
  have hs:sufL q=(if q.upper=true then(69:UInt8)else 101)::((sgStr q.psign).data.toList++q.power.data.toList):=by unfold sufL;rw[if_neg (by omega),if_neg (by omega)]
  have hw:aF0 q=if q.upper=true then qbase q++⟨#[69]⟩++sgStr q.psign++q.power else qbase q++⟨#[101]⟩++sgStr q.psign++q.power:=by unfold aF0;rw[if_neg (by omega),if_neg (by omega)]
  rw[hs,hw];cases hu:q.upper
  ·rw[if_neg (by decide),if_neg (by decide)];rw[ByteArray.append_assoc,ByteArray.append_assoc];exact ex 101 _ (by decide) (by rw[aD5,aD5];rfl)
  ·rw[if_pos rfl,if_pos rfl];rw[ByteArray.append_assoc,ByteArray.append_assoc];exact ex 69 _ (by decide) (by rw[aD5,aD5];rfl)
structure PWd (q:QW) (neg:Bool) (value nm dm sf:ByteArray):Prop where
 pq:pq (aF0 q)=⟨!neg,value,nm,dm,sf,true⟩
 l1:1<=nm.size
 l2:nm.size+dm.size<=101
 dg:∀ c∈(nm++dm).data.toList,isDg c.toNat=true
 val:bv (nm++dm).data.toList=qM q
 ds:dm.size=q.denom.size
 sf:sf.data.toList=sufL q
 pv:PVal value neg (sgZ neg (qM q)) dm.size\/(nm.size=1/\dm.size=0/\sufL q=[])
theorem dZ3{q:QW}(hq:QRight q)(hl:q.num.size+q.denom.size<=100):∃ value nm dm sf,PWd q (q.sign==2) value nm dm sf:=by
 obtain⟨value,nm,dm,sf,h1,h2,h3,h4,h5⟩:=dT5 hq;rw[dM5 q hq.s0 hq.s2]at h1;have z1:=aD1 h2;have z2:=aD1 h3;have z2':dm.size=q.denom.size:=z2;have zn:q.num.data.toList.length=q.num.size:=rfl;have hst:=cY7 q.num.data.toList;refine⟨value,nm,dm,sf,h1,by omega,by omega,?_,?_,z2',h4,?_⟩
 ·rw[aD5,h2,h3];intro c hc;rcases List.mem_append.1 hc with h|h
  ·exact dI7 _ (aF4 hq.num) c h
  ·exact aF4 hq.denom c h
 ·rw[aD5,h2,h3,dI6,qM_bv]
 ·rcases h5 with h5|⟨h5,h6,h7⟩
  ·left;have hdn:=dn_ds hq;have hz:=aD1 h5;have hsg:=aP5 q.sign;have hsg':(sgL q).length=(sgStr q.sign).size:=rfl;have hdl:(dnL q).length<=1+(dsL q).length:=by
    rcases hdn with⟨e1,e2⟩|e1
    ·rw[e1];simp
    ·rw[e1];simp;omega
   have hdd:(dsL q).length=q.denom.size:=rfl;have:=dT2 h5 (aP6 _) (aF4 hq.num) hdn (aF4 hq.denom) (bX3 hq) (by rw[hz];simp;omega);rw[dM5 q hq.s0 hq.s2,<- qM_bv]at this;rw[z2];exact this
  ·right;rw[h6]at z2;exact⟨h5,z2,h7⟩
def vA(A:List Nat):Nat->Nat->Nat
 | 0,_=>0
 | n+1,i=>A.getD i 0*10^n+vA A n (i+1)
theorem dJ5{A:List Nat}(h:∀ x∈A,x<=9)(i:Nat):A.getD i 0<=9:=by
 rw[List.getD_eq_getElem?_getD];cases e:A[i]? with
 | none=>simp
 | some x=>exact h x (List.mem_of_getElem? e)
theorem vA_lt{A:List Nat}(h:∀ x∈A,x<=9):∀ n i,vA A n i<10^n:=by
 intro n
 induction n with
 | zero=>intro i;simp[vA]
 | succ n ih =>
  intro i;have h1:=ih (i+1);have h2:A.getD i 0*10^n<=9*10^n:=Nat.mul_le_mul_right _ (dJ5 h i);unfold vA;rw[Nat.pow_succ];omega
theorem dT6{A B:List Nat}(hA:∀ x∈A,x<=9)(hB:∀ x∈B,x<=9):∀ n i,lexc A B n i=cmpN (vA A n i) (vA B n i):=by
 intro n
 induction n with
 | zero=>intro i;rfl
 | succ n ih =>
  intro i;have a1:=vA_lt hA n (i+1);have b1:=vA_lt hB n (i+1);unfold lexc;simp only[vA];split
  ·rename_i he;rw[ih (i+1),he];unfold cmpN;generalize B.getD i 0*10^n=c;split
   ·rw[if_pos (by omega)]
   ·split
    ·rw[if_neg (by omega),if_pos (by omega)]
    ·rw[if_neg (by omega),if_neg (by omega)]
  ·split
   ·rename_i hlt;have:(A.getD i 0+1)*10^n<=B.getD i 0*10^n:=Nat.mul_le_mul_right _ (by omega);rw[Nat.add_mul,Nat.one_mul]at this;exact(bA4 (by omega)).symm
   ·rename_i hne hlt;have:(B.getD i 0+1)*10^n<=A.getD i 0*10^n:=Nat.mul_le_mul_right _ (by omega);rw[Nat.add_mul,Nat.one_mul]at this;exact(bA5 (by omega)).symm
theorem dT7(x:Nat)(l:List Nat):∀ n i,vA (x::l) n (i+1)=vA l n i:=by
 intro n
 induction n with
 | zero=>intro i;rfl
 | succ n ih=>intro i;simp only[vA];rw[ih (i+1)];rfl
theorem dZ4:∀ n i,vA [] n i=0:=by
 intro n
 induction n with
 | zero=>intro i;rfl
 | succ n ih=>intro i;simp only[vA];rw[ih];simp
theorem dM6:∀(l:List Nat) (p:Nat),vA l (l.length+p) 0=dv l*10^p:=by
 intro l
 induction l with
 | nil=>intro p;rw[dZ4];simp[dv]
 | cons x l ih =>
  intro p;rw[List.length_cons,show l.length+1+p=(l.length+p)+1 by omega];simp only[vA];rw[dT7,ih p];simp only[dv];rw[Nat.add_mul,Nat.pow_add,<- Nat.mul_assoc];rfl
theorem dJ6{a b c:Nat}(h:0<c):cmpN (a*c) (b*c)=cmpN a b:=by
 rcases Nat.lt_trichotomy a b with h1|h1|h1
 ·rw[bA4 h1,bA4 (Nat.mul_lt_mul_of_pos_right h1 h)]
 ·rw[h1,bY5 rfl,bY5 rfl]
 ·rw[bA5 h1,bA5 (Nat.mul_lt_mul_of_pos_right h1 h)]
def Lead(l:List Nat):Prop:=(∀ x∈l,x<=9)/\0<l.length/\l.getD 0 0≠0
theorem Lead.le{l:List Nat}(h:Lead l):10^(l.length-1)<=dv l:=by
 have h1:=cY2 l h.2.1;have h2:1*10^(l.length-1)<=l.getD 0 0*10^(l.length-1):=Nat.mul_le_mul_right _ (Nat.pos_of_ne_zero h.2.2);omega
theorem dM7{A B:List Nat}(hA:Lead A)(hB:Lead B){a b:Nat}(h:A.length+a<B.length+b):dv A*10^a<dv B*10^b:=by
 have h1:dv A*10^a<10^A.length*10^a:=Nat.mul_lt_mul_of_pos_right (dv_lt A hA.1) (Nat.pow_pos (by omega));have h2:10^(B.length-1)*10^b<=dv B*10^b:=Nat.mul_le_mul_right _ hB.le;rw[<- Nat.pow_add]at h1 h2;have h3:10^(A.length+a)<=10^(B.length-1+b):=Nat.pow_le_pow_right (by omega) (by have:=hB.2.1;omega);omega
theorem dT8{d f:Dm}(hd:Lead d.ds)(hf:Lead f.ds)(a b:Nat)(K:Int)(ha:d.e+K=(a:Int))(hb:f.e+K=(b:Int)):lgr d f=cmpN (dv d.ds*10^a) (dv f.ds*10^b):=by
 unfold lgr;split
 ·exact(bA4 (dM7 hd hf (by omega))).symm
 ·split
  ·exact(bA5 (dM7 hf hd (by omega))).symm
  ·rw[dT6 hd.1 hf.1];generalize hm:max d.ds.length f.ds.length=m;have hm1:d.ds.length<=m:=by omega
   have hm2:f.ds.length<=m:=by omega
   have e1:=dM6 d.ds (m-d.ds.length);have e2:=dM6 f.ds (m-f.ds.length);rw[show d.ds.length+(m-d.ds.length)=m by omega]at e1;rw[show f.ds.length+(m-f.ds.length)=m by omega]at e2;rw[e1,e2];obtain⟨c,hc⟩:∃ c,d.ds.length+a=m+c:=⟨d.ds.length+a-m,by omega⟩;rw[show a=(m-d.ds.length)+c by omega,show b=(m-f.ds.length)+c by omega,Nat.pow_add,Nat.pow_add,<- Nat.mul_assoc,<- Nat.mul_assoc,dJ6 (Nat.pow_pos (by omega))]
theorem aM3{M:Nat}(h:M≠0):Lead (dgs M):=by
 have hl:0<(dgs M).length:=List.length_pos_iff.2 (bL3 h);refine⟨bP7 M,hl,?_⟩;have:=aM1 (dgs M) (by rw[aU8];exact hl);rw[aU8]at this;exact this
theorem cJ5{l:List Nat}(e:Int)(h:0<l.length):sgnD ⟨false,l,e⟩=1:=by
 unfold sgnD;rw[if_neg (by simp;intro h';rw[h']at h;simp at h)];rfl
theorem dJ7{M N:Nat}(E:Int)(hM:M≠0)(hN:N≠0)(a b:Nat)(K:Int)(ha:E+K=(a:Int))(hb:K=(b:Int)):cmpD ⟨false,dgs M,E⟩ ⟨false,dgs N,0⟩=cmpN (M*10^a) (N*10^b):=by
 have h1:=cJ5 E (aM3 hM).2.1;have h2:=cJ5 0 (aM3 hN).2.1;unfold cmpD;rw[h1,h2,if_pos rfl,if_neg (by omega),if_pos (by omega)];have:=dT8 (d:=⟨false,dgs M,E⟩) (f:=⟨false,dgs N,0⟩) (aM3 hM) (aM3 hN) a b K ha (by show(0:Int)+K=_;omega);simp only[bD2]at this;exact this
theorem dT9:maxD=⟨false,dgs 9223372036854775807,0⟩:=aN7 false 9223372036854775807 0 (by decide)
theorem dU0{a b:Nat}:cmpN a b<=0↔a<=b:=by
 unfold cmpN;split
 ·omega
 ·split<;>omega
theorem dU1{neg:Bool}{M:Nat}{E:Int}(hM:M≠0)(h:mayD ⟨neg,dgs M,E⟩ maxD=true):-3<=E/\M*10^(E+3).toNat<=9223372036854775807*1000:=by
 unfold mayD at h;rw[Bool.and_eq_true,Bool.or_eq_true,decide_eq_true_eq,decide_eq_true_eq,decide_eq_true_eq]at h;obtain⟨h1,h2⟩:=h;have h3:-3<=E:=by
  rcases h1 with h1|h1
  ·have:=(aM3 hM).2.1;have h1:(dgs M).length=0:=h1;omega
  ·exact h1
 refine⟨h3,?_⟩;rw[dT9,dJ7 E hM (by omega) (E+3).toNat 3 3 (by omega) rfl]at h2;exact dU0.1 h2
theorem dZ5(M r:Nat)(hM:M≠0):dgs (M*10^r)=dgs M++zs r:=by
 have h:=cY3 (zs r) (fun x hx=>by unfold zs at hx;rw[List.mem_replicate]at hx;omega) M hM;unfold zs at h ⊢;rw[List.length_replicate,dv_zs,Nat.add_zero]at h;exact h
theorem dU2{M:Nat}{E:Int}(hE:0<=E)(h:M*10^(E+3).toNat<=9223372036854775807*1000):M*10^E.toNat<=9223372036854775807:=by
 rw[show(E+3).toNat=E.toNat+3 by omega,Nat.pow_add,<- Nat.mul_assoc]at h;exact Nat.le_of_mul_le_mul_right h (by decide)
def upK(d:Dm)(E:Int):Nat:=((d.ds.length:Int)+d.e-E).toNat
def upD(d:Dm)(E:Int):Dm:=if d.ds=[]\/E<=d.e then d else nd d.neg (dv (d.ds.take (upK d E))+1) E
structure UpI (L:List Nat) (n i:Nat) (l:List Nat):Prop where
 len:l.length=n+1
 same:∀ j,j<=i->l.getD j 0=L.getD j 0
 dig:∀ x∈l,x<=9
 val:dv l+10^(n-i)=dv L+1
 z:L.getD 0 0=0
theorem cZ1{l:List Nat}{i y:Nat}(h:∀ x∈l,x<=9)(hy:y<=9):∀ x∈l.set i y,x<=9:=by
 intro x hx;rcases List.mem_or_eq_of_mem_set hx with h1|h1
 ·exact h x h1
 ·omega
theorem UpI.start{t:List Nat}(h:∀ x∈t,x<=9):UpI (0::t) t.length t.length (0::t) :=
 ⟨by simp,fun _ _=>rfl,by intro x hx;rcases List.mem_cons.1 hx with e|e;omega;exact h x e,by simp,rfl⟩
theorem UpI.fin{L l:List Nat}{n i:Nat}(h:UpI L n i l)(hi:i<=n)(h9:l.getD i 0+1<10):dv (l.set i (l.getD i 0+1))=dv L+1/\∀ x∈l.set i (l.getD i 0+1),x<=9:=by
 have e:=bW3 l i (l.getD i 0+1) (by rw[h.len];omega);have hv:=h.val;rw[h.len,show n+1-1-i=n-i by omega,Nat.add_mul]at e;exact⟨by omega,cZ1 h.dig (by omega)⟩
theorem UpI.step{L l:List Nat}{n i:Nat}(h:UpI L n i l)(hi:i<=n)(h9:¬ l.getD i 0+1<10):1<=i/\UpI L n (i-1) (l.set i 0):=by
 have hd:=h.dig (l.getD i 0) (aL0 (by rw[h.len];omega));have hi0:1<=i:=by
  rcases Nat.eq_zero_or_pos i with e|e
  ·subst e;have h1:=h.same 0 (Nat.le_refl _);have h2:=h.z;omega
  ·exact e
 have e9:l.getD i 0=9:=by omega
 refine⟨hi0,by rw[List.length_set];exact h.len,fun j hj=>?_,cZ1 h.dig (by omega),?_,h.z⟩
 ·rw[aN4 _ _ _ _ (by rw[h.len];omega),if_neg (by omega)];exact h.same j (by omega)
 ·have e:=bW3 l i 0 (by rw[h.len];omega);have hv:=h.val;rw[h.len,show n+1-1-i=n-i by omega,e9]at e;rw[show n-(i-1)=n-i+1 by omega,Nat.pow_succ];omega
theorem dJ8{cs:Array Value}{o:Nat}{l:List Nat}(h:HasI cs o l)(i y:Nat)(hi:i<l.length):HasI (cs.setIfInBounds (o+i) (.int .i64 (y:Int))) o (l.set i y):=by
 intro j hj;rw[List.length_set]at hj;rw[Array.getElem?_setIfInBounds,aN4 _ _ _ _ hi];by_cases e:i=j
 ·subst e;have:=h i hi;have hlt:o+i<cs.size:=by
   rcases Nat.lt_or_ge (o+i) cs.size with h1|h1
   ·exact h1
   ·rw[Array.getElem?_eq_none h1]at this;cases this
  rw[if_pos rfl,if_pos hlt,if_pos rfl]
 ·rw[if_neg (by omega),if_neg e];exact h j hj
theorem dM8{w:World}{b o n cap:Nat}{l:List Nat}(h:NsAt w (.slice (some ⟨b,o,none⟩) n cap) l (some b))(i y:Nat)(hi:i<l.length):NsAt (w.setCell ⟨b,o+i,none⟩ (.int .i64 (y:Int))) (.slice (some ⟨b,o,none⟩) n cap) (l.set i y) (some b):=by
 obtain⟨o',cap',cs,e,h2,h3,h4,h5⟩:=h;injection e with e1 e2 e3;injection e1 with e1;injection e1 with _ e4;subst e2 e3 e4;exact⟨o,cap,_,by rw[List.length_set],by rw[List.length_set];exact h2,by rw[Array.size_setIfInBounds];exact h3,aA3 h4 _ _,dJ8 h5 i y hi⟩
theorem cJ6{w:World}{b o n cap:Nat}{l:List Nat}(h:NsAt w (.slice (some ⟨b,o,none⟩) n cap) l (some b))(i:Nat)(hi:i<l.length):w.cell? ⟨b,o+i,none⟩=some (.int .i64 ((l.getD i 0:Nat):Int))/\w.frozen? ⟨b,o+i,none⟩=false/\n=l.length/\l.length<=cap:=by
 obtain⟨o',cap',cs,e,h2,h3,h4,h5⟩:=h;injection e with e1 e2 e3;injection e1 with e1;injection e1 with _ e4;subst e2 e3 e4;exact⟨by rw[aA2 h4];exact h5 i hi,aA1 h4 _,rfl,h2⟩
theorem dU3{w:World}{p:Option Addr}{n cap:Nat}{l:List Nat}{b:Option Nat}(h:NsAt w (.slice p n cap) l b)(k:Nat)(hk:k<=l.length)(hl:l≠[]):NsAt w (.slice p k cap) (l.take k) b:=by
 cases b with
 | none=>exact absurd h.2 hl
 | some j =>
  obtain⟨o,cap',cs,e,h2,h3,h4,h5⟩:=h;injection e with e1 e2 e3;subst e1 e2 e3;refine⟨o,cap,cs,by rw[List.length_take,Nat.min_eq_left hk],by rw[List.length_take];omega,h3,h4,fun i hi=>?_⟩;rw[List.length_take]at hi;rw[h5 i (by omega)];simp only[List.getD,List.getElem?_take];rw[if_pos (by omega)]
theorem dJ9(x:Int)(k:Nat)(hk:k=x.toNat)(ts:Array TypeId)(ty:TypeId)(w:World):(Builtin.max_ ts ty #[.int .i64 0,.int .i64 x]).run prog w=.ok (.int .i64 (k:Int)) w:=by
 have e:(Builtin.max_ ts ty #[.int .i64 0,.int .i64 x]).run prog w=.ok (.int .i64 (if x>0 then x else 0)) w:=rfl
 rw[e,hk];split
 ·rw[show((x.toNat:Nat):Int)=x by omega]
 ·rw[show((x.toNat:Nat):Int)=0 by omega]
theorem bQ5(v:Value)(d:Dm)(E:Int)(w:World)(h:DmAt w v d)(hc:d.ds=[]\/E<=d.e):Calls prog 16 #[v,.int .i64 E] w (fun e w'=>∃ u,e=.returned (.tuple #[u,.bool true])/\DmAt w' u d/\Kept (fun _=>False) w w'):=by
 obtain⟨p,c,b,rfl,hs⟩:=h.shape2;obtain⟨dn,ds,de⟩:=d;dsimp only at *;have k0:Kept (fun _=>False) w ((w.alloc (.cells #[.bool dn,.slice p ds.length c,.int .i64 de] 30)).alloc (.cells #[.bool false,.slice none 0 0,.int .i64 0] 30)):=((Kept.refl _ _).alloc _).alloc _;have b1:=aA0 w (.cells #[.bool dn,.slice p ds.length c,.int .i64 de] 30);have b1:=((Kept.refl (fun _=>False) (w.alloc (.cells #[.bool dn,.slice p ds.length c,.int .i64 de] 30))).alloc (.cells #[.bool false,.slice none 0 0,.int .i64 0] 30)).at b1 (fun f=>f);have b2:=aA0 (w.alloc (.cells #[.bool dn,.slice p ds.length c,.int .i64 de] 30)) (.cells #[.bool false,.slice none 0 0,.int .i64 0] 30);rw[show(w.alloc (.cells #[.bool dn,.slice p ds.length c,.int .i64 de] 30)).heap.size=w.heap.size+1 by simp]at b2;have hs0:=hs.old k0;generalize hW0:(w.alloc (.cells #[.bool dn,.slice p ds.length c,.int .i64 de] 30)).alloc (.cells #[.bool false,.slice none 0 0,.int .i64 0] 30)=W0 at *;obtain⟨c0,c1,c2⟩:=cells3 b1;obtain⟨d0,d1,d2⟩:=cells3 b2;have f0:=aA1 b2 0;have f1:=aA1 b2 1;have f2:=aA1 b2 2;have st:=aP2 b2 (.bool dn) (.slice p ds.length c) (.int .i64 de);generalize hW3:(((W0.setCell ⟨w.heap.size+1,0,none⟩ (.bool dn)).setCell ⟨w.heap.size+1,1,none⟩ (.slice p ds.length c)).setCell ⟨w.heap.size+1,2,none⟩ (.int .i64 de))=W3 at st;have S1:=hiD st.1;have hne:∀ k,b=some k->k≠w.heap.size+1:=fun k hk=>by have:=hs.lt k hk;omega
 have HS:Hid (NsAt W3 (.slice p ds.length c) ds b):=hs0.kept st.2 hne;have K3:Hid (Kept (fun _=>False) w W3):=k0.trans st.2 (fun _ _ f=>f) (fun i hi e=>by omega);have hlen:ds.length=0\/E<=de:=by
  rcases hc with h|h
  ·left;rw[h];rfl
  ·right;exact h
 generalize ds.length=n at *;have hcond:((n:Int)==0||decide (E<=de))=true:=by
  rcases hlen with h|h
  ·rw[beqT (by omega)];rfl
  ·rw[decT h,Bool.or_true]
 clear h hs hs0 k0 b1 b2 st hne hc hlen;go_enter func16,ntmps16;rcases Bool.eq_false_or_eq_true ((n:Int)==0)with h0|h0
 ·rw[h0]at hcond;clear hcond;go_wp2_with fail;obtain⟨x0,x1,x2⟩:=cells3 S1.out;refine bodyPost_ret (v:=.tuple #[.agg #[.bool dn,.slice p n c,.int .i64 de],.bool true]) ?_ rfl ⟨_,rfl,⟨_,b,rfl,HS.out⟩,K3.out⟩;simp[results,Tryz.f16,loadVar,go_sem,x0,x1,x2]
 ·rw[h0,Bool.false_or]at hcond;go_wp2_with fail;obtain⟨x0,x1,x2⟩:=cells3 S1.out;refine bodyPost_ret (v:=.tuple #[.agg #[.bool dn,.slice p n c,.int .i64 de],.bool true]) ?_ rfl ⟨_,rfl,⟨_,b,rfl,HS.out⟩,K3.out⟩;simp[results,Tryz.f16,loadVar,go_sem,x0,x1,x2]
theorem bK0(v:Value)(d:Dm)(E:Int)(w:World)(h:DmAt w v d)(hd0:d.ds≠[])(hE:d.e<E)(hlen:d.ds.length<=10000)(hdig:∀ x∈d.ds,x<=9)(he:-10000<=d.e/\d.e<=10000)(hE2:-10000<=E/\E<=10000):
  Calls prog 16 #[v,.int .i64 E] w (fun e w'=>∃ u,e=.returned (.tuple #[u,.bool false])/\DmAt w' u (nd d.neg (dv (d.ds.take (upK d E))+1) E)/\Kept (fun _=>False) w w'):=by
 obtain⟨p,c,b,rfl,hs⟩:=h.shape2;obtain⟨dn,ds,de⟩:=d;unfold upK;dsimp only at *;obtain⟨n,hn⟩:∃ n,n=ds.length:=⟨_,rfl⟩;obtain⟨k,hk⟩:∃ k:Nat,k=((ds.length:Int)+de-E).toNat:=⟨_,rfl⟩;rw[<- hk];obtain⟨D,hD⟩:∃ D,D=nd dn (dv (ds.take k)+1) E:=⟨_,rfl⟩;rw[<- hD];have HD:=hiD hD;clear hD;have hkn:k<=n:=by omega
 have hn0:0<n:=by
  rcases Nat.eq_zero_or_pos n with h0|h0
  ·exact absurd (List.eq_nil_of_length_eq_zero (by omega)) hd0
  ·exact h0
 have hcap:n<=c/\∃ a,p=some a:=by
  cases b with
  | none=>exact absurd hs.2 hd0
  | some j =>
   obtain⟨o,cap',cs,e,h2,_⟩:=hs;injection e with e1 e2 e3;subst e3;exact⟨by omega,_,e1⟩
 obtain⟨hcap,a,rfl⟩:=hcap;rw[<- hn]at hs hlen hk ⊢;have k0:Kept (fun _=>False) w ((w.alloc (.cells #[.bool dn,.slice (some a) n c,.int .i64 de] 30)).alloc (.cells #[.bool false,.slice none 0 0,.int .i64 0] 30)):=((Kept.refl _ _).alloc _).alloc _;have b1:=aA0 w (.cells #[.bool dn,.slice (some a) n c,.int .i64 de] 30);have b1:=((Kept.refl (fun _=>False) (w.alloc (.cells #[.bool dn,.slice (some a) n c,.int .i64 de] 30))).alloc (.cells #[.bool false,.slice none 0 0,.int .i64 0] 30)).at b1 (fun f=>f);have b2:=aA0 (w.alloc (.cells #[.bool dn,.slice (some a) n c,.int .i64 de] 30)) (.cells #[.bool false,.slice none 0 0,.int .i64 0] 30);rw[show(w.alloc (.cells #[.bool dn,.slice (some a) n c,.int .i64 de] 30)).heap.size=w.heap.size+1 by simp]at b2;have hs0:=hs.old k0;have hsz:((w.alloc (.cells #[.bool dn,.slice (some a) n c,.int .i64 de] 30)).alloc (.cells #[.bool false,.slice none 0 0,.int .i64 0] 30)).heap.size=w.heap.size+2:=by simp
 generalize hW0:(w.alloc (.cells #[.bool dn,.slice (some a) n c,.int .i64 de] 30)).alloc (.cells #[.bool false,.slice none 0 0,.int .i64 0] 30)=W0 at *;have hone:NsAt (W0.alloc (.cells #[.int .i64 0] 3)) (.slice (some ⟨W0.heap.size,0,none⟩) 1 1) [0] (some W0.heap.size):=cH8 W0 0;have hk1:Kept (fun _=>False) W0 (W0.alloc (.cells #[.int .i64 0] 3)):=(Kept.refl _ _).alloc _;have htk:=dU3 (hs0.old hk1) k (by omega) hd0;have hlk:(ds.take k).length=k:=by rw[List.length_take];omega
 obtain⟨r,w2,b',hrun,hr,hkr,hown⟩:=aP1 hone htk (by rw[hlk];simp;omega);have hr:NsAt w2 r (0::ds.take k) b':=hr;have hkw:Kept (fun _=>False) W0 w2:=hk1.trans hkr (fun _ _ f=>f) (fun j hj h=>by injection h with h;omega);obtain⟨B,rfl,hB⟩:∃ B,b'=some B/\W0.heap.size<=B:=by
  rcases hown with h|⟨j,h,hj⟩
  ·exact⟨_,h,Nat.le_refl _⟩
  ·exact⟨j,h,by have:=hk1.size;omega⟩
 obtain⟨o,cap,rfl⟩:∃ o cap,r=.slice (some ⟨B,o,none⟩) (k+1) cap:=by
  obtain⟨o,cap,cs,e,_⟩:=hr;exact⟨o,cap,by rw[e];simp only[List.length_cons,hlk]⟩
 have e01:=cells3 b1;have e02:=cells3 (hk1.at b1 (fun f=>f));have e03:=cells3 (hkw.at b1 (fun f=>f));obtain⟨c0,c1,c2⟩:=e01;obtain⟨d0,d1,d2⟩:=e02;obtain⟨x0,x1,x2⟩:=e03;have B1:=hiD b1;have B2:=hiD b2;have HRUN:=hiD hrun;have HR:=hiD hr;have K0:=hiD k0;have K2:=hiD hkw;have HSZ:=hiD (And.intro hB hsz);have hU:=UpI.start (t:=ds.take k) (fun x hx=>hdig x (List.mem_of_mem_take hx));rw[hlk]at hU;have HU:=hiD hU;have mk:=dJ9 ((n:Int)+de-E) k hk;have g1:((n:Int)==0)=false:=beqF (by omega);have g2:decide (E<=de)=false:=decF (by omega);have g3:decide (de<E)=true:=decT hE;have HRNG:=hiD (And.intro hlen (And.intro he hE2));have HKN:=hiD (And.intro hk hkn);have w1:wrap64 ((n:Int)+de)=(n:Int)+de:=by unfold wrap64;omega
 have w2':wrap64 ((n:Int)+de-E)=(n:Int)+de-E:=by unfold wrap64;omega
 have i1:IntKind.i64.wrap ((n:Int)+de)=(n:Int)+de:=by rw[IntKind.wrap_i64];omega
 have i2:IntKind.i64.wrap ((n:Int)+de-E)=(n:Int)+de-E:=by rw[IntKind.wrap_i64];omega
 have hkc:k<=c:=by omega
 clear h hs hs0 k0 b1 b2 hone hk1 htk hrun hr hkr hown hkw hB hU hd0 hE hlen hdig he hE2 hn hk hn0 hcap hkn hsz;go_enter func16,ntmps16;go_wp2_with (at_builtin;refine aE5 rfl _ _ rfl (.slice (some ⟨W0.heap.size,0,none⟩) 1 1) (.slice (some a) k c) _ rfl rfl HRUN.out ?_)
 go_loopw [8] (fun v wr=>∃(i:Nat) (l:List Nat),v=.int .i64 (i:Int)/\i<=k/\Hid (NsAt wr (.slice (some ⟨B,o,none⟩) (k+1) cap) l (some B))/\Hid (UpI (0::ds.take k) k i l)/\Hid (Kept (fun _=>False) W0 wr)) (fun v _=>uOf v)
 case atStart=>exact⟨k,_,by have h1:=HRNG.out;have h2:=HKN.out;have e:wrap64 (k:Int)=(k:Int):=by { unfold wrap64;omega };simp[e],Nat.le_refl _,HR,HU,K2⟩
 case round =>
  obtain⟨i,l,rfl,hi,HL,HI,HK⟩:=hrel;have hll:=HI.out.len;obtain⟨ec,ef,-,ecap⟩:=cJ6 HL.out i (by omega);have hs1:=dM8 HL.out i (l.getD i 0+1) (by omega);obtain⟨ec1,ef1,-,-⟩:=cJ6 hs1 i (by rw[List.length_set];omega);have hk1:Kept (fun _=>False) W0 (wr.setCell ⟨B,o+i,none⟩ (.int .i64 ((l.getD i 0+1:Nat):Int))):=HK.out.setCell _ _ (fun hlt=>by have:=HSZ.out.1;simp at hlt;omega);rw[aN4 _ _ _ _ (by omega),if_pos rfl]at ec1;have hb9:=HI.out.dig (l.getD i 0) (aL0 (by omega));have hkc1:i<k+1:=by omega
  have hkc2:k+1<=cap:=by omega
  by_cases h9:l.getD i 0+1<10
  ·have hf:=HI.out.fin hi h9;generalize hl2:l.set i (l.getD i 0+1)=l2 at *;have hl2l:l2.length=k+1:=by rw[<- hl2,List.length_set];exact hll
   generalize l.getD i 0=x at *;rw[show((x+1:Nat):Int)=(x:Int)+1 by omega]at hs1 ec1 ef1 hk1;have HF:=hiD hf;have HS:=hiD hs1;have HK1:=hiD hk1;have HLL:=hiD hl2l;have h9':decide ((x:Int)+1<10)=true:=decT (by omega);clear hl2 hf hs1 hk1 hll HL HI HK hl2l;obtain⟨x0,x1,x2⟩:=cells3 (HK1.out.at B1.out (fun f=>f));go_wp2_with fail;have hdec:decL dn l2 E=nd dn (dv (ds.take k)+1) E:=by
    rw[nd_of _ _ _ HF.out.2,HF.out.1];congr 2;simp[dv]
   have hrg:=HRNG.out;have hkn2:=HKN.out.2;refine(aQ9 _ _ (some B) l2 E _ HS.out (by rw[HLL.out];omega) (by omega)).mono ?_;rintro e w3 ⟨v,rfl,hv,hk⟩;rw[hdec,<- HD.out]at hv;obtain⟨p',n',c',b',rfl,hs⟩:=hv.shape;have hkw:=(HK1.out.same hk);have hb2:=hkw.at B2.out (fun f=>f);obtain⟨z0,z1,z2⟩:=cells3 hb2;have f0:=aA1 hb2 0;have f1:=aA1 hb2 1;have f2:=aA1 hb2 2;have HNE:=hiD (hs.ne hb2 (by decide));have st:=aP2 hb2 (.bool D.neg) (.slice p' n' c') (.int .i64 D.e);generalize hW3:(((w3.setCell ⟨w.heap.size+1,0,none⟩ (.bool D.neg)).setCell ⟨w.heap.size+1,1,none⟩ (.slice p' n' c')).setCell ⟨w.heap.size+1,2,none⟩ (.int .i64 D.e))=W3 at st;have S1:=hiD st.1;have S2:=hiD st.2;have HS3:=hiD hs;have HKW:=hiD (K0.out.same hkw);clear st hs hk hb2 hv hkw hdec hrg hkn2;go_wp2_with fail;obtain⟨d0,d1,d2⟩:=cells3 S1.out;refine bodyPost_ret (v:=.tuple #[.agg #[.bool D.neg,.slice p' n' c',.int .i64 D.e],.bool false]) ?_ rfl ⟨_,rfl,⟨_,b',rfl,HS3.out.kept S2.out HNE.out⟩,HKW.out.trans S2.out (fun _ _ f=>f) (fun j hj h=>by omega)⟩;simp[results,Tryz.f16,loadVar,go_sem,d0,d1,d2]
  ·have hst:=HI.out.step hi h9;have e9:l.getD i 0=9:=by omega
   have hs2:=dM8 hs1 i 0 (by rw[List.length_set];omega);rw[List.set_set]at hs2;rw[e9]at ec hs1 hs2 ec1 ef1 hk1;have hk2:Kept (fun _=>False) W0 ((wr.setCell ⟨B,o+i,none⟩ (.int .i64 ((9+1:Nat):Int))).setCell ⟨B,o+i,none⟩ (.int .i64 ((0:Nat):Int))):=hk1.setCell _ _ (fun hlt=>by have:=HSZ.out.1;simp at hlt;omega);obtain⟨hi1,hst⟩:=hst;obtain⟨j,rfl⟩:∃ j,i=j+1:=⟨i-1,by omega⟩;rw[show j+1-1=j by omega]at hst;have HST:=hiD hst;have HS:=hiD hs2;have HK2:=hiD hk2;have hjb:wrap64 (j:Int)=(j:Int):=by have h1:=HRNG.out;have h2:=HKN.out;unfold wrap64;omega
   have HJB:=hiD hjb;clear hst hs1 hs2 hk1 hk2 hll HL HI HK hb9 h9 hjb;go_wp2_with fail;go_roundw
   case rel=>exact⟨j,_,by rw[HJB.out],by omega,HS,HST,HK2⟩
   case measure=>have h5:=HJB.out;simp[uOf,h5]
structure Vq (N:Nat) (E:Int) (M j:Nat):Prop where
 eq:N=M*10^j
 pr:M%10≠0
 lo:-3<=E+(j:Int)
 hi:M*10^(E+(j:Int)+3).toNat<=9223372036854775807*1000
theorem vq_of{neg:Bool}{N:Nat}{E:Int}(hN:N≠0)(h:mayD (nd neg N E) maxD=true):∃ M j,Vq N E M j:=by
 obtain⟨M,j,e,hp⟩:=prim N hN;have hM:M≠0:=fun h0=>by rw[h0]at hp;exact hp rfl
 rw[e,aV5,aN7 _ _ _ hp]at h;obtain⟨h1,h2⟩:=dU1 hM h;exact⟨M,j,e,hp,h1,h2⟩
theorem Vq.ne{N:Nat}{E:Int}{M j:Nat}(h:Vq N E M j):M≠0:=fun h0=>by have:=h.pr;rw[h0]at this;exact this rfl
def clN(N:Nat)(E c:Int):Nat:=if c<=E then N*10^(E-c).toNat else negN N (c-E).toNat
theorem cJ7(A k:Nat):negN (A*10) (k+1)=negN A k:=by
 unfold negN;rw[Nat.pow_succ,Nat.mul_mod_mul_right,Nat.mul_div_mul_right _ _ (by omega)];have:(A%10^k*10=0)↔(A%10^k=0):=by omega
 simp only[this]
theorem bI9(A:Nat):negN A 0=A:=by unfold negN;rw[Nat.pow_zero,Nat.mod_one,if_pos rfl,Nat.div_one]
theorem dU4(A:Nat)(e c:Int):clN (A*10) e c=clN A (e+1) c:=by
 unfold clN;by_cases h:c<=e
 ·rw[if_pos h,if_pos (by omega),show(e+1-c).toNat=(e-c).toNat+1 by omega,Nat.pow_succ,Nat.mul_assoc,Nat.mul_comm 10]
 ·by_cases h1:c<=e+1
  ·rw[if_neg h,if_pos h1,show(c-e).toNat=0+1 by omega,cJ7,bI9,show(e+1-c).toNat=0 by omega,Nat.pow_zero,Nat.mul_one]
  ·rw[if_neg h,if_neg h1,show(c-e).toNat=(c-(e+1)).toNat+1 by omega,cJ7]
theorem cD6(A k:Nat)(e c:Int):clN (A*10^k) e c=clN A (e+(k:Int)) c:=by
 induction k generalizing A e with
 | zero=>rw[Nat.pow_zero,Nat.mul_one];congr 1;omega
 | succ k ih=>rw[Nat.pow_succ,Nat.mul_comm (10^k),<- Nat.mul_assoc,ih,dU4];congr 1;omega
theorem bA0(e c:Int):clN 0 e c=0:=by
 unfold clN negN;split
 ·simp
 ·simp
def q9(M j:Nat)(E:Int):Nat:=M*10^(E+(j:Int)+9).toNat
theorem Vq.cl9{N:Nat}{E:Int}{M j:Nat}(h:Vq N E M j)(c:Int):clN (q9 M j E) (-9) c=clN N E c:=by
 have:=h.lo;unfold q9;rw[cD6,h.eq,cD6];congr 1;omega
theorem Vq.q9_le{N:Nat}{E:Int}{M j:Nat}(h:Vq N E M j):q9 M j E<=9223372036854775807*10^9:=by
 have h1:=h.lo;have h2:=h.hi;unfold q9;rw[show(E+(j:Int)+9).toNat=(E+(j:Int)+3).toNat+6 by omega,Nat.pow_add,<- Nat.mul_assoc]
 calc _<=9223372036854775807*1000*10^6:=Nat.mul_le_mul_right _ h2
  _=_:=by decide
theorem Vq.emax{N:Nat}{E:Int}{M j:Nat}(h:Vq N E M j):E+(j:Int)<=18:=by
 rcases(by omega:18<E+(j:Int)\/E+(j:Int)<=18)with h1|h1
 ·have h2:=h.hi;have h3:1*10^22<=M*10^(E+(j:Int)+3).toNat:=Nat.mul_le_mul (Nat.pos_of_ne_zero h.ne) (Nat.pow_le_pow_right (by omega) (by omega));have h4:(10:Nat)^22=10000000000000000000000:=by decide
  omega
 ·exact h1
theorem Vq.r9{N:Nat}{E:Int}{M j:Nat}(h:Vq N E M j)(hE:-180<=E):R9 N (-E) (q9 M j E):=by
 have h1:=h.lo;have h2:=h.emax;rcases Int.lt_trichotomy (-E) 9 with hc|hc|hc
 ·refine Or.inr (Or.inr ⟨(9+E).toNat,by omega,by omega,by omega,?_,?_⟩)
  ·unfold q9;rw[h.eq,Nat.mul_assoc,<- Nat.pow_add];congr 2;omega
  ·rcases Nat.lt_or_ge (9+E).toNat 20 with h3|h3
   ·exact Or.inl h3
   ·right;have h4:=h.hi;have h5:N*10^14<=9223372036854775807*1000:=by
     refine Nat.le_trans ?_ h4;rw[h.eq,Nat.mul_assoc,<- Nat.pow_add];exact Nat.mul_le_mul_left _ (Nat.pow_le_pow_right (by omega) (by omega))
    have h6:(10:Nat)^14=100000000000000:=by decide
    unfold B64;omega
 ·refine Or.inl ⟨hc,?_⟩;unfold q9;rw[h.eq];congr 2;omega
 ·refine Or.inr (Or.inl ⟨(-E-9).toNat,by omega,by omega,by omega,?_⟩);unfold q9;rw[h.eq,Nat.mul_assoc,<- Nat.pow_add];congr 2;omega
theorem dK0(a b:List Nat):dv (a++b)=dv a*10^b.length+dv b:=by
 induction a with
 | nil=>simp[dv]
 | cons x a ih =>
  rw[List.cons_append,dv,dv,ih,List.length_append,Nat.pow_add,Nat.add_mul,Nat.mul_assoc,Nat.add_assoc]
theorem cZ2(M k:Nat)(h:k<=(dgs M).length):dv ((dgs M).take k)=M/10^((dgs M).length-k):=by
 have h1:=List.take_append_drop k (dgs M);have h2:dv (dgs M)=dv ((dgs M).take k)*10^((dgs M).length-k)+dv ((dgs M).drop k):=by
  conv=>lhs;rw[<- h1]
  rw[dK0,List.length_drop]
 have h3:dv ((dgs M).drop k)<10^((dgs M).length-k):=by
  have:=dv_lt ((dgs M).drop k) (fun x hx=>bP7 M x (List.mem_of_mem_drop hx));rwa[List.length_drop]at this
 rw[bD2]at h2;generalize dv ((dgs M).take k)=a at *;generalize dv ((dgs M).drop k)=b at *;generalize(dgs M).length-k=n at *;rw[h2,Nat.mul_comm,Nat.mul_add_div (Nat.pow_pos (by omega)),Nat.div_eq_of_lt h3,Nat.add_zero]
theorem up_nd(neg:Bool)(N:Nat)(E c:Int):nd ((upD (nd neg N E) c).neg != false) (dv (upD (nd neg N E) c).ds*dv (nd false 1 (-c)).ds) ((upD (nd neg N E) c).e+(nd false 1 (-c)).e)=nd neg (clN N E c) 0:=by
 have h1:nd false 1 (-c)=⟨false,[1],-c⟩:=by rw[aN7 _ _ _ (by decide),bW5 (by decide) (by decide)]
 rw[h1];have e1:dv [1]=1:=by decide
 rw[e1,Nat.mul_one,Bool.bne_false];show nd (upD (nd neg N E) c).neg (dv (upD (nd neg N E) c).ds) ((upD (nd neg N E) c).e + -c)=_;by_cases hN:N=0
 ·subst hN;rw[bA0,aI4,aI4];unfold upD;rw[if_pos (Or.inl rfl)];exact aI4 _ _
 obtain⟨M,j,rfl,hp⟩:=prim N hN;have hM:M≠0:=fun h0=>by rw[h0]at hp;exact hp rfl
 rw[aV5,aN7 _ _ _ hp,cD6];generalize E+(j:Int)=e;unfold upD upK;dsimp only;by_cases hc:c<=e
 ·rw[if_pos (Or.inr hc)];show nd neg (dv (dgs M)) (e + -c)=_;unfold clN;rw[bD2,if_pos hc,aV5];congr 1;omega
 ·rw[if_neg (by intro h;rcases h with h|h;exact bL3 hM h;exact hc h)];have hneg:negN M (c-e).toNat=M/10^(c-e).toNat+1:=by
   unfold negN;rw[if_neg];intro h0;have h2:M%10=M%10^(c-e).toNat%10:=by
    rw[show(c-e).toNat=(c-e).toNat-1+1 by omega,Nat.pow_succ,Nat.mul_comm,Nat.mod_mul_right_mod]
   rw[h0]at h2;exact hp h2
  have hdv:dv ((dgs M).take (((dgs M).length:Int)+e-c).toNat)+1=negN M (c-e).toNat:=by
   rw[hneg,cZ2 M _ (by omega)];congr 1;rcases(by omega:((dgs M).length:Int)+e-c<0\/0<=((dgs M).length:Int)+e-c)with h0|h0
   ·have hl:M<10^(dgs M).length:=by have:=dv_lt (dgs M) (bP7 M);rwa[bD2]at this
    rw[show(((dgs M).length:Int)+e-c).toNat=0 by omega,Nat.sub_zero,Nat.div_eq_of_lt hl,Nat.div_eq_of_lt (Nat.lt_of_lt_of_le hl (Nat.pow_le_pow_right (by omega) (by omega)))]
   ·congr 2;omega
  rw[hdv];have hz:∀ P,nd (nd neg P c).neg (dv (nd neg P c).ds) ((nd neg P c).e + -c)=nd neg P 0:=by
   intro P;have:=dM0 neg false P 1 c (-c);rw[h1,e1,Nat.mul_one,Nat.mul_one,Bool.bne_false,Bool.bne_false]at this;rw[show c + -c=0 by omega]at this;exact this
  rw[hz];unfold clN;rw[if_neg hc]
theorem cJ8{neg:Bool}{M k:Nat}(hM:M≠0):dv (wideL ⟨neg,dgs M,(k:Int)⟩ 0)=M*10^k:=by
 have hne:(⟨neg,dgs M,(k:Int)⟩:Dm).ds≠[]:=bL3 hM;unfold wideL;rw[if_neg hne];show dv (dgs M++zs ((k:Int)-0).toNat)=_;rw[Int.sub_zero,Int.toNat_natCast,<- dZ5 M k hM,bD2]
theorem cJ9(neg:Bool):intD ⟨neg,[],0⟩=(0,true):=by
 have hw:dv (wideL ⟨neg,[],0⟩ 0)=0:=by unfold wideL;rw[if_pos rfl];rfl
 unfold intD;rw[hw,if_neg (by simp)];have w0:wrap64 0=0:=by unfold wrap64;omega
 have u0:IntKind.u64.wrap 0=0:=rfl;cases neg<;>simp[w0,u0]
theorem bX4(neg:Bool)(V:Nat)(h:V<=9223372036854775807):intD (nd neg V 0)=(sgZ neg V,true):=by
 by_cases hV:V=0
 ·subst hV;rw[aI4,cJ9];cases neg<;>rfl
 obtain⟨M,k,rfl,hp⟩:=prim V hV;have hM:M≠0:=fun h0=>by rw[h0]at hp;exact hp rfl
 rw[aV5,aN7 _ _ _ hp,Int.zero_add];have hl:(dgs M).length+k<=19:=by
  rcases Nat.lt_or_ge 19 ((dgs M).length+k)with h1|h1
  ·have h2:=(aM3 hM).le;rw[bD2]at h2;have h3:10^((dgs M).length-1)*10^k<=M*10^k:=Nat.mul_le_mul_right _ h2;rw[<- Nat.pow_add]at h3;have h4:10^19<=10^((dgs M).length-1+k):=Nat.pow_le_pow_right (by omega) (by have:=(aM3 hM).2.1;omega);have h5:(10:Nat)^19=10000000000000000000:=by decide
   omega
  ·exact h1
 have hw:=cJ8 (neg:=neg) (k:=k) hM;unfold intD;rw[hw];generalize M*10^k=X at *;rw[if_neg (by dsimp only;omega)];unfold sgZ;cases neg
 ·rw[if_neg (by simp),if_neg (by simp)];refine Prod.ext ?_ (decide_eq_true (by omega));show wrap64 (X:Int)=_;unfold wrap64;omega
 ·rw[if_pos rfl,if_pos rfl];refine Prod.ext ?_ (decide_eq_true (by omega));show wrap64 (IntKind.u64.wrap (-(X:Int)))=_;rw[IntKind.wrap_u64];unfold wrap64;omega
theorem dU5(C:Nat)(h:(intD (nd false C 0)).2=true):C<=9223372036854775807:=by
 by_cases hC:C=0
 ·omega
 obtain⟨M,k,rfl,hp⟩:=prim C hC;have hM:M≠0:=fun h0=>by rw[h0]at hp;exact hp rfl
 rw[aV5,aN7 _ _ _ hp,Int.zero_add]at h;have hw:=cJ8 (neg:=false) (k:=k) hM;unfold intD at h;rw[hw]at h;generalize M*10^k=X at *;split at h
 ·cases h
 ·have h1:=of_decide_eq_true h;omega
end Go.Proofs.YtjebnpkebccffaaGreatDoor
