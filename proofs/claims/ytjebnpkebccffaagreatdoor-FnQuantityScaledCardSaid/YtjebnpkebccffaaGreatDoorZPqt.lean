import Derived.Test.YtjebnpkebccffaaGreatDoorZPqz
set_option linter.unusedSimpArgs false
set_option linter.unusedVariables false
set_option linter.unusedSectionVars false
set_option maxRecDepth 100000
set_option maxHeartbeats 8000000
namespace Go.Proofs.YtjebnpkebccffaaGreatDoor
open Go.RowKit Go.Proofs.Tryz
theorem wr32{a:Int}(h:-2147483648<=a/\a<=2147483647):wrap32 a=a:=by unfold wrap32;omega
theorem dZ6(m:Nat)(kx:Int)(hm:m<=1000)(hk:0<=kx/\kx<=100):wrap32 (wrap32 (wrap32 (15-wrap32 (m:Int))-kx)-1)=14-kx-(m:Int):=by
 rw[wr32 (a:=(m:Int)) (by omega),wr32 (a:=15-(m:Int)) (by omega),wr32 (a:=15-(m:Int)-kx) (by omega),wr32 (by omega)];omega
theorem cP1(s:ByteArray)(neg:Bool)(value num denom suf:ByteArray)(xs:Nat)(U V:Int)(Q:Nat)(h:PIn s neg value num denom suf 2 (xs:Int) ⟨#[66,105,110,97,114,121,83,73]⟩)(hx1:1<=xs)(hx2:xs<64)(hd0:denom.size=0)(kx:Int)(hk0:FltK (xs:Int) kx)(hprec:14-kx-(num.size:Int)<0/\0<=kx/\kx<=100)(hval:PVal value neg U denom.size)(hUl:Sm U.natAbs)(hV:V=U*((2^xs:Nat):Int))(hl:(dig V.natAbs).length<=900)(hQ:Sm Q)(hr:V≠0->R9 V.natAbs (denom.size:Int) Q)(n9 s9:Int)(hn9:PqNum V (denom.size:Int) Q n9 s9)(f9:ByteArray)(hfm:(V=0->f9=⟨#[66,105,110,97,114,121,83,73]⟩)/\(V≠0->Q<=9223372036854775807*10^9/\PqFmt Q 9 f9))(w:World)(ev:Value)(a:Addr)(hev0:w.cell? ⟨0,0,none⟩=some ev)(heof:Eof w a)(ht:Thr w):Calls prog 27 #[.string s] w (PqSlow w n9 s9 f9):=by
 have k0:Kept (fun _=>False) w (w.alloc (.cells zQ 66)):=(Kept.refl _ _).alloc _;have h0:=aA0 w (.cells zQ 66);have HB:=hiD h0;have hp:=aG5 s (by have:=h.sz;omega) (w.alloc (.cells zQ 66)) _ (aC9 k0 hev0);rw[h.pq]at hp;have HP:=hiD hp;have K0:=hiD k0;have HIP:=hiD h.ip;have q1:=fun w=>e_nn0 w
 have q2:=fun w=>aL4 w
 have q3:=fun d w=>aS5 d w
 have hz:((s.size:Int)==0)=false:=beqF (by have:=h.ne;omega);have hz2:=h.n0;have HH:=hiD h;have hxb:=h.xb;have hl1:=h.l1;have hl2:=h.l2;have HE:=hiD heof;have HT:=hiD ht;have HV:=hiD hval;have HUL:=hiD hUl;have HVV:=hiD hV;have HR2:=hiD (And.intro hl (And.intro hQ (And.intro hr hn9)));have HFM:=hiD hfm;have HXS:=hiD (And.intro hx1 hx2);have HXB:=hiD (And.intro hxb (And.intro hl1 hl2));obtain⟨sc,hsc⟩:∃ sc:Int,sc=(denom.size:Int):=⟨_,rfl⟩;have HSC:=hiD (show sc=(denom.size:Int) /\ -1000<=sc/\sc<=1000 from⟨hsc,by omega⟩);rw[<- hsc]at HR2;have exs:(xs:Int)%18446744073709551616=(xs:Int):=by omega
 have q4:=fun p w=>fld63 p w
 have hx0:(0:Int)<=(xs:Int):=by omega
 obtain⟨a1,a2,a3,v1,v2,v3,v4⟩:=hk0;have hdz:((denom.size:Int)==0)=true:=beqT (by omega);have hd0':(denom.size==0)=true:=by simpa using hd0
 have eP:wrap32 (wrap32 (wrap32 (15-wrap32 (num.size:Int))-kx)-1)=14-kx-(num.size:Int):=dZ6 num.size kx (by omega) (by omega);have hneg:wrap32 (wrap32 (wrap32 (15-wrap32 (num.size:Int))-kx)-1)<0:=by rw[eP];omega
 obtain⟨q,hq⟩:∃ q,q=w.heap.size:=⟨_,rfl⟩;rw[<- hq]at HB;have HQ:=hiD hq;clear hp k0 hev0 h0 h hl hQ hr hn9 hfm hsc hval hUl hV heof ht hxb hl1 hl2 hx1 hx2 hd0 eP hprec;go_enter func27,ntmps27;clear hq;go_wp2_with fail;rw[<- HQ.out];refine HP.out.mono ?_;rintro e w1 ⟨rfl,hk⟩;have K1:=hiD (K0.out.same hk);have B1:=hiD (hk.at HB.out (fun f=>f));clear hk HP HB;simp only[pqV];go_wp2_with fail;refine(aC3 w1).mono ?_;rintro e w2 ⟨dd,rfl,hdd,hsf,hk⟩;have K2:=hiD (K1.out.same hk);have B2:=hiD (hk.at B1.out (fun f=>f));have HC:=hiD (HIP.out dd w2 hsf);clear hk hsf B1 K1;go_wp2_with fail;refine HC.out.mono ?_;rintro e w3 ⟨rfl,hk⟩;have K3:=hiD (K2.out.same hk);have B3:=hiD (hk.at B2.out (fun f=>f));clear hk B2 HC K2 HIP
 go_upto_if 61 with fail
 go_cut []from 30 (fun wx=>wx=w3)
 case first=>as_aux_lemma =>
  go_wp2_with fail;go_meet
  case rel=>rfl
 case rest=>as_aux_lemma =>
  have hcut2:=hcut.symm;clear hcut;subst hcut2
  go_upto_if 102 with fail
  have HW3:Hid (Kept (fun _=>False) w w3/\w3.heap[q]? = some (.cells zQ 66 (0,0))):=⟨K3.out,B3.out⟩;clear K3 B3
  go_cut []from 30 (fun wx=>wx=w3)
  case first=>as_aux_lemma =>
   go_wp2_with fail;go_meet
   case rel=>rfl
  case rest=>as_aux_lemma =>
   obtain rfl:=hcut;obtain⟨pt,o,g,hsp,hcn,hU,hdd⟩:=HV.out.ex;have k4:Kept (fun _=>False) w (wc.alloc zDec):=HW3.out.1.alloc _;have b4:=((Kept.refl (fun _=>False) wc).alloc zDec).at HW3.out.2 (fun f=>f);have hqw:=aB5 HW3.out.2;have Z4:=aL7 wc;have HSS:=hiD (aH3 wc.heap.size pt 0 0 none value g a (wc.alloc zDec) Z4 o neg hcn HV.out.sz (HE.out.kept k4 (fun f=>f)) hsp (by simp) U hU (denom.size:Int) hdd);have H4:Hid (Own9 w wc.heap.size q none 0 0 (wc.alloc zDec)):=⟨Z4,k4,b4,hqw,by simp⟩;clear hsp hcn hU hdd k4 b4 hqw Z4 HV;simp only[zDec]at HSS H4;go_wp2_with fail;generalize hd:wc.heap.size=d at HSS H4 ⊢;generalize hw4:wc.alloc (.cells #[.bool false,.slice none 0 0,.int .i32 0] 112)=w4 at HSS H4 ⊢;clear hd hw4;refine HSS.out.mono ?_;rintro e w5 ⟨rfl,b5,hd5,ho5,hk5⟩;have H5:=hiD (H4.out.set HQ.out.symm hd5 hk5 ho5);clear hd5 ho5 hk5 H4 HSS;go_wp2_with fail;refine(aD4 1 (by omega) w5).mono ?_;rintro e w6 ⟨x1,c1,rfl,hx1,hi1,hk,hf1⟩;have H6:=hiD (H5.out.old hk);have X1:=hiD (And.intro hx1 (And.intro hi1 (And.intro hf1 hk.size)));have L5:=hiD (show d<w5.heap.size/\(∀ k,b5=some k->k<w5.heap.size)/\w.heap.size<=w5.heap.size from⟨IntAt.lt H5.out.at',IntAt.lts H5.out.at',H5.out.k.size⟩);clear hx1 hi1 hk hf1 H5;go_wp2_with fail;refine(aD4 1 (by omega) w6).mono ?_;rintro e w7 ⟨x2,c2,rfl,hx2,hi2,hk,hf2⟩;have H7:=hiD (H6.out.old hk);have Y1:=hiD (X1.out.2.1.old hk);have X2:=hiD hi2;have hx1l:=X1.out.2.1.lt;have hx12:x1≠x2:=by omega
   have hc12:c1≠some x2:=by intro h;have:=X1.out.2.1.lts x2 h;omega
   have HX12:=hiD (And.intro hc12 hx12);clear hx2 hi2 hk hf2 H6 hx1l hx12 hc12;go_wp2_with fail;refine(aW5 x1 x2 xs 1 c1 c2 [] [] 109 109 w7 Y1.out X2.out HX12.out.1 HX12.out.2 HXS.out.1 HXS.out.2).mono ?_;rintro e w8 ⟨rfl,c3,hi3,hk,ho3⟩;have H8a:=hiD (H7.out.keptS hk w5.heap.size (fun k e=>by
    rcases e with e|e
    ·have:=X1.out.1;omega
    ·exact X1.out.2.2.1 k e) L5.out.1 L5.out.2.1 L5.out.2.2)
   have I8:=hiD hi3;clear hi3 hk ho3 H7 Y1 X2 HX12;go_wp2_with fail;refine(aA4 d U (denom.size:Int) b5 w8 H8a.out.at').mono ?_;rintro e w8' ⟨rfl,rfl⟩;go_wp2_with fail;refine(aI7 d d x1 U U ((2^xs:Nat):Int) b5 b5 c3 [.int .i32 (denom.size:Int)] [.int .i32 (denom.size:Int)] [] 112 112 109 w8 H8a.out.at' H8a.out.at' I8.out (by have:=X1.out.1;have:=L5.out.1;omega) (Or.inl rfl) (by have:=X1.out.1;have:=L5.out.1;omega) (by intro h;have:=L5.out.2.1 _ h;have:=X1.out.1;omega) (by have:=Nat.pow_pos (n:=xs) (show 0<2 by omega);omega) (by rw[Int.natAbs_natCast];exact bX5 HXS.out.2) HUL.out).mono ?_;rintro e w6b ⟨rfl,b6,hd9,hk,ho9⟩;have H6:Hid (Own9 w d q b6 (U*((2^xs:Nat):Int)) (denom.size:Int) w6b):=H8a.out.set HQ.out.symm hd9 hk ho9;rw[<- HVV.out,<- HSC.out.1]at H6;clear hd9 hk ho9 H8a I8 L5 X1;go_wp2_with fail;refine(aF8 d V sc b6 w6b H6.out.at').mono ?_;rintro e w6b' ⟨rfl,rfl⟩;go_wp2_with fail;refine(aU1 d V sc b6 w6b H6.out.at').mono ?_;rintro e w7 ⟨rfl,rfl⟩
   go_upto_if 212 with fail
   obtain⟨A,hA⟩:∃ A:Nat,A=V.natAbs:=⟨_,rfl⟩;have HA:=hiD hA
   go_cut []from 30 (fun wx=>Hid (Own9 w d q b6 (A:Int) sc wx))
   case first=>as_aux_lemma =>
    rcases Int.lt_or_le V 0 with hU|hU
    ·have hs:=bD0 hU;rw[hs];clear hs;go_wp2_with fail;refine(aF6 d V sc b6 w6b H6.out.at').mono ?_;rintro e w7 ⟨rfl,h1,h2⟩;have H7:=hiD (H6.out.set1 HQ.out.symm h1 h2);rw[show -V=(A:Int)by omega]at H7;clear h1 h2 hA hU;go_wp2_with fail;go_meet
     case rel=>exact H7
    ·have hs:=bD1 hU;rw[hs];have H7:=H6;rw[show V=(A:Int)by omega]at H7;clear hs hA hU;go_wp2_with fail;go_meet
     case rel=>exact H7
   case rest=>as_aux_lemma =>
    have H8:=hcut;clear hcut;clear H6;go_step;go_step;obtain⟨A9,S9,h9a,h9b⟩:∃(A9:Nat) (S9:Int),(A=0->A9=0/\S9=sc)/\(A≠0->A9=Q/\S9=9):=by
     by_cases h:A=0
     ·exact⟨0,sc,fun _=>⟨rfl,rfl⟩,fun h'=>absurd h h'⟩
     ·exact⟨Q,9,fun h'=>absurd h' h,fun _=>⟨rfl,rfl⟩⟩
    have H9A:=hiD (And.intro h9a h9b);clear h9a h9b
    go_cut []from 30 (fun wx=>Hid (∃ b9,Own9 w d q b9 (A9:Int) S9 wx))
    case first=>as_aux_lemma =>
     go_wp2_with fail;refine(aI3 d A sc b6 wc H8.out.at').mono ?_;rintro e w9 ⟨⟨u,ok,rfl,hok,hu0⟩,hk⟩;have H9:=hiD (H8.out.old hk);clear hk H8;by_cases hA0:A=0
     ·obtain rfl:=hu0 hA0;obtain rfl:ok=true:=hok.2 (by omega);obtain⟨e1,e2⟩:=H9A.out.1 hA0;have HM:Hid (∃ b9,Own9 w d q b9 (A9:Int) S9 w9):=⟨b6,by rw[e1,e2];have:=H9.out;rw[hA0]at this;exact this⟩;clear hok hu0 e1 e2 H9 hA0 hA;go_wp2_with fail;go_meet
      case rel=>exact HM
     ·have HRD:Hid (Calls prog 66 #[.pointer (some ⟨d,0,none⟩),.pointer (some ⟨d,0,none⟩),.int .i32 9,RU] w9 (aG3 w9 d b6 (Q:Int) 9)) :=
       aU7 H9.out (HT.out.old H9.out.k) hA0 (by rw[hA];exact HR2.out.1) HR2.out.2.1 HSC.out.2 (by rw[hA];exact HR2.out.2.2.1 (by omega))
      have HM:Hid (∀ wy,(∃ b9,DecAt wy d (Q:Int) 9 b9/\Kept (fun k=>k=d\/b6=some k) w9 wy/\Own w9 b6 b9)->∃ b9,Own9 w d q b9 (A9:Int) S9 wy):=by
       rintro wy ⟨b9,g1,g2,g3⟩;obtain⟨e1,e2⟩:=H9A.out.2 hA0;rw[e1,e2];exact⟨b9,H9.out.set HQ.out.symm g1 g2 g3⟩
      by_cases hu:u=0
      ·have hok2:ok=false:=by
        cases ok with
        | false=>rfl
        | true=>exact absurd (hok.1 rfl) (by omega)
       subst hu;subst hok2;clear hok hu0 H9 hA0 hA;go_wp2_with fail;refine(aC8 (-9) w9 (by omega)).mono ?_;rintro e w10 ⟨rfl,rfl⟩;go_wp2_with fail;refine(aE4 w9).mono ?_;rintro e w10 ⟨rfl,rfl⟩;go_wp2_with fail;refine HRD.out.mono ?_;rintro e w10 ⟨rfl,b9,g1,g2,g3⟩;have HMM:=hiD (HM.out w10 ⟨b9,g1,g2,g3⟩);clear g1 g2 g3;go_wp2_with fail;go_meet
       case rel=>exact HMM
      ·have t1:(u==0)=false:=beqF hu;have t2:(u != 0)=true:=by simp only[bne,t1];rfl
       clear hok hu0 H9 hA0 hA;go_wp2_with fail;refine(aC8 (-9) w9 (by omega)).mono ?_;rintro e w10 ⟨rfl,rfl⟩;go_wp2_with fail;refine(aE4 w9).mono ?_;rintro e w10 ⟨rfl,rfl⟩;go_wp2_with fail;refine HRD.out.mono ?_;rintro e w10 ⟨rfl,b9,g1,g2,g3⟩;have HMM:=hiD (HM.out w10 ⟨b9,g1,g2,g3⟩);clear g1 g2 g3;go_wp2_with fail;go_meet
       case rel=>exact HMM
    case rest=>as_aux_lemma =>
     have H10:=hcut.out;obtain⟨b9,h10⟩:=H10;have H11:=hiD h10;clear hcut h10 H8;have hkk:∃ kk:Nat,S9=(kk:Int)/\kk<=180:=by
      by_cases h:A=0
      ·have e1:=HSC.out;exact⟨denom.size,by rw[(H9A.out.1 h).2];exact e1.1,by have:=HXB.out;omega⟩
      ·exact⟨9,by rw[(H9A.out.2 h).2];rfl,by omega⟩
     obtain⟨kk,hk1,hk2⟩:=hkk;have HKK:=hiD (And.intro hk1 hk2);obtain⟨hA9m,hA9f⟩:A9<=9223372036854775807*10^kk/\PqFmt A9 kk f9:=by
      by_cases h:A=0
      ·obtain⟨e1,e2⟩:=H9A.out.1 h;refine⟨by omega,?_⟩;have hz:=HFM.out.1 (by rw[HA.out]at h;omega);exact⟨fun h'=>by omega,fun _=>hz⟩
      ·obtain⟨e1,e2⟩:=H9A.out.2 h;have ek:kk=9:=by omega
       subst ek;rw[e1];exact HFM.out.2 (by rw[HA.out]at h;omega)
     have HF9:=hiD hA9f;obtain⟨r,hr⟩:∃ r,r=cmpZ (A9:Int) ((9223372036854775807*10^kk:Nat):Int):=⟨_,rfl⟩;have hr0:r<=0:=by
      rw[hr];unfold cmpZ;split
      ·omega
      ·rw[if_neg (by omega)];omega
     have HR0:=hiD (And.intro hr hr0);clear hk1 hk2 hA9m hA9f hr hr0;go_wp2_with fail;refine(aN6 wc).mono ?_;rintro e w12 ⟨p,bp,rfl,hp,hdp,hk,hfp⟩;have H12:=hiD (H11.out.old hk);have hdp':d≠p:=by have:=IntAt.lt H11.out.at';omega
     have HCM:Hid (Calls prog 68 #[.pointer (some ⟨d,0,none⟩),.pointer (some ⟨p,0,none⟩)] w12 (aL8 w12 r)):=aU9 (m:=9223372036854775807) H12.out (HT.out.old H12.out.k) hdp hdp' kk HKK.out.1 HKK.out.2 (by unfold B64;omega) r HR0.out.1;clear hp hdp hk hfp hdp' H11;go_wp2_with fail;refine HCM.out.mono ?_;rintro e w13 ⟨rfl,hk⟩;have H13:=hiD (H12.out.old hk);clear hk H12 HCM
     go_upto_if 240 with fail
     go_cut []from 30 (fun wx=>Hid (Own9 w d q b9 (A9:Int) S9 wx))
     case first=>as_aux_lemma =>
      have f1:decide ((0:Int)<r)=false:=decF (by have:=HR0.out.2;omega);have f2:r<=0:=HR0.out.2;try rw[f1]
      go_wp2_with fail;go_meet
      case rel=>exact H13
     case rest=>as_aux_lemma =>
      have H11:=hcut;clear hcut H13 HR0;go_step;go_step
      go_cut [12]from 30 (fun v12 wx=>v12=.string f9/\Hid (Own9 w d q b9 (A9:Int) S9 wx))
      case first=>as_aux_lemma =>
       go_wp2_with fail;refine(aI6 1 0 _ (by decide)).mono ?_;rintro e w14 ⟨p,bp,rfl,hp,hdp,hk,hfp⟩;have H14:=hiD (H11.out.old hk);have hdp':d≠p:=by have:=IntAt.lt H11.out.at';omega
       obtain⟨r1,hr1⟩:∃ r1,r1=cmpZ (A9:Int) ((1*10^kk:Nat):Int):=⟨_,rfl⟩;have HCM:Hid (Calls prog 68 #[.pointer (some ⟨d,0,none⟩),.pointer (some ⟨p,0,none⟩)] w14 (aL8 w14 r1)):=aU9 (m:=1) H14.out (HT.out.old H14.out.k) hdp hdp' kk HKK.out.1 HKK.out.2 (by unfold B64;omega) r1 hr1;have HR1:=hiD hr1;clear hp hdp hk hfp hdp' H11 hr1;go_wp2_with fail;refine HCM.out.mono ?_;rintro e w15 ⟨rfl,hk⟩;have H15:=hiD (H14.out.old hk);clear hk H14 HCM;rcases Nat.lt_or_ge A9 (10^kk)with hlt|hge
       ·have e1:r1 = -1:=by rw[HR1.out];unfold cmpZ;rw[Nat.one_mul,if_pos (by omega)]
        have hlt2:=hiD hlt;subst e1;clear hlt HR1;go_wp2_with fail;refine(aI6 0 0 _ (by decide)).mono ?_;rintro e w16 ⟨p2,bp2,rfl,hp,hdp,hk,hfp⟩;have H16:=hiD (H15.out.old hk);have hdp':d≠p2:=by have:=IntAt.lt H15.out.at';omega
        obtain⟨r2,hr2⟩:∃ r2,r2=cmpZ (A9:Int) ((0*10^kk:Nat):Int):=⟨_,rfl⟩;have HCM:Hid (Calls prog 68 #[.pointer (some ⟨d,0,none⟩),.pointer (some ⟨p2,0,none⟩)] w16 (aL8 w16 r2)):=aU9 (m:=0) H16.out (HT.out.old H16.out.k) hdp hdp' kk HKK.out.1 HKK.out.2 (by unfold B64;omega) r2 hr2;have HR2':=hiD hr2;clear hp hdp hk hfp hdp' H15 hr2;go_wp2_with fail;refine HCM.out.mono ?_;rintro e w17 ⟨rfl,hk⟩;have H17:=hiD (H16.out.old hk);clear hk H16 HCM;rcases Nat.eq_zero_or_pos A9 with h0|h0
        ·have e2:r2=0:=by rw[HR2'.out];unfold cmpZ;rw[Nat.zero_mul,if_neg (by omega),if_neg (by omega)]
         have ef:f9=⟨#[66,105,110,97,114,121,83,73]⟩:=HF9.out.2 (by omega);have EF:=hiD ef;subst e2;clear HR2' ef h0;go_wp2_with fail;go_meet
         case rel=>exact⟨by rw[EF.out],H17⟩
        ·have e2:r2=1:=by rw[HR2'.out];unfold cmpZ;rw[Nat.zero_mul,if_neg (by omega),if_pos (by omega)]
         have ef:f9=⟨#[68,101,99,105,109,97,108,83,73]⟩:=HF9.out.1 ⟨h0,hlt2.out⟩;have EF:=hiD ef;subst e2;clear HR2' ef h0;go_wp2_with fail;go_meet
         case rel=>exact⟨by rw[EF.out],H17⟩
       ·have e1:0<=r1:=by rw[HR1.out];unfold cmpZ;rw[Nat.one_mul,if_neg (by omega)];split<;>omega
        have f1:decide (r1<0)=false:=decF (by omega);have ef:f9=⟨#[66,105,110,97,114,121,83,73]⟩:=HF9.out.2 (by omega);have EF:=hiD ef;clear HR1 ef hge;go_wp2_with fail;go_meet
        case rel=>exact⟨by rw[EF.out],H15⟩
      case rest=>as_aux_lemma =>
       obtain⟨rfl,H11⟩:=hcut
       go_upto_if 260 with fail
       have hfin:(V<0->n9 = -(A9:Int))/\(0<=V->n9=(A9:Int))/\s9=S9:=by
        have hn:=HR2.out.2.2.2;unfold PqNum at hn;rcases Int.lt_trichotomy V 0 with h|h|h
        ·obtain⟨e1,e2⟩:=H9A.out.2 (by rw[HA.out];omega);obtain⟨e3,e4⟩:=hn.2.1 h;exact⟨fun _=>by rw[e1];exact e3,fun h'=>by omega,by omega⟩
        ·obtain⟨e1,e2⟩:=H9A.out.1 (by rw[HA.out];omega);obtain⟨e3,e4⟩:=hn.1 h;exact⟨fun h'=>by omega,fun _=>by omega,by omega⟩
        ·obtain⟨e1,e2⟩:=H9A.out.2 (by rw[HA.out];omega);obtain⟨e3,e4⟩:=hn.2.2 h;exact⟨fun h'=>by omega,fun _=>by omega,by omega⟩
       have HFIN:=hiD hfin;clear hfin hA
       go_cut []from 30 (fun wx=>Hid (Own9 w d q b9 n9 s9 wx))
       case first=>as_aux_lemma =>
        rcases Int.lt_or_le V 0 with hU|hU
        ·have hs:=bD0 hU;rw[hs];have e1:=HFIN.out.1 hU;clear hs;go_wp2_with fail;refine(aF6 d (A9:Int) S9 b9 wc H11.out.at').mono ?_;rintro e w12 ⟨rfl,h1,h2⟩;have H12:=hiD (H11.out.set1 HQ.out.symm h1 h2);rw[<- e1,<- HFIN.out.2.2]at H12;clear h1 h2 hU e1;go_wp2_with fail;go_meet
         case rel=>exact H12
        ·have hs:=bD1 hU;rw[hs];have H12:=H11;rw[<- HFIN.out.2.1 hU,<- HFIN.out.2.2]at H12;clear hs hU;go_wp2_with fail;go_meet
         case rel=>exact H12
       case rest=>as_aux_lemma =>
        have H13:=hcut;clear hcut H11 HFIN H9A HR2 HSC;obtain⟨⟨c0,c1,c2,c3,c4⟩,z0,z1,z2,z3,z4⟩:=aJ1 H13.out.res;obtain⟨W,hW,hg1,hg2,hg3⟩:=bE9 H13.out HQ.out.symm f9;have G1:=hiD hg1;have G2:=hiD hg2;have G3:=hiD hg3;have HW:=hiD hW;clear hW hg1 hg2 hg3;go_wp2_with fail;rw[<- HW.out];obtain⟨d0,d1,d2,d3,d4⟩:=aC7 G1.out;refine bodyPost_ret (v:=.tuple #[.agg #[.int .i64 0,.int .i32 0,.pointer (some ⟨d,0,none⟩),.string ⟨#[]⟩,.string f9],.nilIface]) ?_ rfl ⟨⟨d,_,rfl,G2.out⟩,G3.out⟩;simp[results,Tryz.f27,loadVar,go_sem,d0,d1,d2,d3,d4]
end Go.Proofs.YtjebnpkebccffaaGreatDoor
