import Derived.Test.YtjebnpkebccffaaGreatDoorZKdr
set_option linter.unusedSimpArgs false
set_option linter.unusedVariables false
set_option linter.unusedSectionVars false
set_option maxRecDepth 100000
set_option maxHeartbeats 8000000
namespace Go.Proofs.YtjebnpkebccffaaGreatDoor
open Go.RowKit Go.Proofs.Tryz
theorem bV3(ub qb vb vo n m su sq U V p qc uc vc len cap:Nat)(b:Option Addr)(si:Option Nat)(cu cq cv:Array Value)(w:World)(hN:LdNum U V n m)(hst:StkAt w p b len cap si)(hl:len<=800)(hu:w.heap[ub]? = some (.cells cu 165 (0,0)))(hus:cu.size=su)(huc:Has cu 0 (wds (m+n) U))(hul:m+n<=uc)(hul2:uc<=su)(hq:w.heap[qb]? = some (.cells cq 165 (0,0)))(hqs:cq.size=sq)(hql:m<=qc)(hql2:qc<=sq)(hv:w.heap[vb]? = some (.cells cv 165 (0,0)))(hvc:Has cv vo (wds n V))(hvl:n<=vc)(hvl2:vo+vc<=cv.size)(huq:ub≠qb)(huv:ub≠vb)(hqv:qb≠vb)(hup:ub≠p)(hqp:qb≠p)(hvp:vb≠p)(husi:si≠some ub)(hqsi:si≠some qb)(hvsi:si≠some vb)(hub:b≠some ⟨ub,0,none⟩)(hqb:b≠some ⟨qb,0,none⟩)(hvb:b=some ⟨vb,0,none⟩->vo+n<=len):
  Calls prog 250 #[.slice (some ⟨qb,0,none⟩) m qc,.pointer (some ⟨p,0,none⟩),.slice (some ⟨ub,0,none⟩) (m+n) uc,.slice (some ⟨vb,vo,none⟩) n vc] w fun e w'=>e=.returned (.tuple #[]) /\
   (∃ cu',w'.heap[ub]? = some (.cells cu' 165 (0,0))/\cu'.size=su/\Has cu' 0 (wds (m+n) (U%V)))/\(∃ cq',w'.heap[qb]? = some (.cells cq' 165 (0,0))/\cq'.size=sq/\Has cq' 0 (wds m (U/V))) /\
   (∃ si2,StkM w' p 0 si2/\∀ q,si2=some q->si=some q\/w.heap.size<=q)/\Kept (fun i=>i=ub\/i=qb\/i=p\/si=some i\/b=some ⟨i,0,none⟩) w w':=by
 have HSV:=hiD (bO4 p b len cap si w hst);have HNAT:=hiD (cB3 p (n+1) b len cap si w hst (by have:=hN.bn;omega) (by omega));have HSTART:Hid (∀ e w2,bH5 w p (n+1) len b si e w2->∃ hb ho hc si',e=.returned (.slice (some ⟨hb,ho,none⟩) (n+1) hc)/\n+1<=hc/\StkM w2 p len si'/\(∀ i,i=ub\/i=qb\/i=hb->i≠p/\si'≠some i) /\
   LdSep ub qb vb vo hb ho n m su sq/\LdMem w2 ub qb vb vo hb ho n m su sq U V (U%(V*B64^(m+1))) (m+1) w2 /\
   Kept (fun i=>i=p\/si=some i\/b=some ⟨i,0,none⟩) w w2/\(b=some ⟨hb,0,none⟩\/w.heap.size<=hb)/\(∀ q,si'=some q->si=some q\/w.heap.size<=q)):=fun e w2 hres=>dF7 hN hst hu hus huc (by omega) hq hqs (by omega) hv hvc huq huv hqv hup hqp hvp husi hqsi hvsi hub hqb hvb hres
 have hn:=hN.bn;have hmm:=hN.bm;have hB:B64=18446744073709551616:=rfl;obtain⟨hVB,hV0⟩:=aU6 hN.top (by omega);obtain⟨k,hk⟩:∃ k,n=k+2:=⟨n-2,by omega⟩;obtain⟨v1,hv1⟩:∃ v1,v1=V/B64^(k+1):=⟨_,rfl⟩;have hv1b:v1<B64:=by
  rw[hv1,Nat.div_lt_iff_lt_mul (Nat.pow_pos aA6),<- Nat.pow_succ'];have:=hN.bV;rw[hk]at this;exact this
 have hv1t:B64<=2*v1:=by
  have:=hN.top;rw[hk,show k+2-1=k+1 by omega,<- hv1]at this;exact this
 have hv1ne:v1≠B64-1:=by
  have:=hN.ne;rw[hk,show k+2-1=k+1 by omega,<- hv1]at this;exact this
 have HREC:=hiD (fun w=>cW2 v1 (by omega) hv1b hv1ne w);have HWW:Hid (∀ x1 x0,x1<v1->x0<B64->∀ w,Calls prog 276 #[.int .u64 (x1:Int),.int .u64 (x0:Int),.int .u64 (v1:Int),.int .u64 (rcpN v1:Int)] w fun e w'=>e=.returned (.tuple #[.int .u64 (((x1*B64+x0)/v1:Nat):Int),.int .u64 (((x1*B64+x0)%v1:Nat):Int)])/\w=w'):=fun x1 x0 h1 h0 w=>bU6 x1 x0 v1 (by omega) hv1b h1 h0 w;generalize rcpN v1=rc at *;have q1:IntKind.i64.wrap (((m+n:Nat):Int)-(n:Int))=(m:Int):=by rw[IntKind.wrap_i64];omega
 have q1':IntKind.i64.wrap ((m:Int)+(n:Int)-(n:Int))=(m:Int):=by rw[IntKind.wrap_i64];omega
 have q1'':wrap64 (m:Int)=(m:Int):=by unfold wrap64;omega
 have q2:IntKind.i64.wrap ((n:Int)+1)=(n:Int)+1:=by rw[IntKind.wrap_i64];omega
 obtain⟨n1,hn1⟩:∃ n1,n1=k+1:=⟨_,rfl⟩;have q3:IntKind.i64.wrap ((n:Int)-1)=(n1:Int):=by rw[IntKind.wrap_i64];omega
 have q4:IntKind.i64.wrap ((n:Int)-2)=(k:Int):=by rw[IntKind.wrap_i64];omega
 have q5:n1<n:=by omega
 have q6:k<n:=by omega
 have HN:=hiD hN;have HV:=hiD (show v1=V/B64^(k+1)/\v1<B64/\B64<=2*v1/\n=k+2/\n1=k+1/\0<V/\B64^n<=V*B64 from⟨hv1,hv1b,hv1t,hk,hn1,hV0,hVB⟩);have HB:=hiD (show(2<=n/\n<40)/\(1<=m/\m<=1000)/\m+n<=uc/\uc<=su/\m<=qc/\qc<=sq/\n<=vc from⟨hn,hmm,hul,hul2,hql,hql2,hvl⟩);have e1:((n+1:Nat):Int)=(n:Int)+1:=by omega
 rw[e1]at HNAT;clear hN hst hl hu hus huc hul hul2 hq hqs hql hql2 hv hvc hvl hvl2 huq huv hqv hup hqp hvp husi hqsi hvsi hub hqb hvb hn hmm hB hVB hV0 hk hv1 hv1b hv1t hv1ne hn1 e1
 go_enter_defers func250,ntmps250
 go_wp2_with fail;refine HSV.out.mono ?_;rintro e w1 ⟨rfl,rfl⟩;go_wp2_with fail;refine HNAT.out.mono ?_;intro e w2 hres;obtain⟨hb,ho,hc,si',rfl,hc1,hstm,hdis,hsep,hmem,hkp,hhb,hsi⟩:=HSTART.out e w2 hres;have HKP:=hiD (And.intro hkp (And.intro hhb hsi));clear hkp hhb hsi;have HSTM:=hiD hstm;have HDIS:=hiD hdis;have HSEP:=hiD hsep;have HMEM:=hiD hmem;have c1:w2.cell? ⟨vb,vo+n1,none⟩=some (.int .u64 (v1:Int)):=by
  have h:=(cI3 hmem (Nat.le_refl _) HV.out.2.2.2.1 rfl).2.2.2;rw[HV.out.2.2.2.2.1,h,<- HV.out.1,Nat.mod_eq_of_lt HV.out.2.1]
 clear hres hstm hdis hsep hmem HSTART HSV HNAT;go_wp2_with fail;refine(HREC.out _).mono ?_;rintro e w1 ⟨rfl,rfl⟩;go_wp2_with fail
 go_loopg [13,14] (m+1) (fun j v13 v14 wr=>v14=.int .i64 ((j:Int)-1)/\j<=m+1/\v13=.int .u64 ((U%(V*B64^j)/B64^(n+j-1):Nat):Int)/\Hid (LdMem w2 ub qb vb vo hb ho n m su sq U V (U%(V*B64^j)) j wr))
 case atStart =>
  refine⟨?_,Nat.le_refl _,?_,HMEM⟩
  ·rw[show(((m+1:Nat):Int)-1)=(m:Int)by omega]
  have h:U%(V*B64^(m+1))/B64^(n+(m+1)-1)=0:=by
   rw[show U%(V*B64^(m+1))=U from bH6 (U:=U) (V:=V) (m:=m) (n:=n) HN.out.bU HV.out.2.2.2.2.2.2,show n+(m+1)-1=m+n by omega];exact Nat.div_eq_of_lt HN.out.bU
  rw[h];rfl
 case round =>
  obtain⟨rfl,hj,rfl,HM⟩:=hrel;cases gk with
  | zero =>
   have g1:decide ((0:Int)<=((0:Nat):Int)-1)=false:=by decide
   have HSTM2:=hiD (HSTM.out.kept HM.out.k (fun e=>by rcases e with e|e|e;exact(HDIS.out _ (Or.inl e)).1 rfl;exact(HDIS.out _ (Or.inr (Or.inl e))).1 rfl;exact(HDIS.out _ (Or.inr (Or.inr e))).1 rfl) (fun q hq e=>(HDIS.out q e).2 hq));clear hj;go_wp2_with fail
   (try simp only[Exit.inBlock,Exit.then])
   refine leaves_cons (f:=175) (args:=#[.pointer (some ⟨p,0,none⟩),.int .i64 (len:Int)]) (by simp) (by simp[go_sem]) ?_;refine(aR2 p len si' .returning wr HSTM2.out).mono ?_;rintro e u' w4 ⟨rfl,rfl,hsm,hk4⟩;refine⟨_,results_none rfl _ _ _,?_⟩;have hd:=dR9 HN.out HM.out hk4 (HDIS.out _ (Or.inl rfl)).2 (HDIS.out _ (Or.inr (Or.inl rfl))).2;exact⟨rfl,hd.1,hd.2,⟨si',hsm,HKP.out.2.2⟩,dR8 HKP.out.1 HM.out.k hk4 HKP.out.2.1 HKP.out.2.2⟩
  | succ i =>
   have g2:((i+1:Nat):Int)-1=(i:Int):=by omega
   rw[g2];obtain⟨X,hX⟩:∃ X,X=U%(V*B64^(i+1)):=⟨_,rfl⟩;obtain⟨Y,hY⟩:∃ Y,Y=X/B64^i:=⟨_,rfl⟩;have HM0:=HM;rw[<- hX]at HM0;clear HM;have HM:=HM0;clear HM0;obtain⟨c1,c2,c3,-⟩:=cI3 HM.out (show i<=m by omega) HV.out.2.2.2.1 hY;have HR:Hid (LdR U V n m i X Y):=⟨hX,hY,by omega⟩;obtain⟨y2,hy2⟩:∃ y,y=Y/B64^(k+2):=⟨_,rfl⟩;obtain⟨y1,hy1⟩:∃ y,y=Y/B64^(k+1)%B64:=⟨_,rfl⟩;obtain⟨y0,hy0⟩:∃ y,y=Y/B64^k%B64:=⟨_,rfl⟩;obtain⟨v0,hv0⟩:∃ y,y=V/B64^k%B64:=⟨_,rfl⟩;have hk:=HV.out.2.2.2.1;have ey:U%(V*B64^(i+1))/B64^(n+(i+1)-1)=y2:=by
    rw[<- hX,hy2,hY,Nat.div_div_eq_div_mul,<- Nat.pow_add,show n+(i+1)-1=i+(k+2)by omega]
   rw[ey];have HWD:Hid (LdW V Y k y2 y1 y0 v1 v0):=⟨hy2,hy1,hy0,HV.out.1,hv0⟩;have hYV:Y<V*B64:=by
    rw[hY,hX];exact dR3 HV.out.2.2.2.2.2.1
   have hy2v:y2<=v1:=by
    have h1:Y/B64^(k+2)<=V*B64/B64^(k+2):=Nat.div_le_div_right (Nat.le_of_lt hYV);rw[Nat.pow_succ,Nat.mul_div_mul_right _ _ aA6,<- Nat.pow_succ,<- HV.out.1,<- hy2]at h1;exact h1
   have HXY:=hiD (And.intro hX (And.intro hY (And.intro hYV hy2v)));rw[<- hy1]at c1;rw[<- hy0]at c2;rw[<- hv0]at c3;obtain⟨s,hs⟩:∃ s,s=i+n:=⟨_,rfl⟩;obtain⟨a1,ha1⟩:∃ a,a=i+n-1:=⟨_,rfl⟩;obtain⟨a2,ha2⟩:∃ a,a=i+n-2:=⟨_,rfl⟩;rw[<- ha1]at c1;rw[<- ha2]at c2;have hbn:=HB.out.1;have hbm:=HB.out.2.1;have w1:IntKind.i64.wrap ((i:Int)+(n:Int))=(s:Int):=by rw[IntKind.wrap_i64];omega
   have w2':IntKind.i64.wrap ((s:Int)-1)=(a1:Int):=by rw[IntKind.wrap_i64];omega
   have w3:IntKind.i64.wrap ((s:Int)-2)=(a2:Int):=by rw[IntKind.wrap_i64];omega
   have w4:a1<m+n:=by omega
   have w5:a2<m+n:=by omega
   have w6:decide ((0:Int)<=(i:Int))=true:=decT (by omega);have HIX:=hiD (show i<=m/\s=i+n/\a1=i+n-1/\a2=i+n-2 from⟨by omega,hs,ha1,ha2⟩);clear hX hY hy2 hy1 hy0 hv0 hk ey hYV hy2v hs ha1 ha2 hbn hbm hj g2
   go_upto_if 51 with fail
   go_cut [15,16,17,18,19,20]from 45 to 200 (fun v15 v16 v17 v18 v19 v20 wx=>∃ q:Nat,v15=.int .u64 (q:Int)/\Hid (Y/V<=q/\q<=Y/V+1/\q<B64/\(y2*B64+y1<v1->q=0))/\wr=wx)
   case first =>
    by_cases hne:y2=v1
    ·have t1:((y2:Int)==(v1:Int))=true:=beqT (by omega);have t2:((y2:Int)!=(v1:Int))=false:=by simp[hne]
     have t3:decide (y2=v1)=true:=decT hne;have HG:Hid (Y/V<=18446744073709551615/\18446744073709551615<=Y/V+1/\18446744073709551615<B64/\(y2*B64+y1<v1->18446744073709551615=0)):=by
      have hd:=HWD.out;obtain⟨l1,l2⟩:=dX7 (V:=V) (Y:=Y) (n:=k) (by rw[<- HV.out.1];exact HV.out.2.2.1) (by rw[<- hd.e2,<- HV.out.1];exact hne) HXY.out.2.2.1;refine⟨l1,l2,by decide,fun h=>?_⟩
      exfalso
      rw[hne]at h;have:v1*1<=v1*B64:=Nat.mul_le_mul_left _ aA6;omega
     clear hne;go_wp2_with fail;go_meet
     case rel=>exact⟨18446744073709551615,rfl,HG,rfl⟩
    ·have t1:((y2:Int)==(v1:Int))=false:=beqF (by omega);have t2:((y2:Int)!=(v1:Int))=true:=by simp only[bne,t1];rfl
     have t3:decide (y2=v1)=false:=decF hne;have hlt:y2<v1:=by
      have:=HXY.out.2.2.2;omega
     have hsp:=HWD.out.split;have hdw:=HWW.out y2 y1 hlt hsp.2.2.2.1;have hg:=cW3 HWD.out hlt HV.out.2.1;have hmu:=fun w=>bS0 ((y2*B64+y1)/v1) v0 hg.q hsp.2.2.2.2.2 w
     have HDW:=hiD hdw;have HMU:=hiD hmu;have HG:=hiD hg;have HLT:=hiD hlt;have HB0:=hiD hsp.2.2.2.2.1;generalize mwH ((y2*B64+y1)/v1) v0 0=h0 at *;generalize mwL ((y2*B64+y1)/v1) v0 0=l0 at *;generalize hq0:(y2*B64+y1)/v1=q0 at *;generalize hr0:(y2*B64+y1)%v1=r0 at *;clear hne hlt hsp hdw hg hmu hq0 hr0;go_wp2_with fail;refine(HDW.out _).mono ?_;rintro e w7 ⟨rfl,rfl⟩;go_wp2_with fail;refine(HMU.out _).mono ?_;rintro e w7 ⟨rfl,rfl⟩;go_wp2_with fail
     go_loopw [15,16,18,19] (fun a15 a16 a18 a19 wi=>∃ q r h l:Nat,a15=.int .u64 (q:Int)/\a16=.int .u64 (r:Int)/\a18=.int .u64 (h:Int)/\a19=.int .u64 (l:Int)/\Hid (LdG V Y k y2 y1 y0 v1 v0 q r h l)/\wi=wr) (fun a15 _ _ _ _=>(intOf a15).toNat)
     case atStart=>exact⟨q0,r0,h0,l0,rfl,rfl,rfl,rfl,HG,rfl⟩
     case round =>
      obtain⟨q,r,h,l,rfl,rfl,rfl,rfl,HGQ,rfl⟩:=hrel;have hgr:=fun w=>cB6 h l r y0 HGQ.out.l HB0.out w
      by_cases hc:r*B64+y0<h*B64+l
      ·rw[decT hc]at hgr;obtain⟨q',hq',hqr',hup',hhl'⟩:=dF9 HWD.out HGQ.out hc;have HGR:=hiD hgr;have hqb:=HGQ.out.q;have hrb:=HGQ.out.r;have hlb:=HGQ.out.l;have hhb:=HGQ.out.h;have hvb:=HV.out.2.1;have hB:B64=18446744073709551616:=rfl;have z1:IntKind.u64.wrap ((q:Int)-1)=(q':Int):=by rw[IntKind.wrap_u64];omega
       have HM9:Hid ((intOf (.int .u64 (q':Int))).toNat<(intOf (.int .u64 (q:Int))).toNat):=by show((q':Int)).toNat<((q:Int)).toNat;omega
       by_cases hov:B64<=r+v1
       ·obtain⟨r',hr'⟩:∃ r',r'=r+v1-B64:=⟨_,rfl⟩;have z2:IntKind.u64.wrap ((r:Int)+(v1:Int))=(r':Int):=by rw[IntKind.wrap_u64];omega
        have z3:decide (r'<v1)=true:=decT (by omega);have HEND:=hiD (cW4 (dF8 (r:=r) (q:=q) HWD.out HV.out.2.2.1 HLT.out hqr' hov hup') hqr');clear hgr hc hq' hqr' hup' hhl' hqb hrb hlb hhb hvb hB hov hr';go_wp2_with fail;refine(HGR.out _).mono ?_;rintro e w7 ⟨rfl,rfl⟩;go_wp2_with fail;go_meet
        case rel=>exact⟨q',rfl,HEND,rfl⟩
       ·obtain⟨r',hr'⟩:∃ r',r'=r+v1:=⟨_,rfl⟩;have z2:IntKind.u64.wrap ((r:Int)+(v1:Int))=(r':Int):=by rw[IntKind.wrap_u64];omega
        have z3:decide (r'<v1)=false:=decF (by omega);have hv0b:v0<B64:=HWD.out.split.2.2.2.2.2;have hq'b:q'*v0<B64*B64:=by
         have h1:q'*v0<=q'*B64:=Nat.mul_le_mul_left _ (by omega);have h2:q'*B64<B64*B64:=Nat.mul_lt_mul_of_pos_right (by omega) aA6;omega
        by_cases hlv:l<v0
        ·obtain⟨l',hl'⟩:∃ l',l'=l+B64-v0:=⟨_,rfl⟩;obtain⟨h',hh'⟩:∃ h',h=h'+1:=by
          refine⟨h-1,?_⟩;have:h≠0:=by
           rintro rfl;omega
          omega
         have z4:decide (l<v0)=true:=decT hlv;have z5:IntKind.u64.wrap ((h:Int)-1)=(h':Int):=by rw[IntKind.wrap_u64];omega
         have z6:IntKind.u64.wrap ((l:Int)-(v0:Int))=(l':Int):=by rw[IntKind.wrap_u64];omega
         have HN9:Hid (LdG V Y k y2 y1 y0 v1 v0 q' r' h' l'):=⟨by rw[hr'];exact hqr',by omega,by rw[hh',Nat.add_mul,Nat.one_mul]at hhl';omega,by omega,by omega,hup',by omega⟩;clear hgr hc hq' hqr' hup' hhl' hqb hrb hlb hhb hvb hB hov hr' hv0b hq'b hlv hl' hh';go_wp2_with fail;refine(HGR.out _).mono ?_;rintro e w7 ⟨rfl,rfl⟩;go_wp2_with fail;go_roundw
         case rel=>exact⟨q',r',h',l',rfl,rfl,rfl,rfl,HN9,trivial⟩
         case measure=>exact HM9.out
        ·obtain⟨l',hl'⟩:∃ l',l'=l-v0:=⟨_,rfl⟩;have z4:decide (l<v0)=false:=decF hlv;have z6:IntKind.u64.wrap ((l:Int)-(v0:Int))=(l':Int):=by rw[IntKind.wrap_u64];omega
         have HN9:Hid (LdG V Y k y2 y1 y0 v1 v0 q' r' h l'):=⟨by rw[hr'];exact hqr',by omega,by omega,by omega,by omega,hup',by omega⟩;clear hgr hc hq' hqr' hup' hhl' hqb hrb hlb hhb hvb hB hov hr' hv0b hq'b hlv hl';go_wp2_with fail;refine(HGR.out _).mono ?_;rintro e w7 ⟨rfl,rfl⟩;go_wp2_with fail;go_roundw
         case rel=>exact⟨q',r',h,l',rfl,rfl,rfl,rfl,HN9,trivial⟩
         case measure=>exact HM9.out
      ·rw[decF hc]at hgr;have HGR:=hiD hgr;have HEND:=hiD (cW4 (dR6 HWD.out HGQ.out HV.out.2.2.1 HLT.out hc) HGQ.out.qr);clear hgr hc;go_wp2_with fail;refine(HGR.out _).mono ?_;rintro e w7 ⟨rfl,rfl⟩;go_wp2_with fail;go_meet
       case rel=>exact⟨q,rfl,HEND,rfl⟩
   case rest =>
    obtain⟨q,rfl,HQ,rfl⟩:=hcut;have HA:Hid (∀ _:World,Calls prog 203 #[.slice (some ⟨hb,ho,none⟩) n hc,.slice (some ⟨vb,vo,none⟩) n vc,.int .u64 (q:Int),.int .u64 0] wr fun e w'=>e=.returned (.int .u64 ((V*q/B64^n:Nat):Int))/\(∃ u,w'.cell? ⟨hb,ho+n,none⟩=some u)/\w'.frozen? ⟨hb,ho+n,none⟩=false /\
     LdMem w2 ub qb vb vo hb ho n m su sq U V X (i+1) (w'.setCell ⟨hb,ho+n,none⟩ (.int .u64 ((V*q/B64^n:Nat):Int)))/\∃ ch2,(w'.setCell ⟨hb,ho+n,none⟩ (.int .u64 ((V*q/B64^n:Nat):Int))).heap[hb]? = some (.cells ch2 165 (0,0))/\ho+(n+1)<=ch2.size/\Has ch2 ho (wds (n+1) (V*q))):=fun _=>dR7 HSEP.out HM.out HN.out HQ.out.2.2.1
    obtain⟨cr,hcr⟩:∃ cr,cr=V*q/B64^n:=⟨_,rfl⟩;rw[<- hcr]at HA;have HCR:=hiD hcr;clear hcr;obtain⟨p1,p3,p4,p6',p6,p7,p8,p9,p10,p11,p5f,p5l⟩:=dG1 HB.out HIX.out.1 HIX.out.2.1 hc1;obtain⟨p14,p15,p16,p17,p18⟩:=cW7 HB.out HIX.out.1;have HP6:=hiD p6';clear p6';have p2:n+1<=hc:=hc1;obtain⟨z,hz⟩:∃ z,z=i+n+1:=⟨_,rfl⟩;rw[<- hz]at p4 p11 p5f p5l;have HZ:=hiD (And.intro hz HIX.out.2.1);clear hz;by_cases him:i=m
    ·skip;have p5:=p5f him;clear p5f p5l;have HIM:=hiD him;have hf:=dG0 (show LdR U V n m m X Y by have h:=HR.out;rw[him]at h;exact h) HN.out HV.out.2.2.2.1 HWD.out;have hq0:q=0:=HQ.out.2.2.2 hf.1;have hYV0:Y/V=0:=by
      have h:=HQ.out.1;rw[hq0]at h;exact Nat.le_zero.1 h
     have HF0:Hid (q=0/\Y/V=0/\Y<B64^n/\X<B64^(m+n)/\cr=0):=⟨hq0,hYV0,hf.2.2,by rw[hf.2.1];exact HN.out.bU,by rw[HCR.out,hq0,Nat.mul_zero,Nat.zero_div]⟩;clear hf hq0 hYV0 him;have HSUB:Hid (∀(W:World) (ch2:Array Value),LdMem w2 ub qb vb vo hb ho n m su sq U V X (i+1) W->W.heap[hb]? = some (.cells ch2 165 (0,0))->Has ch2 ho (wds (n+1) (V*q))->Calls prog 183 #[.slice (some ⟨ub,i,none⟩) (s-i) (uc-i),.slice (some ⟨ub,i,none⟩) (s-i) (uc-i),.slice (some ⟨hb,ho,none⟩) n hc] W fun e w'=>e=.returned (.int .u64 0)/\LdMem w2 ub qb vb vo hb ho n m su sq U V (U%(V*B64^i)) (i+1) w'):=fun W ch2 k1 k2 k3=>by
      have hi:=HIM.out;subst hi;exact bV2 HN.out HSEP.out HR.out HF0.out.2.2.1 HF0.out.2.2.2.1 HF0.out.2.1 k1 k2 (by rw[HF0.out.1,Nat.mul_zero]at k3;exact k3) HZ.out.2
     have p12:((cr:Int)==0)=true:=by rw[HF0.out.2.2.2.2];rfl
     have p13:((q:Int)==0)=true:=by rw[HF0.out.1];rfl
     have HDG:Hid (q=Y/V):=by show q=Y/V;rw[HF0.out.1,HF0.out.2.1]
     go_wp2_with fail;refine(HA.out wr).mono ?_;rintro e w5 ⟨rfl,⟨uu,x1⟩,f1,hmA,ch2,hA1,hA2,hA3⟩;have c8:(w5.setCell ⟨hb,ho+n,none⟩ (.int .u64 (cr:Int))).cell? ⟨hb,ho+n,none⟩=some (.int .u64 (cr:Int)):=by
      have:=hA3 n (by rw[aA9];omega);rw[aA2 hA1,this,aD7 _ _ _ (by omega),<- HCR.out,Nat.mod_eq_of_lt (by rw[HF0.out.2.2.2.2];exact aA6)]
     generalize hwA:w5.setCell ⟨hb,ho+n,none⟩ (.int .u64 (cr:Int))=wA at *;have HMA:=hiD (And.intro hmA (And.intro hA1 hA3));clear hmA hA1 hA2 hA3
     go_upto_region 28 with fail
     rw[HP6.out]
     go_still_tail 15,(by kernel_rfl)
     change wpList _ _ _ _ _ wA.drew;go_wp2_with fail;refine(HSUB.out _ ch2 HMA.out.1.drew HMA.out.2.1 HMA.out.2.2).mono ?_;rintro e w6 ⟨rfl,h6⟩;have HM2:=hiD h6;clear h6
     go_upto_region 34 with fail
     have HM3:=hiD (ld_q0 (show LdMem w2 ub qb vb vo hb ho n m su sq U V (U%(V*B64^i)) (m+1) w6 by have h:=HM2.out;rw[HIM.out]at h;rw[HIM.out];exact h));have c7:w6.cell? ⟨ub,a1,none⟩=some (.int .u64 ((U%(V*B64^i)/B64^(n+i-1):Nat):Int)):=cW5 HM2.out HIX.out.1 HIX.out.2.2.1 HB.out.1.1 HV.out.2.2.2.2.2.1 HN.out.bV;have r1:((i:Int)==(m:Int))=true:=by rw[HIM.out];exact beqT rfl
     have r3:decide (i=m)=true:=decT HIM.out;have r4:((m:Int)==(m:Int))=true:=beqT rfl;have HREL:Hid (i<=m+1/\LdMem w2 ub qb vb vo hb ho n m su sq U V (U%(V*B64^i)) i w6):=⟨Nat.le_succ_of_le HIX.out.1,by have h:=HM3.out;rw[HIM.out]at h ⊢;exact h⟩;have HI1:Hid (i<i+1):=Nat.lt_succ_self i;have w8:IntKind.i64.wrap ((i:Int)-1)=(i:Int)-1:=cB9 HIX.out.1 HB.out.2.1.2;obtain⟨nx,hnx⟩:∃ nx,nx=U%(V*B64^i)/B64^(n+i-1):=⟨_,rfl⟩;rw[<- hnx]at c7;have HNX:=hiD hnx;clear hnx;go_wp2_with fail
     go_roundg i
     case measure=>exact HI1.out
     case rel=>exact⟨rfl,HREL.out.1,by rw[HNX.out],HREL.out.2⟩
    ·skip;obtain⟨p5,p19,p20,p21⟩:=p5l him;clear p5f p5l;have r1:((i:Int)==(m:Int))=false:=dY2 p19;have r3:decide (i=m)=false:=decF him;have r5:¬ i=m:=him;have HFX:=dX8 (V:=V) (Y:=Y) (q:=q) HV.out.2.2.2.2.2.1 HQ.out.1 HQ.out.2.1;have hfacts:=HR.out.facts HN.out;obtain⟨n2,hn2,en,p22,p23,p24,p25⟩:=ld_n2 HB.out.1 hc1 HZ.out.1 HIX.out.1 HB.out.2.1.2;have HEN:=hiD (And.intro en hn2);clear en hn2;by_cases hlt:Y<V*q
     ·skip;have hq1:=(HFX.2 (by rw[Nat.mul_comm];exact hlt)).1;obtain⟨Z,hZ⟩:∃ Z,Z=Y+B64^(n+1)-V*q:=⟨_,rfl⟩;obtain⟨k1,k2,k3,k4,k5⟩:=cW6 hfacts.2.2.2.2.2 hq1 hfacts.2.2.2.2.1 hfacts.2.1 hZ;have HSUB:Hid (∀(W:World) (ch2:Array Value),LdMem w2 ub qb vb vo hb ho n m su sq U V X (i+1) W->W.heap[hb]? = some (.cells ch2 165 (0,0))->Has ch2 ho (wds (n+1) (V*q))->Calls prog 183 #[.slice (some ⟨ub,i,none⟩) (z-i) (uc-i),.slice (some ⟨ub,i,none⟩) (z-i) (uc-i),.slice (some ⟨hb,ho,none⟩) n2 hc] W fun e w'=>e=.returned (.int .u64 1)/\LdMem w2 ub qb vb vo hb ho n m su sq U V (X%B64^i+B64^i*Z) (i+1) w'):=fun W ch2 g1 g2 g3=>by
       have h:=bC8 (uc:=uc) (hc:=hc) HN.out HSEP.out HR.out p19 HQ.out.2.2.1 g1 g2 g3 HZ.out.1;rw[if_pos hlt,if_pos hlt,<- hZ]at h;rw[HEN.out.2];exact h
      obtain⟨T,hT⟩:∃ T,T=Z/B64^n:=⟨_,rfl⟩;obtain⟨cc,hcc⟩:∃ cc,cc=(Z%B64^n+V)/B64^n:=⟨_,rfl⟩;rw[<- hT,<- hcc]at k3;rw[<- hT]at k4;rw[<- hcc]at k5;have HADD:Hid (∀ W:World,LdMem w2 ub qb vb vo hb ho n m su sq U V (X%B64^i+B64^i*Z) (i+1) W->Calls prog 181 #[.slice (some ⟨ub,i,none⟩) (s-i) (uc-i),.slice (some ⟨ub,i,none⟩) (s-i) (uc-i),.slice (some ⟨vb,vo,none⟩) n vc] W fun e w'=>e=.returned (.int .u64 (cc:Int))/\LdMem w2 ub qb vb vo hb ho n m su sq U V (X%B64^i+B64^i*(B64^n*T+(Z%B64^n+V)%B64^n)) (i+1) w'):=fun W g1=>by
       have h:=cB8 (uc:=uc) (vc:=vc) HN.out HSEP.out HR.out p19 k1 g1 HZ.out.2;rw[<- hT,<- hcc]at h;exact h
      have HFIN:Hid (∀ W:World,LdMem w2 ub qb vb vo hb ho n m su sq U V (X%B64^i+B64^i*(B64^n*T+(Z%B64^n+V)%B64^n)) (i+1) W->_):=fun W g1=>dY1 HN.out HSEP.out HR.out p19 k4 k2 g1 HZ.out.2
      obtain⟨dg,hdg⟩:∃ dg,dg=Y/V:=⟨_,rfl⟩;have HDG:=hiD hdg;rw[<- hdg]at hq1;have t7:IntKind.u64.wrap ((q:Int)-1)=(dg:Int):=dG2 hq1 HQ.out.2.2.1;have t8:IntKind.u64.wrap ((T:Int)+(cc:Int))=0:=dG3 k3;clear hlt hq1 hZ k1 k2 k3 k4 k5 hT hcc hdg HFX hfacts him;go_wp2_with fail;refine(HA.out wr).mono ?_;rintro e w5 ⟨rfl,⟨uu,x1⟩,f1,hmA,ch2,hA1,hA2,hA3⟩;generalize hwA:w5.setCell ⟨hb,ho+n,none⟩ (.int .u64 (cr:Int))=wA at *;have HMA:=hiD (And.intro hmA (And.intro hA1 hA3));clear hmA hA1 hA2 hA3
      go_upto_region 28 with fail
      rw[HEN.out.1]
      go_still_tail 15,(by kernel_rfl)
      change wpList _ _ _ _ _ wA.drew;go_wp2_with fail;refine(HSUB.out _ ch2 HMA.out.1.drew HMA.out.2.1 HMA.out.2.2).mono ?_;rintro e w6 ⟨rfl,h6⟩;have HS1:=hiD h6;clear h6
      go_upto_region 30 with fail
      go_still_tail 13,(by kernel_rfl)
      change wpList _ _ _ _ _ w6.drew;go_wp2_with fail;refine(HADD.out _ HS1.out.drew).mono ?_;rintro e w7 ⟨rfl,h7⟩;obtain⟨x7,f7,hm7⟩:=HFIN.out w7 h7;have HM2:=hiD hm7;generalize hw8:w7.setCell ⟨ub,s,none⟩ (.int .u64 0)=w8w at *;clear h7 hm7
      go_upto_region 34 with fail
      have c7:w8w.cell? ⟨ub,a1,none⟩=some (.int .u64 ((U%(V*B64^i)/B64^(n+i-1):Nat):Int)):=cW5 HM2.out HIX.out.1 HIX.out.2.2.1 HB.out.1.1 HV.out.2.2.2.2.2.1 HN.out.bV;have HREL:Hid (LdMem w2 ub qb vb vo hb ho n m su sq U V (U%(V*B64^i)) i (w8w.setCell ⟨qb,i,none⟩ (.int .u64 (dg:Int)))):=ld_q HSEP.out HM2.out p19 (by rw[HDG.out];exact cI4 HR.out);obtain⟨u4,x4⟩:∃ u,w8w.cell? ⟨qb,i,none⟩=some u:=cI5 HSEP.out HM2.out p19;have f4:w8w.frozen? ⟨qb,i,none⟩=false:=cW8 HM2.out i;have HI1:Hid (i<i+1/\i<=m+1):=⟨Nat.lt_succ_self i,Nat.le_succ_of_le HIX.out.1⟩;have w8:IntKind.i64.wrap ((i:Int)-1)=(i:Int)-1:=cB9 HIX.out.1 HB.out.2.1.2;obtain⟨nx,hnx⟩:∃ nx,nx=U%(V*B64^i)/B64^(n+i-1):=⟨_,rfl⟩;rw[<- hnx]at c7;have HNX:=hiD hnx;clear hnx;go_wp2_with fail;rw[<- HEN.out.1]
      go_roundg i
      case measure=>exact HI1.out.1
      case rel=>exact⟨rfl,HI1.out.2,by rw[HNX.out],HREL.out⟩
     ·skip;have hq1:=HFX.1 (by rw[Nat.mul_comm];exact Nat.le_of_not_lt hlt);have hZ:Y+0-V*q=Y%V:=by rw[Nat.add_zero,Nat.mul_comm];exact hq1.2
      have HSUB:Hid (∀(W:World) (ch2:Array Value),LdMem w2 ub qb vb vo hb ho n m su sq U V X (i+1) W->W.heap[hb]? = some (.cells ch2 165 (0,0))->Has ch2 ho (wds (n+1) (V*q))->Calls prog 183 #[.slice (some ⟨ub,i,none⟩) (z-i) (uc-i),.slice (some ⟨ub,i,none⟩) (z-i) (uc-i),.slice (some ⟨hb,ho,none⟩) n2 hc] W fun e w'=>e=.returned (.int .u64 0)/\LdMem w2 ub qb vb vo hb ho n m su sq U V (U%(V*B64^i)) (i+1) w'):=fun W ch2 g1 g2 g3=>by
       have h:=bC8 (uc:=uc) (hc:=hc) HN.out HSEP.out HR.out p19 HQ.out.2.2.1 g1 g2 g3 HZ.out.1;rw[if_neg hlt,if_neg hlt,hZ,<- hfacts.2.2.2.1]at h;rw[HEN.out.2];exact h
      have HDG:=hiD hq1.1;clear hlt hq1 hZ HFX hfacts him;go_wp2_with fail;refine(HA.out wr).mono ?_;rintro e w5 ⟨rfl,⟨uu,x1⟩,f1,hmA,ch2,hA1,hA2,hA3⟩;generalize hwA:w5.setCell ⟨hb,ho+n,none⟩ (.int .u64 (cr:Int))=wA at *;have HMA:=hiD (And.intro hmA (And.intro hA1 hA3));clear hmA hA1 hA2 hA3
      go_upto_region 28 with fail
      rw[HEN.out.1]
      go_still_tail 15,(by kernel_rfl)
      change wpList _ _ _ _ _ wA.drew;go_wp2_with fail;refine(HSUB.out _ ch2 HMA.out.1.drew HMA.out.2.1 HMA.out.2.2).mono ?_;rintro e w6 ⟨rfl,h6⟩;have HM2:=hiD h6;clear h6
      go_upto_region 34 with fail
      have c7:w6.cell? ⟨ub,a1,none⟩=some (.int .u64 ((U%(V*B64^i)/B64^(n+i-1):Nat):Int)):=cW5 HM2.out HIX.out.1 HIX.out.2.2.1 HB.out.1.1 HV.out.2.2.2.2.2.1 HN.out.bV;have HREL:Hid (LdMem w2 ub qb vb vo hb ho n m su sq U V (U%(V*B64^i)) i (w6.setCell ⟨qb,i,none⟩ (.int .u64 (q:Int)))):=ld_q HSEP.out HM2.out p19 (by rw[HDG.out];exact cI4 HR.out);obtain⟨u4,x4⟩:∃ u,w6.cell? ⟨qb,i,none⟩=some u:=cI5 HSEP.out HM2.out p19;have f4:w6.frozen? ⟨qb,i,none⟩=false:=cW8 HM2.out i;have HI1:Hid (i<i+1/\i<=m+1):=⟨Nat.lt_succ_self i,Nat.le_succ_of_le HIX.out.1⟩;have w8:IntKind.i64.wrap ((i:Int)-1)=(i:Int)-1:=cB9 HIX.out.1 HB.out.2.1.2;obtain⟨nx,hnx⟩:∃ nx,nx=U%(V*B64^i)/B64^(n+i-1):=⟨_,rfl⟩;rw[<- hnx]at c7;have HNX:=hiD hnx;clear hnx;go_wp2_with fail;rw[<- HEN.out.1]
      go_roundg i
      case measure=>exact HI1.out.1
      case rel=>exact⟨rfl,HI1.out.2,by rw[HNX.out],HREL.out⟩
end Go.Proofs.YtjebnpkebccffaaGreatDoor
