import Derived.Test.YtjebnpkebccffaaGreatDoorZDecd
import Derived.Maps.AppendAt
import Derived.Deep.LoopGhost
set_option linter.unusedSimpArgs false
set_option linter.unusedVariables false
set_option linter.unusedSectionVars false
set_option maxRecDepth 100000
set_option maxHeartbeats 8000000
namespace Go.Proofs.YtjebnpkebccffaaGreatDoor
open Go.RowKit Go.Proofs.Tryz
def cnt(pt k:Nat):Nat:=if k<=pt then k else k-1
structure Spells (s:ByteArray) (pt:Nat) (u:Nat->Nat):Prop where
 dig:∀ k (h:k<s.size),k≠pt->s[k].toNat=48+u (cnt pt k)
 pnt:∀ h:pt<s.size,s[pt].toNat=46
 low:∀ j,u j<=9
def ub(u:Nat->Nat)(m:Nat):List Value:=(List.range m).map fun j=>.int .u8 ((48+u j:Nat):Int)
theorem cU3(u:Nat->Nat)(m:Nat):ub u (m+1)=ub u m++[.int .u8 ((48+u m:Nat):Int)]:=by simp[ub,List.range_succ]
theorem aL1{S:Nat->Prop}{w w1 w2:World}{q:Nat}(h:Kept S w w1)(g:w1.grownBy w2 (some q))(hq:q<w.heap.size->S q):Kept S w w2:=by
 obtain⟨g1,g2,g3,g4,g5⟩:=g;exact⟨g1.trans h.os,g2.trans h.tape,g3.trans h.output,Nat.le_trans h.size g4,fun k hk hs=>(g5 k (Nat.lt_of_lt_of_le hk h.size) (fun e=>by injection e with e;subst e;exact hs (hq hk))).trans (h.block k hk hs)⟩
theorem cG8(n c:Nat)(h1:n<=c)(h2:c<=1000000)(w:World):
  (Instr.makeSlice 57 (.int .i64 (n:Int)) (.int .i64 (c:Int))).run prog w=.ok (.slice (some ⟨w.heap.size,0,none⟩) n c) (w.alloc (.cells (zb c) 5)):=by
 obtain⟨i0,hi,hz0,hz1,hz2⟩:=info_parts Tryz.info5;have:=run_make (P:=prog) w 57 5 i0 _ underlying57 hi hz0 .i64 .i64 n c (by omega) (by omega) (by rw[hz2];omega) (by omega);rw[this];simp only[Int.toNat_natCast,hz1,Nat.mul_one];rfl
def rdPos(w:World)(p:Nat):Nat:=match w.cell? ⟨p,1,none⟩with|some v=>(intOf v).toNat|none=>0
theorem aI0{w:World}{p k:Nat}{s:ByteArray}(h:RdAt w p s k):rdPos w p=k:=by
 obtain⟨j,h1⟩:=h;obtain⟨_,c1,_⟩:=aQ4 h1;unfold rdPos;rw[c1];simp[intOf]
theorem dP7(w:World)(u:Nat->Nat):(w.alloc (.cells (zb 256) 5)).ownsRow 0 5 1 (.slice (some ⟨w.heap.size,0,none⟩) 0 256) 0 (ub u 0) :=
 ⟨by simp[ub],Or.inr ⟨w.heap.size,256,zb 256,rfl,Nat.zero_le _,aA0 _ _,by omega,by unfold maxLen;omega,size_madeCells _ _,by simp[ub]⟩⟩
theorem aG4{S:Nat->Prop}{w w':World}{q m:Nat}{xs:List Value}(h:w.ownsRow 0 5 1 (.slice (some ⟨q,0,none⟩) m 256) m xs)(hk:Kept S w w')(hq:¬ S q):w'.ownsRow 0 5 1 (.slice (some ⟨q,0,none⟩) m 256) m xs:=by
 refine⟨h.1,?_⟩;rcases h.2 with hn|⟨g,cap,cur,hv,hg,hgg,rest⟩
 ·exact Or.inl hn
 ·injection hv with hv1 hv2 hv3;injection hv1 with hv1;injection hv1 with hv1;subst hv1;exact Or.inr ⟨q,cap,cur,by rw[hv3],hg,by rw[hk.block q (aB5 hgg) hq];exact hgg,rest⟩
theorem aI1{w1 w4:World}{p q i:Nat}{s:ByteArray}{o:Obj}(h:RdAt w1 p s i)(g:(w1.alloc o).grownBy w4 (some q))(hq:q≠p):RdAt w4 p s i:=by
 obtain⟨j,h1⟩:=h;obtain⟨g1,g2,g3,g4,g5⟩:=g;have hl:=aB5 h1;refine⟨j,?_⟩;rw[g5 p (by simp;omega) (by intro e;injection e with e;exact hq e.symm),Below.heap_alloc _ _ _ hl];exact h1
def ustr(u:Nat->Nat)(m:Nat):ByteArray:=strN ((List.range m).map fun j=>48+u j)
theorem bE5{w:World}{q m:Nat}{u:Nat->Nat}(h:w.ownsRow 0 5 1 (.slice (some ⟨q,0,none⟩) m 256) m (ub u m))(hm:1<=m):(convert 57 9 (.slice (some ⟨q,0,none⟩) m 256)).run prog w=.ok (.string (ustr u m)) w:=by
 rcases h.2 with hn|⟨g,cap,cur,hv,hg,hgg,h1,h2,h3,h4⟩
 ·exact absurd hn.2 (by omega)
 ·have hqg:q=g:=by
   simp only[Value.slice.injEq,Option.some.injEq,Addr.mk.injEq]at hv;exact hv.1.1
  subst hqg;have hb:HasB cur 0 ((List.range m).map fun j=>48+u j):=by
   intro i hi;simp at hi;have e:(cur.toList.take (m*1))[i]? = (ub u m)[i]?:=by rw[h4]
   rw[List.getElem?_take_of_lt (by omega)]at e;simp[ub,hi]at e;simp[List.getD,hi,e]
  have:=bF7 (cap:=256) hgg hb
  simpa[ustr]using this
theorem aL9(u:Nat->Nat)(m:Nat):(ustr u m).size=m:=by simp[ustr,strN,strOfNums_size]
theorem cG9(u:Nat->Nat)(m:Nat)(hu:∀ j,u j<=9)(k:Nat)(h:k<(ustr u m).size):(ustr u m)[k].toNat=48+u k/\u k<=9:=by
 refine⟨?_,hu k⟩;have hk:k<m:=by rwa[aL9]at h
 have hh:=hu k;show((ustr u m).data[k]'h).toNat=_;simp[ustr,strN,strOfNums];omega
def aU4(w:World)(z p:Nat)(s:ByteArray)(bz:Option Nat)(n sc:Int)(e:Ending)(w':World):Prop :=
 e=.returned (.tuple #[.pointer (some ⟨z,0,none⟩),.nilIface])/\∃ b',DecAt w' z n sc b'/\Own w bz b'/\Kept (fun k=>k=z\/k=p\/bz=some k) w w'/\RdAt w' p s s.size
theorem bG5(z p pt:Nat)(nz sz:Int)(bz:Option Nat)(s:ByteArray)(u:Nat->Nat)(a:Addr)(w:World)(hz:DecAt w z nz sz bz)(h:RdAt w p s 0)(hs0:1<=cnt pt s.size)(hs:s.size<=200)(he:Eof w a)(hsp:Spells s pt u)(hbp:bz≠some p)(hb3:bz≠some 3)(n:Nat)(hn:n=dval u (cnt pt s.size))(sc:Int)(hsc:sc=if pt<s.size then(cnt pt s.size:Int)-pt else 0):
  Calls prog 94 #[.pointer (some ⟨z,0,none⟩),.iface 159 (.pointer (some ⟨p,0,none⟩))] w (aU4 w z p s bz (n:Nat) sc):=by
 have HZ:=hiD hz;have HR:=hiD h;have HE:=hiD he;have HSP:=hiD hsp;have hp3:=aR8 h he;have HN:=hiD hn;have HSC:=hiD hsc;clear hn hsc;have q1:=fun a w=>m_rr a w
 have q2:=fun w=>e_nn w
 have q3:=fun a w=>e_ex a w
 have q4:=fun a w=>e_xx a w
 have mk:∀ w:World,(Instr.makeSlice 57 (.int .i64 0) (.int .i64 256)).run prog w=.ok (.slice (some ⟨w.heap.size,0,none⟩) 0 256) (w.alloc (.cells (zb 256) 5)):=fun w=>cG8 0 256 (by omega) (by omega) w;clear hz h he hsp;go_enter func94,ntmps94;go_wp2_with fail
 go_step3
 go_wp2_with fail
 go_step3
 go_wp2_with fail;have hq:w.heap.size≠p:=by obtain⟨j,h⟩:=HR.out;have:=aB5 h;omega
 have hrow:=dP7 w u;have ka:Kept (fun x=>x=p) w (w.alloc (.cells (zb 256) 5)):=(Kept.refl _ _).alloc _;have hr1:RdAt (w.alloc (.cells (zb 256) 5)) p s 0:=by
  obtain⟨j,h⟩:=HR.out;exact⟨j,by rw[((Kept.refl (fun _=>False) w).alloc (.cells (zb 256) 5)).block p (aB5 h) (fun f=>f)];exact h⟩
 have HROW:=hiD hrow;have KA:=hiD ka;have HR1:=hiD hr1;obtain⟨q,HQ⟩:∃ q,Hid (w.heap.size=q):=⟨_,hiD rfl⟩;rw[HQ.out]at HROW hq ⊢;have HRD0:=hiD HR.out;clear hrow ka hr1 mk HR;have q6:=fun a w=>e_xx a w
 go_loopw [6,7,8] (fun v dp dg wr=>∃(k:Nat) (DP DG:Int),k<=s.size/\v=.slice (some ⟨q,0,none⟩) (cnt pt k) 256/\dp=.int .i64 DP/\dg=.int .i64 DG/\Hid (DP=if pt<k then(pt:Int)else -1)/\Hid (DG=if cnt pt k=0 then -1 else 0)/\RdAt wr p s k/\wr.ownsRow 0 5 1 v (cnt pt k) (ub u (cnt pt k))/\Kept (fun x=>x=p) w wr) (fun _ _ _ wr=>s.size-rdPos wr p)
 case atStart=>exact⟨0,-1,-1,by omega,by simp[cnt],rfl,rfl,hiD (by simp),hiD (by simp[cnt]),HR1.out,by simpa[cnt]using HROW.out,KA.out⟩
 case round =>
  obtain⟨k,DP,DG,hk,rfl,rfl,rfl,HDP,HDG,hrd,hrow,hkp⟩:=hrel;have HRD:=hiD hrd;have HROW2:=hiD hrow;have HKP:=hiD hkp;have hcl:cnt pt k<=k:=by unfold cnt;split<;>omega
  clear hrd hrow hkp HROW KA HR1;rcases Nat.lt_or_ge k s.size with hlt|hge
  ·by_cases hpt:k=pt
   ·have h46:=HSP.out.pnt (by omega);have hdp:DP = -1:=by rw[HDP.out,if_neg (by omega)]
    subst hdp;have hcn:cnt pt (k+1)=cnt pt k:=by unfold cnt;rw[if_neg (by omega),if_pos (by omega)];omega
    have HPOS:Hid (rdPos wr p=k):=aI0 HRD.out;have hck:cnt pt k=pt:=by unfold cnt;rw[if_pos (by omega)];exact hpt
    have h46':s[k].toNat=46:=by subst hpt;exact h46
    have HRR:=hiD (aQ5 p s k wr HRD.out hlt (by omega) (by omega));have HCN:=hiD hcn;have HCK:=hiD hck;rw[h46']at HRR;generalize hm:cnt pt k=m at *;have HM:=hiD hm;have hm200:m<=200:=by omega
    clear hcn hck hm h46 h46' HRD;go_wp2_with fail;refine HRR.out.mono ?_;rintro e w1 ⟨rfl,h1,h2⟩;have c3:w1.cell? ⟨3,0,none⟩=some (.iface 257 (.pointer (some a))):=HE.out.kept (HKP.out.same h2) (Ne.symm hp3);have H1:=hiD h1;have H2:=hiD (HKP.out.same h2);have H3:=hiD (aG4 HROW2.out h2 hq);clear h1 h2 HRR;go_wp2_with fail;have hpos:rdPos w1 p=k+1/\rdPos wr p=k:=⟨aI0 H1.out,HPOS.out⟩;go_roundw
    case rel=>exact⟨k+1,(m:Int),DG,by omega,by rw[HCN.out],rfl,rfl,hiD (by rw[if_pos (by omega),HCK.out]),by rw[HCN.out];exact HDG,H1.out,by rw[HCN.out];exact H3.out,H2.out⟩
    case measure=>omega
   ·have hdig:=HSP.out.dig k hlt hpt;have hlow:=HSP.out.low (cnt pt k);have hcn:cnt pt (k+1)=cnt pt k+1:=by
     unfold cnt;by_cases h:k<=pt
     ·rw[if_pos h,if_pos (by omega)]
     ·rw[if_neg h,if_neg (by omega)];omega
    have HRR:=hiD (aQ5 p s k wr HRD.out hlt (by omega) (by omega));have HPOS:Hid (rdPos wr p=k):=aI0 HRD.out;have hdp2:DP=if pt<k+1 then(pt:Int)else -1:=by
     rw[HDP.out];by_cases h:pt<k
     ·rw[if_pos h,if_pos (by omega)]
     ·rw[if_neg h,if_neg (by omega)]
    have HDP2:=hiD hdp2;have HCN:=hiD hcn;generalize hm:cnt pt k=m at *;generalize s[k].toNat=c at *;have hm200:m<=200:=by omega
    have hcell:(c:Int)=((48+u m:Nat):Int):=by omega
    have HCELL:=hiD hcell;have l1:48<=c:=by omega
    have l2:c<=57:=by omega
    have g1:((c:Int)==43)=false:=beqF (by omega);have g2:((c:Int)==45)=false:=beqF (by omega);have g3:((c:Int)==46)=false:=beqF (by omega);have g4:decide ((48:Int)<=(c:Int))=true:=decT (by omega);have g5:decide ((c:Int)<=57)=true:=decT (by omega);obtain⟨i0,hi,hz0,hz1,hz2⟩:=info_parts Tryz.info5;clear hcn hm HRD hdp2 hcell hdig hlow hz0 hz2;by_cases hz:m=0
    ·subst hz;have hdg:DG = -1:=by rw[HDG.out,if_pos rfl]
     subst hdg;go_wp2_with fail;refine HRR.out.mono ?_;rintro e w1 ⟨rfl,h1,h2⟩;have c3:w1.cell? ⟨3,0,none⟩=some (.iface 257 (.pointer (some a))):=HE.out.kept (HKP.out.same h2) (Ne.symm hp3);have H1:=hiD h1;have H2:=hiD (HKP.out.same h2);have H3:=hiD (aG4 HROW2.out h2 hq);clear h1 h2 HRR;go_wp2_with (at_builtin;refine wpList_append_fits _ rfl (.tmp 65) (.tmp 68) 57 rfl 0 5 i0 1 underlying57 hi hz1 q 0 256 _ rfl (H3.out.alloc _) ⟨w1.heap.size,0,none⟩ 1 1 [.int .u8 (c:Int)] rfl rfl (cell_one_new _ _ _) (ints_oneCell .u8 [(c:Int)]) (by omega) ?_;intro w4 hown4 hgrow4)
     go_roundw
     case rel =>
      rw[HCELL.out,<- cU3]at hown4;have hk4:Kept (fun x=>x=p) w w4:=aL1 (H2.out.alloc _) hgrow4 (fun hlt'=>by have:=HQ.out;omega);exact⟨k+1,DP,0,by omega,by rw[HCN.out],rfl,rfl,HDP2,hiD (by rw[HCN.out,if_neg (by omega)]),aI1 H1.out hgrow4 hq,by rw[HCN.out];exact hown4,hk4⟩
     case measure =>
      have h1:=aI0 (aI1 H1.out hgrow4 hq);have h2:=HPOS.out;omega
    ·have hdg:DG=0:=by rw[HDG.out,if_neg hz]
     subst hdg;go_wp2_with fail;refine HRR.out.mono ?_;rintro e w1 ⟨rfl,h1,h2⟩;have c3:w1.cell? ⟨3,0,none⟩=some (.iface 257 (.pointer (some a))):=HE.out.kept (HKP.out.same h2) (Ne.symm hp3);have H1:=hiD h1;have H2:=hiD (HKP.out.same h2);have H3:=hiD (aG4 HROW2.out h2 hq);clear h1 h2 HRR;go_wp2_with (at_builtin;refine wpList_append_fits _ rfl (.tmp 65) (.tmp 68) 57 rfl 0 5 i0 1 underlying57 hi hz1 q m 256 _ rfl (H3.out.alloc _) ⟨w1.heap.size,0,none⟩ 1 1 [.int .u8 (c:Int)] rfl rfl (cell_one_new _ _ _) (ints_oneCell .u8 [(c:Int)]) (by omega) ?_;intro w4 hown4 hgrow4)
     go_roundw
     case rel =>
      rw[HCELL.out,<- cU3]at hown4;have hk4:Kept (fun x=>x=p) w w4:=aL1 (H2.out.alloc _) hgrow4 (fun hlt'=>by have:=HQ.out;omega);exact⟨k+1,DP,0,by omega,by rw[HCN.out],rfl,rfl,HDP2,hiD (by rw[HCN.out,if_neg (by omega)]),aI1 H1.out hgrow4 hq,by rw[HCN.out];exact hown4,hk4⟩
     case measure =>
      have h1:=aI0 (aI1 H1.out hgrow4 hq);have h2:=HPOS.out;omega
  ·have:k=s.size:=by omega
   subst this;have hdg:DG=0:=by rw[HDG.out,if_neg (by omega)]
   subst hdg;generalize hm:cnt pt s.size=m at *;have HM:=hiD hm;clear hm;go_wp2_with fail;have hHE:=HE.out.kept HKP.out (Ne.symm hp3);refine(aM9 p s a wr HRD.out hHE (by omega)).mono ?_;rintro e w1 ⟨rfl,h1,h2⟩;have c3:w1.cell? ⟨3,0,none⟩=some (.iface 257 (.pointer (some a))):=hHE.kept h2 (Ne.symm hp3);have H1:=hiD h1;have H2:=hiD (HKP.out.same h2);have H3:=hiD (aG4 HROW2.out h2 hq);clear h1 h2 hHE;have hzp:z≠p:=by obtain⟨v,h1,_⟩:=HZ.out;obtain⟨j,h2⟩:=HRD0.out;exact aY0 (a:=Value.nilIface) h1 ⟨j,h2⟩
   have hz3:z≠3:=aS8 HZ.out HE.out;have hqz:¬ (q=z):=by have:=IntAt.lt HZ.out;have:=HQ.out;omega
   have HZ1:Hid (DecAt w1 z nz sz bz):=IntAt.kept HZ.out H2.out hzp (fun k hk e=>by subst e;exact hbp hk);by_cases hpt:pt<s.size
   ·have hdp:DP=(pt:Int):=by rw[HDP.out,if_pos hpt]
    have hmp:pt<=m:=by rw[<- HM.out];unfold cnt;rw[if_neg (by omega)];omega
    have hm2:m<=200:=by omega
    subst hdp;have hsc:sc=(m:Int)-(pt:Int):=by rw[HSC.out,if_pos hpt]
    subst hsc;go_wp2_with fail;refine(aC6 z nz sz ((m:Int)-(pt:Int)) bz w1 HZ1.out).mono ?_;rintro e w2 ⟨rfl,h1,h2⟩;have HZ2:=hiD h1;have H4:=hiD (aG4 H3.out h2 hqz);have HR2:Hid (RdAt w2 p s s.size):=by
     obtain⟨j,hj⟩:=H1.out;exact⟨j,by rw[h2.block p (aB5 hj) (Ne.symm hzp)];exact hj⟩
    have HK2:Hid (Kept (fun k=>k=z\/k=p\/bz=some k) w w2):=H2.out.trans h2 (fun _ _ h=>Or.inr (Or.inl h)) (fun _ _ h=>Or.inl h);have HE2:=hiD ((HE.out.kept H2.out (Ne.symm hp3)).kept h2 (Ne.symm hz3));clear h1 h2 c3 HZ1 H3 H1;have hcv:=bE5 H4.out (by have:=HM.out;omega);have hcv2:(convert 57 9 (.slice (some ⟨q,0,none⟩) m 256)).run prog w2.drew=.ok (.string (ustr u m)) w2.drew:=bE5 (w:=w2.drew) H4.out (by have:=HM.out;omega);have h130:=aK7 z nz bz [.int .i32 ((m:Int)-(pt:Int))] 112 (ustr u m) a u w2.drew (by exact HZ2.out) (by rw[aL9];have:=HM.out;omega) (by rw[aL9];omega) (by exact HE2.out) hb3 (fun k h=>cG9 u m HSP.out.low k h);rw[aL9]at h130;have H130:=hiD h130;have HU60:Hid (Calls prog 60 #[.pointer (some ⟨z,0,none⟩)] w2.drew fun e w'=>e=.returned (.pointer (some ⟨z,0,none⟩))/\w2.drew=w'):=aA4 z nz ((m:Int)-(pt:Int)) bz w2.drew (by exact HZ2.out);have HFIN:Hid (∀ w9 b',IntAt w9 z (dval u m:Nat) b' [.int .i32 ((m:Int)-(pt:Int))] 112->Own w2.drew bz b'->Kept (fun k=>k=z\/bz=some k) w2.drew w9->aU4 w z p s bz (n:Nat) ((m:Int)-(pt:Int)) (.returned (.tuple #[.pointer (some ⟨z,0,none⟩),.nilIface])) w9):=by
     intro w9 b' h1 h2 h3;refine⟨rfl,b',by rw[HN.out];exact h1,aF3 (Or.inl rfl) h2 HK2.out.size,HK2.out.trans h3.undrew (fun _ _ h=>h) (fun _ _ h=>by rcases h with h|h;exact Or.inl h;exact Or.inr (Or.inr h)),?_⟩;obtain⟨j,hj⟩:=HR2.out;exact⟨j,by rw[h3.undrew.block p (aB5 hj) (by intro h;rcases h with h|h;exact hzp h.symm;exact hbp h)];exact hj⟩
    clear h130;go_wp2_with fail
    go_region_with (first|(go_at_call 60;refine HU60.out.mono ?_;rintro e w9 ⟨rfl,rfl⟩)|(go_at_call 130;refine H130.out.mono ?_;rintro e w9 ⟨rfl,b',h1,h2,h3⟩;have HF:=hiD (HFIN.out w9 b' h1 h2 h3);clear h1 h2 h3))
    all_goals
     go_wp2_with fail;rw[Exit.noGoto_ret];go_ret2;exact HF.out
   ·have hdp:DP = -1:=by rw[HDP.out,if_neg (by omega)]
    subst hdp;have hsc:sc=0:=by rw[HSC.out,if_neg hpt]
    subst hsc;go_wp2_with fail;refine(aC6 z nz sz 0 bz w1 HZ1.out).mono ?_;rintro e w2 ⟨rfl,h1,h2⟩;have HZ2:=hiD h1;have H4:=hiD (aG4 H3.out h2 hqz);have HR2:Hid (RdAt w2 p s s.size):=by
     obtain⟨j,hj⟩:=H1.out;exact⟨j,by rw[h2.block p (aB5 hj) (Ne.symm hzp)];exact hj⟩
    have HK2:Hid (Kept (fun k=>k=z\/k=p\/bz=some k) w w2):=H2.out.trans h2 (fun _ _ h=>Or.inr (Or.inl h)) (fun _ _ h=>Or.inl h);have HE2:=hiD ((HE.out.kept H2.out (Ne.symm hp3)).kept h2 (Ne.symm hz3));clear h1 h2 c3 HZ1 H3 H1;have hcv:=bE5 H4.out (by have:=HM.out;omega);have hcv2:(convert 57 9 (.slice (some ⟨q,0,none⟩) m 256)).run prog w2.drew=.ok (.string (ustr u m)) w2.drew:=bE5 (w:=w2.drew) H4.out (by have:=HM.out;omega);have h130:=aK7 z nz bz [.int .i32 0] 112 (ustr u m) a u w2.drew (by exact HZ2.out) (by rw[aL9];have:=HM.out;omega) (by rw[aL9];omega) (by exact HE2.out) hb3 (fun k h=>cG9 u m HSP.out.low k h);rw[aL9]at h130;have H130:=hiD h130;have HU60:Hid (Calls prog 60 #[.pointer (some ⟨z,0,none⟩)] w2.drew fun e w'=>e=.returned (.pointer (some ⟨z,0,none⟩))/\w2.drew=w'):=aA4 z nz 0 bz w2.drew (by exact HZ2.out);have HFIN:Hid (∀ w9 b',IntAt w9 z (dval u m:Nat) b' [.int .i32 0] 112->Own w2.drew bz b'->Kept (fun k=>k=z\/bz=some k) w2.drew w9->aU4 w z p s bz (n:Nat) 0 (.returned (.tuple #[.pointer (some ⟨z,0,none⟩),.nilIface])) w9):=by
     intro w9 b' h1 h2 h3;refine⟨rfl,b',by rw[HN.out];exact h1,aF3 (Or.inl rfl) h2 HK2.out.size,HK2.out.trans h3.undrew (fun _ _ h=>h) (fun _ _ h=>by rcases h with h|h;exact Or.inl h;exact Or.inr (Or.inr h)),?_⟩;obtain⟨j,hj⟩:=HR2.out;exact⟨j,by rw[h3.undrew.block p (aB5 hj) (by intro h;rcases h with h|h;exact hzp h.symm;exact hbp h)];exact hj⟩
    clear h130;go_wp2_with fail
    go_region_with (first|(go_at_call 60;refine HU60.out.mono ?_;rintro e w9 ⟨rfl,rfl⟩)|(go_at_call 130;refine H130.out.mono ?_;rintro e w9 ⟨rfl,b',h1,h2,h3⟩;have HF:=hiD (HFIN.out w9 b' h1 h2 h3);clear h1 h2 h3))
    all_goals
     go_wp2_with fail;rw[Exit.noGoto_ret];go_ret2;exact HF.out
def bN7(w:World)(z:Nat)(bz:Option Nat)(n sc:Int)(e:Ending)(w':World):Prop :=
 e=.returned (.tuple #[.pointer (some ⟨z,0,none⟩),.bool true])/\∃ b',DecAt w' z n sc b'/\Own w bz b'/\Kept (fun k=>k=z\/bz=some k) w w'
theorem aV0(z pt:Nat)(nz sz:Int)(bz:Option Nat)(s:ByteArray)(u:Nat->Nat)(a:Addr)(w:World)(hz:DecAt w z nz sz bz)(hs0:1<=cnt pt s.size)(hs:s.size<=200)(he:Eof w a)(hsp:Spells s pt u)(hb3:bz≠some 3)(n:Nat)(hn:n=dval u (cnt pt s.size))(sc:Int)(hsc:sc=if pt<s.size then(cnt pt s.size:Int)-pt else 0):
  Calls prog 54 #[.pointer (some ⟨z,0,none⟩),.string s] w (bN7 w z bz n sc):=by
 have HZ:=hiD hz;have HE:=hiD he;have HSP:=hiD hsp;have HN:=hiD hn;have HSC:=hiD hsc;have q2:=fun w=>e_nn w
 have q4:=fun a w=>e_xxn a w
 clear hz he hsp hn hsc;go_enter func54,ntmps54;go_wp2_with fail;refine(aK9 s _).mono ?_;rintro e w1 ⟨rfl,hw1⟩;have hk:Kept (fun _=>False) w w1:=by rw[hw1];exact(Kept.refl _ _).alloc _
 have hr:RdAt w1 w.heap.size s 0:=⟨-1,by rw[hw1];exact aA0 _ _⟩;have HK:=hiD hk;have HR:=hiD hr;clear hw1 hk hr;go_wp2_with fail;have hbn:bz≠some w.heap.size:=by intro e;have:=IntAt.lts HZ.out _ e;omega
 have hzl:=IntAt.lt HZ.out;have he1:=HE.out.kept HK.out (fun f=>f);refine(bG5 z w.heap.size pt nz sz bz s u a w1 (IntAt.old HZ.out HK.out) HR.out hs0 hs he1 HSP.out hbn hb3 n HN.out sc HSC.out).mono ?_;rintro e w2 ⟨rfl,b',h1,h2,h3,h4⟩;have hp3:=aR8 h4 (he1.kept h3 (by
  rintro(h|h|h)
  ·exact aS8 HZ.out HE.out h.symm
  ·exact aR8 HR.out he1 h.symm
  ·exact hb3 h))
 have he2:Eof w2 a:=he1.kept h3 (by
  rintro(h|h|h)
  ·exact aS8 HZ.out HE.out h.symm
  ·exact hp3 h.symm
  ·exact hb3 h)
 have hbn':b'≠some w.heap.size:=aK3 h2 (by have:=HR.out;obtain⟨j,hj⟩:=this;exact aB5 hj) hbn;have H1:=hiD h1;have H2:=hiD h2;have H3:=hiD h3;have H4:=hiD h4;have HE2:=hiD he2;clear h1 h2 h3 h4 he1 he2;go_wp2_with fail;refine(aM9 w.heap.size s a w2 H4.out HE2.out (by omega)).mono ?_;rintro e w3 ⟨rfl,h1,h2⟩;have c3:w3.cell? ⟨3,0,none⟩=some (.iface 257 (.pointer (some a))):=HE2.out.kept h2 (Ne.symm hp3);have HF:Hid (bN7 w z bz n sc (.returned (.tuple #[.pointer (some ⟨z,0,none⟩),.bool true])) w3) :=
  ⟨rfl,b',IntAt.kept H1.out h2 (by omega) (fun k hk' e=>by subst e;exact hbn' hk'),aF3 (Or.inl rfl) H2.out HK.out.size,(HK.out.trans H3.out (U:=fun k=>k=z\/k=w.heap.size\/bz=some k) (fun _ _ f=>f.elim) (fun _ _ h=>h)).trans h2 (fun i hi h=>by
   rcases h with h|h|h
   ·exact Or.inl h
   ·omega
   ·exact Or.inr h) (fun i hi h=>by omega)⟩
 clear h1 h2;go_wp2_with fail;go_ret2;exact HF.out
structure SpellG (s:ByteArray) (pt o:Nat) (neg:Bool) (g:Nat->Nat):Prop where
 dig:∀ k (h:k<s.size),k≠pt->s[k].toNat=g (cnt pt k)
 pnt:∀ h:pt<s.size,s[pt].toNat=46
 low:∀ j,o<=j->48<=g j/\g j<=57
 sg:o<=1/\(o=1->g 0=43\/g 0=45)/\o<=pt
 ng:neg=true↔o=1/\g 0=45
def ubG(g:Nat->Nat)(m:Nat):List Value:=(List.range m).map fun j=>.int .u8 ((g j:Nat):Int)
theorem bE6(g:Nat->Nat)(m:Nat):ubG g (m+1)=ubG g m++[.int .u8 ((g m:Nat):Int)]:=by simp[ubG,List.range_succ]
theorem dE5(w:World)(g:Nat->Nat):(w.alloc (.cells (zb 256) 5)).ownsRow 0 5 1 (.slice (some ⟨w.heap.size,0,none⟩) 0 256) 0 (ubG g 0) :=
 ⟨by simp[ubG],Or.inr ⟨w.heap.size,256,zb 256,rfl,Nat.zero_le _,aA0 _ _,by omega,by unfold maxLen;omega,size_madeCells _ _,by simp[ubG]⟩⟩
def ustrG(g:Nat->Nat)(m:Nat):ByteArray:=strN ((List.range m).map fun j=>g j)
theorem aY6{w:World}{q m:Nat}{g:Nat->Nat}(h:w.ownsRow 0 5 1 (.slice (some ⟨q,0,none⟩) m 256) m (ubG g m))(hm:1<=m):(convert 57 9 (.slice (some ⟨q,0,none⟩) m 256)).run prog w=.ok (.string (ustrG g m)) w:=by
 rcases h.2 with hn|⟨r,cap,cur,hv,hg,hgg,h1,h2,h3,h4⟩
 ·exact absurd hn.2 (by omega)
 ·have hqg:q=r:=by
   simp only[Value.slice.injEq,Option.some.injEq,Addr.mk.injEq]at hv;exact hv.1.1
  subst hqg;have hb:HasB cur 0 ((List.range m).map fun j=>g j):=by
   intro i hi;simp at hi;have e:(cur.toList.take (m*1))[i]? = (ubG g m)[i]?:=by rw[h4]
   rw[List.getElem?_take_of_lt (by omega)]at e;simp[ubG,hi]at e;simp[List.getD,hi,e]
  have:=bF7 (cap:=256) hgg hb
  simpa[ustrG]using this
theorem aL2(g:Nat->Nat)(m:Nat):(ustrG g m).size=m:=by simp[ustrG,strN,strOfNums_size]
theorem bK7(g:Nat->Nat)(m:Nat)(k:Nat)(h:k<(ustrG g m).size)(hg:g k<256):(ustrG g m)[k].toNat=g k:=by
 have hk:k<m:=by rwa[aL2]at h
 show((ustrG g m).data[k]'h).toNat=_;simp[ustrG,strN,strOfNums];omega
theorem SpellG.byte{s:ByteArray}{pt o:Nat}{neg:Bool}{g:Nat->Nat}(h:SpellG s pt o neg g)(k:Nat):g k<256:=by
 rcases Nat.lt_or_ge k o with hk|hk
 ·obtain⟨h1,h2,h3⟩:=h.sg;have:k=0:=by omega
  subst this;rcases h2 (by omega)with h|h<;>omega
 ·have:=h.low k hk;omega
theorem bT9{s:ByteArray}{pt o m:Nat}{neg:Bool}{g:Nat->Nat}(hs:SpellG s pt o neg g)(k:Nat)(h:o+k<(ustrG g m).size):(ustrG g m)[o+k].toNat=48+(g (o+k)-48)/\g (o+k)-48<=9:=by
 rw[bK7 g m _ h (hs.byte _)];have:=hs.low (o+k) (by omega);omega
theorem sgAtG{s:ByteArray}{pt o m:Nat}{neg:Bool}{g:Nat->Nat}(hs:SpellG s pt o neg g)(hm:0<m):SgAt (ustrG g m) o neg:=by
 obtain⟨h1,h2,h3⟩:=hs.sg;have h0:0<(ustrG g m).size:=by rw[aL2];exact hm
 have hb:=bK7 g m 0 h0 (hs.byte 0);rcases Nat.eq_zero_or_pos o with ho|ho
 ·subst ho;refine Or.inl ⟨rfl,?_,h0,?_⟩
  ·cases neg with
   | false=>rfl
   | true=>have:=hs.ng.1 rfl;omega
  ·rw[hb];exact(hs.low 0 (by omega)).1
 ·have ho1:o=1:=by omega
  subst ho1;refine Or.inr ⟨rfl,h0,?_⟩;rw[hb];rcases h2 rfl with h|h
  ·refine Or.inr ⟨h,?_⟩;cases neg with
   | false=>rfl
   | true=>have:=hs.ng.1 rfl;omega
  ·exact Or.inl ⟨h,hs.ng.2 ⟨rfl,h⟩⟩
theorem bU0(z p pt:Nat)(nz sz:Int)(bz:Option Nat)(s:ByteArray)(g:Nat->Nat)(a:Addr)(w:World)(hz:DecAt w z nz sz bz)(h:RdAt w p s 0)(o:Nat)(neg:Bool)(hs0:o+1<=cnt pt s.size)(hs:s.size<=200)(he:Eof w a)(hsp:SpellG s pt o neg g)(hbp:bz≠some p)(hb3:bz≠some 3)(n:Int)(hn:n=sgZ neg (dval (fun j=>g (o+j)-48) (cnt pt s.size-o)))(sc:Int)(hsc:sc=if pt<s.size then(cnt pt s.size:Int)-pt else 0):
  Calls prog 94 #[.pointer (some ⟨z,0,none⟩),.iface 159 (.pointer (some ⟨p,0,none⟩))] w (aU4 w z p s bz n sc):=by
 have HZ:=hiD hz;have HR:=hiD h;have HE:=hiD he;have HSP:=hiD hsp;have hp3:=aR8 h he;have HN:=hiD hn;have HSC:=hiD hsc;clear hn hsc;have q1:=fun a w=>m_rr a w
 have q2:=fun w=>e_nn w
 have q3:=fun a w=>e_ex a w
 have q4:=fun a w=>e_xx a w
 have mk:∀ w:World,(Instr.makeSlice 57 (.int .i64 0) (.int .i64 256)).run prog w=.ok (.slice (some ⟨w.heap.size,0,none⟩) 0 256) (w.alloc (.cells (zb 256) 5)):=fun w=>cG8 0 256 (by omega) (by omega) w;clear hz h he hsp;go_enter func94,ntmps94;go_wp2_with fail
 go_step3
 go_wp2_with fail
 go_step3
 go_wp2_with fail;have hq:w.heap.size≠p:=by obtain⟨j,h⟩:=HR.out;have:=aB5 h;omega
 have hrow:=dE5 w g;have ka:Kept (fun x=>x=p) w (w.alloc (.cells (zb 256) 5)):=(Kept.refl _ _).alloc _;have hr1:RdAt (w.alloc (.cells (zb 256) 5)) p s 0:=by
  obtain⟨j,h⟩:=HR.out;exact⟨j,by rw[((Kept.refl (fun _=>False) w).alloc (.cells (zb 256) 5)).block p (aB5 h) (fun f=>f)];exact h⟩
 have HROW:=hiD hrow;have KA:=hiD ka;have HR1:=hiD hr1;obtain⟨q,HQ⟩:∃ q,Hid (w.heap.size=q):=⟨_,hiD rfl⟩;rw[HQ.out]at HROW hq ⊢;have HRD0:=hiD HR.out;clear hrow ka hr1 mk HR;have q6:=fun a w=>e_xx a w
 go_loopw [6,7,8] (fun v dp dg wr=>∃(k:Nat) (DP DG:Int),k<=s.size/\v=.slice (some ⟨q,0,none⟩) (cnt pt k) 256/\dp=.int .i64 DP/\dg=.int .i64 DG/\Hid (DP=if pt<k then(pt:Int)else -1)/\Hid (DG=if cnt pt k<=o then -1 else(o:Int))/\RdAt wr p s k/\wr.ownsRow 0 5 1 v (cnt pt k) (ubG g (cnt pt k))/\Kept (fun x=>x=p) w wr) (fun _ _ _ wr=>s.size-rdPos wr p)
 case atStart=>exact⟨0,-1,-1,by omega,by simp[cnt],rfl,rfl,hiD (by simp),hiD (by simp[cnt]),HR1.out,by simpa[cnt,ubG]using HROW.out,KA.out⟩
 case round =>
  obtain⟨k,DP,DG,hk,rfl,rfl,rfl,HDP,HDG,hrd,hrow,hkp⟩:=hrel;have HRD:=hiD hrd;have HROW2:=hiD hrow;have HKP:=hiD hkp;have hcl:cnt pt k<=k:=by unfold cnt;split<;>omega
  clear hrd hrow hkp HROW KA HR1;rcases Nat.lt_or_ge k s.size with hlt|hge
  ·by_cases hpt:k=pt
   ·have h46:=HSP.out.pnt (by omega);have hdp:DP = -1:=by rw[HDP.out,if_neg (by omega)]
    subst hdp;have hcn:cnt pt (k+1)=cnt pt k:=by unfold cnt;rw[if_neg (by omega),if_pos (by omega)];omega
    have HPOS:Hid (rdPos wr p=k):=aI0 HRD.out;have hck:cnt pt k=pt:=by unfold cnt;rw[if_pos (by omega)];exact hpt
    have h46':s[k].toNat=46:=by subst hpt;exact h46
    have HRR:=hiD (aQ5 p s k wr HRD.out hlt (by omega) (by omega));have HCN:=hiD hcn;have HCK:=hiD hck;rw[h46']at HRR;generalize hm:cnt pt k=m at *;have HM:=hiD hm;have hm200:m<=200:=by omega
    clear hcn hck hm h46 h46' HRD;go_wp2_with fail;refine HRR.out.mono ?_;rintro e w1 ⟨rfl,h1,h2⟩;have c3:w1.cell? ⟨3,0,none⟩=some (.iface 257 (.pointer (some a))):=HE.out.kept (HKP.out.same h2) (Ne.symm hp3);have H1:=hiD h1;have H2:=hiD (HKP.out.same h2);have H3:=hiD (aG4 HROW2.out h2 hq);clear h1 h2 HRR;go_wp2_with fail;have hpos:rdPos w1 p=k+1/\rdPos wr p=k:=⟨aI0 H1.out,HPOS.out⟩;go_roundw
    case rel=>exact⟨k+1,(m:Int),DG,by omega,by rw[HCN.out],rfl,rfl,hiD (by rw[if_pos (by omega),HCK.out]),by rw[HCN.out];exact HDG,H1.out,by rw[HCN.out];exact H3.out,H2.out⟩
    case measure=>omega
   ·have hdig:=HSP.out.dig k hlt hpt;have hlow:=HSP.out.low (cnt pt k);have hsgn:=HSP.out.sg;have hkm:cnt pt k<o->k=0/\o=1:=by
     intro hlt3;have:=hsgn.1;unfold cnt at hlt3;split at hlt3<;>omega
    have HO1:=hiD hsgn.1;have h128:s[k].toNat<128:=by
     rw[hdig];rcases Nat.lt_or_ge (cnt pt k) o with h|h
     ·obtain⟨rfl,rfl⟩:=hkm h;have h0:cnt pt 0=0:=by omega
      rw[h0];rcases hsgn.2.1 rfl with h|h<;>omega
     ·have:=hlow h;omega
    have hcn:cnt pt (k+1)=cnt pt k+1:=by
     unfold cnt;by_cases h:k<=pt
     ·rw[if_pos h,if_pos (by omega)]
     ·rw[if_neg h,if_neg (by omega)];omega
    have HRR:=hiD (aQ5 p s k wr HRD.out hlt (by omega) h128);clear h128;have HPOS:Hid (rdPos wr p=k):=aI0 HRD.out;have hdp2:DP=if pt<k+1 then(pt:Int)else -1:=by
     rw[HDP.out];by_cases h:pt<k
     ·rw[if_pos h,if_pos (by omega)]
     ·rw[if_neg h,if_neg (by omega)]
    have HDP2:=hiD hdp2;have HCN:=hiD hcn;generalize hm:cnt pt k=m at *;generalize s[k].toNat=c at *;have hm200:m<=200:=by omega
    have hcell:(c:Int)=((g m:Nat):Int):=by rw[hdig]
    have HCELL:=hiD hcell;obtain⟨i0,hi,hz0,hz1,hz2⟩:=info_parts Tryz.info5;clear hcn hm HRD hdp2 hcell hz0 hz2;by_cases hso:m<o
    ·obtain⟨rfl,rfl⟩:=hkm hso;have hm0:m=0:=by omega
     subst hm0;have hdg:DG = -1:=by rw[HDG.out,if_pos (by omega)]
     subst hdg;have hdp1:DP = -1:=by rw[HDP.out,if_neg (by omega)]
     have hg:=hsgn.2.1 rfl;have hc:c=43\/c=45:=by
      rcases hg with h|h
      ·exact Or.inl (by omega)
      ·exact Or.inr (by omega)
     subst hdp1;clear hlow hdig hsgn hkm hg hso;rcases hc with rfl|rfl
     ·go_wp2_with fail;refine HRR.out.mono ?_;rintro e w1 ⟨rfl,h1,h2⟩;have c3:w1.cell? ⟨3,0,none⟩=some (.iface 257 (.pointer (some a))):=HE.out.kept (HKP.out.same h2) (Ne.symm hp3);have H1:=hiD h1;have H2:=hiD (HKP.out.same h2);have H3:=hiD (aG4 HROW2.out h2 hq);clear h1 h2 HRR;go_wp2_with (at_builtin;refine wpList_append_fits _ rfl (.tmp 65) (.tmp 68) 57 rfl 0 5 i0 1 underlying57 hi hz1 q 0 256 _ rfl (H3.out.alloc _) ⟨w1.heap.size,0,none⟩ 1 1 [.int .u8 43] rfl rfl (cell_one_new _ _ _) (ints_oneCell .u8 [43]) (by omega) ?_;intro w4 hown4 hgrow4)
      go_roundw
      case rel =>
       rw[show(43:Int)=((g 0:Nat):Int)from HCELL.out,<- bE6]at hown4;have hk4:Kept (fun x=>x=p) w w4:=aL1 (H2.out.alloc _) hgrow4 (fun hlt'=>by have:=HQ.out;omega);exact⟨0+1,-1,-1,by omega,by rw[HCN.out],rfl,rfl,HDP2,hiD (by rw[HCN.out,if_pos (by omega)]),aI1 H1.out hgrow4 hq,by rw[HCN.out];exact hown4,hk4⟩
      case measure =>
       have h1:=aI0 (aI1 H1.out hgrow4 hq);have h2:=HPOS.out;omega
     ·go_wp2_with fail;refine HRR.out.mono ?_;rintro e w1 ⟨rfl,h1,h2⟩;have c3:w1.cell? ⟨3,0,none⟩=some (.iface 257 (.pointer (some a))):=HE.out.kept (HKP.out.same h2) (Ne.symm hp3);have H1:=hiD h1;have H2:=hiD (HKP.out.same h2);have H3:=hiD (aG4 HROW2.out h2 hq);clear h1 h2 HRR;go_wp2_with (at_builtin;refine wpList_append_fits _ rfl (.tmp 65) (.tmp 68) 57 rfl 0 5 i0 1 underlying57 hi hz1 q 0 256 _ rfl (H3.out.alloc _) ⟨w1.heap.size,0,none⟩ 1 1 [.int .u8 45] rfl rfl (cell_one_new _ _ _) (ints_oneCell .u8 [45]) (by omega) ?_;intro w4 hown4 hgrow4)
      go_roundw
      case rel =>
       rw[show(45:Int)=((g 0:Nat):Int)from HCELL.out,<- bE6]at hown4;have hk4:Kept (fun x=>x=p) w w4:=aL1 (H2.out.alloc _) hgrow4 (fun hlt'=>by have:=HQ.out;omega);exact⟨0+1,-1,-1,by omega,by rw[HCN.out],rfl,rfl,HDP2,hiD (by rw[HCN.out,if_pos (by omega)]),aI1 H1.out hgrow4 hq,by rw[HCN.out];exact hown4,hk4⟩
      case measure =>
       have h1:=aI0 (aI1 H1.out hgrow4 hq);have h2:=HPOS.out;omega
    ·have hlow2:=hlow (by omega);have hO1:=hsgn.1;clear hlow hsgn hkm;have l1:48<=c:=by omega
     have l2:c<=57:=by omega
     have g1:((c:Int)==43)=false:=beqF (by omega);have g2:((c:Int)==45)=false:=beqF (by omega);have g3:((c:Int)==46)=false:=beqF (by omega);have g4:decide ((48:Int)<=(c:Int))=true:=decT (by omega);have g5:decide ((c:Int)<=57)=true:=decT (by omega);clear hdig hlow2;by_cases hz:m=o
     ·subst hz;have hdg:DG = -1:=by rw[HDG.out,if_pos (Nat.le_refl _)]
      subst hdg;go_wp2_with fail;refine HRR.out.mono ?_;rintro e w1 ⟨rfl,h1,h2⟩;have c3:w1.cell? ⟨3,0,none⟩=some (.iface 257 (.pointer (some a))):=HE.out.kept (HKP.out.same h2) (Ne.symm hp3);have H1:=hiD h1;have H2:=hiD (HKP.out.same h2);have H3:=hiD (aG4 HROW2.out h2 hq);clear h1 h2 HRR;go_wp2_with (at_builtin;refine wpList_append_fits _ rfl (.tmp 65) (.tmp 68) 57 rfl 0 5 i0 1 underlying57 hi hz1 q m 256 _ rfl (H3.out.alloc _) ⟨w1.heap.size,0,none⟩ 1 1 [.int .u8 (c:Int)] rfl rfl (cell_one_new _ _ _) (ints_oneCell .u8 [(c:Int)]) (by omega) ?_;intro w4 hown4 hgrow4)
      go_roundw
      case rel =>
       rw[HCELL.out,<- bE6]at hown4;have hk4:Kept (fun x=>x=p) w w4:=aL1 (H2.out.alloc _) hgrow4 (fun hlt'=>by have:=HQ.out;omega);exact⟨k+1,DP,(m:Int),by omega,by rw[HCN.out],rfl,rfl,HDP2,hiD (by rw[HCN.out,if_neg (by omega)]),aI1 H1.out hgrow4 hq,by rw[HCN.out];exact hown4,hk4⟩
      case measure =>
       have h1:=aI0 (aI1 H1.out hgrow4 hq);have h2:=HPOS.out;omega
     ·have hdg:DG=(o:Int):=by rw[HDG.out,if_neg (by omega)]
      have g9:((o:Int) == -1)=false:=beqF (by omega);subst hdg;go_wp2_with fail;refine HRR.out.mono ?_;rintro e w1 ⟨rfl,h1,h2⟩;have c3:w1.cell? ⟨3,0,none⟩=some (.iface 257 (.pointer (some a))):=HE.out.kept (HKP.out.same h2) (Ne.symm hp3);have H1:=hiD h1;have H2:=hiD (HKP.out.same h2);have H3:=hiD (aG4 HROW2.out h2 hq);clear h1 h2 HRR;go_wp2_with (at_builtin;refine wpList_append_fits _ rfl (.tmp 65) (.tmp 68) 57 rfl 0 5 i0 1 underlying57 hi hz1 q m 256 _ rfl (H3.out.alloc _) ⟨w1.heap.size,0,none⟩ 1 1 [.int .u8 (c:Int)] rfl rfl (cell_one_new _ _ _) (ints_oneCell .u8 [(c:Int)]) (by omega) ?_;intro w4 hown4 hgrow4)
      go_roundw
      case rel =>
       rw[HCELL.out,<- bE6]at hown4;have hk4:Kept (fun x=>x=p) w w4:=aL1 (H2.out.alloc _) hgrow4 (fun hlt'=>by have:=HQ.out;omega);exact⟨k+1,DP,(o:Int),by omega,by rw[HCN.out],rfl,rfl,HDP2,hiD (by rw[HCN.out,if_neg (by omega)]),aI1 H1.out hgrow4 hq,by rw[HCN.out];exact hown4,hk4⟩
      case measure =>
       have h1:=aI0 (aI1 H1.out hgrow4 hq);have h2:=HPOS.out;omega
  ·have:k=s.size:=by omega
   subst this;have hdg:DG=(o:Int):=by rw[HDG.out,if_neg (by omega)]
   have g9:((o:Int) == -1)=false:=beqF (by omega);have hO1:=HSP.out.sg.1;subst hdg;generalize hm:cnt pt s.size=m at *;have HM:=hiD hm;clear hm;go_wp2_with fail;have hHE:=HE.out.kept HKP.out (Ne.symm hp3);refine(aM9 p s a wr HRD.out hHE (by omega)).mono ?_;rintro e w1 ⟨rfl,h1,h2⟩;have c3:w1.cell? ⟨3,0,none⟩=some (.iface 257 (.pointer (some a))):=hHE.kept h2 (Ne.symm hp3);have H1:=hiD h1;have H2:=hiD (HKP.out.same h2);have H3:=hiD (aG4 HROW2.out h2 hq);clear h1 h2 hHE;have hzp:z≠p:=by obtain⟨v,h1,_⟩:=HZ.out;obtain⟨j,h2⟩:=HRD0.out;exact aY0 (a:=Value.nilIface) h1 ⟨j,h2⟩
   have hz3:z≠3:=aS8 HZ.out HE.out;have hqz:¬ (q=z):=by have:=IntAt.lt HZ.out;have:=HQ.out;omega
   have HZ1:Hid (DecAt w1 z nz sz bz):=IntAt.kept HZ.out H2.out hzp (fun k hk e=>by subst e;exact hbp hk);by_cases hpt:pt<s.size
   ·have hdp:DP=(pt:Int):=by rw[HDP.out,if_pos hpt]
    have hmp:pt<=m:=by rw[<- HM.out];unfold cnt;rw[if_neg (by omega)];omega
    have hm2:m<=200:=by omega
    subst hdp;have hsc:sc=(m:Int)-(pt:Int):=by rw[HSC.out,if_pos hpt]
    subst hsc;go_wp2_with fail;refine(aC6 z nz sz ((m:Int)-(pt:Int)) bz w1 HZ1.out).mono ?_;rintro e w2 ⟨rfl,h1,h2⟩;have HZ2:=hiD h1;have H4:=hiD (aG4 H3.out h2 hqz);have HR2:Hid (RdAt w2 p s s.size):=by
     obtain⟨j,hj⟩:=H1.out;exact⟨j,by rw[h2.block p (aB5 hj) (Ne.symm hzp)];exact hj⟩
    have HK2:Hid (Kept (fun k=>k=z\/k=p\/bz=some k) w w2):=H2.out.trans h2 (fun _ _ h=>Or.inr (Or.inl h)) (fun _ _ h=>Or.inl h);have HE2:=hiD ((HE.out.kept H2.out (Ne.symm hp3)).kept h2 (Ne.symm hz3));clear h1 h2 c3 HZ1 H3 H1;have hcv:=aY6 H4.out (by have:=HM.out;omega);have hcv2:(convert 57 9 (.slice (some ⟨q,0,none⟩) m 256)).run prog w2.drew=.ok (.string (ustrG g m)) w2.drew:=aY6 (w:=w2.drew) H4.out (by have:=HM.out;omega);have h130:=aP0 z nz bz [.int .i32 ((m:Int)-(pt:Int))] 112 (ustrG g m) a (fun j=>g (o+j)-48) w2.drew (by exact HZ2.out) o (m-o) neg (sgAtG HSP.out (by have:=HM.out;omega)) (by rw[aL2];have:=HM.out;omega) (by have:=HM.out;omega) (by rw[aL2];omega) (by exact HE2.out) hb3 (fun k h=>bT9 HSP.out k h);have H130:=hiD h130;have HU60:Hid (Calls prog 60 #[.pointer (some ⟨z,0,none⟩)] w2.drew fun e w'=>e=.returned (.pointer (some ⟨z,0,none⟩))/\w2.drew=w'):=aA4 z nz ((m:Int)-(pt:Int)) bz w2.drew (by exact HZ2.out);have HFIN:Hid (∀ w9 b',IntAt w9 z (sgZ neg (dval (fun j=>g (o+j)-48) (m-o))) b' [.int .i32 ((m:Int)-(pt:Int))] 112->Own w2.drew bz b'->Kept (fun k=>k=z\/bz=some k) w2.drew w9->aU4 w z p s bz n ((m:Int)-(pt:Int)) (.returned (.tuple #[.pointer (some ⟨z,0,none⟩),.nilIface])) w9):=by
     intro w9 b' h1 h2 h3;refine⟨rfl,b',by rw[HN.out];exact h1,aF3 (Or.inl rfl) h2 HK2.out.size,HK2.out.trans h3.undrew (fun _ _ h=>h) (fun _ _ h=>by rcases h with h|h;exact Or.inl h;exact Or.inr (Or.inr h)),?_⟩;obtain⟨j,hj⟩:=HR2.out;exact⟨j,by rw[h3.undrew.block p (aB5 hj) (by intro h;rcases h with h|h;exact hzp h.symm;exact hbp h)];exact hj⟩
    clear h130;go_wp2_with fail
    go_region_with (first|(go_at_call 60;refine HU60.out.mono ?_;rintro e w9 ⟨rfl,rfl⟩)|(go_at_call 130;refine H130.out.mono ?_;rintro e w9 ⟨rfl,b',h1,h2,h3⟩;have HF:=hiD (HFIN.out w9 b' h1 h2 h3);clear h1 h2 h3))
    all_goals
     go_wp2_with fail;rw[Exit.noGoto_ret];go_ret2;exact HF.out
   ·have hdp:DP = -1:=by rw[HDP.out,if_neg (by omega)]
    subst hdp;have hsc:sc=0:=by rw[HSC.out,if_neg hpt]
    subst hsc;go_wp2_with fail;refine(aC6 z nz sz 0 bz w1 HZ1.out).mono ?_;rintro e w2 ⟨rfl,h1,h2⟩;have HZ2:=hiD h1;have H4:=hiD (aG4 H3.out h2 hqz);have HR2:Hid (RdAt w2 p s s.size):=by
     obtain⟨j,hj⟩:=H1.out;exact⟨j,by rw[h2.block p (aB5 hj) (Ne.symm hzp)];exact hj⟩
    have HK2:Hid (Kept (fun k=>k=z\/k=p\/bz=some k) w w2):=H2.out.trans h2 (fun _ _ h=>Or.inr (Or.inl h)) (fun _ _ h=>Or.inl h);have HE2:=hiD ((HE.out.kept H2.out (Ne.symm hp3)).kept h2 (Ne.symm hz3));clear h1 h2 c3 HZ1 H3 H1;have hcv:=aY6 H4.out (by have:=HM.out;omega);have hcv2:(convert 57 9 (.slice (some ⟨q,0,none⟩) m 256)).run prog w2.drew=.ok (.string (ustrG g m)) w2.drew:=aY6 (w:=w2.drew) H4.out (by have:=HM.out;omega);have h130:=aP0 z nz bz [.int .i32 0] 112 (ustrG g m) a (fun j=>g (o+j)-48) w2.drew (by exact HZ2.out) o (m-o) neg (sgAtG HSP.out (by have:=HM.out;omega)) (by rw[aL2];have:=HM.out;omega) (by have:=HM.out;omega) (by rw[aL2];omega) (by exact HE2.out) hb3 (fun k h=>bT9 HSP.out k h);have H130:=hiD h130;have HU60:Hid (Calls prog 60 #[.pointer (some ⟨z,0,none⟩)] w2.drew fun e w'=>e=.returned (.pointer (some ⟨z,0,none⟩))/\w2.drew=w'):=aA4 z nz 0 bz w2.drew (by exact HZ2.out);have HFIN:Hid (∀ w9 b',IntAt w9 z (sgZ neg (dval (fun j=>g (o+j)-48) (m-o))) b' [.int .i32 0] 112->Own w2.drew bz b'->Kept (fun k=>k=z\/bz=some k) w2.drew w9->aU4 w z p s bz n 0 (.returned (.tuple #[.pointer (some ⟨z,0,none⟩),.nilIface])) w9):=by
     intro w9 b' h1 h2 h3;refine⟨rfl,b',by rw[HN.out];exact h1,aF3 (Or.inl rfl) h2 HK2.out.size,HK2.out.trans h3.undrew (fun _ _ h=>h) (fun _ _ h=>by rcases h with h|h;exact Or.inl h;exact Or.inr (Or.inr h)),?_⟩;obtain⟨j,hj⟩:=HR2.out;exact⟨j,by rw[h3.undrew.block p (aB5 hj) (by intro h;rcases h with h|h;exact hzp h.symm;exact hbp h)];exact hj⟩
    clear h130;go_wp2_with fail
    go_region_with (first|(go_at_call 60;refine HU60.out.mono ?_;rintro e w9 ⟨rfl,rfl⟩)|(go_at_call 130;refine H130.out.mono ?_;rintro e w9 ⟨rfl,b',h1,h2,h3⟩;have HF:=hiD (HFIN.out w9 b' h1 h2 h3);clear h1 h2 h3))
    all_goals
     go_wp2_with fail;rw[Exit.noGoto_ret];go_ret2;exact HF.out
theorem aH3(z pt:Nat)(nz sz:Int)(bz:Option Nat)(s:ByteArray)(g:Nat->Nat)(a:Addr)(w:World)(hz:DecAt w z nz sz bz)(o:Nat)(neg:Bool)(hs0:o+1<=cnt pt s.size)(hs:s.size<=200)(he:Eof w a)(hsp:SpellG s pt o neg g)(hb3:bz≠some 3)(n:Int)(hn:n=sgZ neg (dval (fun j=>g (o+j)-48) (cnt pt s.size-o)))(sc:Int)(hsc:sc=if pt<s.size then(cnt pt s.size:Int)-pt else 0):
  Calls prog 54 #[.pointer (some ⟨z,0,none⟩),.string s] w (bN7 w z bz n sc):=by
 have HZ:=hiD hz;have HE:=hiD he;have HSP:=hiD hsp;have HN:=hiD hn;have HSC:=hiD hsc;have q2:=fun w=>e_nn w
 have q4:=fun a w=>e_xxn a w
 clear hz he hsp hn hsc;go_enter func54,ntmps54;go_wp2_with fail;refine(aK9 s _).mono ?_;rintro e w1 ⟨rfl,hw1⟩;have hk:Kept (fun _=>False) w w1:=by rw[hw1];exact(Kept.refl _ _).alloc _
 have hr:RdAt w1 w.heap.size s 0:=⟨-1,by rw[hw1];exact aA0 _ _⟩;have HK:=hiD hk;have HR:=hiD hr;clear hw1 hk hr;go_wp2_with fail;have hbn:bz≠some w.heap.size:=by intro e;have:=IntAt.lts HZ.out _ e;omega
 have hzl:=IntAt.lt HZ.out;have he1:=HE.out.kept HK.out (fun f=>f);refine(bU0 z w.heap.size pt nz sz bz s g a w1 (IntAt.old HZ.out HK.out) HR.out o neg hs0 hs he1 HSP.out hbn hb3 n HN.out sc HSC.out).mono ?_;rintro e w2 ⟨rfl,b',h1,h2,h3,h4⟩;have hp3:=aR8 h4 (he1.kept h3 (by
  rintro(h|h|h)
  ·exact aS8 HZ.out HE.out h.symm
  ·exact aR8 HR.out he1 h.symm
  ·exact hb3 h))
 have he2:Eof w2 a:=he1.kept h3 (by
  rintro(h|h|h)
  ·exact aS8 HZ.out HE.out h.symm
  ·exact hp3 h.symm
  ·exact hb3 h)
 have hbn':b'≠some w.heap.size:=aK3 h2 (by have:=HR.out;obtain⟨j,hj⟩:=this;exact aB5 hj) hbn;have H1:=hiD h1;have H2:=hiD h2;have H3:=hiD h3;have H4:=hiD h4;have HE2:=hiD he2;clear h1 h2 h3 h4 he1 he2;go_wp2_with fail;refine(aM9 w.heap.size s a w2 H4.out HE2.out (by omega)).mono ?_;rintro e w3 ⟨rfl,h1,h2⟩;have c3:w3.cell? ⟨3,0,none⟩=some (.iface 257 (.pointer (some a))):=HE2.out.kept h2 (Ne.symm hp3);have HF:Hid (bN7 w z bz n sc (.returned (.tuple #[.pointer (some ⟨z,0,none⟩),.bool true])) w3) :=
  ⟨rfl,b',IntAt.kept H1.out h2 (by omega) (fun k hk' e=>by subst e;exact hbn' hk'),aF3 (Or.inl rfl) H2.out HK.out.size,(HK.out.trans H3.out (U:=fun k=>k=z\/k=w.heap.size\/bz=some k) (fun _ _ f=>f.elim) (fun _ _ h=>h)).trans h2 (fun i hi h=>by
   rcases h with h|h|h
   ·exact Or.inl h
   ·omega
   ·exact Or.inr h) (fun i hi h=>by omega)⟩
 clear h1 h2;go_wp2_with fail;go_ret2;exact HF.out
def wds:Nat->Nat->List Nat
 | 0,_=>[]
 | k+1,x=>x%B64::wds k (x/B64)
theorem aA9(k x:Nat):(wds k x).length=k:=by
 induction k generalizing x with
 | zero=>rfl
 | succ k ih=>simp[wds,ih]
theorem aN3(k x:Nat):∀ y∈wds k x,y<B64:=by
 induction k generalizing x with
 | zero=>simp[wds]
 | succ k ih =>
  intro y hy;rcases List.mem_cons.1 hy with h|h
  ·rw[h];exact Nat.mod_lt _ aA6
  ·exact ih _ y h
theorem aH6(k x:Nat):val (wds k x)=x%B64^k:=by
 induction k generalizing x with
 | zero=>simp[wds,val,Nat.mod_one]
 | succ k ih =>
  show x%B64+B64*val (wds k (x/B64))=_;rw[ih,Nat.pow_succ,Nat.mul_comm (B64^k),Nat.mod_mul]
theorem dX1{l:List Nat}(h:∀ y∈l,y<B64):l=wds l.length (val l):=by
 induction l with
 | nil=>rfl
 | cons x l ih =>
  have hx:=h x (List.mem_cons_self ..);have h1:=ih (fun y hy=>h y (List.mem_cons_of_mem _ hy));show x::l=(val (x::l)%B64)::wds l.length (val (x::l)/B64);rw[aG8,Nat.add_mul_mod_self_left,Nat.mod_eq_of_lt hx,Nat.add_mul_div_left _ _ aA6,Nat.div_eq_of_lt hx,Nat.zero_add,<- h1]
theorem bU1{l:List Nat}{k x:Nat}(h:∀ y∈l,y<B64)(hk:l.length=k)(hv:val l=x):l=wds k x:=by
 subst hk;subst hv;exact dX1 h
theorem bN8(a b x:Nat):wds (a+b) x=wds a x++wds b (x/B64^a):=by
 induction a generalizing x with
 | zero=>simp[wds]
 | succ a ih =>
  rw[show a+1+b=(a+b)+1 by omega];show x%B64::wds (a+b) (x/B64)=x%B64::(wds a (x/B64)++_);rw[ih,Nat.pow_succ,Nat.mul_comm (B64^a),Nat.div_div_eq_div_mul]
theorem bG6(k x:Nat):wds k (x%B64^k)=wds k x:=by
 refine(bU1 (aN3 k x) (aA9 k x) ?_).symm;rw[aH6]
theorem aD7(k x i:Nat)(h:i<k):(wds k x).getD i 0=x/B64^i%B64:=by
 induction k generalizing x i with
 | zero=>omega
 | succ k ih =>
  cases i with
  | zero=>simp[wds]
  | succ i =>
   show(wds k (x/B64)).getD i 0=_;rw[ih _ _ (by omega),Nat.pow_succ,Nat.mul_comm (B64^i),Nat.div_div_eq_div_mul]
theorem dP8(x:Nat):dig x=wds (dig x).length x:=bU1 (aN9 x) rfl (aJ4 x)
theorem dE6(k:Nat):wds k 0=List.replicate k 0:=by
 induction k with
 | zero=>rfl
 | succ k ih =>
  show 0%B64::wds k (0/B64)=_;rw[Nat.zero_div,ih,Nat.zero_mod];rfl
theorem bE7{a k x:Nat}(h:a<=k):(wds k x).take a=wds a x:=by
 obtain⟨b,rfl⟩:∃ b,k=a+b:=⟨k-a,by omega⟩;rw[bN8,List.take_left' (aA9 a x)]
theorem cH0{a k x:Nat}(h:a<=k):(wds k x).drop a=wds (k-a) (x/B64^a):=by
 obtain⟨b,rfl⟩:∃ b,k=a+b:=⟨k-a,by omega⟩;rw[bN8,List.drop_left' (aA9 a x),show a+b-a=b by omega]
theorem aU5{s:Nat}(hs:s<64):2^(64-s)*2^s=B64/\2^s*2^(64-s)=B64:=by
 constructor
 ·rw[<- Nat.pow_add,show 64-s+s=64 by omega];rfl
 ·rw[<- Nat.pow_add,show s+(64-s)=64 by omega];rfl
theorem dE7{X s:Nat}(hs:s<64):X*2^s/B64=X/B64*2^s+X%B64/2^(64-s):=by
 have hp:0<2^s:=Nat.pow_pos (by omega);obtain⟨e1,e2⟩:=aU5 hs;have h:=Nat.div_add_mod X B64;have h3:X*2^s=B64*(X/B64*2^s)+X%B64*2^s:=by
  rw[<- Nat.mul_assoc,<- Nat.add_mul,h]
 rw[h3,Nat.mul_add_div aA6];congr 1
 conv=>lhs;rw[<- e1,Nat.mul_div_mul_right _ _ hp]
 rw[e1]
theorem cU4{X s:Nat}(hs:s<64)(i:Nat):X*2^s/B64^(i+1)=X/B64^(i+1)*2^s+X/B64^i%B64/2^(64-s):=by
 have hpB:∀ k,0<B64^k:=fun k=>Nat.pow_pos aA6
 induction i with
 | zero=>simpa using dE7 (X:=X) hs
 | succ i ih =>
  have hp:0<2^s:=Nat.pow_pos (by omega);obtain⟨e1,e2⟩:=aU5 hs;rw[Nat.pow_succ,<- Nat.div_div_eq_div_mul,ih,<- Nat.div_div_eq_div_mul];have h:=Nat.div_add_mod (X/B64^(i+1)) B64;have hlt:X/B64^i%B64/2^(64-s)<2^s:=by
   rw[Nat.div_lt_iff_lt_mul (Nat.pow_pos (by omega)),e2];exact Nat.mod_lt _ aA6
  generalize X/B64^i%B64/2^(64-s)=e at *;generalize X/B64^(i+1)=Y at *;have h3:Y*2^s+e=B64*(Y/B64*2^s)+(Y%B64*2^s+e):=by
   have:Y*2^s=B64*(Y/B64*2^s)+Y%B64*2^s:=by rw[<- Nat.mul_assoc,<- Nat.add_mul,h]
   omega
  rw[h3,Nat.mul_add_div aA6];congr 1;have e3:(Y%B64*2^s+e)/B64=(Y%B64*2^s+e)/2^s/2^(64-s):=by rw[Nat.div_div_eq_div_mul,e2]
  rw[e3,Nat.mul_comm (Y%B64),Nat.mul_add_div hp,Nat.div_eq_of_lt hlt,Nat.add_zero]
theorem bG7{X s:Nat}:X*2^s%B64=X%B64*2^s%B64:=by rw[Nat.mod_mul_mod]
theorem bG8{a e s:Nat}(hs:s<64)(he:e<2^s):(a*2^s+e)%B64=a*2^s%B64+e/\a*2^s%B64=a%2^(64-s)*2^s/\a*2^s%B64+e<B64:=by
 have hp:0<2^s:=Nat.pow_pos (by omega);obtain⟨e1,e2⟩:=aU5 hs;have h1:a*2^s%B64=a%2^(64-s)*2^s:=by rw[<- e1,Nat.mul_mod_mul_right]
 have h2:a%2^(64-s)<2^(64-s):=Nat.mod_lt _ (Nat.pow_pos (by omega));have h3:a%2^(64-s)*2^s+2^s<=B64:=by
  have:(a%2^(64-s)+1)*2^s<=2^(64-s)*2^s:=Nat.mul_le_mul_right _ h2;rw[Nat.add_mul,Nat.one_mul,e1]at this;exact this
 refine⟨?_,h1,by rw[h1];omega⟩;have h4:=Nat.div_add_mod (a*2^s) B64
 conv=>lhs;rw[<- h4,Nat.add_assoc,Nat.mul_add_mod]
 rw[Nat.mod_eq_of_lt (by rw[h1];omega)]
theorem dE8{X s:Nat}(hs:s<64)(i:Nat):X*2^s/B64^(i+1)%B64=X/B64^(i+1)%B64*2^s%B64+X/B64^i%B64/2^(64-s)/\X/B64^i%B64/2^(64-s)<2^s:=by
 obtain⟨e1,e2⟩:=aU5 hs;have hlt:X/B64^i%B64/2^(64-s)<2^s:=by
  rw[Nat.div_lt_iff_lt_mul (Nat.pow_pos (by omega)),e2];exact Nat.mod_lt _ aA6
 refine⟨?_,hlt⟩;rw[cU4 hs,(bG8 hs hlt).1,bG7]
theorem cH1{X s:Nat}(hs:s<64)(i:Nat):X/2^s/B64^i%B64=X/B64^(i+1)%B64*2^(64-s)%B64+X/B64^i%B64/2^s/\(0<s->X/B64^i%B64/2^s<2^(64-s)):=by
 have hp:0<2^s:=Nat.pow_pos (by omega);obtain⟨e1,e2⟩:=aU5 hs;have hlt:X/B64^i%B64/2^s<2^(64-s):=by
  rw[Nat.div_lt_iff_lt_mul hp,e1];exact Nat.mod_lt _ aA6
 refine⟨?_,fun _=>hlt⟩;rw[Nat.div_div_eq_div_mul,Nat.mul_comm,<- Nat.div_div_eq_div_mul,Nat.pow_succ,<- Nat.div_div_eq_div_mul];have h:=Nat.div_add_mod (X/B64^i) B64;generalize X/B64^i=Y at *;have h3:Y/2^s=Y/B64*2^(64-s)+Y%B64/2^s:=by
  conv=>lhs;rw[<- h,<- e2,Nat.mul_assoc,Nat.mul_add_div hp]
  rw[Nat.mul_comm (2^(64-s)),e2]
 rw[h3];by_cases h0:s=0
 ·subst h0;simp only[Nat.pow_zero,Nat.div_one,Nat.sub_zero];have e64:(2:Nat)^64=B64:=rfl;rw[e64,Nat.mul_mod_left,Nat.zero_add,Nat.add_comm,Nat.add_mul_mod_self_right,Nat.mod_mod]
 ·have hs2:64-s<64:=by omega
  rw[(bG8 hs2 hlt).1,bG7]
theorem dE9(B d m x1 x0:Nat)(hB:0<B)(hd2:B<=2*d)(hd:d<B)(hm:(B*B-1)/d=B+m)(h1:x1<d)(h0:x0<B):
  ((m*x1+x0)/B+x1)*d<=x1*B+x0/\x1*B+x0<((m*x1+x0)/B+x1)*d+B+d/\(m*x1+x0)/B+x1<B:=by
 have hd0:0<d:=by omega
 have e1:(m*x1+x0)/B+x1=((B+m)*x1+x0)/B:=by
  rw[Nat.add_mul,Nat.add_assoc,Nat.mul_comm B x1,Nat.add_comm (x1*B),Nat.add_mul_div_right _ _ hB]
 rw[e1];have hV:=Nat.div_add_mod (B*B-1) d;have hVm:=Nat.mod_lt (B*B-1) hd0;rw[hm]at hV;generalize hVV:B+m=V at *;have hVB:B<=V:=by omega
 have hT:=Nat.div_add_mod (V*x1+x0) B;have hTm:=Nat.mod_lt (V*x1+x0) hB;generalize(V*x1+x0)/B=q at *;generalize(V*x1+x0)%B=tr at *;generalize(B*B-1)%d=vr at *;have hBB:1<=B*B:=Nat.mul_pos hB hB;have hVd:d*V+vr+1=B*B:=by omega
 -- T*d
 have hTd:(B*q+tr)*d=(V*x1+x0)*d:=by rw[hT]
 have f1:(B*q+tr)*d=B*(q*d)+tr*d:=by rw[Nat.add_mul,Nat.mul_assoc]
 have f2:(V*x1+x0)*d=(d*V)*x1+x0*d:=by rw[Nat.add_mul,Nat.mul_comm (V*x1) d,Nat.mul_assoc]
 have f3:(d*V)*x1+vr*x1+x1=B*(x1*B):=by
  have:(d*V+vr+1)*x1=B*B*x1:=by rw[hVd]
  rw[Nat.add_mul,Nat.add_mul,Nat.one_mul]at this;rw[this,Nat.mul_assoc,Nat.mul_comm B x1]
 have f4:x0*d<=x0*B:=Nat.mul_le_mul_left x0 (by omega);have f5:B*(x1*B+x0)=B*(x1*B)+x0*B:=by rw[Nat.mul_add,Nat.mul_comm B x0]
 have f6:vr*x1+x1<=d*x1:=by
  have:(vr+1)*x1<=d*x1:=Nat.mul_le_mul_right x1 (by omega);rwa[Nat.add_mul,Nat.one_mul]at this
 refine⟨?_,?_,?_⟩
 ·refine Nat.le_of_mul_le_mul_left ?_ hB;show B*(q*d)<=B*(x1*B+x0);omega
 ·refine Nat.lt_of_mul_lt_mul_left (a:=B) ?_;show B*(x1*B+x0)<B*(q*d+B+d);have g1:B*(q*d+B+d)=B*(q*d)+B*B+B*d:=by rw[Nat.mul_add,Nat.mul_add]
  have g2:tr*d+d<=B*d:=by
   have:(tr+1)*d<=B*d:=Nat.mul_le_mul_right d (by omega);rwa[Nat.add_mul,Nat.one_mul]at this
  have g3:d*x1+d<=d*d:=by
   have:d*(x1+1)<=d*d:=Nat.mul_le_mul_left d (by omega);rwa[Nat.mul_add,Nat.mul_one]at this
  have g4:x0*B+d*d<=x0*d+B*B:=by
   obtain⟨k,hk⟩:∃ k,B=d+k:=⟨B-d,by omega⟩;have a1:x0*k<=B*k:=Nat.mul_le_mul_right k (by omega);have a2:x0*B=x0*d+x0*k:=by rw[hk,Nat.mul_add]
   have a3:B*B=B*d+B*k:=by rw[<- Nat.mul_add,<- hk]
   have a4:d*d<=B*d:=Nat.mul_le_mul_right d (by omega);omega
  omega
 ·have g1:V*x1+V<=V*d:=by
   have:V*(x1+1)<=V*d:=Nat.mul_le_mul_left V (by omega);rwa[Nat.mul_add,Nat.mul_one]at this
  have g2:V*d=d*V:=Nat.mul_comm _ _;have g3:B*q<B*B:=by omega
  exact Nat.lt_of_mul_lt_mul_left g3
theorem cU5{B d q N:Nat}(hd2:B<=2*d)(hd:d<B)(h1:q*d<=N)(h2:N<q*d+B+d):
  (N-q*d<d->q=N/d/\N-q*d=N%d)/\(d<=N-q*d->N-q*d<2*d->q+1=N/d/\N-q*d-d=N%d)/\(2*d<=N-q*d->q+2=N/d/\N-q*d-d-d=N%d):=by
 have hd0:0<d:=by omega
 have key:∀(k r:Nat),N=d*(q+k)+r->r<d->q+k=N/d/\r=N%d:=by
  intro k r e hr;rw[e,Nat.mul_add_div hd0,Nat.div_eq_of_lt hr,Nat.mul_add_mod,Nat.mod_eq_of_lt hr];exact⟨rfl,rfl⟩
 have e0:d*q=q*d:=Nat.mul_comm _ _;refine⟨fun h=>?_,fun h h'=>?_,fun h=>?_⟩
 ·have:=key 0 (N-q*d) (by rw[Nat.add_zero,e0];omega) h;rwa[Nat.add_zero]at this
 ·exact key 1 (N-q*d-d) (by rw[Nat.mul_add,e0,Nat.mul_one];omega) (by omega)
 ·exact key 2 (N-q*d-d-d) (by rw[Nat.mul_add,e0];omega) (by omega)
def T19:Nat:=10000000000000000000
def M19:Nat:=15581492618384294730
theorem m19:(B64*B64-1)/T19=B64+M19:=by decide +kernel
structure WW (x1 x0 q r1 r0:Nat):Prop where
 lo:q*T19<=x1*B64+x0
 hi:x1*B64+x0<q*T19+B64+T19
 r:r0+B64*r1=x1*B64+x0-q*T19
 q:q<B64
 r0:r0<B64
def dvL(T:Nat):List Nat->List Nat
 | []=>[]
 | x::l=>((val l%T)*B64+x)/T::dvL T l
theorem cA5(T:Nat)(l:List Nat):(dvL T l).length=l.length:=by
 induction l with
 | nil=>rfl
 | cons x l ih=>simp[dvL,ih]
theorem dP9(T x:Nat)(l:List Nat):((val l%T)*B64+x)%T=val (x::l)%T:=by
 rw[aG8,Nat.add_mod,Nat.mul_mod,Nat.mod_mod,<- Nat.mul_mod,<- Nat.add_mod,Nat.mul_comm,Nat.add_comm]
theorem dQ0{T:Nat}(hT:0<T)(l:List Nat):val (dvL T l)=val l/T:=by
 induction l with
 | nil=>simp[dvL,val]
 | cons x l ih =>
  have h:=Nat.div_add_mod (val l) T;simp only[dvL,aG8,ih];generalize val l/T=q at *;generalize val l%T=r at *;have e:x+B64*val l=T*(B64*q)+(r*B64+x):=by
   have e1:B64*(T*q+r)=T*(B64*q)+r*B64:=by
    rw[Nat.mul_add,<- Nat.mul_assoc,Nat.mul_comm B64 T,Nat.mul_assoc,Nat.mul_comm B64 r]
   rw[h]at e1;omega
  rw[e,Nat.mul_add_div hT,Nat.add_comm]
theorem dX2{T:Nat}(hT:0<T)(l:List Nat)(hl:∀ x∈l,x<B64):∀ x∈dvL T l,x<B64:=by
 induction l with
 | nil=>simp[dvL]
 | cons x l ih =>
  intro z hz;rcases List.mem_cons.1 hz with h|h
  ·subst h;rw[Nat.div_lt_iff_lt_mul hT];have h1:=Nat.mod_lt (val l) hT;have h2:(val l%T+1)*B64<=T*B64:=Nat.mul_le_mul_right _ (by omega);rw[Nat.add_mul,Nat.one_mul]at h2;have h3:=hl x (List.mem_cons_self ..);rw[Nat.mul_comm B64 T];omega
  ·exact ih (fun y hy=>hl y (List.mem_cons_of_mem _ hy)) z h
theorem bU2(cs:Array Value)(o i:Nat)(v:Value)(l:List Nat)(h:o<i):putC (cs.setIfInBounds o v) i l=(putC cs i l).setIfInBounds o v:=by
 induction l generalizing cs i with
 | nil=>rfl
 | cons x l ih =>
  simp only[putC];rw[<- ih _ (i+1) (by omega),Array.setIfInBounds_comm _ _ (by omega)]
theorem bU3{w:World}{b:Nat}{cs:Array Value}{T:TypeId}(h:w.heap[b]? = some (.cells cs T (0,0)))(o x:Nat)(l:List Nat):(aB2 w b (o+1) l).setCell ⟨b,o,none⟩ (.int .u64 (x:Int))=aB2 w b o (x::l):=by
 rw[aB2,aW1 (aA3 h o (.int .u64 (x:Int))),setCell_eq_setRow (aB2 w b (o+1) l) b o _ T (0,0) _ (aB9 h _ _),aW1 h,setRow_setRow,setCell_eq_setRow w b o cs T (0,0) _ h,setRow_setRow,bU2 _ _ _ _ _ (by omega)]
end Go.Proofs.YtjebnpkebccffaaGreatDoor
