import Derived.Test.YtjebnpkebccffaaGreatDoorZLsv
set_option linter.unusedSimpArgs false
set_option linter.unusedVariables false
set_option linter.unusedSectionVars false
set_option maxRecDepth 100000
set_option maxHeartbeats 8000000
namespace Go.Proofs.YtjebnpkebccffaaGreatDoor
open Go.RowKit Go.Proofs.Tryz
theorem bC7(t ty:TypeId)(ht:prog.underlying t=some (.slice 165))(w:World)(base:Option Addr)(sLen sCap m:Nat)(olds:List Value)(hold:(Builtin.firstCells 1 sLen (.slice base sLen sCap)).run prog w.drew=.ok olds.toArray w.drew)(hg:sCap<sLen+m)(hm:sLen+m<=1000000)(hm0:m≠0):
  ∃ zs:Array Value,zs.size=m/\(Builtin.append_ #[t,3] ty #[.slice base sLen sCap,.int .i64 (m:Int)]).run prog w =
   .ok (.slice (some ⟨w.heap.size,0,none⟩) (sLen+m) (grownCap w (sLen+m) sCap 165))
    (w.drew.alloc (.cells (olds.toArray++zs++Builtin.zeroCells #[.int .u64 0] (grownCap w (sLen+m) sCap 165-(sLen+m))) 165)):=by
 obtain⟨i0,hi,hz0,hz1,hz2⟩:=info_parts Tryz.info165;have hn:¬ (sLen+m<=sCap):=by omega
 have h63':¬ (9223372036854775807<((sLen:Int)+(m:Int))):=by omega
 have hfit:=growslice_fits (bytes:=i0.bytes) hg (by rw[hz2];omega);have h48':¬ (281474976710656<Builtin.nextslicecap (sLen+m) sCap*i0.bytes):=by omega
 have hw:IntKind.i64.wrap (m:Int)=(m:Int):=by rw[IntKind.wrap_i64];omega
 have hl:¬ ((m:Int)<0):=by omega
 have hb:¬ ((281474976710656:Int)<(m:Int)*(i0.bytes:Int)):=by rw[hz2];omega
 refine⟨Builtin.zeroCells #[.int .u64 0] m,by simp[Builtin.zeroCells],?_⟩;have hle:¬ ((m:Int)<=0):=by omega
 simp[Builtin.append_,run_underlying ht,run_underlying underlying3,sizeOf,typeInfo,zeroValue,hi,hz0,hz1,hw,hl,hb,hn,h63',h48',Question.forced,hold,newRow,grownCap,asInt,asIntOf,hm0,hle];rfl
def cV0(w:World)(base:Option Addr)(len cap n:Nat)(e:Ending)(w':World):Prop :=
 ∃ base' cap',e=.returned (.slice base' len cap')/\len+n<=cap'/\cap'<=maxLen /\
  ((base'=base/\cap'=cap/\w'=w)\/∃ cs:Array Value,base'=some ⟨w.heap.size,0,none⟩/\w'.heap[w.heap.size]? = some (.cells cs 165 (0,0))/\cs.size=cap'/\Kept (fun _=>False) w w')
def cI0(w:World)(base:Option Addr)(cap:Nat):Prop:=(base=none/\cap=0)\/∃ r cs,base=some ⟨r,0,none⟩/\w.heap[r]? = some (.cells cs 165 (0,0))/\cs.size=cap
theorem bK8{w:World}{base:Option Addr}{cap:Nat}(h:cI0 w base cap):∃ olds:List Value,olds.length=cap/\(Builtin.firstCells 1 cap (.slice base cap cap)).run prog w.drew=.ok olds.toArray w.drew:=by
 rcases h with⟨rfl,rfl⟩|⟨r,cs,rfl,h1,h2⟩
 ·exact⟨[],rfl,by kernel_rfl⟩
 ·refine⟨cs.toList,by simp[h2],?_⟩;have h3:w.drew.heap[r]? = some (.cells cs 165 (0,0)):=h1;exact run_firstCells_some (P:=prog) w.drew 1 cap ⟨r,0,none⟩ cap cap cs.toList (by simp[h2]) (fun j u hj=>by
   rw[Addr.add_lit,aA2 h3]
   simpa using hj)
theorem aV4(T:TypeId){w w':World}{ops:Array Oper}{rest:List Oper}{o:Oper}{a:Act}{Q:Exit->Act->World->Prop}(hg:o.guard=none)(s x:Operand)(hop:o.op=Op.call { callee:=Callee.builtin Builtin.append,args:=#[s,x],argTypes:=#[T,3] })(u t v:Value)(hs:a.eval s=u)(hx:a.eval x=t)(hrun:∀ ty,(Builtin.append_ #[T,3] ty #[u,t]).run prog w=.ok v w')(hK:wpList prog ops Q rest (a.put o.dst v) w'):wpList prog ops Q (o::rest) a w:=by
 refine wpList_plain hg fun K hK'=>?_
 unfold Oper.wp;simp[execOp,hop,resolve,invoke,builtin,hs,hx,hrun,Result.andThen];exact hK' _ _ hK
theorem cV1(n:Nat):(Builtin.zeroCells #[Value.int .u64 0] n).size=n:=by simp[Builtin.zeroCells]
theorem cM9(base:Option Addr)(len cap n:Nat)(w:World)(h:cI0 w base cap)(h1:len<=cap)(h2:n<=1000)(h3:cap<=maxLen)(h4:len<=1000):Calls prog 232 #[.slice base len cap,.int .i64 (n:Int)] w (cV0 w base len cap n):=by
 by_cases hr:len+n<=cap
 ·have h3':cap<=9223372036854775807:=by simp only[maxLen]at h3;omega
  have q1:decide ((n:Int)<0)=false:=decF (by omega);have q2:IntKind.i64.wrap ((cap:Int)-(len:Int))=((cap-len:Nat):Int):=by rw[IntKind.wrap_i64];omega
  obtain⟨z,hz⟩:∃ z:Int,z=(n:Int)-((cap-len:Nat):Int):=⟨_,rfl⟩;have q3:IntKind.i64.wrap ((n:Int)-((cap-len:Nat):Int))=z:=by rw[IntKind.wrap_i64];omega
  have q4:decide (0<z)=false:=decF (by omega);have HF:Hid (len+n<=cap/\cap<=maxLen):=⟨hr,h3⟩;clear hz h hr h3 h3';go_enter func232,ntmps232;go_wp2_with fail;go_ret;exact⟨base,cap,rfl,HF.out.1,HF.out.2,Or.inl ⟨rfl,rfl,rfl⟩⟩
 ·clear h3;obtain⟨olds,ho1,ho2⟩:=bK8 h;obtain⟨m,hm⟩:∃ m,m=n-(cap-len):=⟨_,rfl⟩;obtain⟨zs,hz1,hz2⟩:=bC7 106 0 underlying106 w base cap cap m olds ho2 (by omega) (by omega) (by omega);have hap:∀ ty,(Builtin.append_ #[106,3] ty #[.slice base cap cap,.int .i64 (m:Int)]).run prog w=.ok (.slice (some ⟨w.heap.size,0,none⟩) (cap+m) (grownCap w (cap+m) cap 165))
    (w.drew.alloc (.cells (olds.toArray++zs++Builtin.zeroCells #[.int .u64 0] (grownCap w (cap+m) cap 165-(cap+m))) 165)):=fun ty=>hz2
  have hge:=grownCap_ge w (cap+m) cap 165;have hle:=grownCap_le_maxLen w (cap+m) cap 165 (by simp only[maxLen];omega);generalize grownCap w (cap+m) cap 165=C at *;have hsz:(olds.toArray++zs++Builtin.zeroCells #[.int .u64 0] (C-(cap+m))).size=C:=by
   rw[Array.size_append,Array.size_append,cV1,hz1];simp[ho1];omega
  generalize olds.toArray++zs++Builtin.zeroCells #[.int .u64 0] (C-(cap+m))=cs at *;have hb:=aA0 w.drew (.cells cs 165);have hk:Kept (fun _=>False) w (w.drew.alloc (.cells cs 165)):=(Kept.refl _ _).drew.alloc _;have HAP:=hiD hap;clear hap;have HF:=hiD (show w.drew.heap.size=w.heap.size from rfl);have HB:=hiD hb;have HK:=hiD hk;have HN:=hiD (show len+n<=C/\C<=maxLen/\cs.size=C from⟨by omega,hle,hsz⟩);generalize w.drew.alloc (.cells cs 165)=w2 at *;have q1:decide ((n:Int)<0)=false:=decF (by omega);have q2:IntKind.i64.wrap ((cap:Int)-(len:Int))=((cap-len:Nat):Int):=by rw[IntKind.wrap_i64];omega
  have q3:IntKind.i64.wrap ((n:Int)-((cap-len:Nat):Int))=(m:Int):=by rw[IntKind.wrap_i64];omega
  have q4:decide (0<m)=true:=decT (by omega);have q5:len<=C:=by omega
  have q6:0<m:=by omega
  have q7:cap<=cap:=Nat.le_refl _;clear hm h hr ho1 ho2 hz1 hz2 hge hle hsz hb hk;go_enter func232,ntmps232;go_wp2_with (at_builtin;refine aV4 106 rfl _ _ rfl (.slice base cap cap) (.int .i64 (m:Int)) _ rfl rfl HAP.out ?_)
  go_ret;exact⟨_,C,rfl,HN.out.1,HN.out.2.1,Or.inr ⟨cs,rfl,HB.out,HN.out.2.2,HK.out⟩⟩
theorem dF6(base:Option Addr)(len cap n:Nat)(w:World)(h:cI0 w base cap)(h1:len<=cap)(h2:n<=1000)(h3:cap<=maxLen)(h4:len<=1000):Calls prog 206 #[.slice base len cap,.int .i64 (n:Int)] w (cV0 w base len cap n):=by
 by_cases hr:len+n<=cap
 ·have h3':cap<=9223372036854775807:=by simp only[maxLen]at h3;omega
  have q1:decide ((n:Int)<0)=false:=decF (by omega);have q2:IntKind.i64.wrap ((cap:Int)-(len:Int))=((cap-len:Nat):Int):=by rw[IntKind.wrap_i64];omega
  obtain⟨z,hz⟩:∃ z:Int,z=(n:Int)-((cap-len:Nat):Int):=⟨_,rfl⟩;have q3:IntKind.i64.wrap ((n:Int)-((cap-len:Nat):Int))=z:=by rw[IntKind.wrap_i64];omega
  have q4:decide (0<z)=false:=decF (by omega);have HF:Hid (len+n<=cap/\cap<=maxLen):=⟨hr,h3⟩;clear hz h hr h3 h3';go_enter func206,ntmps206;go_wp2_with fail;go_ret;exact⟨base,cap,rfl,HF.out.1,HF.out.2,Or.inl ⟨rfl,rfl,rfl⟩⟩
 ·clear h3;obtain⟨olds,ho1,ho2⟩:=bK8 h;obtain⟨m,hm⟩:∃ m,m=n-(cap-len):=⟨_,rfl⟩;obtain⟨zs,hz1,hz2⟩:=bC7 107 0 underlying107 w base cap cap m olds ho2 (by omega) (by omega) (by omega);have hap:∀ ty,(Builtin.append_ #[107,3] ty #[.slice base cap cap,.int .i64 (m:Int)]).run prog w=.ok (.slice (some ⟨w.heap.size,0,none⟩) (cap+m) (grownCap w (cap+m) cap 165))
    (w.drew.alloc (.cells (olds.toArray++zs++Builtin.zeroCells #[.int .u64 0] (grownCap w (cap+m) cap 165-(cap+m))) 165)):=fun ty=>hz2
  have hge:=grownCap_ge w (cap+m) cap 165;have hle:=grownCap_le_maxLen w (cap+m) cap 165 (by simp only[maxLen];omega);generalize grownCap w (cap+m) cap 165=C at *;have hsz:(olds.toArray++zs++Builtin.zeroCells #[.int .u64 0] (C-(cap+m))).size=C:=by
   rw[Array.size_append,Array.size_append,cV1,hz1];simp[ho1];omega
  generalize olds.toArray++zs++Builtin.zeroCells #[.int .u64 0] (C-(cap+m))=cs at *;have hb:=aA0 w.drew (.cells cs 165);have hk:Kept (fun _=>False) w (w.drew.alloc (.cells cs 165)):=(Kept.refl _ _).drew.alloc _;have HAP:=hiD hap;clear hap;have HF:=hiD (show w.drew.heap.size=w.heap.size from rfl);have HB:=hiD hb;have HK:=hiD hk;have HN:=hiD (show len+n<=C/\C<=maxLen/\cs.size=C from⟨by omega,hle,hsz⟩);generalize w.drew.alloc (.cells cs 165)=w2 at *;have q1:decide ((n:Int)<0)=false:=decF (by omega);have q2:IntKind.i64.wrap ((cap:Int)-(len:Int))=((cap-len:Nat):Int):=by rw[IntKind.wrap_i64];omega
  have q3:IntKind.i64.wrap ((n:Int)-((cap-len:Nat):Int))=(m:Int):=by rw[IntKind.wrap_i64];omega
  have q4:decide (0<m)=true:=decT (by omega);have q5:len<=C:=by omega
  have q6:0<m:=by omega
  have q7:cap<=cap:=Nat.le_refl _;clear hm h hr ho1 ho2 hz1 hz2 hge hle hsz hb hk;go_enter func206,ntmps206;go_wp2_with (at_builtin;refine aV4 107 rfl _ _ rfl (.slice base cap cap) (.int .i64 (m:Int)) _ rfl rfl HAP.out ?_)
  go_ret;exact⟨_,C,rfl,HN.out.1,HN.out.2.1,Or.inr ⟨cs,rfl,HB.out,HN.out.2.2,HK.out⟩⟩
def InAt(w:World)(q:Nat)(b:Option Addr)(len cap:Nat):Prop:=w.heap[q]? = some (.cells #[.slice b len cap] 313 (0,0))/\cI0 w b cap/\len<=cap/\cap<=maxLen/\(∀ r,b=some ⟨r,0,none⟩->r≠q)
theorem dX5:∀ n:Fin 64,bits BinOp.andNot IntKind.i64 (((n.val:Nat):Int)+3) 3=(((n.val+3)/4*4:Nat):Int):=by decide +kernel
theorem dR1(n:Nat)(h:n<64):bits BinOp.andNot IntKind.i64 ((n:Int)+3) 3=(((n+3)/4*4:Nat):Int):=dX5 ⟨n,h⟩
def rnd4(n:Nat):Nat:=(n+3)/4*4
def bO2(w:World)(q n len:Nat)(b:Option Addr)(e:Ending)(w':World):Prop :=
 ∃ r cap' cs,e=.returned (.slice (some ⟨r,len,none⟩) n n)/\InAt w' q (some ⟨r,0,none⟩) (len+rnd4 n) cap'/\w'.heap[r]? = some (.cells cs 165 (0,0))/\cs.size=cap' /\
  ((b≠some ⟨r,0,none⟩/\w.heap.size<=r/\Kept (fun i=>i=q) w w')\/(b=some ⟨r,0,none⟩/\Kept (fun i=>i=q\/i=r) w w'/\∀ cs0,w.heap[r]? = some (.cells cs0 165 (0,0))->cs=cs0.setIfInBounds len (.int .u64 1043915)))
theorem cV2{w w1:World}{q n len cap cap' r:Nat}{b:Option Addr}{cs0:Array Value}{s1:Value}(hA:InAt w q b len cap)(hrel:(r=w.heap.size/\Kept (fun _=>False) w w1)\/(b=some ⟨r,0,none⟩/\w1=w))(hr:w1.heap[r]? = some (.cells cs0 165 (0,0)))(hs:cs0.size=cap')(h1:len+rnd4 n<=cap')(h2:cap'<=maxLen):
  bO2 w q n len b (.returned (.slice (some ⟨r,len,none⟩) n n)) (((w1.setCell ⟨q,0,none⟩ s1).setCell ⟨q,0,none⟩ (.slice (some ⟨r,0,none⟩) (len+rnd4 n) cap')).setCell ⟨r,len,none⟩ (.int .u64 1043915)):=by
 obtain⟨a1,a2,a3,a4,a5⟩:=hA;have hql:q<w.heap.size:=by
  rcases Nat.lt_or_ge q w.heap.size with h|h
  ·exact h
  ·rw[Array.getElem?_eq_none h]at a1;cases a1
 have hqr:r≠q:=by
  rcases hrel with⟨rfl,_⟩|⟨h,_⟩
  ·omega
  ·exact a5 r h
 have hq1:w1.heap[q]? = some (.cells #[.slice b len cap] 313 (0,0)):=by
  rcases hrel with⟨_,hk⟩|⟨_,rfl⟩
  ·exact hk.at a1 (fun f=>f)
  ·exact a1
 have hq2:=aA3 (aA3 hq1 0 s1) 0 (.slice (some ⟨r,0,none⟩) (len+rnd4 n) cap');have hq3:(((w1.setCell ⟨q,0,none⟩ s1).setCell ⟨q,0,none⟩ (.slice (some ⟨r,0,none⟩) (len+rnd4 n) cap')).setCell ⟨r,len,none⟩ (.int .u64 1043915)).heap[q]? = some (.cells #[.slice (some ⟨r,0,none⟩) (len+rnd4 n) cap'] 313 (0,0)):=by
  rw[heap_setCell_other _ _ _ _ (fun e=>hqr e.symm),hq2];rfl
 have hr2:((w1.setCell ⟨q,0,none⟩ s1).setCell ⟨q,0,none⟩ (.slice (some ⟨r,0,none⟩) (len+rnd4 n) cap')).heap[r]? = some (.cells cs0 165 (0,0)):=by
  rw[heap_setCell_other _ _ _ _ hqr,heap_setCell_other _ _ _ _ hqr,hr]
 have hr3:=aA3 hr2 len (.int .u64 1043915);refine⟨r,cap',_,rfl,⟨hq3,Or.inr ⟨r,_,rfl,hr3,by rw[Array.size_setIfInBounds];exact hs⟩,h1,h2,fun r' e=>by injection e with e;injection e with e1;rw[<- e1];exact hqr⟩,hr3,by rw[Array.size_setIfInBounds];exact hs,?_⟩;rcases hrel with⟨rfl,hk⟩|⟨hb,rfl⟩
 ·refine Or.inl ⟨?_,Nat.le_refl _,?_⟩
  ·intro hb;rcases a2 with⟨h,_⟩|⟨r',cs',h,h',_⟩
   ·rw[h]at hb;cases hb
   ·rw[h]at hb;injection hb with hb;injection hb with hb;rw[hb,Array.getElem?_eq_none (Nat.le_refl _)]at h';cases h'
  ·exact(((hk.mono (U:=fun i=>i=q) (fun _ _ f=>f.elim)).setCell _ _ (fun _=>rfl)).setCell _ _ (fun _=>rfl)).setCell ⟨w.heap.size,len,none⟩ _ (fun(h:w.heap.size<w.heap.size)=>absurd h (Nat.lt_irrefl _))
 ·refine Or.inr ⟨hb,(((Kept.refl _ _).setCell _ _ (fun _=>Or.inl rfl)).setCell _ _ (fun _=>Or.inl rfl)).setCell _ _ (fun _=>Or.inr rfl),fun cs1 h=>?_⟩;rw[hr]at h;injection h with h;injection h with h;rw[h]
theorem bV1(q n len cap:Nat)(b:Option Addr)(w:World)(h:InAt w q b len cap)(hn:1<=n/\n<50)(hl:len<=900):Calls prog 207 #[.pointer (some ⟨q,0,none⟩),.int .i64 (n:Int)] w (bO2 w q n len b):=by
 obtain⟨h1,h2,h3,h4,h5⟩:=h;have hr:rnd4 n=(n+3)/4*4:=rfl;have hr2:n<=rnd4 n/\rnd4 n<=n+3:=by rw[hr];omega
 have q1:IntKind.i64.wrap ((n:Int)+3)=(n:Int)+3:=by rw[IntKind.wrap_i64];omega
 have q2:bits BinOp.andNot IntKind.i64 ((n:Int)+3) 3=(rnd4 n:Int):=dR1 n (by omega);have HG:=hiD (cM9 b len cap (rnd4 n) w h2 h3 (by omega) h4 (by omega));have HA:Hid (InAt w q b len cap):=⟨h1,h2,h3,h4,h5⟩;have c0:w.cell? ⟨q,0,none⟩=some (.slice b len cap):=by rw[aA2 h1];rfl
 obtain⟨nr,hnr⟩:∃ nr,rnd4 n=nr:=⟨_,rfl⟩;have HNR:=hiD hnr;rw[hnr]at q2 hr2 HG;clear h1 h2 h3 h4 h5 hr hnr;go_enter func207,ntmps207;go_wp2_with fail;refine HG.out.mono ?_;rintro e w1 ⟨base',cap',rfl,g1,g2,g3⟩;obtain⟨r,cs0,rfl,hrel,hrb,hrs⟩:∃ r cs0,base'=some ⟨r,0,none⟩/\((r=w.heap.size/\Kept (fun _=>False) w w1)\/(b=some ⟨r,0,none⟩/\w1=w))/\w1.heap[r]? = some (.cells cs0 165 (0,0))/\cs0.size=cap':=by
  rcases g3 with⟨h1,h2,h3⟩|⟨cs,h1,h2,h3,h4⟩
  ·rcases HA.out.2.1 with⟨k1,k2⟩|⟨r,cs,k1,k2,k3⟩
   ·exfalso;omega
   ·exact⟨r,cs,by rw[h1,k1],Or.inr ⟨k1,h3⟩,by rw[h3];exact k2,by rw[h2];exact k3⟩
  ·exact⟨_,cs,h1,Or.inl ⟨rfl,h4⟩,h2,h3⟩
 clear g3;have hqr:r≠q:=by
  obtain⟨a1,-,-,-,a5⟩:=HA.out;have hql:q<w.heap.size:=by
   rcases Nat.lt_or_ge q w.heap.size with h|h
   ·exact h
   ·rw[Array.getElem?_eq_none h]at a1;cases a1
  rcases hrel with⟨rfl,_⟩|⟨h,_⟩
  ·omega
  ·exact a5 r h
 have hq1:w1.heap[q]? = some (.cells #[.slice b len cap] 313 (0,0)):=by
  obtain⟨a1,-⟩:=HA.out;rcases hrel with⟨_,hk⟩|⟨_,rfl⟩
  ·exact hk.at a1 (fun f=>f)
  ·exact a1
 have hfin:=cV2 (n:=n) (s1:=.slice (some ⟨r,0,none⟩) len cap') HA.out hrel hrb hrs (by rw[HNR.out];exact g1) g2;rw[HNR.out]at hfin;have x0:w1.cell? ⟨q,0,none⟩=some (.slice b len cap):=by rw[aA2 hq1];rfl
 have f0:=aA1 hq1 0;have hq2:=aA3 hq1 0 (.slice (some ⟨r,0,none⟩) len cap');have x1:(w1.setCell ⟨q,0,none⟩ (.slice (some ⟨r,0,none⟩) len cap')).cell? ⟨q,0,none⟩=some (.slice (some ⟨r,0,none⟩) len cap'):=by rw[aA2 hq2];rfl
 have f1:=aA1 hq2 0;have hq3:=aA3 hq2 0 (.slice (some ⟨r,0,none⟩) (len+nr) cap');have x2:((w1.setCell ⟨q,0,none⟩ (.slice (some ⟨r,0,none⟩) len cap')).setCell ⟨q,0,none⟩ (.slice (some ⟨r,0,none⟩) (len+nr) cap')).cell? ⟨q,0,none⟩=some (.slice (some ⟨r,0,none⟩) (len+nr) cap'):=by rw[aA2 hq3];rfl
 have hr2:((w1.setCell ⟨q,0,none⟩ (.slice (some ⟨r,0,none⟩) len cap')).setCell ⟨q,0,none⟩ (.slice (some ⟨r,0,none⟩) (len+nr) cap')).heap[r]? = some (.cells cs0 165 (0,0)):=by
  rw[aA7 hqr,aA7 hqr,hrb]
 obtain⟨u,x3⟩:∃ u,((w1.setCell ⟨q,0,none⟩ (.slice (some ⟨r,0,none⟩) len cap')).setCell ⟨q,0,none⟩ (.slice (some ⟨r,0,none⟩) (len+nr) cap')).cell? ⟨r,len,none⟩=some u:=by
  rw[aA2 hr2];exact⟨_,Array.getElem?_eq_getElem (by omega)⟩
 have f3:=aA1 hr2 len;have p1:IntKind.i64.wrap ((len:Int)+(nr:Int))=((len+nr:Nat):Int):=by rw[IntKind.wrap_i64];omega
 have p2:IntKind.i64.wrap ((len:Int)+(n:Int))=((len+n:Nat):Int):=by rw[IntKind.wrap_i64];omega
 have p3:decide (0<n)=true:=decT (by omega);have p4:len<=len+n:=by omega
 have p5:len+n<=cap':=by omega
 have p6:0<n:=by omega
 have HFIN:=hiD hfin;generalize hW1:w1.setCell ⟨q,0,none⟩ (.slice (some ⟨r,0,none⟩) len cap')=W1 at *;generalize hW2:W1.setCell ⟨q,0,none⟩ (.slice (some ⟨r,0,none⟩) (len+nr) cap')=W2 at *;clear hfin hq1 hq2 hq3 hr2 hrel hrb hrs;go_wp2_with fail;go_ret;show bO2 w q n len b (.returned (.slice (some ⟨r,len,none⟩) (len+n-len) (len+n-len))) _;rw[show len+n-len=n by omega];exact HFIN.out
theorem aW7(a:Option Addr)(w:World):(binOp .eql 307 (.pointer a) (.pointer none)).run prog w=.ok (.bool (decide (a=none))) w:=by
 cases a<;>kernel_rfl
def StkAt(w:World)(p:Nat)(b:Option Addr)(len cap:Nat):Option Nat->Prop
 | none=>w.heap[p]? = some (.cells #[.pointer none] 309 (0,0))/\b=none/\len=0/\cap=0
 | some q=>w.heap[p]? = some (.cells #[.pointer (some ⟨q,0,none⟩)] 309 (0,0))/\InAt w q b len cap/\q≠p/\∀ r,b=some ⟨r,0,none⟩->r≠p
def bH5(w:World)(p n len:Nat)(b:Option Addr)(si:Option Nat)(e:Ending)(w':World):Prop :=
 ∃ r o c cs b' len' cap' si',e=.returned (.slice (some ⟨r,o,none⟩) n c)/\n<=c/\o+c<=cs.size/\cs.size<=maxLen/\w'.heap[r]? = some (.cells cs 165 (0,0))/\StkAt w' p b' len' cap' si'/\r≠p/\si'≠some r/\(len<=len'/\len'<=len+n+3) /\
  ((b'=some ⟨r,0,none⟩->o+n<=len')/\∀ r',b'=some ⟨r',0,none⟩->r'=r) /\
  ((∀ q,si'=some q->si=some q\/w.heap.size<=q)) /\
  ((b≠some ⟨r,0,none⟩/\w.heap.size<=r/\Kept (fun i=>i=p\/si=some i) w w')\/(b=some ⟨r,0,none⟩/\o=len/\Kept (fun i=>i=p\/si=some i\/i=r) w w'/\∀ cs0,w.heap[r]? = some (.cells cs0 165 (0,0))->cs=cs0.setIfInBounds len (.int .u64 1043915)))
theorem cN0(p q n len cap:Nat)(b:Option Addr)(w:World)(h:StkAt w p b len cap (some q))(hn:1<=n/\n<50)(hl:len<=900):Calls prog 177 #[.pointer (some ⟨p,0,none⟩),.int .i64 (n:Int)] w (bH5 w p n len b (some q)):=by
 obtain⟨h1,h2,h3,h4⟩:=h;have HI:=hiD (bV1 q n len cap b w h2 hn hl);have HA:Hid (w.heap[p]? = some (.cells #[.pointer (some ⟨q,0,none⟩)] 309 (0,0))/\InAt w q b len cap/\q≠p/\∀ r,b=some ⟨r,0,none⟩->r≠p):=⟨h1,h2,h3,h4⟩;have c0:w.cell? ⟨p,0,none⟩=some (.pointer (some ⟨q,0,none⟩)):=by rw[aA2 h1];rfl
 have d1:=fun w=>aW7 (some ⟨q,0,none⟩) w
 clear h1 h2 h3 h4;go_enter func177,ntmps177;go_wp2_with fail;refine HI.out.mono ?_;rintro e w1 ⟨r,cap',cs,rfl,hin,hr,hcs,hrel⟩;have HX:=hiD (And.intro hin (And.intro hr (And.intro hcs hrel)));clear hin hr hcs hrel;go_wp2_with fail;go_ret;obtain⟨hin,hr,hcs,hrel⟩:=HX.out;obtain⟨h1,h2,h3,h4⟩:=HA.out;have hpl:p<w.heap.size:=by
  rcases Nat.lt_or_ge p w.heap.size with h|h
  ·exact h
  ·rw[Array.getElem?_eq_none h]at h1;cases h1
 have hrn:rnd4 n=(n+3)/4*4:=rfl;have hin2:=hin;obtain⟨i1,i2,i3,i4,i5⟩:=hin2;have hrq:r≠q:=i5 r rfl;have hrp:r≠p:=by
  rcases hrel with⟨_,hk,_⟩|⟨hb,_⟩
  ·omega
  ·exact h4 r hb
 have hp':w1.heap[p]? = some (.cells #[.pointer (some ⟨q,0,none⟩)] 309 (0,0)):=by
  rcases hrel with⟨_,_,hk⟩|⟨_,hk,_⟩
  ·exact hk.at h1 (fun e=>h3 e.symm)
  ·exact hk.at h1 (fun e=>by rcases e with e|e;exact h3 e.symm;exact hrp e.symm)
 refine⟨r,len,n,cs,some ⟨r,0,none⟩,len+rnd4 n,cap',some q,rfl,Nat.le_refl _,by rw[hcs];omega,by rw[hcs];exact i4,hr,⟨hp',hin,h3,fun r' e=>by injection e with e;injection e with e;rw[<- e];exact hrp⟩,hrp,fun e=>hrq (by injection e with e;exact e.symm),by omega,⟨fun _=>by omega,fun r' e=>by injection e with e;injection e with e;exact e.symm⟩,fun q' e=>Or.inl e,?_⟩;rcases hrel with⟨k1,k2,k3⟩|⟨k1,k2,k3⟩
 ·exact Or.inl ⟨k1,k2,k3.mono (fun i _ e=>Or.inr (by rw[e]))⟩
 ·exact Or.inr ⟨k1,rfl,k2.mono (fun i _ e=>by rcases e with e|e;exact Or.inr (Or.inl (by rw[e]));exact Or.inr (Or.inr e)),k3⟩
theorem aC5{w:World}{p:Nat}{o:Obj}(h1:w.heap[p]? = some o):p<w.heap.size:=by
 rcases Nat.lt_or_ge p w.heap.size with h|h
 ·exact h
 ·rw[Array.getElem?_eq_none h]at h1;cases h1
theorem bO3(p n:Nat)(b:Option Addr)(len cap:Nat)(w:World)(h:StkAt w p b len cap none)(hn:1<=n/\n<=4):Calls prog 177 #[.pointer (some ⟨p,0,none⟩),.int .i64 (n:Int)] w (bH5 w p n len b none):=by
 obtain⟨h1,rfl,rfl,rfl⟩:=h;have HG:=hiD (dF6 none 0 0 n w (Or.inl ⟨rfl,rfl⟩) (Nat.le_refl _) (by omega) (by decide) (by omega));have HP:=hiD h1;have c0:w.cell? ⟨p,0,none⟩=some (.pointer none):=by rw[aA2 h1];rfl
 have d1:=fun w=>aW7 none w
 have q1:decide ((n:Int)<=4)=true:=decT (by omega);clear h1;go_enter func177,ntmps177;go_wp2_with fail;refine HG.out.mono ?_;rintro e w1 ⟨base',cap',rfl,g1,g2,g3⟩;have hpl:=aC5 HP.out;rcases g3 with⟨-,h2,-⟩|⟨cs,rfl,h2,h3,h4⟩
 ·exfalso;omega
 ·obtain⟨r,hr⟩:∃ r,r=w.heap.size:=⟨_,rfl⟩;rw[<- hr]at h2 ⊢;have f0:=aA1 h2 0;obtain⟨u,x0⟩:∃ u,w1.cell? ⟨r,0,none⟩=some u:=by
   rw[aA2 h2];exact⟨_,Array.getElem?_eq_getElem (by omega)⟩
  have hfb:=aA3 h2 0 (.int .u64 11259375);have hk:Kept (fun i=>i=p\/(none:Option Nat)=some i) w (w1.setCell ⟨r,0,none⟩ (.int .u64 11259375)):=(h4.mono (U:=fun i=>i=p\/(none:Option Nat)=some i) (fun _ _ f=>f.elim)).setCell _ _ (fun h=>absurd (show r<w.heap.size from h) (by omega));have hp2:(w1.setCell ⟨r,0,none⟩ (.int .u64 11259375)).heap[p]? = some (.cells #[.pointer none] 309 (0,0)):=by
   rw[aA7 (by omega)];exact h4.at HP.out (fun f=>f)
  have HR:Hid (bH5 w p n 0 none none (.returned (.slice (some ⟨r,0,none⟩) n cap')) (w1.setCell ⟨r,0,none⟩ (.int .u64 11259375))) :=
   ⟨r,0,cap',_,none,0,0,none,rfl,by omega,by rw[Array.size_setIfInBounds];omega,by rw[Array.size_setIfInBounds,h3];exact g2,hfb,⟨hp2,rfl,rfl,rfl⟩,by omega,by simp,by omega,⟨by simp,by simp⟩,by simp,Or.inl ⟨by simp,by omega,hk⟩⟩
  have p4:n<=cap':=by omega
  have p6:0<n:=by omega
  have p5:decide (0<n)=true:=decT p6;clear h2 h3 h4 hfb hk hp2 g1 g2 hr hpl;go_wp2_with fail;go_ret;exact HR.out
theorem cB2(p n:Nat)(b:Option Addr)(len cap:Nat)(w:World)(h:StkAt w p b len cap none)(hn:5<=n/\n<50):Calls prog 177 #[.pointer (some ⟨p,0,none⟩),.int .i64 (n:Int)] w (bH5 w p n len b none):=by
 obtain⟨h1,rfl,rfl,rfl⟩:=h;have hpl:=aC5 h1;obtain⟨q,hq⟩:∃ q,q=w.heap.size:=⟨_,rfl⟩;have a1:=aA0 w (.cells #[.slice none 0 0] 313);have k1:Kept (fun _=>False) w (w.alloc (.cells #[.slice none 0 0] 313)):=(Kept.refl _ _).alloc _;have a2:=k1.at h1 (fun f=>f);have a3:=aA3 a2 0 (.pointer (some ⟨q,0,none⟩));have a4:((w.alloc (.cells #[.slice none 0 0] 313)).setCell ⟨p,0,none⟩ (.pointer (some ⟨q,0,none⟩))).heap[q]? = some (.cells #[.slice none 0 0] 313 (0,0)):=by
  rw[aA7 (by omega),hq];exact a1
 have k2:Kept (fun i=>i=p) w ((w.alloc (.cells #[.slice none 0 0] 313)).setCell ⟨p,0,none⟩ (.pointer (some ⟨q,0,none⟩))):=(k1.mono (fun _ _ f=>f.elim)).setCell _ _ (fun _=>rfl);have hin:InAt ((w.alloc (.cells #[.slice none 0 0] 313)).setCell ⟨p,0,none⟩ (.pointer (some ⟨q,0,none⟩))) q none 0 0:=⟨a4,Or.inl ⟨rfl,rfl⟩,Nat.le_refl _,by decide,fun r e=>by cases e⟩;have HI:=hiD (bV1 q n 0 0 none _ hin (by omega) (by omega));have c0:w.cell? ⟨p,0,none⟩=some (.pointer none):=by rw[aA2 h1];rfl
 have c1:(w.alloc (.cells #[.slice none 0 0] 313)).cell? ⟨p,0,none⟩=some (.pointer none):=by rw[aA2 a2];rfl
 have f1:=aA1 a2 0;have d1:=fun w=>aW7 none w
 have q1:decide ((n:Int)<=4)=false:=decF (by omega);have HX:=hiD (And.intro hpl (And.intro hq (And.intro a3 k2)));rw[hq]at HI;generalize hW:(w.alloc (.cells #[.slice none 0 0] 313)).setCell ⟨p,0,none⟩ (.pointer (some ⟨w.heap.size,0,none⟩))=W at *;clear h1 hpl a1 k1 a2 a3 a4 k2 hin;go_enter func177,ntmps177;go_wp2_with fail;refine HI.out.mono ?_;rintro e w1 ⟨r,cap',cs,rfl,hin,hr,hcs,hrel⟩;have HY:=hiD (And.intro hin (And.intro hr (And.intro hcs hrel)));clear hin hr hcs hrel;go_wp2_with fail;go_ret;obtain⟨hin,hr,hcs,hrel⟩:=HY.out;obtain⟨hpl,hq,a3,k2⟩:=HX.out;have hW':=hW;rw[<- hq]at hW';rw[hW']at a3 k2;rw[<- hq]at hin hrel;rcases hrel with⟨k3,k4,k5⟩|⟨k3,_⟩
 ·have hWs:w.heap.size<=W.heap.size:=k2.size;have hrn:rnd4 n=(n+3)/4*4:=rfl;have hin2:=hin;obtain⟨i1,i2,i3,i4,i5⟩:=hin2;have hp':w1.heap[p]? = some (.cells #[.pointer (some ⟨q,0,none⟩)] 309 (0,0)):=by
   have:=k5.at a3 (by omega)
   simpa using this
  refine⟨r,0,n,cs,some ⟨r,0,none⟩,0+rnd4 n,cap',some q,rfl,Nat.le_refl _,by rw[hcs];omega,by rw[hcs];exact i4,hr,⟨hp',hin,by omega,fun r' e=>by injection e with e;injection e with e;omega⟩,by omega,fun e=>i5 r rfl (by injection e with e;exact e.symm),by omega,⟨fun _=>by omega,fun r' e=>by injection e with e;injection e with e;exact e.symm⟩,fun q' e=>Or.inr (by injection e with e;omega),Or.inl ⟨by simp,by omega,?_⟩⟩;exact k2.trans k5 (fun i _ e=>Or.inl e) (fun i hi e=>absurd hi (by omega))
 ·cases k3
theorem cB3(p n:Nat)(b:Option Addr)(len cap:Nat)(si:Option Nat)(w:World)(h:StkAt w p b len cap si)(hn:1<=n/\n<50)(hl:len<=900):Calls prog 177 #[.pointer (some ⟨p,0,none⟩),.int .i64 (n:Int)] w (bH5 w p n len b si):=by
 cases si with
 | none =>
  by_cases h4:n<=4
  ·exact bO3 p n b len cap w h ⟨hn.1,h4⟩
  ·exact cB2 p n b len cap w h ⟨by omega,hn.2⟩
 | some q=>exact cN0 p q n len cap b w h hn hl
theorem cN1(q:Nat)(b:Option Addr)(len cap:Nat)(w:World)(h:w.heap[q]? = some (.cells #[.slice b len cap] 313 (0,0))):Calls prog 205 #[.pointer (some ⟨q,0,none⟩)] w fun e w'=>e=.returned (.int .i64 (len:Int))/\w=w':=by
 have c0:w.cell? ⟨q,0,none⟩=some (.slice b len cap):=by rw[aA2 h];rfl
 clear h;go_enter func205,ntmps205;go_wp2_with fail;go_ret;exact⟨rfl,rfl⟩
theorem bO4(p:Nat)(b:Option Addr)(len cap:Nat)(si:Option Nat)(w:World)(h:StkAt w p b len cap si):Calls prog 176 #[.pointer (some ⟨p,0,none⟩)] w fun e w'=>e=.returned (.int .i64 (len:Int))/\w=w':=by
 cases si with
 | none =>
  obtain⟨h1,rfl,rfl,rfl⟩:=h;have c0:w.cell? ⟨p,0,none⟩=some (.pointer none):=by rw[aA2 h1];rfl
  have d1:=fun w=>aW7 none w
  clear h1;go_enter func176,ntmps176;go_wp2_with fail;go_ret;exact⟨rfl,rfl⟩
 | some q =>
  obtain⟨h1,⟨h2,-⟩,-⟩:=h;have c0:w.cell? ⟨p,0,none⟩=some (.pointer (some ⟨q,0,none⟩)):=by rw[aA2 h1];rfl
  have d1:=fun w=>aW7 (some ⟨q,0,none⟩) w
  have HS:=hiD (cN1 q b len cap w h2);clear h1 h2;go_enter func176,ntmps176;go_wp2_with fail;refine HS.out.mono ?_;rintro e w' ⟨rfl,rfl⟩;go_wp2_with fail;go_ret;exact⟨rfl,rfl⟩
theorem bO5(q:Nat)(b:Option Addr)(len cap m:Nat)(w:World)(h:w.heap[q]? = some (.cells #[.slice b len cap] 313 (0,0)))(hm:m<=cap):Calls prog 204 #[.pointer (some ⟨q,0,none⟩),.int .i64 (m:Int)] w fun e w'=>e=.returned (.tuple #[])/\w'=w.setCell ⟨q,0,none⟩ (.slice b m cap):=by
 have c0:w.cell? ⟨q,0,none⟩=some (.slice b len cap):=by rw[aA2 h];rfl
 have f0:=aA1 h 0;clear h;go_enter func204,ntmps204;go_wp2_with fail
 go_end0
 exact⟨rfl,by simp⟩
theorem cN2(q:Nat)(b:Option Addr)(len cap:Nat)(w:World)(h:w.heap[q]? = some (.cells #[.slice b len cap] 313 (0,0))):Calls prog 202 #[.pointer (some ⟨q,0,none⟩)] w fun e w'=>e=.returned (.tuple #[])/\w'=w.setCell ⟨q,0,none⟩ (.slice b 0 cap):=by
 have c0:w.cell? ⟨q,0,none⟩=some (.slice b len cap):=by rw[aA2 h];rfl
 have f0:=aA1 h 0;clear h;go_enter func202,ntmps202;go_wp2_with fail
 go_end0
 exact⟨rfl,by simp⟩
def StkM(w:World)(p m:Nat):Option Nat->Prop
 | none=>w.heap[p]? = some (.cells #[.pointer none] 309 (0,0))
 | some q=>w.heap[p]? = some (.cells #[.pointer (some ⟨q,0,none⟩)] 309 (0,0))/\q≠p/\∃ b len cap,w.heap[q]? = some (.cells #[.slice b len cap] 313 (0,0))/\m<=cap
theorem StkAt.m{w:World}{p m len cap:Nat}{b:Option Addr}{si:Option Nat}(h:StkAt w p b len cap si)(hm:m<=len):StkM w p m si:=by
 cases si with
 | none=>exact h.1
 | some q =>
  obtain⟨h1,⟨h2,h3,h4,h5,h6⟩,h7,h8⟩:=h;exact⟨h1,h7,b,len,cap,h2,by omega⟩
theorem StkM.kept{S:Nat->Prop}{w w':World}{p m:Nat}{si:Option Nat}(h:StkM w p m si)(hk:Kept S w w')(hp:¬ S p)(hq:∀ q,si=some q->¬ S q):StkM w' p m si:=by
 cases si with
 | none=>exact hk.at h hp
 | some q =>
  obtain⟨h1,h2,b,len,cap,h3,h4⟩:=h;exact⟨hk.at h1 hp,h2,b,len,cap,hk.at h3 (hq q rfl),h4⟩
theorem StkM.low{w:World}{p m k:Nat}{si:Option Nat}(h:StkM w p m si)(hk:k<=m):StkM w p k si:=by
 cases si with
 | none=>exact h
 | some q =>
  obtain⟨h1,h2,b,len,cap,h3,h4⟩:=h;exact⟨h1,h2,b,len,cap,h3,by omega⟩
theorem dL4{w:World}{p q len m cap:Nat}{b:Option Addr}(h1:w.heap[p]? = some (.cells #[.pointer (some ⟨q,0,none⟩)] 309 (0,0)))(h7:q≠p)(h2:w.heap[q]? = some (.cells #[.slice b len cap] 313 (0,0))):
  StkM (w.setCell ⟨q,0,none⟩ (.slice b m cap)) p 0 (some q)/\Kept (fun i=>(some q:Option Nat)=some i) w (w.setCell ⟨q,0,none⟩ (.slice b m cap)) :=
 ⟨⟨by rw[aA7 (fun e=>h7 e.symm)];exact h1,h7,b,m,cap,aA3 h2 0 _,Nat.zero_le _⟩,(Kept.refl _ _).setCell _ _ (fun _=>rfl)⟩
theorem aR2(p m:Nat)(si:Option Nat)(u:FrameMode)(w:World)(h:StkM w p m si):CallsD prog 175 #[.pointer (some ⟨p,0,none⟩),.int .i64 (m:Int)] u w fun e u' w'=>u'=u/\(e=.returned (.tuple #[])/\StkM w' p 0 si/\Kept (fun i=>si=some i) w w'):=by
 cases si with
 | none =>
  have HS:=hiD h;have c0:w.cell? ⟨p,0,none⟩=some (.pointer none):=by rw[aA2 h];rfl
  have d1:=fun w=>aW7 none w
  clear h
  go_enter_d func175,ntmps175
  go_wp2_with fail
  (try simp only[Exit.inBlock,Exit.then])
  refine bodyPost_ret (results_none rfl _ _ _) rfl ?_;exact⟨rfl,HS.out,Kept.refl _ _⟩
 | some q =>
  obtain⟨h1,h7,b,len,cap,h2,hm⟩:=h;have HS:=hiD (dL4 (m:=m) h1 h7 h2);have c0:w.cell? ⟨p,0,none⟩=some (.pointer (some ⟨q,0,none⟩)):=by rw[aA2 h1];rfl
  have d1:=fun w=>aW7 (some ⟨q,0,none⟩) w
  have HR:=hiD (bO5 q b len cap m w h2 hm);clear h1 h2 hm h7
  go_enter_d func175,ntmps175
  go_wp2_with fail;refine HR.out.mono ?_;rintro e w' ⟨rfl,rfl⟩;go_wp2_with fail
  go_end0
  exact⟨rfl,HS.out.1,HS.out.2⟩
theorem dR2(a:Option Addr)(w:World):(binOp .neq 307 (.pointer a) (.pointer none)).run prog w=.ok (.bool (!decide (a=none))) w:=by
 cases a<;>kernel_rfl
theorem cN3(p m:Nat)(si:Option Nat)(u:FrameMode)(w:World)(h:StkM w p m si):CallsD prog 170 #[.pointer (some ⟨p,0,none⟩)] u w fun e u' w'=>u'=u/\(e=.returned (.tuple #[])/\Kept (fun i=>si=some i) w w'):=by
 cases si with
 | none =>
  have c0:w.cell? ⟨p,0,none⟩=some (.pointer none):=by rw[aA2 h];rfl
  exact(aM8 p u w c0).mono (fun e u' w' h=>⟨h.1,h.2.1,by rw[h.2.2];exact Kept.refl _ _⟩)
 | some q =>
  obtain⟨h1,h7,b,len,cap,h2,hm⟩:=h;have HS:=hiD (dL4 (m:=0) h1 h7 h2).2;have c0:w.cell? ⟨p,0,none⟩=some (.pointer (some ⟨q,0,none⟩)):=by rw[aA2 h1];rfl
  have d1:=fun w=>dR2 (some ⟨q,0,none⟩) w
  have HR:=hiD (cN2 q b len cap w h2);clear h1 h2
  go_enter_d func170,ntmps170
  go_wp2_with fail;refine HR.out.mono ?_;rintro e w' ⟨rfl,rfl⟩;go_wp2_with fail
  go_end0
  exact⟨rfl,HS.out⟩
theorem aP3(x k:Nat):x/B64^k=x/B64^(k+1)*B64+x/B64^k%B64:=by
 rw[Nat.pow_succ,<- Nat.div_div_eq_div_mul];have:=Nat.div_add_mod (x/B64^k) B64;rw[Nat.mul_comm]at this;omega
def ldX(U V j:Nat):Nat:=U%(V*B64^(j+1))
theorem dX6{U V j:Nat}(hV:0<V):ldX U V j<V*B64^(j+1):=Nat.mod_lt _ (Nat.mul_pos hV (Nat.pow_pos aA6))
theorem dR3{U V j:Nat}(hV:0<V):ldX U V j/B64^j<V*B64:=by
 rw[Nat.div_lt_iff_lt_mul (Nat.pow_pos aA6),Nat.mul_assoc,Nat.mul_comm B64,<- Nat.pow_succ];exact dX6 hV
theorem cV3{U V j:Nat}:ldX U V j/B64^j/V=U/(V*B64^j)%B64:=by
 unfold ldX;rw[Nat.div_div_eq_div_mul,Nat.mul_comm (B64^j) V,Nat.pow_succ,<- Nat.mul_assoc,Nat.mod_mul_right_div_self]
theorem ldX_next{U V j:Nat}:ldX U V j%B64^j+B64^j*(ldX U V j/B64^j%V)=U%(V*B64^j):=by
 have h:U%(V*B64^j)=ldX U V j%(V*B64^j):=by
  unfold ldX;rw[Nat.pow_succ,<- Nat.mul_assoc,Nat.mod_mul_right_mod]
 rw[h,Nat.mul_comm V,Nat.mod_mul]
theorem bH6{U V m n:Nat}(hU:U<B64^(m+n))(hV:B64^n<=V*B64):ldX U V m=U:=by
 unfold ldX;refine Nat.mod_eq_of_lt (Nat.lt_of_lt_of_le hU ?_);rw[Nat.pow_add,Nat.pow_succ,<- Nat.mul_assoc,Nat.mul_comm V,Nat.mul_assoc];exact Nat.mul_le_mul_left _ hV
theorem cI1{V Y n q:Nat}(hB:B64<=2*(V/B64^(n+1)))(hne:Y/B64^(n+2)<V/B64^(n+1))(hq:q=Y/B64^n/(V/B64^n)):Y/V<=q/\q<=Y/V+1/\q<B64:=by
 have hP:0<B64^n:=Nat.pow_pos aA6;have h2:V/B64^n=V/B64^(n+1)*B64+V/B64^n%B64:=aP3 V n;have h3:Y/B64^n=Y/B64^(n+1)*B64+Y/B64^n%B64:=aP3 Y n;have h4:Y/B64^(n+1)=Y/B64^(n+2)*B64+Y/B64^(n+1)%B64:=aP3 Y (n+1);have m1:=Nat.mod_lt (Y/B64^(n+1)) aA6;have m2:=Nat.mod_lt (Y/B64^n) aA6;have hb:=cP8;have hV2:B64<=V/B64^n:=by
  have:1*B64<=V/B64^(n+1)*B64:=Nat.mul_le_mul_right _ (by omega);omega
 have hU3:Y/B64^n<V/B64^n*B64:=by
  have a1:(Y/B64^(n+2)+1)*B64<=V/B64^(n+1)*B64:=Nat.mul_le_mul_right _ hne;rw[Nat.add_mul,Nat.one_mul]at a1;have a2:(Y/B64^(n+1)+1)*B64<=V/B64^n*B64:=Nat.mul_le_mul_right _ (by omega);rw[Nat.add_mul,Nat.one_mul]at a2;omega
 have hqB:q<B64:=by
  rw[hq,Nat.div_lt_iff_lt_mul (by omega),Nat.mul_comm];exact hU3
 have key:=dF0 (B:=B64) (V2:=V/B64^n) (v':=V%B64^n) (U3:=Y/B64^n) (u':=Y%B64^n) (P:=B64^n) hP (Nat.mod_lt _ hP) (Nat.mod_lt _ hP) hq (by omega) (by omega) (by omega);have e1:Y/B64^n*B64^n+Y%B64^n=Y:=by rw[Nat.mul_comm];exact Nat.div_add_mod _ _
 have e2:V/B64^n*B64^n+V%B64^n=V:=by rw[Nat.mul_comm];exact Nat.div_add_mod _ _
 rw[e1,e2]at key;exact⟨key.1,key.2,hqB⟩
theorem dX7{V Y n:Nat}(hB:B64<=2*(V/B64^(n+1)))(he:Y/B64^(n+2)=V/B64^(n+1))(hY:Y<V*B64):Y/V<=B64-1/\B64-1<=Y/V+1:=by
 have hP:0<B64^(n+1):=Nat.pow_pos aA6;have hb:=cP8;have e1:V/B64^(n+1)*B64*B64^(n+1)+Y%B64^(n+2)=Y:=by
  rw[<- he,Nat.mul_assoc,Nat.mul_comm B64,<- Nat.pow_succ,Nat.mul_comm];exact Nat.div_add_mod _ _
 have e2:V/B64^(n+1)*B64^(n+1)+V%B64^(n+1)=V:=by rw[Nat.mul_comm];exact Nat.div_add_mod _ _
 have key:=dX3 (B:=B64) (v1:=V/B64^(n+1)) (v':=V%B64^(n+1)) (u':=Y%B64^(n+2)) (P:=B64^(n+1)) hP (Nat.mod_lt _ hP) hB (by omega) (by rw[e1,e2];exact hY);rw[e1,e2]at key;omega
theorem dX8{V Y q:Nat}(hV:0<V)(h1:Y/V<=q)(h2:q<=Y/V+1):(q*V<=Y->q=Y/V/\Y-q*V=Y%V)/\(Y<q*V->q=Y/V+1/\Y+V-q*V=Y%V):=by
 have hd:=Nat.div_add_mod Y V;have hm:=Nat.mod_lt Y hV;constructor
 ·intro h;rcases(show q=Y/V\/q=Y/V+1 by omega)with h3|h3
  ·refine⟨h3,?_⟩;rw[h3,Nat.mul_comm];omega
  ·exfalso
   rw[h3,Nat.add_mul,Nat.one_mul,Nat.mul_comm]at h;omega
 ·intro h;rcases(show q=Y/V\/q=Y/V+1 by omega)with h3|h3
  ·exfalso
   rw[h3,Nat.mul_comm]at h;omega
  ·refine⟨h3,?_⟩;rw[h3,Nat.add_mul,Nat.one_mul,Nat.mul_comm];omega
def vL(S C:Nat->Nat->Nat->Nat):List (Nat×Nat)->Nat->List Nat
 | [],_=>[]
 | p::l,c=>S p.1 p.2 c::vL S C l (C p.1 p.2 c)
def vC(C:Nat->Nat->Nat->Nat):List (Nat×Nat)->Nat->Nat
 | [],c=>c
 | p::l,c=>vC C l (C p.1 p.2 c)
theorem bK9(S C:Nat->Nat->Nat->Nat)(l:List (Nat×Nat))(c:Nat):(vL S C l c).length=l.length:=by
 induction l generalizing c with
 | nil=>rfl
 | cons x l ih=>simp[vL,ih]
theorem cV4(C:Nat->Nat->Nat->Nat)(l:List (Nat×Nat))(p:Nat×Nat)(c:Nat):vC C (l++[p]) c=C p.1 p.2 (vC C l c):=by
 induction l generalizing c with
 | nil=>rfl
 | cons x l ih=>simp[vC,ih]
theorem cV5(S C:Nat->Nat->Nat->Nat)(l:List (Nat×Nat))(p:Nat×Nat)(c:Nat):vL S C (l++[p]) c=vL S C l c++[S p.1 p.2 (vC C l c)]:=by
 induction l generalizing c with
 | nil=>rfl
 | cons x l ih=>simp[vL,vC,ih]
theorem aK1(l:List (Nat×Nat))(j:Nat)(h:j<l.length):l.take (j+1)=l.take j++[((l.map (·.1)).getD j 0,(l.map (·.2)).getD j 0)]:=by
 rw[List.take_succ_eq_append_getElem h];congr 1;simp[List.getD,h]
theorem vC_le{C:Nat->Nat->Nat->Nat}(l:List (Nat×Nat))(hC:∀ p∈l,∀ c,c<=1->C p.1 p.2 c<=1):∀ c,c<=1->vC C l c<=1:=by
 induction l with
 | nil=>intro c h;exact h
 | cons x l ih=>intro c h;exact ih (fun p hp=>hC p (List.mem_cons_of_mem _ hp)) _ (hC x (List.mem_cons_self ..) c h)
theorem vL_lt{S C:Nat->Nat->Nat->Nat}(hS:∀ x y c,S x y c<B64)(l:List (Nat×Nat))(c:Nat):∀ x∈vL S C l c,x<B64:=by
 induction l generalizing c with
 | nil=>simp[vL]
 | cons x l ih =>
  intro z hz;rcases List.mem_cons.1 hz with h|h
  ·subst h;exact hS _ _ _
  ·exact ih _ z h
theorem dR4(l:List (Nat×Nat))(c:Nat):val (vL adS adC l c)+B64^l.length*vC adC l c=val (l.map (·.1))+val (l.map (·.2))+c:=by
 induction l generalizing c with
 | nil=>simp[vL,vC,val]
 | cons x l ih =>
  have h1:=ih (adC x.1 x.2 c);have h2:=cE8 x.1 x.2 c;simp only[vL,vC,aG8,List.map_cons,List.length_cons,Nat.pow_succ];have h3:B64*(val (vL adS adC l (adC x.1 x.2 c))+B64^l.length*vC adC l (adC x.1 x.2 c))=B64*(val (l.map (·.1))+val (l.map (·.2))+adC x.1 x.2 c):=by rw[h1]
  rw[Nat.mul_add,Nat.mul_add,Nat.mul_add]at h3;rw[Nat.mul_comm (B64^l.length) B64,Nat.mul_assoc B64 (B64^l.length)];omega
theorem dR5(l:List (Nat×Nat))(hl:∀ p∈l,p.1<B64/\p.2<B64)(c:Nat)(hc:c<=1):val (vL sbD sbB l c)+val (l.map (·.2))+c=val (l.map (·.1))+B64^l.length*vC sbB l c:=by
 induction l generalizing c with
 | nil=>simp[vL,vC,val]
 | cons x l ih =>
  obtain⟨a1,a2⟩:=hl x (List.mem_cons_self ..);have h1:=ih (fun p hp=>hl p (List.mem_cons_of_mem _ hp)) (sbB x.1 x.2 c) (aO0 _ _ _);have h2:=cQ2 a1 a2 hc;simp only[vL,vC,aG8,List.map_cons,List.length_cons,Nat.pow_succ];have h3:B64*(val (vL sbD sbB l (sbB x.1 x.2 c))+val (l.map (·.2))+sbB x.1 x.2 c)=B64*(val (l.map (·.1))+B64^l.length*vC sbB l (sbB x.1 x.2 c)):=by rw[h1]
  rw[Nat.mul_add,Nat.mul_add,Nat.mul_add]at h3;rw[Nat.mul_comm (B64^l.length) B64,Nat.mul_assoc B64 (B64^l.length)];omega
theorem cB4(zb zo zc xb xo xc yb yo yc m:Nat)(ps:List (Nat×Nat))(cz cx cy:Array Value)(Tz Tx Ty:TypeId)(w:World)(hm:ps.length=m)(hm1:m<=1000000)(hps:∀ p∈ps,p.1<B64/\p.2<B64)(hz:w.heap[zb]? = some (.cells cz Tz (0,0)))(hzo:zo+m<=cz.size)(hx:w.heap[xb]? = some (.cells cx Tx (0,0)))(hxc:Has cx xo (ps.map (·.1)))(hsx:zb=xb->zo=xo)(hy:w.heap[yb]? = some (.cells cy Ty (0,0)))(hyc:Has cy yo (ps.map (·.2)))(hsy:zb=yb->zo=yo):
  Calls prog 208 #[.slice (some ⟨zb,zo,none⟩) m zc,.slice (some ⟨xb,xo,none⟩) m xc,.slice (some ⟨yb,yo,none⟩) m yc] w fun e w' =>
   e=.returned (.int .u64 ((vC adC ps 0:Nat):Int))/\Drew (aB2 w zb zo (vL adS adC ps 0)) w':=by
 have HM:=hiD hm;have HZ:=hiD hz;have HX:=hiD hx;have HY:=hiD hy;have HSX:=hiD hsx;have HSY:=hiD hsy;have HXC:=hiD hxc;have HYC:=hiD hyc;have HPS:=hiD hps;clear hm hz hx hy hsx hsy hxc hyc hps;go_enter func208,ntmps208;go_wp2_with fail
 go_loopw [6,25] (fun c k wr=>∃ j:Nat,j<=m/\k=.int .i64 j/\c=.int .u64 ((vC adC (ps.take j) 0:Nat):Int)/\Drew (aB2 w zb zo (vL adS adC (ps.take j) 0)) wr) (fun _ k _=>m-(intOf k).toNat)
 case atStart=>exact⟨0,Nat.zero_le _,rfl,rfl,Drew.refl _⟩
 case round =>
  obtain⟨j,hj,rfl,rfl,nd,hwr⟩:=hrel;have HW:=hiD hwr;clear hwr;by_cases hlt:j<m
  ·have hcc:vC adC (ps.take j) 0<=1:=vC_le _ (fun p hp c hc=>aX0 (HPS.out p (List.mem_of_mem_take hp)).1 (HPS.out p (List.mem_of_mem_take hp)).2 hc) 0 (by omega);have hlen:(vL adS adC (ps.take j) 0).length=j:=by rw[bK9,List.length_take,HM.out];omega
   have hl1:(ps.map (·.1)).length=m:=by rw[List.length_map,HM.out]
   have hl2:(ps.map (·.2)).length=m:=by rw[List.length_map,HM.out]
   have c1:wr.cell? ⟨xb,xo+j,none⟩=some (.int .u64 (((ps.map (·.1)).getD j 0:Nat):Int)):=by
    rw[HW.out];exact aF1 HZ.out HX.out HXC.out j (by rw[hl1];exact hlt) (fun h=>Or.inl (by rw[hlen];have:=HSX.out h;omega))
   have c2:wr.cell? ⟨yb,yo+j,none⟩=some (.int .u64 (((ps.map (·.2)).getD j 0:Nat):Int)):=by
    rw[HW.out];exact aF1 HZ.out HY.out HYC.out j (by rw[hl2];exact hlt) (fun h=>Or.inl (by rw[hlen];have:=HSY.out h;omega))
   have h3:=aK8 (l:=vL adS adC (ps.take j) 0) HZ.out j hlen (show zo+j<cz.size by omega);have h4:(∃ u,wr.cell? ⟨zb,zo+j,none⟩=some u)/\wr.frozen? ⟨zb,zo+j,none⟩=false:=by rw[HW.out];exact h3
   obtain⟨⟨u,c3⟩,c4⟩:=h4;have fin:∀ nq,Drew (aB2 w zb zo (vL adS adC (ps.take (j+1)) 0)) ((wr.drewN nq).setCell ⟨zb,zo+j,none⟩ (.int .u64 ((adS ((ps.map (·.1)).getD j 0) ((ps.map (·.2)).getD j 0) (vC adC (ps.take j) 0):Nat):Int))):=by
    intro nq;rw[aK1 _ _ (by rw[HM.out];exact hlt),cV5,aI8,hlen,HW.out,World.drewN_drewN];exact⟨_,rfl⟩
   have finc:vC adC (ps.take (j+1)) 0=adC ((ps.map (·.1)).getD j 0) ((ps.map (·.2)).getD j 0) (vC adC (ps.take j) 0):=by
    rw[aK1 _ _ (by rw[HM.out];exact hlt),cV4]
   have FIN:=hiD fin;have FINC:=hiD finc;clear fin finc hlen h3 hl1 hl2 HW;generalize(ps.map (·.1)).getD j 0=xj at *;generalize(ps.map (·.2)).getD j 0=yj at *;generalize vC adC (ps.take j) 0=cj at *;have HB:=hiD (fun w=>aD9 xj yj cj hcc w);have HBQ:Hid (∀ n,Calls prog 209 #[.int .u64 (xj:Int),.int .u64 (yj:Int),.int .u64 (cj:Int)] (wr.drewN n) fun e w'=>e=.returned (.tuple #[.int .u64 ((adS xj yj cj:Nat):Int),.int .u64 ((adC xj yj cj:Nat):Int)])/\Drew (wr.drewN n) w'):=fun n=>(HB.out _).mono (fun e w' h=>⟨h.1,by rw[<- h.2];exact Drew.refl _⟩);go_wp2_with fail
   go_quiet ((go_at_call 209;first|exact aO7 (HBQ.out _)|exact aX5 (HBQ.out _)))
   go_wp2_with fail;go_roundw
   case rel=>exact⟨j+1,by omega,by go_num,by rw[FINC.out],FIN.out _⟩
   case measure=>simp[intOf];omega
  ·have:j=m:=by omega
   subst this;go_wp2_with fail;go_ret;refine⟨bM0 (by rw[List.take_of_length_le (by rw[HM.out];exact Nat.le_refl _)]),?_⟩;rw[HW.out,List.take_of_length_le (by rw[HM.out];exact Nat.le_refl _)];exact⟨_,rfl⟩
theorem cV6(zb zo zc xb xo xc yb yo yc m:Nat)(ps:List (Nat×Nat))(cz cx cy:Array Value)(Tz Tx Ty:TypeId)(w:World)(hm:ps.length=m)(hm1:m<=1000000)(hps:∀ p∈ps,p.1<B64/\p.2<B64)(hz:w.heap[zb]? = some (.cells cz Tz (0,0)))(hzo:zo+m<=cz.size)(hx:w.heap[xb]? = some (.cells cx Tx (0,0)))(hxc:Has cx xo (ps.map (·.1)))(hsx:zb=xb->zo=xo)(hy:w.heap[yb]? = some (.cells cy Ty (0,0)))(hyc:Has cy yo (ps.map (·.2)))(hsy:zb=yb->zo=yo):
  Calls prog 181 #[.slice (some ⟨zb,zo,none⟩) m zc,.slice (some ⟨xb,xo,none⟩) m xc,.slice (some ⟨yb,yo,none⟩) m yc] w fun e w' =>
   e=.returned (.int .u64 ((vC adC ps 0:Nat):Int))/\Drew (aB2 w zb zo (vL adS adC ps 0)) w':=by
 have HG:=hiD (cB4 zb zo zc xb xo xc yb yo yc m ps cz cx cy Tz Tx Ty w hm hm1 hps hz hzo hx hxc hsx hy hyc hsy);clear hm hps hz hzo hx hxc hsx hy hyc hsy;go_enter func181,ntmps181;go_wp2_with fail;refine HG.out.mono ?_;rintro e w1 ⟨rfl,hd⟩;go_wp2_with fail;go_ret;exact⟨rfl,hd⟩
theorem cB5(zb zo zc xb xo xc yb yo yc m:Nat)(ps:List (Nat×Nat))(cz cx cy:Array Value)(Tz Tx Ty:TypeId)(w:World)(hm:ps.length=m)(hm1:m<=1000000)(hps:∀ p∈ps,p.1<B64/\p.2<B64)(hz:w.heap[zb]? = some (.cells cz Tz (0,0)))(hzo:zo+m<=cz.size)(hx:w.heap[xb]? = some (.cells cx Tx (0,0)))(hxc:Has cx xo (ps.map (·.1)))(hsx:zb=xb->zo=xo)(hy:w.heap[yb]? = some (.cells cy Ty (0,0)))(hyc:Has cy yo (ps.map (·.2)))(hsy:zb=yb->zo=yo):
  Calls prog 210 #[.slice (some ⟨zb,zo,none⟩) m zc,.slice (some ⟨xb,xo,none⟩) m xc,.slice (some ⟨yb,yo,none⟩) m yc] w fun e w' =>
   e=.returned (.int .u64 ((vC sbB ps 0:Nat):Int))/\Drew (aB2 w zb zo (vL sbD sbB ps 0)) w':=by
 have HM:=hiD hm;have HZ:=hiD hz;have HX:=hiD hx;have HY:=hiD hy;have HSX:=hiD hsx;have HSY:=hiD hsy;have HXC:=hiD hxc;have HYC:=hiD hyc;have HPS:=hiD hps;clear hm hz hx hy hsx hsy hxc hyc hps;go_enter func210,ntmps210;go_wp2_with fail
 go_loopw [6,25] (fun c k wr=>∃ j:Nat,j<=m/\k=.int .i64 j/\c=.int .u64 ((vC sbB (ps.take j) 0:Nat):Int)/\Drew (aB2 w zb zo (vL sbD sbB (ps.take j) 0)) wr) (fun _ k _=>m-(intOf k).toNat)
 case atStart=>exact⟨0,Nat.zero_le _,rfl,rfl,Drew.refl _⟩
 case round =>
  obtain⟨j,hj,rfl,rfl,nd,hwr⟩:=hrel;have HW:=hiD hwr;clear hwr;by_cases hlt:j<m
  ·have hcc:vC sbB (ps.take j) 0<=1:=vC_le _ (fun p hp c hc=>aO0 _ _ _) 0 (by omega);have hlen:(vL sbD sbB (ps.take j) 0).length=j:=by rw[bK9,List.length_take,HM.out];omega
   have hl1:(ps.map (·.1)).length=m:=by rw[List.length_map,HM.out]
   have hl2:(ps.map (·.2)).length=m:=by rw[List.length_map,HM.out]
   have c1:wr.cell? ⟨xb,xo+j,none⟩=some (.int .u64 (((ps.map (·.1)).getD j 0:Nat):Int)):=by
    rw[HW.out];exact aF1 HZ.out HX.out HXC.out j (by rw[hl1];exact hlt) (fun h=>Or.inl (by rw[hlen];have:=HSX.out h;omega))
   have c2:wr.cell? ⟨yb,yo+j,none⟩=some (.int .u64 (((ps.map (·.2)).getD j 0:Nat):Int)):=by
    rw[HW.out];exact aF1 HZ.out HY.out HYC.out j (by rw[hl2];exact hlt) (fun h=>Or.inl (by rw[hlen];have:=HSY.out h;omega))
   have h3:=aK8 (l:=vL sbD sbB (ps.take j) 0) HZ.out j hlen (show zo+j<cz.size by omega);have h4:(∃ u,wr.cell? ⟨zb,zo+j,none⟩=some u)/\wr.frozen? ⟨zb,zo+j,none⟩=false:=by rw[HW.out];exact h3
   obtain⟨⟨u,c3⟩,c4⟩:=h4;have fin:∀ nq,Drew (aB2 w zb zo (vL sbD sbB (ps.take (j+1)) 0)) ((wr.drewN nq).setCell ⟨zb,zo+j,none⟩ (.int .u64 ((sbD ((ps.map (·.1)).getD j 0) ((ps.map (·.2)).getD j 0) (vC sbB (ps.take j) 0):Nat):Int))):=by
    intro nq;rw[aK1 _ _ (by rw[HM.out];exact hlt),cV5,aI8,hlen,HW.out,World.drewN_drewN];exact⟨_,rfl⟩
   have finc:vC sbB (ps.take (j+1)) 0=sbB ((ps.map (·.1)).getD j 0) ((ps.map (·.2)).getD j 0) (vC sbB (ps.take j) 0):=by
    rw[aK1 _ _ (by rw[HM.out];exact hlt),cV4]
   have FIN:=hiD fin;have FINC:=hiD finc;clear fin finc hlen h3 hl1 hl2 HW;generalize(ps.map (·.1)).getD j 0=xj at *;generalize(ps.map (·.2)).getD j 0=yj at *;generalize vC sbB (ps.take j) 0=cj at *;have HB:=hiD (fun w=>aE7 xj yj cj hcc w);have HBQ:Hid (∀ n,Calls prog 211 #[.int .u64 (xj:Int),.int .u64 (yj:Int),.int .u64 (cj:Int)] (wr.drewN n) fun e w'=>e=.returned (.tuple #[.int .u64 ((sbD xj yj cj:Nat):Int),.int .u64 ((sbB xj yj cj:Nat):Int)])/\Drew (wr.drewN n) w'):=fun n=>(HB.out _).mono (fun e w' h=>⟨h.1,by rw[<- h.2];exact Drew.refl _⟩);go_wp2_with fail
   go_quiet ((go_at_call 211;first|exact aO7 (HBQ.out _)|exact aX5 (HBQ.out _)))
   go_wp2_with fail;go_roundw
   case rel=>exact⟨j+1,by omega,by go_num,by rw[FINC.out],FIN.out _⟩
   case measure=>simp[intOf];omega
  ·have:j=m:=by omega
   subst this;go_wp2_with fail;go_ret;refine⟨bM0 (by rw[List.take_of_length_le (by rw[HM.out];exact Nat.le_refl _)]),?_⟩;rw[HW.out,List.take_of_length_le (by rw[HM.out];exact Nat.le_refl _)];exact⟨_,rfl⟩
theorem cV7(zb zo zc xb xo xc yb yo yc m:Nat)(ps:List (Nat×Nat))(cz cx cy:Array Value)(Tz Tx Ty:TypeId)(w:World)(hm:ps.length=m)(hm1:m<=1000000)(hps:∀ p∈ps,p.1<B64/\p.2<B64)(hz:w.heap[zb]? = some (.cells cz Tz (0,0)))(hzo:zo+m<=cz.size)(hx:w.heap[xb]? = some (.cells cx Tx (0,0)))(hxc:Has cx xo (ps.map (·.1)))(hsx:zb=xb->zo=xo)(hy:w.heap[yb]? = some (.cells cy Ty (0,0)))(hyc:Has cy yo (ps.map (·.2)))(hsy:zb=yb->zo=yo):
  Calls prog 183 #[.slice (some ⟨zb,zo,none⟩) m zc,.slice (some ⟨xb,xo,none⟩) m xc,.slice (some ⟨yb,yo,none⟩) m yc] w fun e w' =>
   e=.returned (.int .u64 ((vC sbB ps 0:Nat):Int))/\Drew (aB2 w zb zo (vL sbD sbB ps 0)) w':=by
 have HG:=hiD (cB5 zb zo zc xb xo xc yb yo yc m ps cz cx cy Tz Tx Ty w hm hm1 hps hz hzo hx hxc hsx hy hyc hsy);clear hm hps hz hzo hx hxc hsx hy hyc hsy;go_enter func183,ntmps183;go_wp2_with fail;refine HG.out.mono ?_;rintro e w1 ⟨rfl,hd⟩;go_wp2_with fail;go_ret;exact⟨rfl,hd⟩
theorem bH7(zb zo zc xb xo xc m:Nat)(xs:List Nat)(y r:Nat)(cz cx:Array Value)(Tz Tx:TypeId)(w:World)(hm:xs.length=m)(hm1:m<=1000000)(hxs:∀ x∈xs,x<B64)(hy:y<B64)(hr:r<B64)(hz:w.heap[zb]? = some (.cells cz Tz (0,0)))(hzo:zo+m<=cz.size)(hx:w.heap[xb]? = some (.cells cx Tx (0,0)))(hxc:Has cx xo xs)(hsep:zb=xb->xo+m<=zo):
  Calls prog 231 #[.slice (some ⟨zb,zo,none⟩) m zc,.slice (some ⟨xb,xo,none⟩) m xc,.int .u64 y,.int .u64 r] w fun e w' =>
   e=.returned (.int .u64 ((maC xs y r:Nat):Int))/\w'=aB2 w zb zo (maL xs y r):=by
 have HM:=hiD hm;have HZ:=hiD hz;have HX:=hiD hx;have HS:=hiD hsep;have HC:=hiD hxc;have HXS:=hiD hxs;clear hm hz hx hsep hxc hxs;go_enter func231,ntmps231;go_wp2_with fail
 go_loopw [8,19] (fun c k wr=>∃ j:Nat,j<=m/\k=.int .i64 j/\c=.int .u64 ((maC (xs.take j) y r:Nat):Int)/\wr=aB2 w zb zo (maL (xs.take j) y r)) (fun _ k _=>m-(intOf k).toNat)
 case atStart=>exact⟨0,Nat.zero_le _,rfl,rfl,rfl⟩
 case round =>
  obtain⟨j,hj,rfl,rfl,hwr⟩:=hrel;have HW:=hiD hwr;clear hwr;by_cases hlt:j<m
  ·have hc:=bF3 HXS.out j;have hcc:maC (xs.take j) y r<B64:=cQ0 (cQ3 HXS.out j) hy hr;have hlen:(maL (xs.take j) y r).length=j:=by rw[aS0,List.length_take,HM.out];omega
   have c1:wr.cell? ⟨xb,xo+j,none⟩=some (.int .u64 ((xs.getD j 0:Nat):Int)):=by
    rw[HW.out];exact aF1 HZ.out HX.out HC.out j (by rw[HM.out];exact hlt) (fun h=>Or.inr (by have:=HS.out h;omega))
   have h3:=aK8 (l:=maL (xs.take j) y r) HZ.out j hlen (show zo+j<cz.size by omega);rw[<- HW.out]at h3;obtain⟨⟨u,c2⟩,c3⟩:=h3;have fin:wr.setCell ⟨zb,zo+j,none⟩ (.int .u64 ((mwL (xs.getD j 0) y (maC (xs.take j) y r):Nat):Int))=aB2 w zb zo (maL (xs.take (j+1)) y r):=by
    rw[aJ8 _ _ (by rw[HM.out];exact hlt),cF1,aI8,hlen,HW.out]
   have finc:maC (xs.take (j+1)) y r=mwH (xs.getD j 0) y (maC (xs.take j) y r):=by
    rw[aJ8 _ _ (by rw[HM.out];exact hlt),cF0]
   have FIN:=hiD fin;have FINC:=hiD finc;clear fin finc hlen;generalize xs.getD j 0=xj at *;generalize maC (xs.take j) y r=cj at *;go_wp2_with (go_at_call 260;refine(aP9 _ _ _ hc hy hcc _).mono ?_;rintro e w' ⟨rfl,rfl⟩)
   go_roundw
   case rel=>exact⟨j+1,by omega,by go_num,by rw[FINC.out],FIN.out⟩
   case measure=>simp[intOf];omega
  ·have:j=m:=by omega
   subst this;go_wp2_with fail;go_ret;refine⟨bM0 (by rw[List.take_of_length_le (by rw[HM.out];exact Nat.le_refl _)]),?_⟩;rw[HW.out,List.take_of_length_le (by rw[HM.out];exact Nat.le_refl _)]
theorem bO6(zb zo zc xb xo xc m:Nat)(xs:List Nat)(y r:Nat)(cz cx:Array Value)(Tz Tx:TypeId)(w:World)(hm:xs.length=m)(hm1:m<=1000000)(hxs:∀ x∈xs,x<B64)(hy:y<B64)(hr:r<B64)(hz:w.heap[zb]? = some (.cells cz Tz (0,0)))(hzo:zo+m<=cz.size)(hx:w.heap[xb]? = some (.cells cx Tx (0,0)))(hxc:Has cx xo xs)(hsep:zb=xb->xo+m<=zo):
  Calls prog 203 #[.slice (some ⟨zb,zo,none⟩) m zc,.slice (some ⟨xb,xo,none⟩) m xc,.int .u64 y,.int .u64 r] w fun e w' =>
   e=.returned (.int .u64 ((maC xs y r:Nat):Int))/\w'=aB2 w zb zo (maL xs y r):=by
 have HM:=hiD hm;have HZ:=hiD hz;have HX:=hiD hx;have HS:=hiD hsep;have HC:=hiD hxc;have HXS:=hiD hxs;clear hm hz hx hsep hxc hxs;go_enter func203,ntmps203;go_wp2_with (go_at_call 231;refine(bH7 zb zo zc xb xo xc m xs y r cz cx Tz Tx _ HM.out hm1 HXS.out hy hr HZ.out hzo HX.out HC.out HS.out).mono ?_;rintro e w1 ⟨rfl,hw1⟩;have HW:=hiD hw1;clear hw1)
 go_ret;exact⟨rfl,HW.out⟩
theorem cN4(zb zo zc xc m s X:Nat)(cz:Array Value)(Tz:TypeId)(w:World)(h1:1<=s)(h2:s<64)(hm:1<=m)(hm1:m<=100000)(hX:X<B64^m)(hz:w.heap[zb]? = some (.cells cz Tz (0,0)))(hzo:zo+m<=cz.size)(hxc:Has cz zo (wds m X)):
  Calls prog 252 #[.slice (some ⟨zb,zo,none⟩) m zc,.slice (some ⟨zb,zo,none⟩) m xc,.int .u64 (s:Int)] w fun e w'=>(∃ c:Int,e=.returned (.int .u64 c))/\Put w zb (putC cz zo (wds m (X/2^s))) Tz w':=by
 have H:=hiD (bU9 zb zo zc xc m s X cz Tz w h1 h2 hm hm1 hX hz hzo hxc);clear hz hxc hX;go_enter func252,ntmps252;go_wp2_with fail;refine H.out.mono ?_;rintro e w1 ⟨⟨c,rfl⟩,h⟩;have H1:=hiD h;clear h;go_wp2_with fail;go_ret;exact⟨⟨_,rfl⟩,H1.out⟩
theorem cB6(x1 x2 y1 y2:Nat)(hx:x2<B64)(hy:y2<B64)(w:World):Calls prog 277 #[.int .u64 (x1:Int),.int .u64 (x2:Int),.int .u64 (y1:Int),.int .u64 (y2:Int)] w fun e w'=>e=.returned (.bool (decide (y1*B64+y2<x1*B64+x2)))/\w=w':=by
 have hB:=aA6;rcases Nat.lt_trichotomy y1 x1 with h|h|h
 ·have e:decide (y1*B64+y2<x1*B64+x2)=true:=decT (by
   have:(y1+1)*B64<=x1*B64:=Nat.mul_le_mul_right _ h;rw[Nat.add_mul,Nat.one_mul]at this;omega)
  rw[e];have q1:decide (y1<x1)=true:=decT h;clear e h;go_enter func277,ntmps277;go_wp2_with fail;go_ret;exact⟨rfl,rfl⟩
 ·subst h;have e:decide (y1*B64+y2<y1*B64+x2)=decide (y2<x2):=by
   by_cases h2:y2<x2
   ·rw[decT h2,decT (by omega)]
   ·rw[decF h2,decF (by omega)]
  rw[e];have q1:decide (y1<y1)=false:=decF (Nat.lt_irrefl _);have q2:((y1:Int)==(y1:Int))=true:=beqT rfl;clear e;go_enter func277,ntmps277;go_wp2_with fail;go_ret;exact⟨rfl,rfl⟩
 ·have e:decide (y1*B64+y2<x1*B64+x2)=false:=decF (by
   have:(x1+1)*B64<=y1*B64:=Nat.mul_le_mul_right _ h;rw[Nat.add_mul,Nat.one_mul]at this;omega)
  rw[e];have q1:decide (y1<x1)=false:=decF (by omega);have q2:((x1:Int)==(y1:Int))=false:=beqF (by omega);have q3:¬ x1=y1:=by omega
  clear e h;go_enter func277,ntmps277;go_wp2_with fail;go_ret;exact⟨rfl,rfl⟩
end Go.Proofs.YtjebnpkebccffaaGreatDoor
