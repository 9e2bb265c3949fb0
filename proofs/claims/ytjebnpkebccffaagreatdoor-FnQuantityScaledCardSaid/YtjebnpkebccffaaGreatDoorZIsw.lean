import Derived.Test.YtjebnpkebccffaaGreatDoorZSuf
import Derived.LaidEql
import Derived.Stop.Asserts
import Derived.RowKitTokens
import Derived.Laws.Externs
import Derived.LaidEqlPtr
set_option linter.unusedSimpArgs false
set_option linter.unusedVariables false
set_option linter.unusedSectionVars false
set_option maxRecDepth 100000
set_option maxHeartbeats 8000000
namespace Go.Proofs.YtjebnpkebccffaaGreatDoor
open Go.RowKit Go.Proofs.Tryz
section
open Go.RowKit Go.Extern.Stop Go.Stop Go.Extern
structure Errs (w:World) (a b c:Addr):Prop where
 g0:w.cell? ⟨0,0,none⟩=some (.iface 257 (.pointer (some a)))
 g1:w.cell? ⟨1,0,none⟩=some (.iface 257 (.pointer (some b)))
 g2:w.cell? ⟨2,0,none⟩=some (.iface 257 (.pointer (some c)))
 ha:∃ ca ta,w.heap[a.block]? = some (.cells ca ta (0,0))
 hb:∃ cb tb,w.heap[b.block]? = some (.cells cb tb (0,0))
 hc:∃ cc tc,w.heap[c.block]? = some (.cells cc tc (0,0))
 nab:a≠b
 nac:a≠c
 nbc:b≠c
theorem cell_lt{w:World}{b i:Nat}{v:Value}(h:w.cell? ⟨b,i,none⟩=some v):b<w.heap.size:=by
 rcases Nat.lt_or_ge b w.heap.size with h'|h'
 ·exact h'
 ·have:w.heap[b]? = none:=Array.getElem?_eq_none h';simp[World.cell?,this]at h
theorem aC9{w w':World}{b i:Nat}{v:Value}(hk:Kept (fun _=>False) w w')(h:w.cell? ⟨b,i,none⟩=some v):w'.cell? ⟨b,i,none⟩=some v:=by
 have hb:=hk.block b (cell_lt h) (fun f=>f);rw[<- h];simp[World.cell?,hb]
theorem Errs.kept{w w':World}{a b c:Addr}(h:Errs w a b c)(hk:Kept (fun _=>False) w w'):Errs w' a b c:=by
 obtain⟨ca,ta,h1⟩:=h.ha;obtain⟨cb,tb,h2⟩:=h.hb;obtain⟨cc,tc,h3⟩:=h.hc;exact⟨aC9 hk h.g0,aC9 hk h.g1,aC9 hk h.g2,⟨ca,ta,hk.at h1 (fun f=>f)⟩,⟨cb,tb,hk.at h2 (fun f=>f)⟩,⟨cc,tc,hk.at h3 (fun f=>f)⟩,h.nab,h.nac,h.nbc⟩
open Go.RowKit
def zQ:Array Value:=#[.int .i64 0,.int .i32 0,.pointer none,.string ⟨#[]⟩,.string ⟨#[]⟩]
theorem aL4(w:World):(Instr.build 66 #[]).run prog w=.ok (.agg zQ) w:=run_build w 66 _ _ (by kernel_rfl)
theorem e_nn0(w:World):(binOp .neq 68 .nilIface .nilIface).run prog w=.ok (.bool false) w:=by kernel_rfl
theorem cR9{w:World}{q:Nat}{a0 a1 a2 a3 a4:Value}(h:w.heap[q]? = some (.cells #[a0,a1,a2,a3,a4] 66 (0,0)))(v0 v1 v2 v3 v4:Value):
  (((((w.setCell ⟨q,0,none⟩ v0).setCell ⟨q,1,none⟩ v1).setCell ⟨q,2,none⟩ v2).setCell ⟨q,3,none⟩ v3).setCell ⟨q,4,none⟩ v4).heap[q]? = some (.cells #[v0,v1,v2,v3,v4] 66 (0,0))/\Kept (fun i=>i=q) w (((((w.setCell ⟨q,0,none⟩ v0).setCell ⟨q,1,none⟩ v1).setCell ⟨q,2,none⟩ v2).setCell ⟨q,3,none⟩ v3).setCell ⟨q,4,none⟩ v4):=by
 refine⟨?_,((((((Kept.refl (fun i=>i=q) w).setCell _ _ (fun _=>rfl)).setCell _ _ (fun _=>rfl)).setCell _ _ (fun _=>rfl)).setCell _ _ (fun _=>rfl)).setCell _ _ (fun _=>rfl))⟩;have h0:=aA3 h 0 v0;have h1:=aA3 h0 1 v1;have h2:=aA3 h1 2 v2;have h3:=aA3 h2 3 v3;have h4:=aA3 h3 4 v4;rw[h4];simp
def hb5(w:World)(q:Nat)(a0 a1 a2 a3 a4:Value):Prop:=w.heap[q]? = some (.cells #[a0,a1,a2,a3,a4] 66 (0,0))
theorem aC7{w:World}{q:Nat}{a0 a1 a2 a3 a4:Value}(h:w.heap[q]? = some (.cells #[a0,a1,a2,a3,a4] 66 (0,0))):
  w.cell? ⟨q,0,none⟩=some a0/\w.cell? ⟨q,1,none⟩=some a1/\w.cell? ⟨q,2,none⟩=some a2/\w.cell? ⟨q,3,none⟩=some a3/\w.cell? ⟨q,4,none⟩=some a4 :=
 ⟨by rw[aA2 h];rfl,by rw[aA2 h];rfl,by rw[aA2 h];rfl,by rw[aA2 h];rfl,by rw[aA2 h];rfl⟩
end
theorem bM0{a b:Nat}(h:a=b):Ending.returned (.int .u64 (a:Int))=.returned (.int .u64 (b:Int)):=by rw[h]
def cF6:Array Value->Sem Value:=fun args=>do
 let(x,y,b) <- Extern.MathBitsCarry.three "Sub64" args
 pure (Extern.MathBitsCarry.pair ((x+Extern.MathBitsCarry.m64-y-b)%Extern.MathBitsCarry.m64) (if x<y+b then 1 else 0))
theorem bR9(x y b:Nat)(hb:b<=1)(w:World):
  (cF6 #[.int .u64 x,.int .u64 y,.int .u64 b]).run prog w =
   .ok (.tuple #[.int .u64 ((sbD x y b:Nat):Int),.int .u64 ((sbB x y b:Nat):Int)]) w:=by
 have:b=0\/b=1:=by omega
 rcases this with rfl|rfl<;>rfl
theorem cS0(x y c:Nat)(hc:c<=1)(w:World):
  (callFunc 234 #[.int .u64 x,.int .u64 y,.int .u64 c]).run prog w =
   .ok (.value (.tuple #[.int .u64 ((adS x y c:Nat):Int),.int .u64 ((adC x y c:Nat):Int)])) w:=by
 rw[run_callFunc_extern func234 (by kernel_rfl) (by kernel_rfl) (by kernel_rfl) (e:=add64Entry) (by kernel_rfl),run_add64 x y c (by omega) (by omega) (by omega) (by omega)];simp only[Result.andThen,adS,adC,B64];congr 5<;>omega
theorem cS1(x y b:Nat)(hb:b<=1)(w:World):
  (callFunc 236 #[.int .u64 x,.int .u64 y,.int .u64 b]).run prog w =
   .ok (.value (.tuple #[.int .u64 ((sbD x y b:Nat):Int),.int .u64 ((sbB x y b:Nat):Int)])) w:=by
 rw[run_callFunc_extern func236 (by kernel_rfl) (by kernel_rfl) (by kernel_rfl) (e:=cF6) (by kernel_rfl),bR9 x y b hb];rfl
theorem aD9(x y c:Nat)(hc:c<=1)(w:World):
  Calls prog 209 #[.int .u64 x,.int .u64 y,.int .u64 c] w fun e w'=>e=.returned (.tuple #[.int .u64 ((adS x y c:Nat):Int),.int .u64 ((adC x y c:Nat):Int)])/\w=w':=by
 have h:=fun w=>cS0 x y c hc w
 go_enter func209,ntmps209
 go_wp2
 go_ret2;exact⟨rfl,rfl⟩
theorem aE7(x y c:Nat)(hc:c<=1)(w:World):
  Calls prog 211 #[.int .u64 x,.int .u64 y,.int .u64 c] w fun e w'=>e=.returned (.tuple #[.int .u64 ((sbD x y c:Nat):Int),.int .u64 ((sbB x y c:Nat):Int)])/\w=w':=by
 have h:=fun w=>cS1 x y c hc w
 go_enter func211,ntmps211
 go_wp2
 go_ret2;exact⟨rfl,rfl⟩
theorem aD2(x y:Nat)(hx:x<B64)(hy:y<B64)(w:World):
  Calls prog 200 #[.int .u64 x,.int .u64 y] w fun e w'=>e=.returned (.tuple #[.int .u64 ((mwH x y 0:Nat):Int),.int .u64 ((mwL x y 0:Nat):Int)])/\w=w' :=
 (Tryz.bits_Mul x y hx hy w).mono fun e w' ⟨h1,h2⟩=>⟨by rw[h1];simp[mwH,mwL,B64],h2.symm⟩
theorem bS0(x y:Nat)(hx:x<B64)(hy:y<B64)(w:World):
  Calls prog 167 #[.int .u64 x,.int .u64 y] w fun e w'=>e=.returned (.tuple #[.int .u64 ((mwH x y 0:Nat):Int),.int .u64 ((mwL x y 0:Nat):Int)])/\w=w':=by
 go_enter func167,ntmps167;go_wp2_with (go_at_call 200;refine(aD2 x y hx hy _).mono ?_;rintro e w' ⟨rfl,rfl⟩)
 go_ret2;exact⟨rfl,rfl⟩
theorem dW4(x y c:Nat):adS (mwL x y 0) c 0=mwL x y c/\mwH x y 0+adC (mwL x y 0) c 0=mwH x y c:=by
 have h1:=bK4 x y 0;have h2:=cE8 (mwL x y 0) c 0;have h3:=cE7 (mwL x y 0) c 0;unfold mwL mwH at *;have h4:x*y+c=adS ((x*y+0)%B64) c 0+B64*((x*y+0)/B64+adC ((x*y+0)%B64) c 0):=by rw[Nat.mul_add];omega
 rw[h4];exact⟨by rw[Nat.add_mul_mod_self_left,Nat.mod_eq_of_lt h3],by rw[Nat.add_mul_div_left _ _ aA6,Nat.div_eq_of_lt h3];omega⟩
theorem aP9(x y c:Nat)(hx:x<B64)(hy:y<B64)(hc:c<B64)(w:World):
  Calls prog 260 #[.int .u64 x,.int .u64 y,.int .u64 c] w fun e w'=>e=.returned (.tuple #[.int .u64 ((mwH x y c:Nat):Int),.int .u64 ((mwL x y c:Nat):Int)])/\w=w':=by
 obtain⟨e1,e2⟩:=dW4 x y c;have hb:=cE9 hx hy hc;have hs:IntKind.u64.wrap ((mwH x y 0:Nat)+(adC (mwL x y 0) c 0:Nat))=((mwH x y c:Nat):Int):=by
  rw[IntKind.wrap_u64,<- e2];unfold B64 at hb;omega
 have E1:=hiD e1;have HS:=hiD hs;clear e1 e2 hs;go_enter func260,ntmps260;go_wp2_with (first|(go_at_call 200;refine(aD2 x y hx hy _).mono ?_;rintro e w' ⟨rfl,rfl⟩)|(go_at_call 209;refine(aD9 _ c 0 (by omega) _).mono ?_;rintro e w' ⟨rfl,rfl⟩))
 go_ret2;refine⟨?_,rfl⟩;simp only[Array.getD_eq_getD_getElem?];rw[<- E1.out,<- HS.out];rfl
theorem bF6(zb zo zc xb xo xc m:Nat)(xs:List Nat)(y r:Nat)(cz cx:Array Value)(Tz Tx:TypeId)(w:World)(hm:xs.length=m)(hm1:m<=1000000)(hxs:∀ x∈xs,x<B64)(hy:y<B64)(hr:r<B64)(hz:w.heap[zb]? = some (.cells cz Tz (0,0)))(hzo:zo+m<=cz.size)(hx:w.heap[xb]? = some (.cells cx Tx (0,0)))(hxc:Has cx xo xs)(hsep:zb=xb->zo=xo):
  Calls prog 231 #[.slice (some ⟨zb,zo,none⟩) m zc,.slice (some ⟨xb,xo,none⟩) m xc,.int .u64 y,.int .u64 r] w fun e w' =>
   e=.returned (.int .u64 ((maC xs y r:Nat):Int))/\w'=aB2 w zb zo (maL xs y r):=by
 have HM:=hiD hm;have HZ:=hiD hz;have HX:=hiD hx;have HS:=hiD hsep;have HC:=hiD hxc;have HXS:=hiD hxs;clear hm hz hx hsep hxc hxs;go_enter func231,ntmps231;go_wp2_with fail
 go_loopw [8,19] (fun c k wr=>∃ j:Nat,j<=m/\k=.int .i64 j/\c=.int .u64 ((maC (xs.take j) y r:Nat):Int)/\wr=aB2 w zb zo (maL (xs.take j) y r)) (fun _ k _=>m-(intOf k).toNat)
 case atStart=>exact⟨0,Nat.zero_le _,rfl,rfl,rfl⟩
 case round =>
  obtain⟨j,hj,rfl,rfl,hwr⟩:=hrel;have HW:=hiD hwr;clear hwr;by_cases hlt:j<m
  ·have hc:=bF3 HXS.out j;have hcc:maC (xs.take j) y r<B64:=cQ0 (cQ3 HXS.out j) hy hr;have hlen:(maL (xs.take j) y r).length=j:=by rw[aS0,List.length_take,HM.out];omega
   have c1:wr.cell? ⟨xb,xo+j,none⟩=some (.int .u64 ((xs.getD j 0:Nat):Int)):=by
    rw[HW.out];exact aF1 HZ.out HX.out HC.out j (by rw[HM.out];exact hlt) (fun h=>Or.inl (by rw[hlen];have:=HS.out h;omega))
   have h3:=aK8 (l:=maL (xs.take j) y r) HZ.out j hlen (show zo+j<cz.size by omega);rw[<- HW.out]at h3;obtain⟨⟨u,c2⟩,c3⟩:=h3;have fin:wr.setCell ⟨zb,zo+j,none⟩ (.int .u64 ((mwL (xs.getD j 0) y (maC (xs.take j) y r):Nat):Int))=aB2 w zb zo (maL (xs.take (j+1)) y r):=by
    rw[aJ8 _ _ (by rw[HM.out];exact hlt),cF1,aI8,hlen,HW.out]
   have finc:maC (xs.take (j+1)) y r=mwH (xs.getD j 0) y (maC (xs.take j) y r):=by
    rw[aJ8 _ _ (by rw[HM.out];exact hlt),cF0]
   have FIN:=hiD fin;have FINC:=hiD finc;clear fin finc hlen;generalize xs.getD j 0=xj at *;generalize maC (xs.take j) y r=cj at *;go_wp2_with (go_at_call 260;refine(aP9 _ _ _ hc hy hcc _).mono ?_;rintro e w' ⟨rfl,rfl⟩)
   go_roundw
   case rel=>exact⟨j+1,by omega,by go_num,by rw[FINC.out],FIN.out⟩
   case measure=>simp[intOf];omega
  ·have:j=m:=by omega
   subst this;go_wp2_with fail;go_ret;refine⟨bM0 (by rw[List.take_of_length_le (by rw[HM.out];exact Nat.le_refl _)]),?_⟩;rw[HW.out,List.take_of_length_le (by rw[HM.out];exact Nat.le_refl _)]
theorem bM1(zb zo zc xb xo xc m:Nat)(xs:List Nat)(y r:Nat)(cz cx:Array Value)(Tz Tx:TypeId)(w:World)(hm:xs.length=m)(hm1:m<=1000000)(hxs:∀ x∈xs,x<B64)(hy:y<B64)(hr:r<B64)(hz:w.heap[zb]? = some (.cells cz Tz (0,0)))(hzo:zo+m<=cz.size)(hx:w.heap[xb]? = some (.cells cx Tx (0,0)))(hxc:Has cx xo xs)(hsep:zb=xb->zo=xo):
  Calls prog 203 #[.slice (some ⟨zb,zo,none⟩) m zc,.slice (some ⟨xb,xo,none⟩) m xc,.int .u64 y,.int .u64 r] w fun e w' =>
   e=.returned (.int .u64 ((maC xs y r:Nat):Int))/\w'=aB2 w zb zo (maL xs y r):=by
 have HM:=hiD hm;have HZ:=hiD hz;have HX:=hiD hx;have HS:=hiD hsep;have HC:=hiD hxc;have HXS:=hiD hxs;clear hm hz hx hsep hxc hxs;go_enter func203,ntmps203;go_wp2_with (go_at_call 231;refine(bF6 zb zo zc xb xo xc m xs y r cz cx Tz Tx _ HM.out hm1 HXS.out hy hr HZ.out hzo HX.out HC.out HS.out).mono ?_;rintro e w1 ⟨rfl,hw1⟩;have HW:=hiD hw1;clear hw1)
 go_ret;exact⟨rfl,HW.out⟩
theorem aH2(v:Value)(b:Option Nat)(n:Nat)(w:World)(hv:BufAt w v b)(h1:1<=n)(h2:n<=900000):
  Calls prog 135 #[v,.int .i64 n] w (Made w b n):=by
 have hmk:=fun w=>bR3 107 underlying107 n (n+4) (n:Int) ((n:Int)+4) rfl (by omega) (by omega) (by omega) w
 have hmk1:=fun w=>bR3 107 underlying107 1 1 1 1 rfl rfl (by omega) (by omega) w
 have new:∀(c:Nat) (e:Ending) (w':World),n<=c->c<=1000000->e=.returned (.slice (some ⟨w.heap.size,0,none⟩) n c)->w'=w.alloc (.cells (zw c) 165)->Made w b n e w':=by
  intro c e w' hc hc2 he hw;refine⟨w.heap.size,zw c,by rw[he,bL7],by rw[hw];exact aA0 _ _,by rw[bL7];exact hc,by rw[bL7];omega,by rw[bL7];exact hc2,Or.inr ⟨rfl,hw⟩⟩
 have NEW:=hiD new;clear new;cases b with
 | none =>
  obtain rfl:=hv;have a1:decide ((n:Int)<=((0:Nat):Int))=false:=by simp;omega
  by_cases e1:n=1
  ·subst e1;go_enter func135,ntmps135
   go_wp2
   go_ret;exact NEW.out 1 _ _ (by omega) (by omega) rfl rfl
  ·have a2:((n:Int)==1)=false:=by simp;omega
   go_enter func135,ntmps135
   go_wp2
   go_ret;exact NEW.out (n+4) _ _ (by omega) (by omega) rfl rfl
 | some k =>
  obtain⟨l,cs,rfl,hk,hl,hp,hs⟩:=hv;by_cases hr:n<=cs.size
  ·have HK:=hiD hk;clear hk;go_enter func135,ntmps135
   go_wp2
   go_ret;exact⟨k,cs,rfl,HK.out,hr,hp,hs,Or.inl ⟨rfl,rfl⟩⟩
  ·have a1:decide ((n:Int)<=((cs.size:Nat):Int))=false:=by simp;omega
   have a2:((n:Int)==1)=false:=by simp;omega
   have HK:=hiD hk;clear hk;go_enter func135,ntmps135
   go_wp2
   go_ret;exact NEW.out (n+4) _ _ (by omega) (by omega) rfl rfl
theorem aH8(b o c m:Nat)(l:List Nat)(cs:Array Value)(T:TypeId)(w:World)(hm:l.length=m)(hm1:m<=1000000)(hmc:m<=c)(hl:∀ x∈l,x<B64)(hb:w.heap[b]? = some (.cells cs T (0,0)))(hc:Has cs o l):
  Calls prog 137 #[.slice (some ⟨b,o,none⟩) m c] w fun e w'=>e=.returned (.slice (some ⟨b,o,none⟩) (dig (val l)).length c)/\w=w':=by
 have HM:=hiD hm;have HB:=hiD hb;have HC:=hiD hc;have HL:=hiD hl;have hd:(dig (val l)).length<=m:=by rw[<- hm];exact cQ4 l hl
 have H1:=hiD (fun p (h1:(dig (val l)).length<=p+1) (hp:p<l.length) h0=>cQ5 hl h1 hp h0);have H2:=hiD (fun p (hp:p<l.length) h0=>dN5 hl (p:=p) hp h0);clear hm hb hc hl;generalize(dig (val l)).length=d at *;go_enter func137,ntmps137;go_wp2_with fail
 go_loop [3] (fun i=>∃ p:Nat,d<=p/\p<=m/\i=.int .i64 p) (fun i=>(intOf i).toNat)
 case atStart=>exact⟨m,hd,Nat.le_refl _,rfl⟩
 case round =>
  obtain⟨p,hp1,hp2,rfl⟩:=hrel;by_cases h0:p=0
  ·subst h0;have e0:d=0:=by omega
   go_wp2_with fail;go_ret;subst e0;simp
  ·obtain⟨q,rfl⟩:∃ q,p=q+1:=⟨p-1,by omega⟩;have hcell:w.cell? ⟨b,o+q,none⟩=some (.int .u64 ((l.getD q 0:Nat):Int)):=by
    rw[aA2 HB.out];exact HC.out q (by rw[HM.out];omega)
   have hz:=H1.out q hp1 (by rw[HM.out];omega);have hn:=H2.out q (by rw[HM.out];omega);have HZ:=hiD hz;have HN:=hiD hn;clear hz hn;generalize l.getD q 0=x at *;have ei:((q+1:Nat):Int)-1=(q:Int):=by omega
   by_cases hx:x=0
   ·have h4:=HZ.out hx;subst hx;go_wp2_with fail;exact⟨⟨q,h4,by omega,rfl⟩,by simp[intOf]⟩
   ·have h4:=HN.out hx;have e4:d=q+1:=by omega
    have hx':((x:Int)==0)=false:=by simp;omega
    go_wp2_with fail;go_ret;exact⟨rfl,rfl⟩
def Own(w:World)(b b':Option Nat):Prop:=b'=b\/∃ k,b'=some k/\w.heap.size<=k
def aH4(w:World)(b:Option Nat)(n:Nat)(e:Ending)(w':World):Prop :=
 ∃ v' b',e=.returned v'/\NatAt w' v' n b'/\Kept (fun k=>b=some k) w w'/\Own w b b'
theorem bS1{w w1:World}{b:Option Nat}{k:Nat}{cs:Array Value}(h:(b=some k/\w1=w)\/(k=w.heap.size/\w1=w.alloc (.cells cs 165))):Kept (fun k=>b=some k) w w1/\Own w b (some k)/\(k<w.heap.size->b=some k):=by
 rcases h with⟨h1,h2⟩|⟨h1,h2⟩
 ·rw[h2];exact⟨Kept.refl _ _,Or.inl h1.symm,fun _=>h1⟩
 ·rw[h2];exact⟨(Kept.refl _ _).alloc _,Or.inr ⟨k,rfl,by omega⟩,fun h=>by omega⟩
theorem aJ0{w w1 w2:World}{b:Option Nat}{k n:Nat}{cs:Array Value}{v:Value}(h:(b=some k/\w1=w)\/(k=w.heap.size/\w1=w.alloc (.cells cs 165)))(hk:Kept (fun i=>i=k) w1 w2)(hv:NatAt w2 v n (some k)):aH4 w b n (.returned v) w2:=by
 obtain⟨h1,h2,h3⟩:=bS1 h;exact⟨v,some k,rfl,hv,h1.trans hk (fun _ _ h=>h) (fun i hi h=>h▸h3 (h▸hi)),h2⟩
theorem dO1{cs:Array Value}{x:Nat}(h:0<cs.size):Has (cs.setIfInBounds 0 (.int .u64 (x:Int))) 0 [x]:=by
 intro i hi;simp at hi;subst hi;rw[Array.getElem?_setIfInBounds,if_pos rfl,if_pos (by simpa using h)];rfl
theorem dB9{w:World}{v:Value}{b:Option Nat}(h:BufAt w v b):∃ a c,v=.slice a (match v with|.slice _ l _=>l|_=>0) c/\NatAt w (.slice a 0 c) 0 b:=by
 cases b with
 | none=>exact⟨none,0,by rw[h],rfl,rfl⟩
 | some k =>
  obtain⟨l,cs,h1,h2,h3,h4,h5⟩:=h;exact⟨some ⟨k,0,none⟩,cs.size,by rw[h1],cs,by rw[aC4];rfl,h2,by rw[aC4];exact Nat.zero_le _,h4,h5,by rw[aC4];intro i hi;simp at hi⟩
theorem aH7{w:World}{v:Value}{b:Option Nat}(h:BufAt w v b):∃ a l c,v=.slice a l c/\NatAt w (.slice a 0 c) 0 b:=by
 obtain⟨a,c,h1,h2⟩:=dB9 h;exact⟨a,_,c,h1,h2⟩
theorem aQ0(v:Value)(b:Option Nat)(x:Nat)(hx:x<B64)(w:World)(hv:BufAt w v b):
  Calls prog 179 #[v,.int .u64 x] w (aH4 w b x):=by
 by_cases h0:x=0
 ·obtain⟨a,l,c,rfl,h2⟩:=aH7 hv;subst h0;have H2:=hiD h2;clear h2 hv;go_enter func179,ntmps179;go_wp2_with fail;go_ret;refine⟨_,b,rfl,?_,Kept.refl _ _,Or.inl rfl⟩
  simpa[sliced,Addr.add]using H2.out
 ·have h0':((x:Int)==0)=false:=by simp;omega
  have HV:=hiD hv;have HN:=hiD h0;clear hv h0;go_enter func179,ntmps179;go_wp2_with fail;refine(aH2 v b 1 _ HV.out (by omega) (by omega)).mono ?_;rintro e w1 ⟨k,cs,rfl,hk,hn,hp,hs,hown⟩;have c1:w1.cell? ⟨k,0,none⟩=some (cs[0]):=by rw[aA2 hk];exact Array.getElem?_eq_getElem hp
  have f1:=aA1 hk 0;have HK:=hiD hk;have HO:=hiD hown;clear hk hown;go_wp2_with fail;go_ret;refine aJ0 HO.out ((Kept.refl _ _).setCell _ _ (fun _=>rfl)) ?_;have e1:=aH5 HN.out hx;exact⟨cs.setIfInBounds 0 (.int .u64 (x:Int)),by rw[e1];simp,aA3 HK.out 0 _,by rw[e1];simp;omega,by simpa using hp,by simpa using hs,by rw[e1];exact dO1 hp⟩
theorem aQ1(v:Value)(b:Option Nat)(x:Nat)(hx:x<B64)(w:World)(hv:BufAt w v b):
  Calls prog 141 #[v,.int .u64 x] w (aH4 w b x):=by
 have HV:=hiD hv;clear hv;go_enter func141,ntmps141;go_wp2_with (go_at_call 179;refine(aQ0 v b x hx _ HV.out).mono ?_;intro e w1 hr;have HR:=hiD hr;clear hr;obtain⟨v',b',rfl,hr⟩:=HR.out;clear HR;have HR:=hiD hr;clear hr)
 go_ret;exact⟨_,b',rfl,HR.out⟩
theorem cS2(a:Option Addr)(l c:Nat)(w:World):
  Calls prog 135 #[.slice a l c,.int .i64 0] w fun e w'=>e=.returned (.slice a 0 c)/\w=w':=by
 go_enter func135,ntmps135;go_wp2_with fail;go_ret;exact⟨rfl,rfl⟩
def Sm(n:Nat):Prop:=(dig n).length<=100000
theorem Sm.mono{a b:Nat}(h:Sm b)(hab:a<=b):Sm a:=Nat.le_trans (aM4 hab) h
theorem Sm.of{n:Nat}(k:Nat)(h:n<B64^k)(hk:k<=100000):Sm n:=Nat.le_trans (aD3 h) hk
theorem Sm.one{n:Nat}(h:n<B64):Sm n:=Sm.of 1 (by rwa[Nat.pow_one]) (by omega)
theorem aF2{w:World}{v:Value}{n:Nat}{b:Option Nat}(h:NatAt w v n b)(h0:n≠0):∃ k cs,b=some k/\v=.slice (some ⟨k,0,none⟩) (dig n).length cs.size/\w.heap[k]? = some (.cells cs 165 (0,0))/\(dig n).length<=cs.size/\0<cs.size/\cs.size<=1000000/\Has cs 0 (dig n):=by
 cases b with
 | none=>exact absurd h.2 h0
 | some k=>obtain⟨cs,h1⟩:=h;exact⟨k,cs,rfl,h1⟩
theorem aJ9{w:World}{v:Value}{b:Option Nat}(h:NatAt w v 0 b):∃ a c,v=.slice a 0 c:=by
 cases b with
 | none=>exact⟨none,0,h.1⟩
 | some k=>obtain⟨cs,h1,_⟩:=h;exact⟨_,_,by rw[h1,aC4];rfl⟩
theorem aK0{w:World}{k n:Nat}{cs:Array Value}{l:List Nat}(hb:w.heap[k]? = some (.cells cs 165 (0,0)))(hl:∀ x∈l,x<B64)(hv:val l=n)(hc:Has cs 0 l)(h1:l.length<=cs.size)(h2:0<cs.size)(h3:cs.size<=1000000):
  NatAt w (.slice (some ⟨k,0,none⟩) (dig n).length cs.size) n (some k):=by
 subst hv;have hd:=cQ4 l hl;refine⟨cs,rfl,hb,by omega,h2,h3,fun i hi=>?_⟩;rw[hc i (by omega),dB2 hl i hi]
theorem aW2(z x:Value)(bz bx:Option Nat)(n:Nat)(w:World)(hz:BufAt w z bz)(hx:NatAt w x n bx)(hn:Sm n):
  Calls prog 134 #[z,x] w (aH4 w bz n):=by
 have hlen:(dig n).length<=100000:=hn;by_cases h0:n=0
 ·subst h0;obtain⟨a,l,c,rfl,h2⟩:=aH7 hz;obtain⟨a',c',rfl⟩:=aJ9 hx;have H2:=hiD h2;clear h2 hz hx hn hlen;go_enter func134,ntmps134;go_wp2_with fail;refine(cS2 a l c _).mono ?_;rintro e w' ⟨rfl,rfl⟩;go_wp2_with (refine wpList_copy_nothing rfl (.tmp 9) (.tmp 10) 107 107 rfl 165 underlying107 (by kernel_rfl) _ _ _ _ _ _ rfl rfl rfl ?_)
  go_ret;exact⟨_,bz,rfl,H2.out,Kept.refl _ _,Or.inl rfl⟩
 ·obtain⟨kx,cx,rfl,rfl,hk,hl,hp,hs,hh⟩:=aF2 hx h0;have hpos:=aB3 h0;have hdl:=aN9 n;have HZ:=hiD hz;have HK:=hiD hk;have HH:=hiD hh;have HDL:=hiD hdl;clear hz hk hh hx hn hdl;obtain⟨ds,hds⟩:∃ ds,ds=dig n:=⟨_,rfl⟩;have HDS:=hiD hds;rw[<- hds]at hpos hlen hl;have HH2:Hid (Has cx 0 ds):=by rw[hds];exact HH
  have HDL2:Hid (∀ x∈ds,x<B64):=by rw[hds];exact HDL
  rw[<- hds];clear hds HH HDL;go_enter func134,ntmps134;go_wp2_with fail;refine(aH2 z bz ds.length _ HZ.out (by omega) (by omega)).mono ?_;rintro e w1 ⟨k,cs,rfl,hk,hn,hp',hs',hown⟩;have hx1:=(bS1 hown).1;have hk1:w1.heap[kx]? = some (.cells cx 165 (0,0)):=by
   rcases hown with⟨_,h2⟩|⟨h1,h2⟩
   ·rw[h2];exact HK.out
   ·rw[h2];exact(Below.heap_alloc _ _ _ (aB5 HK.out)).trans HK.out
  have HO:=hiD hown;have HK1:=hiD hk1;have HKK:=hiD hk;clear hown hx1 hk1 hk;go_wp2_with (refine aG9 rfl (.tmp 9) (.tmp 10) 107 107 rfl underlying107 k 0 ds.length cs.size kx 0 ds.length cx.size rfl rfl cs 165 HKK.out cx 165 (0,0) HK1.out ds (by simp) HH2.out (by omega) ?_)
  go_ret;have hv:val ds=n:=by rw[HDS.out,aJ4]
  refine aJ0 HO.out (aE6 (Kept.refl _ _) k 0 ds (fun _=>rfl)) ?_;have:=aK0 (w:=aB2 w1 k 0 ds) (aB9 HKK.out 0 ds) HDL2.out hv (aI9 _ _ _ (by omega)) (by rw[aB1];omega) (by rw[aB1];omega) (by rw[aB1];omega);rw[aB1,<- HDS.out]at this;exact this
theorem bS2(v:Value)(b:Option Nat)(n:Nat)(w:World)(hv:NatAt w v n b):
  Calls prog 140 #[v] w fun e w'=>e=.returned (.int .u64 ((n%B64:Nat):Int))/\w=w':=by
 by_cases h0:n=0
 ·subst h0;obtain⟨a',c',rfl⟩:=aJ9 hv;clear hv;go_enter func140,ntmps140;go_wp2_with fail;go_ret;exact⟨rfl,rfl⟩
 ·obtain⟨kx,cx,rfl,rfl,hk,hl,hp,hs,hh⟩:=aF2 hv h0;have hpos:=aB3 h0;have c1:w.cell? ⟨kx,0,none⟩=some (.int .u64 ((n%B64:Nat):Int)):=by
   rw[aA2 hk];have:=hh 0 hpos;rwa[dN4]at this
  have a1:(((dig n).length:Int)==0)=false:=beqF (by omega);clear hk hh hv;generalize n%B64=x at *;generalize(dig n).length=m at *;go_enter func140,ntmps140;go_wp2_with fail;go_ret;exact⟨rfl,rfl⟩
def Drew(w w':World):Prop:=∃ n,w'=w.drewN n
theorem Drew.refl(w:World):Drew w w:=⟨0,rfl⟩
theorem Drew.step{w w':World}(h:Drew w w')(n:Nat):Drew w (w'.drewN n):=by obtain⟨m,rfl⟩:=h;exact⟨m+n,World.drewN_drewN ..⟩
theorem Drew.trans{a b c:World}(h:Drew a b)(k:Drew b c):Drew a c:=by obtain⟨n,rfl⟩:=k;exact h.step n
theorem Drew.heap{w w':World}(h:Drew w w'):w'.heap=w.heap:=by obtain⟨n,rfl⟩:=h;rfl
theorem Drew.kept{S:Nat->Prop}{w w':World}(h:Drew w w'):Kept S w w':=by obtain⟨n,rfl⟩:=h;exact(Kept.refl _ _).drewN n
theorem bM3(a:Addr)(w:World):(binOp .eql 261 (.pointer (some a)) (.pointer (some a))).run prog w=.ok (.bool true) w:=by
 obtain⟨i0,hi,hz0,hz1,hz2⟩:=info_parts Tryz.info165;exact run_eql_ptr_same w a underlying261 hi
theorem bJ5{w:World}{a b:Addr}{ca cb:Array Value}{ta tb:TypeId}(hne:a≠b)(ha:w.heap[a.block]? = some (.cells ca ta (0,0)))(hb:w.heap[b.block]? = some (.cells cb tb (0,0)))(n:Nat):
  (binOp .eql 261 (.pointer (some a)) (.pointer (some b))).run prog (w.drewN n)=.ok (.bool false) (w.drewN n):=by
 obtain⟨i0,hi,hz0,hz1,hz2⟩:=info_parts Tryz.info165;exact run_eql_ptr_other (w.drewN n) underlying261 hi (by omega) hne ha hb
def aK6(a b:Option Nat):Bool:=a.isSome&&a==b
theorem aO6(z x:Value)(bz bx:Option Nat)(w:World)(hz:BufAt w z bz)(hx:BufAt w x bx):
  Calls prog 133 #[z,x] w fun e w'=>e=.returned (.bool (aK6 bz bx))/\Drew w w':=by
 cases bz with
 | none =>
  obtain rfl:=hz;obtain⟨a,l,c,rfl,_⟩:=aH7 hx;clear hx;have g1:decide (0<((0:Nat):Int))=false:=by decide
  go_enter func133,ntmps133;go_wp2_with fail
  go_quiet (fail)
  go_wp2_with fail;go_ret;exact⟨rfl,_,rfl⟩
 | some k =>
  obtain⟨l,cs,rfl,hk,hl,hp,hs⟩:=hz;have g1:decide (0<((cs.size:Nat):Int))=true:=decT (by omega);cases bx with
  | none =>
   obtain rfl:=hx;clear hk;go_enter func133,ntmps133;go_wp2_with fail
   go_quiet (fail)
   go_wp2_with fail;go_ret;exact⟨rfl,_,rfl⟩
  | some k2 =>
   obtain⟨l2,cs2,rfl,hk2,hl2,hp2,hs2⟩:=hx;have g2:decide (0<((cs2.size:Nat):Int))=true:=decT (by omega);by_cases he:k=k2
   ·subst he;have e2:cs2.size=cs.size:=by rw[hk]at hk2;injection hk2 with a;injection a with a;rw[a]
    rw[e2]at g2 ⊢;clear hk hk2;have hq:=fun(d:Nat) (w:World)=>bM3 ⟨k,d,none⟩ w;obtain⟨d,hd⟩:∃ d,cs.size=d+1:=⟨cs.size-1,by omega⟩;have hdb:d<=1000000:=by omega
    rw[hd]at g1 g2 ⊢;clear hd e2 hl hl2 hp hp2 hs hs2;have e3:IntKind.i64.wrap (d:Int)=d:=IntWalk.i64_in _ (by omega);have e4:(d:Int)<(d:Int)+1:=by omega
    have e5:(0:Int)<=(d:Int):=by omega
    go_enter func133,ntmps133;go_wp2_with fail
    go_quiet (fail)
    go_wp2_with fail;go_ret;exact⟨by simp[aK6],_,rfl⟩
   ·have hq:=fun(d d2:Nat) (n:Nat)=>bJ5 (w:=w) (a:=⟨k,d,none⟩) (b:=⟨k2,d2,none⟩) (by intro h;injection h with h;exact he h) hk hk2 n;clear hk hk2;obtain⟨d,hd⟩:∃ d,cs.size=d+1:=⟨cs.size-1,by omega⟩;obtain⟨d2,hd2⟩:∃ d,cs2.size=d+1:=⟨cs2.size-1,by omega⟩;have hdb:d<=1000000:=by omega
    have hdb2:d2<=1000000:=by omega
    rw[hd]at g1 ⊢;rw[hd2]at g2 ⊢;clear hd hd2 hl hl2 hp hp2 hs hs2;have e3:IntKind.i64.wrap (d:Int)=d:=IntWalk.i64_in _ (by omega);have e4:(d:Int)<(d:Int)+1:=by omega
    have e5:(0:Int)<=(d:Int):=by omega
    have f3:IntKind.i64.wrap (d2:Int)=d2:=IntWalk.i64_in _ (by omega);have f4:(d2:Int)<(d2:Int)+1:=by omega
    have f5:(0:Int)<=(d2:Int):=by omega
    go_enter func133,ntmps133;go_wp2_with fail
    go_quiet (fail)
    go_wp2_with fail;go_ret;exact⟨by simp[aK6,he],_,rfl⟩
theorem dO2(x y:Value)(bx by_:Option Nat)(n m:Nat)(w:World)(hx:NatAt w x n bx)(hy:NatAt w y m by_)(hl:(dig n).length≠(dig m).length):
  Calls prog 142 #[x,y] w fun e w'=>e=.returned (.int .i64 (cmpN n m))/\Drew w w':=by
 obtain⟨a,l,c,rfl,hx2⟩:∃ a l c,x=.slice a l c/\l=(dig n).length:=by
  cases bx with
  | none=>exact⟨none,0,0,hx.1,by rw[hx.2,aC4];rfl⟩
  | some k=>obtain⟨cs,h,_⟩:=hx;exact⟨_,_,_,h,rfl⟩
 obtain⟨a2,l2,c2,rfl,hy2⟩:∃ a l c,y=.slice a l c/\l=(dig m).length:=by
  cases by_ with
  | none=>exact⟨none,0,0,hy.1,by rw[hy.2,aC4];rfl⟩
  | some k=>obtain⟨cs,h,_⟩:=hy;exact⟨_,_,_,h,rfl⟩
 rw[<- hx2,<- hy2]at hl;have HX:=hiD hx2;have HY:=hiD hy2;clear hx hy hx2 hy2;have a1:(!((l:Int)==(l2:Int)))=true:=by rw[beqF (by omega)];rfl
 have a2:((l:Int)!=(l2:Int))=true:=by rw[bne,beqF (by omega)];rfl
 by_cases h:l<l2
 ·have e:=bY6 (n:=n) (m:=m) (by rw[<- HX.out,<- HY.out];exact h);rw[e];go_enter func142,ntmps142;go_wp2_with fail;go_ret;exact⟨rfl,0,rfl⟩
 ·have e:=bY7 (n:=n) (m:=m) (by rw[<- HX.out,<- HY.out];omega);rw[e];have h2:l2<l:=by omega
  go_enter func142,ntmps142;go_wp2_with fail;go_ret;exact⟨rfl,0,rfl⟩
theorem dC0(kx ky cx cy L:Nat)(xs ys:List Nat)(r:Int)(w:World)(hL:0<L)(hL1:L<=1000000)(hlx:xs.length=L)(hly:ys.length=L)(hx:∀ p,p<L->w.cell? ⟨kx,p,none⟩=some (.int .u64 ((xs.getD p 0:Nat):Int)))(hy:∀ p,p<L->w.cell? ⟨ky,p,none⟩=some (.int .u64 ((ys.getD p 0:Nat):Int)))(r1:∀ p,p<L->xs.drop (p+1)=ys.drop (p+1)->xs.getD p 0<ys.getD p 0->r = -1)(r2:∀ p,p<L->xs.drop (p+1)=ys.drop (p+1)->ys.getD p 0<xs.getD p 0->r=1)(r3:xs=ys->r=0):
  Calls prog 142 #[.slice (some ⟨kx,0,none⟩) L cx,.slice (some ⟨ky,0,none⟩) L cy] w fun e w'=>e=.returned (.int .i64 r)/\Drew w w':=by
 have HX:=hiD hx;have HY:=hiD hy;have R1:=hiD r1;have R2:=hiD r2;have R3:=hiD r3;have LX:=hiD hlx;have LY:=hiD hly;clear hx hy r1 r2 r3 hlx hly;obtain⟨M,rfl⟩:∃ M,L=M+1:=⟨L-1,by omega⟩;have a1:((M:Int)+1==0)=false:=beqF (by omega);go_enter func142,ntmps142;go_wp2_with fail
 go_loopw [7] (fun i wr=>∃ p:Nat,p<M+1/\i=.int .i64 p/\Hid (xs.drop (p+1)=ys.drop (p+1))/\Drew w wr) (fun i _=>(intOf i).toNat)
 case atStart =>
  refine⟨M,by omega,?_,?_,Drew.refl w⟩
  ·simp
  ·exact(show xs.drop (M+1)=ys.drop (M+1)by rw[List.drop_eq_nil_of_le (by rw[LX.out];exact Nat.le_refl _),List.drop_eq_nil_of_le (by rw[LY.out];exact Nat.le_refl _)])
 case round =>
  obtain⟨p,hp,rfl,HD,nq,rfl⟩:=hrel;have cx1:=HX.out p hp;have cy1:=HY.out p hp;have e0:(0:Int)<=(p:Int):=by omega
  have e1:(p:Int)<(M:Int)+1:=by omega
  have R1p:=hiD (R1.out p hp HD.out);have R2p:=hiD (R2.out p hp HD.out);have HE:Hid (xs.getD p 0=ys.getD p 0->xs.drop p=ys.drop p):=by
   intro h;rw[bF4 (l:=xs) (by rw[LX.out];exact hp),bF4 (l:=ys) (by rw[LY.out];exact hp),h,HD.out]
  generalize xs.getD p 0=x at *;generalize ys.getD p 0=y at *;by_cases hxy:x=y
  ·subst hxy;by_cases hp0:p=0
   ·subst hp0;have er:r=0:=R3.out (by have:=HE.out rfl;simpa using this);subst er;go_wp2_with fail
    go_quiet (fail)
    go_wp2_with fail
    go_quiet (fail)
    go_wp2_with fail
    go_quiet (fail)
    go_wp2_with fail;go_ret;exact⟨rfl,by repeat (first|exact Drew.refl _|refine Drew.step ?_ _)⟩
   ·obtain⟨q,rfl⟩:∃ q,p=q+1:=⟨p-1,by omega⟩;have g1:decide ((0:Int)<(q:Int)+1)=true:=decT (by omega);have HE2:Hid (xs.drop (q+1)=ys.drop (q+1)):=HE.out rfl;go_wp2_with fail
    go_quiet (fail)
    go_wp2_with fail;go_roundw
    case rel=>exact⟨q,by omega,by go_num,HE2,(by repeat (first|exact Drew.refl _|refine Drew.step ?_ _))⟩
    case measure=>simp[intOf]
  ·have hb:((x:Int)==(y:Int))=false:=beqF (by omega);by_cases hlt:x<y
   ·have er:r = -1:=R1p.out hlt;subst er;have l1:decide ((x:Int)<(y:Int))=true:=decT (by omega);by_cases hp0:p=0
    ·subst hp0;go_wp2_with fail
     go_quiet (fail)
     go_wp2_with fail
     go_quiet (fail)
     go_wp2_with fail;go_ret;exact⟨rfl,by repeat (first|exact Drew.refl _|refine Drew.step ?_ _)⟩
    ·obtain⟨q,rfl⟩:∃ q,p=q+1:=⟨p-1,by omega⟩;have g1:decide ((0:Int)<(q:Int)+1)=true:=decT (by omega);go_wp2_with fail
     go_quiet (fail)
     go_wp2_with fail
     go_quiet (fail)
     go_wp2_with fail;go_ret;exact⟨rfl,by repeat (first|exact Drew.refl _|refine Drew.step ?_ _)⟩
   ·have er:r=1:=R2p.out (by omega);subst er;have l1:decide ((x:Int)<(y:Int))=false:=decF (by omega);have l2:decide ((y:Int)<(x:Int))=true:=decT (by omega);by_cases hp0:p=0
    ·subst hp0;go_wp2_with fail
     go_quiet (fail)
     go_wp2_with fail
     go_quiet (fail)
     go_wp2_with fail
     go_quiet (fail)
     go_wp2_with fail;go_ret;exact⟨rfl,by repeat (first|exact Drew.refl _|refine Drew.step ?_ _)⟩
    ·obtain⟨q,rfl⟩:∃ q,p=q+1:=⟨p-1,by omega⟩;have g1:decide ((0:Int)<(q:Int)+1)=true:=decT (by omega);go_wp2_with fail
     go_quiet (fail)
     go_wp2_with fail
     go_quiet (fail)
     go_wp2_with fail
     go_quiet (fail)
     go_wp2_with fail;go_ret;exact⟨rfl,by repeat (first|exact Drew.refl _|refine Drew.step ?_ _)⟩
theorem bZ3(x y:Value)(bx by_:Option Nat)(n m:Nat)(w:World)(hx:NatAt w x n bx)(hy:NatAt w y m by_):
  Calls prog 142 #[x,y] w fun e w'=>e=.returned (.int .i64 (cmpN n m))/\Drew w w':=by
 by_cases hl:(dig n).length=(dig m).length
 ·by_cases h0:n=0
  ·subst h0;have hm:m=0:=by
    rw[aC4]at hl;exact cK2.1 (List.length_eq_zero_iff.1 hl.symm)
   subst hm;obtain⟨a,c,rfl⟩:=aJ9 hx;obtain⟨a2,c2,rfl⟩:=aJ9 hy;clear hx hy hl;go_enter func142,ntmps142;go_wp2_with fail;go_ret;exact⟨rfl,0,rfl⟩
  ·have hp:=aB3 h0;have hm0:m≠0:=by intro h;subst h;rw[aC4,List.length_nil]at hl;omega
   obtain⟨kx,cx,rfl,rfl,hk,hl1,hp1,hs,hh⟩:=aF2 hx h0;obtain⟨ky,cy,rfl,rfl,hk2,hl2,hp2,hs2,hh2⟩:=aF2 hy hm0;rw[<- hl];refine dC0 kx ky cx.size cy.size (dig n).length (dig n) (dig m) (cmpN n m) w hp (by omega) rfl hl.symm ?_ ?_ ?_ ?_ ?_
   ·intro p hp';rw[aA2 hk];have:=hh p hp';rwa[Nat.zero_add]at this
   ·intro p hp';rw[aA2 hk2];have:=hh2 p (by omega);rwa[Nat.zero_add]at this
   ·intro p hp' hd h;exact bA4 (cF2 hl hp' hd h)
   ·intro p hp' hd h;exact bA5 (cF2 hl.symm (by omega) hd.symm h)
   ·intro h;exact bY5 (dB3 h)
 ·exact dO2 x y bx by_ n m w hx hy hl
theorem dC1(n y r:Nat)(hy:y<B64)(hr:r<B64):val (maL (dig n) y r++[maC (dig n) y r])=n*y+r/\(∀ x∈maL (dig n) y r++[maC (dig n) y r],x<B64)/\(maL (dig n) y r++[maC (dig n) y r]).length=(dig n).length+1:=by
 refine⟨?_,?_,by rw[List.length_append,aS0];rfl⟩
 ·rw[aT8,aS0];have:=dK6 (dig n) y r;rw[aJ4]at this
  simpa[val]using this
 ·intro x hx;rcases List.mem_append.1 hx with h|h
  ·exact dK7 _ _ _ x h
  ·simp at h;subst h;exact cQ0 (aN9 n) hy hr
theorem aE2{w w1:World}{b:Option Nat}{k j:Nat}{cs:Array Value}{o:Obj}(h:(b=some k/\w1=w)\/(k=w.heap.size/\w1=w.alloc (.cells cs 165)))(ho:w.heap[j]? = some o):w1.heap[j]? = some o:=by
 rcases h with⟨_,h2⟩|⟨_,h2⟩
 ·rw[h2];exact ho
 ·rw[h2];exact(Below.heap_alloc _ _ _ (aB5 ho)).trans ho
theorem aS6(z x:Value)(bz bx:Option Nat)(n y r:Nat)(w:World)(hz:BufAt w z bz)(hx:NatAt w x n bx)(hy:y<B64)(hr:r<B64)(hn:Sm n):
  Calls prog 173 #[z,x,.int .u64 y,.int .u64 r] w (aH4 w bz (n*y+r)):=by
 by_cases h0:n=0\/y=0
 ·have e0:n*y+r=r:=by rcases h0 with h|h<;>simp[h]
  rw[e0];have HZ:=hiD hz;by_cases hn0:n=0
  ·subst hn0;obtain⟨a,c,rfl⟩:=aJ9 hx;clear hz hx h0 e0 hn;go_enter func173,ntmps173;go_wp2_with fail;refine(aQ0 z bz r hr _ HZ.out).mono ?_;rintro e w1 ⟨v',b',rfl,h⟩;have H:=hiD h;clear h;go_wp2_with fail;go_ret;exact⟨v',b',rfl,H.out⟩
  ·have hy0:y=0:=by rcases h0 with h|h;exact absurd h hn0;exact h
   subst hy0;obtain⟨kx,cx,rfl,rfl,hk,hl,hp,hs,hh⟩:=aF2 hx hn0;have a1:(((dig n).length:Int)==0)=false:=beqF (by have:=aB3 hn0;omega);clear hz hx h0 e0 hn hn0 hk hh;go_enter func173,ntmps173;go_wp2_with fail;refine(aQ0 z bz r hr _ HZ.out).mono ?_;rintro e w1 ⟨v',b',rfl,h⟩;have H:=hiD h;clear h;go_wp2_with fail;go_ret;exact⟨v',b',rfl,H.out⟩
 ·have hn0:n≠0:=fun h=>h0 (Or.inl h)
  have hy0:y≠0:=fun h=>h0 (Or.inr h)
  obtain⟨kx,cx,rfl,rfl,hk,hl,hp,hs,hh⟩:=aF2 hx hn0;have hlen:(dig n).length<=100000:=hn;have hpos:=aB3 hn0;have HW:=hiD (dC1 n y r hy hr);have HZ:=hiD hz;have HK:=hiD hk;have HH:=hiD hh;have HDL:=hiD (aN9 n);have a1:(((dig n).length:Int)==0)=false:=beqF (by omega);have a2:((y:Int)==0)=false:=beqF (by omega);clear hz hk hh hx hn h0 hn0 hy0;obtain⟨ds,hds⟩:∃ ds,ds=dig n:=⟨_,rfl⟩;rw[<- hds]at HW HH HDL hpos hlen hl a1 ⊢;clear hds;go_enter func173,ntmps173;go_wp2_with fail;refine(aH2 z bz (ds.length+1) _ HZ.out (by omega) (by omega)).mono ?_;rintro e w1 ⟨k,cs,rfl,hk,hn,hp',hs',hown⟩;have hk1:=aE2 hown HK.out;have HO:=hiD hown;have HK1:=hiD hk1;have HKK:=hiD hk;clear hown hk1 hk;go_wp2_with fail;refine(bM1 k 0 cs.size kx 0 cx.size ds.length ds y r cs cx 165 165 _ rfl (by omega) HDL.out hy hr HKK.out (by omega) HK1.out HH.out (fun _=>rfl)).mono ?_;rintro e w2 ⟨rfl,hw2⟩;have hb2:=aB9 HKK.out 0 (maL ds y r);rw[<- hw2]at hb2;have c2:w2.cell? ⟨k,ds.length,none⟩=some (cs[ds.length]):=by
   rw[aA2 hb2,aD8 _ _ _ _ (Or.inr (by rw[aS0];omega))];exact Array.getElem?_eq_getElem (by omega)
  have f2:=aA1 hb2 ds.length;have hfin:w2.setCell ⟨k,ds.length,none⟩ (.int .u64 ((maC ds y r:Nat):Int))=aB2 w1 k 0 (maL ds y r++[maC ds y r]):=by
   rw[aI8,aS0,Nat.zero_add,hw2]
  have HF:=hiD hfin;clear hw2 hb2 hfin;go_wp2_with fail;obtain⟨e1,e2,e3⟩:=HW.out;have hfb:=aB9 HKK.out 0 (maL ds y r++[maC ds y r]);rw[<- HF.out]at hfb;refine(aH8 k 0 cs.size (ds.length+1) _ _ 165 _ e3 (by omega) (by omega) e2 hfb (aI9 _ _ _ (by omega))).mono ?_;rintro e w3 ⟨rfl,rfl⟩;have HFB:=hiD hfb;clear e1 e2 e3 hfb;go_wp2_with fail;go_ret;obtain⟨e1,e2,e3⟩:=HW.out;refine aJ0 HO.out ?_ ?_
  ·rw[HF.out];exact aE6 (Kept.refl _ _) k 0 _ (fun _=>rfl)
  ·have:=aK0 HFB.out e2 e1 (aI9 _ _ _ (by omega)) (by rw[aB1];omega) (by rw[aB1];omega) (by rw[aB1];omega);rw[aB1]at this;rw[e1];exact this
theorem aB6{w:World}{v:Value}{n:Nat}{b:Option Nat}(h:NatAt w v n b):∃ a c,v=.slice a (dig n).length c:=by
 cases b with
 | none=>exact⟨none,0,by rw[h.1,h.2,aC4];rfl⟩
 | some k=>obtain⟨cs,h,_⟩:=h;exact⟨_,_,h⟩
theorem bZ4(s:Option Addr)(az:Option Addr)(lz cz:Nat)(a:Option Addr)(L c:Nat)(a2:Option Addr)(c2:Nat)(w:World):
  Calls prog 139 #[.slice az lz cz,.pointer s,.slice a L c,.slice a2 0 c2] w fun e w'=>e=.returned (.slice az 0 cz)/\w=w':=by
 have a2:decide ((L:Int)<0)=false:=decF (by omega);by_cases hL:L=0
 ·subst hL;go_enter func139,ntmps139;go_wp2_with fail;go_ret;exact⟨rfl,rfl⟩
 ·have a1:((L:Int)==0)=false:=beqF (by omega);go_enter func139,ntmps139;go_wp2_with fail;go_ret;exact⟨rfl,rfl⟩
theorem aX3(s:Option Addr)(z x y:Value)(bz bx by_:Option Nat)(n m:Nat)(w:World)(hz:BufAt w z bz)(hx:NatAt w x n bx)(hy:NatAt w y m by_)(hm0:m≠0)(hm:m<B64)(hn:Sm n):
  Calls prog 139 #[z,.pointer s,x,y] w (aH4 w bz (n*m)):=by
 have em:=aH5 hm0 hm;obtain⟨ky,cy,rfl,rfl,hk,hl,hp,hs,hh⟩:=aF2 hy hm0;have cy0:w.cell? ⟨ky,0,none⟩=some (.int .u64 ((m:Nat):Int)):=by
  rw[aA2 hk];have:=hh 0 (by rw[em];simp);rw[em]at this;exact this
 rw[em]at *;simp only[List.length_cons,List.length_nil,Nat.zero_add]at *;by_cases h0:n=0
 ·subst h0;obtain⟨a,c,rfl⟩:=aJ9 hx;have HX:=hiD hx;obtain⟨az,lz,cz,rfl,hz2⟩:=aH7 hz;rw[Nat.zero_mul];have HZ:=hiD hz2;clear hx hz hz2 hk hh em hy;go_enter func139,ntmps139;go_wp2_with fail;refine(bZ4 s az lz cz _ 1 _ a c _).mono ?_;rintro e w1 ⟨rfl,rfl⟩;go_wp2_with fail;go_ret;exact⟨_,bz,rfl,HZ.out,Kept.refl _ _,Or.inl rfl⟩
 ·have hpos:=aB3 h0;obtain⟨a,c,rfl⟩:=aB6 hx;have HX:=hiD hx;have HZ:=hiD hz;have HN:=hiD hn;have HM:=hiD hm;clear hx hz hk hh em hy hn hm;have a1:(((dig n).length:Int)==0)=false:=beqF (by omega);generalize hL:(dig n).length=L at *;have HL:=hiD hL;clear hL;have a2:decide ((L:Int)<1)=false:=decF (by omega);go_enter func139,ntmps139;go_wp2_with fail;refine(aS6 z _ bz bx n m 0 _ HZ.out HX.out HM.out aA6 HN.out).mono ?_;rintro e w1 ⟨v',b',rfl,h⟩;have H:=hiD h;clear h;go_wp2_with fail;go_ret;exact⟨v',b',rfl,by have:=H.out;rwa[Nat.add_zero]at this⟩
theorem aX4(s:Option Addr)(z x y:Value)(bz bx by_:Option Nat)(n m:Nat)(w:World)(hz:BufAt w z bz)(hx:NatAt w x n bx)(hy:NatAt w y m by_)(hn0:n≠0)(hn:n<B64)(hm:Sm m):
  Calls prog 139 #[z,.pointer s,x,y] w (aH4 w bz (n*m)):=by
 by_cases h1:m<B64
 ·by_cases hm0:m=0
  ·subst hm0;obtain⟨a,c,rfl⟩:=aJ9 hy;obtain⟨a',c',rfl⟩:=aB6 hx;obtain⟨az,lz,cz,rfl,hz2⟩:=aH7 hz;refine(bZ4 s az lz cz _ _ _ a c w).mono ?_;rintro e w1 ⟨rfl,rfl⟩;exact⟨_,bz,rfl,by rw[Nat.mul_zero];exact hz2,Kept.refl _ _,Or.inl rfl⟩
  ·exact aX3 s z x y bz bx by_ n m w hz hx hy hm0 h1 (Sm.one hn)
 ·have HW:=hiD (aX3 s z y x bz by_ bx m n w hz hy hx hn0 hn hm);have e1:=aH5 hn0 hn;obtain⟨a,c,rfl⟩:=aB6 hx;obtain⟨a',c',rfl⟩:=aB6 hy;rw[e1]at HW ⊢;have hlt:1<(dig m).length:=by
   have:=(aV9 (n:=m)).1;rcases Nat.lt_or_ge 1 (dig m).length with h|h
   ·exact h
   ·exact absurd (this h) h1
  clear hx hy hz e1 h1 hm;generalize(dig m).length=L at *;have a1:decide ((1:Int)<(L:Int))=true:=decT (by omega);go_enter func139,ntmps139;go_wp2_with fail;refine HW.out.mono ?_;rintro e w1 ⟨v',b',rfl,h⟩;have H:=hiD h;clear h;go_wp2_with fail;go_ret;exact⟨v',b',rfl,by have:=H.out;rwa[Nat.mul_comm]at this⟩
theorem cF7(s:Option Addr)(z x:Value)(bz bx:Option Nat)(n:Nat)(w:World)(hz:BufAt w z bz)(hx:NatAt w x n bx)(hn0:n≠0)(hn:n<B64):
  Calls prog 138 #[z,.pointer s,x] w (aH4 w bz (n*n)):=by
 have em:=aH5 hn0 hn;obtain⟨ky,cy,rfl,rfl,hk,hl,hp,hs,hh⟩:=aF2 hx hn0;have cy0:w.cell? ⟨ky,0,none⟩=some (.int .u64 ((n:Nat):Int)):=by
  rw[aA2 hk];have:=hh 0 (by rw[em];simp);rw[em]at this;exact this
 rw[em]at *;simp only[List.length_cons,List.length_nil,Nat.zero_add]at *;have HZ:=hiD hz;have HN:=hiD hn;clear hx hz hk hh em hn hn0;go_enter func138,ntmps138;go_wp2_with fail;refine(aH2 z bz 2 _ HZ.out (by omega) (by omega)).mono ?_;rintro e w1 ⟨k,cs,rfl,hk,hn,hp',hs',hown⟩;have c1:w1.cell? ⟨k,1,none⟩=some (cs[1]):=by rw[aA2 hk];exact Array.getElem?_eq_getElem hn
 have c0:w1.cell? ⟨k,0,none⟩=some (cs[0]):=by rw[aA2 hk];exact Array.getElem?_eq_getElem hp'
 have f1:=aA1 hk 1;have f0:=aA1 hk 0;have HO:=hiD hown;have HKK:=hiD hk;clear hown hk;go_wp2_with fail;refine(bS0 n n HN.out HN.out _).mono ?_;rintro e w2 ⟨rfl,rfl⟩;go_wp2_with fail;have hlt:∀ x∈[mwL n n 0,mwH n n 0],x<B64:=by
  intro x hx;simp at hx;rcases hx with h|h<;>subst h
  ·exact aR5 _ _ _
  ·exact cE9 HN.out HN.out aA6
 have hv:val [mwL n n 0,mwH n n 0]=n*n:=by
  have:=bK4 n n 0;simp only[val];omega
 have hb1:=aA3 HKK.out 1 (.int .u64 ((mwH n n 0:Nat):Int));have hb2:=aA3 hb1 0 (.int .u64 ((mwL n n 0:Nat):Int));have hh2:Has ((cs.setIfInBounds 1 (.int .u64 ((mwH n n 0:Nat):Int))).setIfInBounds 0 (.int .u64 ((mwL n n 0:Nat):Int))) 0 [mwL n n 0,mwH n n 0]:=by
  intro i hi;simp at hi;have:i=0\/i=1:=by omega
  rcases this with h|h<;>subst h
  ·rw[Array.getElem?_setIfInBounds,if_pos rfl,if_pos (by simp;omega)];rfl
  ·rw[Array.getElem?_setIfInBounds,if_neg (by omega),Array.getElem?_setIfInBounds,if_pos rfl,if_pos (by omega)];rfl
 refine(aH8 k 0 cs.size 2 _ _ 165 _ rfl (by omega) hn hlt hb2 hh2).mono ?_;rintro e w3 ⟨rfl,rfl⟩;have HV:=hiD hv;have HLT:=hiD hlt;have HB2:=hiD hb2;have HH2:=hiD hh2;clear hv hlt hb1 hb2 hh2;go_wp2_with fail;go_ret;refine aJ0 HO.out (((Kept.refl (fun i=>i=k) w1).setCell ⟨k,1,none⟩ _ (fun _=>rfl)).setCell ⟨k,0,none⟩ _ (fun _=>rfl)) ?_;have:=aK0 HB2.out HLT.out HV.out HH2.out (by simp;omega) (by simp;omega) (by simp;omega);rw[HV.out]
 simpa using this
theorem Drew.natAt{w w':World}{v:Value}{n:Nat}{b:Option Nat}(h:Drew w w')(hv:NatAt w v n b):NatAt w' v n b:=hv.move fun k _=>by rw[h.heap]
def quoN(a b:Nat):Nat:=a/b
def remN(a b:Nat):Nat:=a%b
theorem bJ6(lo y:Nat)(hl:lo<B64)(hy:y<B64)(h0:y≠0)(w:World):
  Calls prog 288 #[.int .u64 0,.int .u64 lo,.int .u64 y] w fun e w'=>e=.returned (.tuple #[.int .u64 ((quoN lo y:Nat):Int),.int .u64 ((remN lo y:Nat):Int)])/\Drew w w':=by
 have a1:((y:Int)==0)=false:=beqF (by omega);have a2:decide ((y:Int)<=0)=false:=decF (by omega);have b1:0<=(lo:Int):=by omega
 have b2:0<(y:Int):=by omega
 have b3:1<=(y:Int):=by omega
 unfold B64 at hl hy;go_enter func288,ntmps288;go_wp2_with fail
 go_quiet (fail)
 go_wp2_with fail;go_ret2;refine⟨?_,Drew.step (Drew.refl _) _⟩;have c1:lo/y<18446744073709551616:=Nat.lt_of_le_of_lt (Nat.div_le_self _ _) hl;have c2:lo%y<18446744073709551616:=Nat.lt_of_le_of_lt (Nat.mod_le _ _) hl;have d1:((lo:Int)/(y:Int))=((lo/y:Nat):Int):=(Int.natCast_ediv _ _).symm;have d2:((lo:Int)%(y:Int))=((lo%y:Nat):Int):=(Int.natCast_emod _ _).symm;have d3:IntKind.u64.wrap ((lo:Int)/(y:Int))=((lo/y:Nat):Int):=by
  rw[IntKind.wrap_u64,d1];generalize lo/y=q at c1;omega
 simp[quoN,remN,d3]
theorem bS3(lo y:Nat)(hl:lo<B64)(hy:y<B64)(h0:y≠0)(w:World):
  Calls prog 274 #[.int .u64 0,.int .u64 lo,.int .u64 y] w fun e w'=>e=.returned (.tuple #[.int .u64 ((quoN lo y:Nat):Int),.int .u64 ((remN lo y:Nat):Int)])/\Drew w w':=by
 go_enter func274,ntmps274;go_wp2_with fail;refine(bJ6 lo y hl hy h0 _).mono ?_;rintro e w' ⟨rfl,n,rfl⟩;go_wp2_with fail;go_ret2;exact⟨rfl,n,rfl⟩
theorem cL2(zb xb:Nat)(zc xc:Nat)(x y:Nat)(cz cx:Array Value)(w:World)(hx:x<B64)(hy:y<B64)(h0:y≠0)(hz:w.heap[zb]? = some (.cells cz 165 (0,0)))(hzp:0<cz.size)(hxb:w.heap[xb]? = some (.cells cx 165 (0,0)))(hxc:Has cx 0 [x]):
  Calls prog 249 #[.slice (some ⟨zb,0,none⟩) 1 zc,.int .u64 0,.slice (some ⟨xb,0,none⟩) 1 xc,.int .u64 y] w fun e w' =>
   e=.returned (.int .u64 ((remN x y:Nat):Int))/\∃ n,w'=(aB2 w zb 0 [quoN x y]).drewN n:=by
 have c1:w.cell? ⟨xb,0,none⟩=some (.int .u64 (x:Int)):=by rw[aA2 hxb];exact hxc 0 (by simp)
 have c2:w.cell? ⟨zb,0,none⟩=some (cz[0]):=by rw[aA2 hz];exact Array.getElem?_eq_getElem hzp
 have f2:=aA1 hz 0;clear hz hxb hxc;go_enter func249,ntmps249;go_wp2_with fail;refine(bS3 x y hx hy h0 _).mono ?_;rintro e w' ⟨rfl,n,rfl⟩;go_wp2_with fail;go_ret;exact⟨rfl,n,rfl⟩
def DivW(w:World)(b:Option Nat)(q r:Nat)(e:Ending)(w':World):Prop :=
 ∃ v' b',e=.returned (.tuple #[v',.int .u64 (r:Int)])/\NatAt w' v' q b'/\Kept (fun k=>b=some k) w w'/\Own w b b'
theorem bA6(z x:Value)(bz bx:Option Nat)(n y:Nat)(w:World)(hz:BufAt w z bz)(hx:NatAt w x n bx)(hn:n<B64)(hy:y<B64)(hy0:y≠0):
  Calls prog 223 #[z,x,.int .u64 y] w (DivW w bz (quoN n y) (remN n y)):=by
 have a0:((y:Int)==0)=false:=beqF (by omega);by_cases h1:y=1
 ·subst h1;have e1:quoN n 1=n:=Nat.div_one n;have e2:remN n 1=0:=Nat.mod_one n;rw[e1,e2];have HZ:=hiD hz;have HX:=hiD hx;obtain⟨a,c,rfl⟩:=aB6 hx;clear hz hx e1 e2;generalize hL:(dig n).length=L at *;clear hL;go_enter func223,ntmps223;go_wp2_with fail;refine(aW2 z _ bz bx n _ HZ.out HX.out (Sm.one hn)).mono ?_;rintro e w1 ⟨v',b',rfl,h⟩;have H:=hiD h;clear h;go_wp2_with fail;go_ret2;exact⟨v',b',rfl,H.out⟩
 ·have a1:((y:Int)==1)=false:=beqF (by omega);by_cases h0:n=0
  ·subst h0;obtain⟨a,c,rfl⟩:=aJ9 hx;obtain⟨az,lz,cz,rfl,hz2⟩:=aH7 hz;have e1:quoN 0 y=0:=Nat.zero_div y;have e2:remN 0 y=0:=Nat.zero_mod y;rw[e1,e2];have HZ:=hiD hz2;clear hx hz hz2 e1 e2;go_enter func223,ntmps223;go_wp2_with fail;go_ret2;exact⟨_,bz,rfl,HZ.out,Kept.refl _ _,Or.inl rfl⟩
  ·have em:=aH5 h0 hn;obtain⟨kx,cx,rfl,rfl,hk,hl,hp,hs,hh⟩:=aF2 hx h0;rw[em]at hh ⊢;have HZ:=hiD hz;have HK:=hiD hk;have HH:=hiD hh;have HN:=hiD hn;clear hx hz hk hh em hl hn;simp only[List.length_cons,List.length_nil,Nat.zero_add];go_enter func223,ntmps223;go_wp2_with fail;refine(aH2 z bz 1 _ HZ.out (by omega) (by omega)).mono ?_;rintro e w1 ⟨k,cs,rfl,hk,hn,hp',hs',hown⟩;have hk1:=aE2 hown HK.out;have HO:=hiD hown;have HK1:=hiD hk1;have HKK:=hiD hk;clear hown hk1 hk;go_wp2_with fail;refine(cL2 k kx cs.size cx.size n y cs cx _ HN.out hy hy0 HKK.out hp' HK1.out HH.out).mono ?_;rintro e w2 ⟨rfl,nq,rfl⟩;have hq:quoN n y<B64:=Nat.lt_of_le_of_lt (Nat.div_le_self _ _) HN.out;have hlt:∀ x∈[quoN n y],x<B64:=by intro x hx;simp at hx;subst hx;exact hq
   have hb:=aB9 HKK.out 0 [quoN n y];have hbh:=aI9 cs 0 [quoN n y] (by simp only[List.length_cons,List.length_nil];omega);have HB:=hiD hb;have HBH:=hiD hbh;have HLT:=hiD hlt;have HPK:=hiD (aE6 (Kept.refl (fun i=>i=k) w1) k 0 [quoN n y] (fun _=>rfl));clear hb hbh hlt;generalize aB2 w1 k 0 [quoN n y]=w2 at *;go_wp2_with fail;refine(aH8 k 0 cs.size 1 [quoN n y] _ 165 (w2.drewN nq) rfl (by omega) hn HLT.out HB.out HBH.out).mono ?_;rintro e w3 ⟨rfl,rfl⟩;go_wp2_with fail;go_ret2;have:=aK0 (w:=w2.drewN nq) HB.out HLT.out rfl HBH.out (by rw[aB1];simp only[List.length_cons,List.length_nil];omega) (by rw[aB1];exact hp') (by rw[aB1];exact hs');rw[aB1]at this;have hv:val [quoN n y]=quoN n y:=by simp[val]
   obtain⟨v1,b1,e1,h1',h2',h3'⟩:=aJ0 (w:=w) (v:=.slice (some ⟨k,0,none⟩) (dig (val [quoN n y])).length cs.size) HO.out (HPK.out.drewN nq) this;injection e1 with e1;subst e1;rw[hv]at h1';exact⟨_,b1,rfl,h1',h2',h3'⟩
def QR(w:World)(b b2:Option Nat)(q r:Nat)(e:Ending)(w':World):Prop :=
 ∃ vq bq vr br,e=.returned (.tuple #[vq,vr])/\NatAt w' vq q bq/\NatAt w' vr r br/\Kept (fun k=>b=some k\/b2=some k) w w'/\Own w b bq/\Own w b2 br/\(∀ k,bq=some k->br≠some k)
theorem cS3{w w1:World}{b b2 bq br:Option Nat}(h:Own w b bq)(hq:∀ k,bq=some k->k<w1.heap.size)(h2:Own w1 b2 br)(hb:∀ k,b=some k->b2≠some k)(hb2:∀ k,b2=some k->k<w.heap.size):∀ k,bq=some k->br≠some k:=by
 intro k hk hr;rcases h2 with h2|⟨j,hj,hjs⟩
 ·rcases h with h|⟨i,hi,his⟩
  ·exact hb k (by rw[<- h,hk]) (by rw[<- h2,hr])
  ·have e1:k=i:=by rw[hk]at hi;exact Option.some.inj hi
   have:=hb2 k (by rw[<- h2,hr]);omega
 ·have e1:k=j:=by rw[hr]at hj;exact Option.some.inj hj
  have:=hq k hk;omega
theorem NatAt.lts{w:World}{v:Value}{n:Nat}{b:Option Nat}(h:NatAt w v n b):∀ k,b=some k->k<w.heap.size:=by
 intro k hk;subst hk;exact h.lt
theorem BufAt.lts{w:World}{v:Value}{b:Option Nat}(h:BufAt w v b):∀ k,b=some k->k<w.heap.size:=by
 intro k hk;subst hk;exact h.lt
theorem aQ2(s:Option Addr)(z z2 u v:Value)(bz bz2 bu bv:Option Nat)(n m:Nat)(w:World)(hz:BufAt w z bz)(hz2:BufAt w z2 bz2)(hv:NatAt w v m bv)(hu:NatAt w u n bu)(hm:m<B64)(hm0:m≠0)(hap:∀ k,bz=some k->bz2≠some k)(hd:Calls prog 223 #[z,u,.int .u64 m] w (DivW w bz (quoN n m) (remN n m))):
  Calls prog 196 #[z,.pointer s,z2,u,v] w (QR w bz bz2 (quoN n m) (remN n m)):=by
 have em:=aH5 hm0 hm;obtain⟨ky,cy,rfl,rfl,hk,hl,hp,hs,hh⟩:=aF2 hv hm0;have cy0:w.cell? ⟨ky,0,none⟩=some (.int .u64 ((m:Nat):Int)):=by
  rw[aA2 hk];have:=hh 0 (by rw[em];simp);rw[em]at this;exact this
 rw[em]at *;simp only[List.length_cons,List.length_nil,Nat.zero_add]at *;have HZ2:=hiD hz2;have HD:=hiD hd;have HAP:=hiD hap;have hr:remN n m<B64:=Nat.lt_of_lt_of_le (Nat.mod_lt _ (by omega)) (by omega);clear hz hz2 hu hv hk hh em hd hap;go_enter func196,ntmps196;go_wp2_with fail;refine HD.out.mono ?_;rintro e w1 ⟨vq,bq,rfl,hq,hkq,hoq⟩;have hz2':BufAt w1 z2 bz2:=HZ2.out.kept hkq (fun k hk h=>HAP.out k h hk);have HQ:=hiD hq;have HKQ:=hiD hkq;have HOQ:=hiD hoq;have HZ2':=hiD hz2';clear hq hkq hoq hz2';go_wp2_with fail;refine(aQ0 z2 bz2 _ hr _ HZ2'.out).mono ?_;rintro e w2 ⟨vr,br,rfl,hr,hkr,hor⟩;have HR:=hiD hr;have HKR:=hiD hkr;have HOR:=hiD hor;clear hr hkr hor;go_wp2_with fail;go_ret2;have hsz:=HKQ.out.size;refine⟨vq,bq,vr,br,rfl,HQ.out.kept HKR.out ?_,HR.out,HKQ.out.trans HKR.out (fun _ _ h=>Or.inl h) (fun _ _ h=>Or.inr h),HOQ.out,?_,cS3 HOQ.out HQ.out.lts HOR.out HAP.out HZ2.out.lts⟩
 ·intro k hk h;rcases HOQ.out with h1|⟨j,h1,h2⟩
  ·exact HAP.out k (by rw[<- h1,hk]) h
  ·have:k=j:=by rw[hk]at h1;exact Option.some.inj h1
   have:=HZ2.out.lts k h;omega
 ·rcases HOR.out with h1|⟨j,h1,h2⟩
  ·exact Or.inl h1
  ·exact Or.inr ⟨j,h1,by omega⟩
end Go.Proofs.YtjebnpkebccffaaGreatDoor
