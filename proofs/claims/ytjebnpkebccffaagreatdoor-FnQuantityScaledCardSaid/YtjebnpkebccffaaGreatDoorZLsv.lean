import Derived.Test.YtjebnpkebccffaaGreatDoorZDvg
import Derived.Deep.AppendSrc
import Derived.Deep.Upon
set_option linter.unusedSimpArgs false
set_option linter.unusedVariables false
set_option linter.unusedSectionVars false
set_option maxRecDepth 100000
set_option maxHeartbeats 8000000
namespace Go.Proofs.YtjebnpkebccffaaGreatDoor
open Go.RowKit Go.Proofs.Tryz
def Put(w:World)(b:Nat)(cs:Array Value)(T:TypeId)(w':World):Prop:=w'.heap[b]? = some (.cells cs T (0,0))/\Kept (fun i=>i=b) w w'
theorem cH4(cs:Array Value)(o x:Nat)(l:List Nat):(putC cs (o+1) l).setIfInBounds o (.int .u64 (x:Int))=putC cs o (x::l):=by
 rw[putC,bU2 _ _ _ _ _ (Nat.lt_succ_self o)]
theorem aY9{m j x:Nat}(h:j<m):(wds m x).drop j=(x/B64^j%B64)::(wds m x).drop (j+1):=by
 rw[cH0 (by omega),cH0 (by omega),show m-j=(m-(j+1))+1 by omega];show _::wds (m-(j+1)) (x/B64^j/B64)=_;rw[Nat.div_div_eq_div_mul,<- Nat.pow_succ]
theorem cA7(x j:Nat):x/B64^j%B64<B64:=Nat.mod_lt _ aA6
theorem cU8{a b s:Nat}(hb:b<2^s)(hs:s<64):bits BinOp.or IntKind.u64 ((a*2^s%B64:Nat):Int) (b:Int)=((a*2^s%B64+b:Nat):Int):=by
 have h:=(bG8 (a:=a) hs (Nat.pow_pos (by omega):0<2^s));rw[h.2.1];exact bU5 _ _ _ hb (by have:=h.2.1;have h2:a*2^s%B64<B64:=Nat.mod_lt _ aA6;rw[this]at h2;exact h2) hs
theorem bU7{a b:Nat}(ha:a<B64)(hb:b<B64):bits BinOp.or IntKind.u64 (a:Int) (b:Int)=bits BinOp.or IntKind.u64 (b:Int) (a:Int):=by
 rw[bits_or_u64_nat a b ha hb,bits_or_u64_nat b a hb ha,Nat.or_comm]
theorem cA8(a k:Nat):(a:Int)/2^k=((a/2^k:Nat):Int):=by rw[Int.natCast_ediv,Int.natCast_pow];rfl
theorem bN9(a k:Nat):IntKind.u64.wrap ((a:Int)*2^k)=((a*2^k%B64:Nat):Int):=by
 rw[IntKind.wrap_u64,Int.natCast_emod,Int.natCast_mul,Int.natCast_pow];rfl
theorem cA9(zb zo zc xb xo xc m s X:Nat)(cz cx:Array Value)(Tz Tx:TypeId)(w:World)(h1:1<=s)(h2:s<64)(hm:1<=m)(hm1:m<=100000)(hX:X<B64^m)(hz:w.heap[zb]? = some (.cells cz Tz (0,0)))(hzo:zo+m<=cz.size)(hx:w.heap[xb]? = some (.cells cx Tx (0,0)))(hxc:Has cx xo (wds m X))(hne:zb≠xb):
  Calls prog 166 #[.slice (some ⟨zb,zo,none⟩) m zc,.slice (some ⟨xb,xo,none⟩) m xc,.int .u64 (s:Int)] w fun e w'=>e=.returned (.int .u64 ((X*2^s/B64^m:Nat):Int))/\Put w zb (putC cz zo (wds m (X*2^s))) Tz w':=by
 have hread:∀ wr:World,Kept (fun i=>i=zb) w wr->∀ j,j<m->wr.cell? ⟨xb,xo+j,none⟩=some (.int .u64 ((X/B64^j%B64:Nat):Int)):=by
  intro wr hk j hj;rw[aA2 (hk.at hx (fun e=>hne e.symm)),hxc j (by rw[aA9];exact hj),aD7 _ _ _ hj]
 have hc0:=hread w (Kept.refl _ _) (m-1) (by omega);obtain⟨k,hk⟩:∃ k,m=k+1:=⟨m-1,by omega⟩;have hcar:X/B64^k%B64/2^(64-s)=X*2^s/B64^m:=by
  rw[hk,cU4 h2,<- hk,Nat.div_eq_of_lt hX,Nat.zero_mul,Nat.zero_add]
 rw[show m-1=k by omega]at hc0;have a1:((s:Int)==0)=false:=beqF (by omega);have a1':¬ s=0:=by omega
 have a2:((m:Int)==0)=false:=beqF (by omega);have a2':¬ m=0:=by omega
 have e1:=and63 s h2;have e2:=and63 (64-s) (by omega);have e0:IntKind.u64.wrap ((64:Int)-(s:Int))=((64-s:Nat):Int):=by rw[IntKind.wrap_u64];omega
 have e5:IntKind.i64.wrap ((m:Int)-1)=(k:Int):=by rw[IntKind.wrap_i64];omega
 have e6:min (64-s) 64=64-s:=by omega
 have e7:min s 64=s:=by omega
 have e3:((X/B64^k%B64:Nat):Int)/2^(64-s)=((X*2^s/B64^m:Nat):Int):=by rw[cA8,hcar]
 have hkm:k<m:=by omega
 have HR:=hiD hread;have HZ:=hiD hz;have HL:Hid (∀ i,i+1<m->X*2^s/B64^(i+1)%B64=X/B64^(i+1)%B64*2^s%B64+X/B64^i%B64/2^(64-s)/\X/B64^i%B64/2^(64-s)<2^s):=fun i _=>dE8 h2 i
 have HL0:Hid (X*2^s%B64=X%B64*2^s%B64):=bG7;have hstart:putC cz (zo+(k+1)) ((wds m (X*2^s)).drop (k+1))=cz:=by
  rw[<- hk,List.drop_of_length_le (by rw[aA9];exact Nat.le_refl _)];rfl
 have HST:=hiD hstart;have HS:=hiD h2;generalize X*2^s/B64^m=car at *;generalize hgk:X/B64^k%B64=xk at *;clear hx hxc hread hz hcar hstart hgk hX;go_enter func166,ntmps166;go_wp2_with fail
 go_loopw [8] (fun i wr=>∃ j:Nat,j<m/\i=.int .i64 (j:Int)/\Put w zb (putC cz (zo+(j+1)) ((wds m (X*2^s)).drop (j+1))) Tz wr) (fun i _=>(intOf i).toNat)
 case atStart=>exact⟨k,hkm,rfl,by rw[HST.out];exact HZ.out,Kept.refl _ _⟩
 case round =>
  obtain⟨j,hj,rfl,hp⟩:=hrel;have HP:=hiD hp;clear hp;by_cases h0:j=0
  ·subst h0;have c1:wr.cell? ⟨xb,xo,none⟩=some (.int .u64 ((X%B64:Nat):Int)):=by
    have:=HR.out wr HP.out.2 0 hj;rwa[Nat.pow_zero,Nat.div_one,Nat.add_zero]at this
   have hb:=HP.out.1;obtain⟨u,c2⟩:∃ u,wr.cell? ⟨zb,zo,none⟩=some u:=by
    rw[aA2 hb];exact⟨_,Array.getElem?_eq_getElem (by rw[aB1];omega)⟩
   have f2:=aA1 hb zo;have v1:IntKind.u64.wrap (((X%B64:Nat):Int)*2^s)=((X*2^s%B64:Nat):Int):=by rw[bN9,<- HL0.out]
   have hfin:Put w zb (putC cz zo (wds m (X*2^s))) Tz (wr.setCell ⟨zb,zo,none⟩ (.int .u64 ((X*2^s%B64:Nat):Int))):=by
    refine⟨?_,HP.out.2.setCell _ _ (fun _=>rfl)⟩;rw[aA3 hb zo _,cH4];have:=aY9 (x:=X*2^s) hj;rw[List.drop_zero,Nat.pow_zero,Nat.div_one]at this;exact congrArg (fun l=>some (Obj.cells (putC cz zo l) Tz (0,0))) this.symm
   have HF:=hiD hfin;generalize X*2^s%B64=y0 at *;generalize X%B64=x0 at *;clear hb hfin;go_wp2_with fail;go_ret;exact⟨rfl,HF.out⟩
  ·obtain⟨i,rfl⟩:∃ i,j=i+1:=⟨j-1,by omega⟩;obtain⟨j,hje⟩:∃ j,j=i+1:=⟨_,rfl⟩;have hb:=HP.out.1;have hk:=HP.out.2;obtain⟨l1,l2⟩:=HL.out i hj;have hdc:=aY9 (x:=X*2^s) hj;have c1:wr.cell? ⟨xb,xo+(i+1),none⟩=some (.int .u64 ((X/B64^(i+1)%B64:Nat):Int)):=HR.out wr hk (i+1) hj;have c2:wr.cell? ⟨xb,xo+i,none⟩=some (.int .u64 ((X/B64^i%B64:Nat):Int)):=HR.out wr hk i (by omega);have v2:((X/B64^i%B64:Nat):Int)/2^(64-s)=((X/B64^i%B64/2^(64-s):Nat):Int):=cA8 _ _;have v1:IntKind.u64.wrap (((X/B64^(i+1)%B64:Nat):Int)*2^s)=((X/B64^(i+1)%B64*2^s%B64:Nat):Int):=bN9 _ _;have v3:bits BinOp.or IntKind.u64 ((X/B64^(i+1)%B64*2^s%B64:Nat):Int) ((X/B64^i%B64/2^(64-s):Nat):Int)=((X*2^s/B64^(i+1)%B64:Nat):Int):=by rw[cU8 l2 HS.out,<- l1]
   obtain⟨u,c3⟩:∃ u,wr.cell? ⟨zb,zo+(i+1),none⟩=some u:=by
    rw[aA2 hb];exact⟨_,Array.getElem?_eq_getElem (by rw[aB1];omega)⟩
   have f3:=aA1 hb (zo+(i+1));have hfin:Put w zb (putC cz (zo+(i+1)) ((wds m (X*2^s)).drop (i+1))) Tz (wr.setCell ⟨zb,zo+(i+1),none⟩ (.int .u64 ((X*2^s/B64^(i+1)%B64:Nat):Int))).drew:=by
    refine⟨?_,(hk.setCell _ _ (fun _=>rfl)).drew⟩;show(wr.setCell ⟨zb,zo+(i+1),none⟩ _).heap[zb]? = _;rw[aA3 hb _ _,<- Nat.add_assoc,cH4];rw[Nat.add_assoc,<- hdc]
   have HF:=hiD hfin;have HF2:Hid (i<m):=by show i<m;omega
   generalize X*2^s/B64^(i+1)%B64=y1 at *;generalize X/B64^(i+1)%B64*2^s%B64=z1 at *;generalize X/B64^i%B64/2^(64-s)=z0 at *;generalize X/B64^(i+1)%B64=x1 at *;generalize X/B64^i%B64=x0 at *;rw[<- hje]at c1 c3 f3 hj ⊢;rw[<- hje]at HF;have w1:IntKind.i64.wrap ((j:Int)-1)=(i:Int):=by rw[IntKind.wrap_i64];omega
   have w2:decide (0<(j:Int))=true:=decT (by omega);have w3:decide (0<j)=true:=decT (by omega);have w4:i<m:=by omega
   have w5:0<j:=by omega
   have d1:wr.drew.cell? ⟨xb,xo+j,none⟩=some (.int .u64 (x1:Int)):=c1;have d2:wr.drew.cell? ⟨xb,xo+i,none⟩=some (.int .u64 (x0:Int)):=c2;have d3:wr.drew.cell? ⟨zb,zo+j,none⟩=some u:=c3;have d4:wr.drew.frozen? ⟨zb,zo+j,none⟩=false:=f3;have HM:Hid (i<j):=by show i<j;omega
   have HJ:=hiD hje;clear hb hk l1 l2 hdc hfin hje h0;go_wp2_with fail
   go_region
   go_wp2_with fail;go_roundw
   case rel=>exact⟨i,HF2.out,rfl,by rw[<- HJ.out];exact HF.out⟩
   case measure=>simp[intOf];exact HM.out
theorem bU8(zb zo zc xb xo xc m s X:Nat)(cz cx:Array Value)(Tz Tx:TypeId)(w:World)(h1:1<=s)(h2:s<64)(hm:1<=m)(hm1:m<=100000)(hX:X<B64^m)(hz:w.heap[zb]? = some (.cells cz Tz (0,0)))(hzo:zo+m<=cz.size)(hx:w.heap[xb]? = some (.cells cx Tx (0,0)))(hxc:Has cx xo (wds m X))(hne:zb≠xb):
  Calls prog 136 #[.slice (some ⟨zb,zo,none⟩) m zc,.slice (some ⟨xb,xo,none⟩) m xc,.int .u64 (s:Int)] w fun e w'=>e=.returned (.int .u64 ((X*2^s/B64^m:Nat):Int))/\Put w zb (putC cz zo (wds m (X*2^s))) Tz w':=by
 have H:=hiD (cA9 zb zo zc xb xo xc m s X cz cx Tz Tx w h1 h2 hm hm1 hX hz hzo hx hxc hne);generalize X*2^s/B64^m=car at *;clear hz hx hxc hX hne;go_enter func136,ntmps136;go_wp2_with fail;refine H.out.mono ?_;rintro e w1 ⟨rfl,h⟩;have H1:=hiD h;clear h;go_wp2_with fail;go_ret;exact⟨rfl,H1.out⟩
theorem bH1(cs:Array Value)(o:Nat)(l:List Nat)(x:Nat):putC cs o (l++[x])=(putC cs o l).setIfInBounds (o+l.length) (.int .u64 (x:Int)):=by
 induction l generalizing cs o with
 | nil=>rfl
 | cons y l ih =>
  show putC (cs.setIfInBounds o _) (o+1) (l++[x])=_;rw[ih,List.length_cons,Nat.add_assoc,Nat.add_comm 1];rfl
theorem aZ0{m j x:Nat}(h:j<m):(wds m x).take (j+1)=(wds m x).take j++[x/B64^j%B64]:=by
 rw[bE7 (by omega),bE7 (by omega),bN8];rfl
theorem bU9(zb zo zc xc m s X:Nat)(cz:Array Value)(Tz:TypeId)(w:World)(h1:1<=s)(h2:s<64)(hm:1<=m)(hm1:m<=100000)(hX:X<B64^m)(hz:w.heap[zb]? = some (.cells cz Tz (0,0)))(hzo:zo+m<=cz.size)(hxc:Has cz zo (wds m X)):
  Calls prog 279 #[.slice (some ⟨zb,zo,none⟩) m zc,.slice (some ⟨zb,zo,none⟩) m xc,.int .u64 (s:Int)] w fun e w'=>(∃ c:Int,e=.returned (.int .u64 c))/\Put w zb (putC cz zo (wds m (X/2^s))) Tz w':=by
 have hcell:∀ j,j<m->cz[zo+j]? = some (.int .u64 ((X/B64^j%B64:Nat):Int)):=by
  intro j hj;rw[hxc j (by rw[aA9];exact hj),aD7 _ _ _ hj]
 have hread:∀(wr:World) (i:Nat),wr.heap[zb]? = some (.cells (putC cz zo ((wds m (X/2^s)).take i)) Tz (0,0))->∀ j,i<=j->j<m->wr.cell? ⟨zb,zo+j,none⟩=some (.int .u64 ((X/B64^j%B64:Nat):Int)):=by
  intro wr i h j hi hj;rw[aA2 h,aD8 _ _ _ _ (Or.inr (by rw[List.length_take,aA9];omega)),hcell j hj]
 have hc0:w.cell? ⟨zb,zo,none⟩=some (.int .u64 ((X%B64:Nat):Int)):=by
  have:=hcell 0 (by omega);rw[Nat.add_zero,Nat.pow_zero,Nat.div_one]at this;rw[aA2 hz,this]
 have a1:((s:Int)==0)=false:=beqF (by omega);have a1':¬ s=0:=by omega
 have a2:((m:Int)==0)=false:=beqF (by omega);have a2':¬ m=0:=by omega
 have e1:=and63 s h2;have e2:=and63 (64-s) (by omega);have e0:IntKind.u64.wrap ((64:Int)-(s:Int))=((64-s:Nat):Int):=by rw[IntKind.wrap_u64];omega
 have e6:min (64-s) 64=64-s:=by omega
 have e7:min s 64=s:=by omega
 have e3:IntKind.u64.wrap (((X%B64:Nat):Int)*2^(64-s))=((X%B64*2^(64-s)%B64:Nat):Int):=bN9 _ _;have HR:=hiD hread;have HZ:=hiD hz;have HL:Hid (∀ i,X/2^s/B64^i%B64=X/B64^(i+1)%B64*2^(64-s)%B64+X/B64^i%B64/2^s/\X/B64^i%B64/2^s<2^(64-s)):=fun i=>⟨(cH1 h2 i).1,(cH1 h2 i).2 (by omega)⟩;have HX0:Hid (X/B64^m=0):=Nat.div_eq_of_lt hX;have HS:=hiD (show 64-s<64/\s<64/\1<=s from⟨by omega,h2,h1⟩);generalize X%B64*2^(64-s)%B64=car at *;generalize X%B64=x0 at *;clear hxc hread hz hcell hX;go_enter func279,ntmps279;go_wp2_with fail
 go_loopw [8] (fun i wr=>∃ j:Nat,j<m/\i=.int .i64 ((j+1:Nat):Int)/\Put w zb (putC cz zo ((wds m (X/2^s)).take j)) Tz wr) (fun i _=>m-(intOf i).toNat)
 case atStart=>exact⟨0,by omega,rfl,HZ.out,Kept.refl _ _⟩
 case round =>
  obtain⟨i,hj,rfl,hp⟩:=hrel;have HP:=hiD hp;clear hp;obtain⟨j,hje⟩:∃ j,j=i+1:=⟨_,rfl⟩;have hb:=HP.out.1;have hk:=HP.out.2;obtain⟨l1,l2⟩:=HL.out i;have hsn:=aZ0 (x:=X/2^s) hj;have c2:wr.cell? ⟨zb,zo+i,none⟩=some (.int .u64 ((X/B64^i%B64:Nat):Int)):=HR.out wr i hb i (Nat.le_refl _) hj;have v2:((X/B64^i%B64:Nat):Int)/2^s=((X/B64^i%B64/2^s:Nat):Int):=cA8 _ _;have f3:=aA1 hb (zo+i);have hlen:((wds m (X/2^s)).take i).length=i:=by rw[List.length_take,aA9];omega
  have hnew:∀ y,y=X/2^s/B64^i%B64->(wr.setCell ⟨zb,zo+i,none⟩ (.int .u64 (y:Int))).heap[zb]? = some (.cells (putC cz zo ((wds m (X/2^s)).take (i+1))) Tz (0,0)):=by
   intro y hy;rw[aA3 hb _ _,hsn,bH1,hlen,hy]
  by_cases h0:i+1=m
  ·have l3:X/2^s/B64^i%B64=X/B64^i%B64/2^s:=by
    rw[l1,h0,HX0.out];simp
   have hfin:Put w zb (putC cz zo (wds m (X/2^s))) Tz (wr.setCell ⟨zb,zo+i,none⟩ (.int .u64 ((X/B64^i%B64/2^s:Nat):Int))):=by
    refine⟨?_,hk.setCell _ _ (fun _=>rfl)⟩;rw[hnew _ l3.symm,h0,List.take_of_length_le (by rw[aA9];exact Nat.le_refl _)]
   have HF:=hiD hfin;generalize X/B64^i%B64/2^s=y0 at *;generalize X/B64^i%B64=xi at *;have w1:IntKind.i64.wrap ((m:Int)-1)=(i:Int):=by rw[IntKind.wrap_i64];omega
   have w4:i<m:=by omega
   rw[<- hje]at h0 ⊢;subst h0;have w2:decide (j<j)=false:=decF (by omega);clear hb hk hsn hfin l1 l2 l3 hnew hlen hje;go_wp2_with fail;go_ret;exact⟨⟨_,rfl⟩,HF.out⟩
  ·have hj2:i+1<m:=by omega
   have c1:wr.cell? ⟨zb,zo+(i+1),none⟩=some (.int .u64 ((X/B64^(i+1)%B64:Nat):Int)):=HR.out wr i hb (i+1) (by omega) hj2;have v1:IntKind.u64.wrap (((X/B64^(i+1)%B64:Nat):Int)*2^(64-s))=((X/B64^(i+1)%B64*2^(64-s)%B64:Nat):Int):=bN9 _ _;have v3:bits BinOp.or IntKind.u64 ((X/B64^i%B64/2^s:Nat):Int) ((X/B64^(i+1)%B64*2^(64-s)%B64:Nat):Int)=((X/2^s/B64^i%B64:Nat):Int):=by
    rw[bU7 (Nat.lt_of_le_of_lt (Nat.div_le_self _ _) (cA7 X i)) (Nat.mod_lt _ aA6),cU8 l2 HS.out.1,<- l1]
   have hfin:Put w zb (putC cz zo ((wds m (X/2^s)).take (i+1))) Tz (wr.setCell ⟨zb,zo+i,none⟩ (.int .u64 ((X/2^s/B64^i%B64:Nat):Int))).drew :=
    ⟨hnew _ rfl,(hk.setCell _ _ (fun _=>rfl)).drew⟩
   have HF:=hiD hfin;generalize X/2^s/B64^i%B64=y1 at *;generalize X/B64^(i+1)%B64*2^(64-s)%B64=z1 at *;generalize X/B64^i%B64/2^s=z0 at *;generalize X/B64^(i+1)%B64=x1 at *;generalize X/B64^i%B64=xi at *;rw[<- hje]at c1 hj2 ⊢;have w1:IntKind.i64.wrap ((j:Int)-1)=(i:Int):=by rw[IntKind.wrap_i64];omega
   have w2:decide (j<m)=true:=decT (by omega);have w4:i<m:=by omega
   have w5:IntKind.i64.wrap ((j:Int)+1)=((j+1:Nat):Int):=by rw[IntKind.wrap_i64];omega
   have d1:wr.drew.cell? ⟨zb,zo+j,none⟩=some (.int .u64 (x1:Int)):=c1;have d2:wr.drew.cell? ⟨zb,zo+i,none⟩=some (.int .u64 (xi:Int)):=c2;have d4:wr.drew.frozen? ⟨zb,zo+i,none⟩=false:=f3;have HM:Hid (j<m):=hj2;have HJ:=hiD hje;clear hb hk hsn hfin l1 l2 hnew hlen hje h0;go_wp2_with fail
   go_region
   go_wp2_with fail;go_roundw
   case rel=>exact⟨j,HM.out,by simp,by rw[HJ.out];exact HF.out⟩
   case measure=>simp[intOf];have:=HM.out;omega
def HasI(cs:Array Value)(o:Nat)(l:List Nat):Prop:=∀ i,i<l.length->cs[o+i]? = some (.int .i64 (l.getD i 0:Nat))
def NsAt(w:World)(v:Value)(l:List Nat):Option Nat->Prop
 | none=>v=.slice none 0 0/\l=[]
 | some b=>∃ o cap cs,v=.slice (some ⟨b,o,none⟩) l.length cap/\l.length<=cap/\o+cap<=cs.size/\w.heap[b]? = some (.cells cs 3 (0,0))/\HasI cs o l
theorem NsAt.lt{w:World}{v:Value}{l:List Nat}{b:Option Nat}(h:NsAt w v l b):∀ k,b=some k->k<w.heap.size:=by
 intro k hk;subst hk;obtain⟨o,cap,cs,_,_,_,h,_⟩:=h;exact aB5 h
theorem NsAt.kept{S:Nat->Prop}{w w':World}{v:Value}{l:List Nat}{b:Option Nat}(h:NsAt w v l b)(hk:Kept S w w')(hs:∀ k,b=some k->¬ S k):NsAt w' v l b:=by
 cases b with
 | none=>exact h
 | some k =>
  obtain⟨o,cap,cs,h1,h2,h3,h4,h5⟩:=h;exact⟨o,cap,cs,h1,h2,h3,hk.at h4 (hs k rfl),h5⟩
theorem NsAt.old{w w':World}{v:Value}{l:List Nat}{b:Option Nat}(h:NsAt w v l b)(hk:Kept (fun _=>False) w w'):NsAt w' v l b:=h.kept hk (fun _ _ f=>f)
def putV(cs:Array Value)(o:Nat):List Value->Array Value
 | []=>cs
 | v::l=>putV (cs.setIfInBounds o v) (o+1) l
theorem cU9(cs:Array Value)(o:Nat)(l:List Value):(putV cs o l).size=cs.size:=by
 induction l generalizing cs o with
 | nil=>rfl
 | cons v l ih=>simp[putV,ih]
theorem dQ7(cs:Array Value)(o:Nat)(l:List Value)(i:Nat):(putV cs o l)[i]? = if o<=i/\i<o+l.length/\i<cs.size then l[i-o]? else cs[i]?:=by
 induction l generalizing cs o with
 | nil=>simp[putV];intro h1 h2;omega
 | cons v l ih =>
  simp only[putV,ih,List.length_cons,Array.size_setIfInBounds];by_cases h1:o+1<=i/\i<o+1+l.length/\i<cs.size
  ·rw[if_pos h1,if_pos (by omega),show i-o=(i-(o+1))+1 by omega,List.getElem?_cons_succ]
  ·rw[if_neg h1];by_cases h2:i=o
   ·subst h2;by_cases h3:i<cs.size
    ·rw[if_pos (by omega)];simp[h3]
    ·rw[if_neg (by omega)];simp[Array.getElem?_setIfInBounds,h3]
   ·rw[Array.getElem?_setIfInBounds,if_neg (fun e=>h2 e.symm),if_neg (by omega)]
theorem bJ8{w:World}{b:Nat}{cs:Array Value}{T:TypeId}{fz:Nat×Nat}(h:w.heap[b]? = some (.cells cs T fz))(o:Nat)(vs:List Value):(w.setCells b o vs).heap[b]? = some (.cells (putV cs o vs) T fz):=by
 induction vs generalizing w cs o with
 | nil=>exact h
 | cons v vs ih=>exact ih (aA3 h o v) (o+1)
theorem bO0{S:Nat->Prop}{w a:World}(h:Kept S w a)(b o:Nat)(vs:List Value)(hb:b<w.heap.size->S b):Kept S w (a.setCells b o vs):=by
 induction vs generalizing a o with
 | nil=>exact h
 | cons v vs ih=>exact ih (h.setCell _ _ hb) (o+1)
def iv(l:List Nat):List Value:=l.map fun d=>.int .i64 ((d:Nat):Int)
theorem cH5(l:List Nat)(i:Nat)(h:i<l.length):(iv l)[i]? = some (.int .i64 (l.getD i 0:Nat)):=by
 simp[iv,h,List.getD]
theorem dL3{w:World}{v:Value}{l:List Nat}{b:Option Nat}(h:NsAt w v l b):Src prog 1 28 v l.length (iv l) w:=by
 cases b with
 | none =>
  obtain⟨rfl,rfl⟩:=h;exact Src.ofNil w underlying28 0
 | some k =>
  obtain⟨o,cap,cs,rfl,h2,h3,h4,h5⟩:=h;refine Src.ofSlice w underlying28 ⟨k,o,none⟩ l.length cap (iv l) (by simp[iv]) (fun j u hj=>?_) (fun u hu=>?_)
  ·have hj':j<l.length:=by have:=(List.getElem?_eq_some_iff.1 hj).1;simpa[iv]using this
   rw[cH5 l j hj']at hj;injection hj with hj;have e:(⟨k,o,none⟩:Addr).add j=⟨k,o+j,none⟩:=by simp[Addr.add]
   rw[e,aA2 h4,h5 j hj',hj]
  ·simp only[iv,List.mem_map]at hu;obtain⟨d,_,rfl⟩:=hu;rfl
theorem Tryz.info3:(prog.info? 3).map (fun i=>(i.zero,i.size,i.bytes))=some (some (.int .i64 0),1,8):=by kernel_rfl
theorem aP1{w:World}{x y:Value}{xs ys:List Nat}{b c:Option Nat}(hx:NsAt w x xs b)(hy:NsAt w y ys c)(hlen:xs.length+ys.length<=1000000):
  ∃ r w' b',(∀ ty,(Builtin.append_ #[28,28] ty #[x,y]).run prog w=.ok r w')/\NsAt w' r (xs++ys) b'/\Kept (fun i=>b=some i) w w'/\Own w b b':=by
 obtain⟨i0,hi,hz0,hz1,hz2⟩:=info_parts Tryz.info3;have hsrc:=dL3 hy;cases ys with
 | nil =>
  have hle:∃ base l cap,x=.slice base l cap/\l<=cap:=by
   cases b with
   | none=>obtain⟨rfl,rfl⟩:=hx;exact⟨none,0,0,rfl,Nat.le_refl _⟩
   | some k=>obtain⟨o,cap,cs,rfl,h2,_⟩:=hx;exact⟨_,_,_,rfl,h2⟩
  obtain⟨base,l,cap,rfl,hle⟩:=hle;refine⟨_,w,b,fun ty=>run_append_nothing w 28 28 ty 3 i0 underlying28 hi base l cap hle y (by rw[hz1];exact hsrc),by simpa using hx,Kept.refl _ _,Or.inl rfl⟩
 | cons y0 yr =>
  generalize hys:y0::yr=ys at *;have hpos:0<ys.length:=by rw[<- hys];simp
  by_cases hroom:∃ k o cap cs,b=some k/\x=.slice (some ⟨k,o,none⟩) xs.length cap/\xs.length+ys.length<=cap/\o+cap<=cs.size/\w.heap[k]? = some (.cells cs 3 (0,0))/\HasI cs o xs
  ·obtain⟨k,o,cap,cs,rfl,rfl,h1,h2,h3,h4⟩:=hroom;have hl:(iv ys).length=ys.length:=by simp[iv]
   refine⟨_,_,some k,fun ty=>run_append_room_src w 28 28 ty 3 i0 underlying28 hi k o xs.length cap y ys.length (iv ys) (by rw[hz1];exact hsrc) h1 (fun j hj=>?_) (fun j hj=>aA1 h3 _),?_,?_,Or.inl rfl⟩
   ·rw[aA2 h3,hz1];have:o+xs.length+j<cs.size:=by omega
    simp[this]
   ·rw[hz1,Nat.mul_one];refine⟨o,cap,putV cs (o+xs.length) (iv ys),by simp,by simpa using h1,by rw[cU9];exact h2,bJ8 h3 _ _,fun i hi'=>?_⟩;simp only[List.length_append]at hi';rw[dQ7];by_cases hi2:i<xs.length
    ·rw[if_neg (by omega),h4 i hi2];simp[List.getD,List.getElem?_append_left hi2]
    ·rw[if_pos (by omega),show o+i-(o+xs.length)=i-xs.length by omega,cH5 _ _ (by omega)];simp[List.getD,List.getElem?_append_right (show xs.length<=i by omega)]
   ·exact bO0 (Kept.refl _ _) _ _ _ (fun _=>rfl)
  ·have hgrow:∃ base cap,x=.slice base xs.length cap/\cap<xs.length+ys.length/\(Builtin.firstCells i0.size xs.length x).run prog w.drew=.ok (iv xs).toArray w.drew:=by
    rw[hz1];cases b with
    | none =>
     obtain⟨rfl,rfl⟩:=hx;exact⟨none,0,rfl,by simpa using hpos,run_firstCells_none w.drew 1 0 0 0⟩
    | some k =>
     obtain⟨o,cap,cs,rfl,h2,h3,h4,h5⟩:=hx;refine⟨_,cap,rfl,?_,(dL3 (w:=w) (v:=.slice (some ⟨k,o,none⟩) xs.length cap) (b:=some k) ⟨o,cap,cs,rfl,h2,h3,h4,h5⟩).cellsD⟩;rcases Nat.lt_or_ge cap (xs.length+ys.length)with h|h
     ·exact h
     ·exact absurd ⟨k,o,cap,cs,rfl,rfl,h,h3,h4,h5⟩ hroom
   obtain⟨base,cap,rfl,hcap,hfc⟩:=hgrow;have hge:=grownCap_ge w (xs.length+ys.length) cap 3;refine⟨_,_,some w.heap.size,fun ty=>run_append_grow_src w 28 28 ty 3 i0 _ underlying28 hi hz0 base xs.length cap (iv xs) hfc y ys.length (iv ys) (by rw[hz1];exact hsrc) hcap (by omega) (growslice_fits hcap (by rw[hz2];omega)),?_,(Kept.refl _ _).drew.alloc _,Or.inr ⟨_,rfl,Nat.le_refl _⟩⟩;refine⟨0,_,_,by rw[List.length_append],by rw[List.length_append];exact hge,?_,aA0 w.drew _,fun i hi'=>?_⟩
   ·simp[iv,Builtin.zeroCells,Value.cells];omega
   ·rw[Nat.zero_add,Array.getElem?_append_left (by simp[iv];simpa using hi')];have:(iv xs++iv ys)=iv (xs++ys):=by simp[iv]
    rw[this]
    simpa using cH5 (xs++ys) i hi'
structure Dm where
 neg:Bool
 ds:List Nat
 e:Int
def lead(l:List Nat):Nat:=(l.takeWhile (· == 0)).length
def trail(l:List Nat):Nat:=lead l.reverse
def decL(neg:Bool)(l:List Nat)(e:Int):Dm :=
 if lead l=l.length then⟨false,[],0⟩else⟨neg,(l.drop (lead l)).take (l.length-lead l-trail l),e+trail l⟩
def DmAt(w:World)(v:Value)(d:Dm):Prop:=∃ s b,v=.agg #[.bool d.neg,s,.int .i64 d.e]/\NsAt w s d.ds b
theorem DmAt.old{w w':World}{v:Value}{d:Dm}(h:DmAt w v d)(hk:Kept (fun _=>False) w w'):DmAt w' v d:=by
 obtain⟨s,b,h1,h2⟩:=h;exact⟨s,b,h1,h2.old hk⟩
def DmRes(w:World)(d:Dm)(e:Ending)(w':World):Prop:=∃ v,e=.returned v/\DmAt w' v d/\Kept (fun _=>False) w w'
def slen:Value->Nat
 | .slice _ n _=>n
 | _=>0
theorem bH2(l:List Nat):lead l<=l.length:=by
 unfold lead
 induction l with
 | nil=>simp
 | cons x l ih=>rw[List.takeWhile_cons];split<;>simp<;>omega
theorem bO1:∀(l:List Nat) (i:Nat),i<lead l->l.getD i 0=0
 | [],i,h=>by simp[lead]at h
 | x::l,i,h=>by
  unfold lead at h;by_cases hx:x=0
  ·subst hx;cases i with
   | zero=>rfl
   | succ i =>
    simp at h
    simpa using bO1 l i h
  ·simp[hx]at h
theorem aM1:∀(l:List Nat),lead l<l.length->l.getD (lead l) 0≠0
 | [],h=>by simp[lead]at h
 | x::l,h=>by
  by_cases hx:x=0
  ·subst hx;have e:lead (0::l)=lead l+1:=by simp[lead]
   rw[e]at h ⊢
   simpa using aM1 l (by simpa using h)
  ·have e:lead (x::l)=0:=by simp[lead,hx]
   rw[e]
   simpa using hx
theorem bB2{l:List Nat}{i:Nat}(hi:i<=l.length)(h0:∀ j,j<i->l.getD j 0=0)(h1:i=l.length\/l.getD i 0≠0):lead l=i:=by
 rcases Nat.lt_trichotomy (lead l) i with h|h|h
 ·exact absurd (h0 _ h) (aM1 l (by omega))
 ·exact h
 ·rcases h1 with h1|h1
  ·have:=bH2 l;omega
  ·exact absurd (bO1 l i h) h1
theorem cH6(l:List Nat)(j:Nat)(h:j<l.length):l.reverse.getD j 0=l.getD (l.length-1-j) 0:=by
 simp[List.getD,List.getElem?_reverse h]
theorem aE5{w w':World}{ops:Array Oper}{rest:List Oper}{o:Oper}{a:Act}{Q:Exit->Act->World->Prop}(hg:o.guard=none)(s x:Operand)(hop:o.op=Op.call { callee:=Callee.builtin Builtin.append,args:=#[s,x],argTypes:=#[28,28] })(u t v:Value)(hs:a.eval s=u)(hx:a.eval x=t)(hrun:∀ ty,(Builtin.append_ #[28,28] ty #[u,t]).run prog w=.ok v w')(hK:wpList prog ops Q rest (a.put o.dst v) w'):wpList prog ops Q (o::rest) a w:=by
 refine wpList_plain hg fun K hK'=>?_
 unfold Oper.wp;simp[execOp,hop,resolve,invoke,builtin,hs,hx,hrun,Result.andThen];exact hK' _ _ hK
theorem dQ8(a:Bool)(p:Option Addr)(n m:Nat)(c:Int)(w:World):(Instr.build 30 #[(0,.bool a),(1,.slice p n m),(2,.int .i64 c)]).run prog w=.ok (.agg #[.bool a,.slice p n m,.int .i64 c]) w:=run_build w 30 _ _ (by kernel_rfl)
theorem cH7(w:World):(Instr.build 30 #[]).run prog w=.ok (.agg #[.bool false,.slice none 0 0,.int .i64 0]) w:=run_build w 30 _ _ (by kernel_rfl)
theorem aP2{w:World}{q:Nat}{a0 a1 a2:Value}{T:TypeId}(h:w.heap[q]? = some (.cells #[a0,a1,a2] T (0,0)))(v0 v1 v2:Value):
  (((w.setCell ⟨q,0,none⟩ v0).setCell ⟨q,1,none⟩ v1).setCell ⟨q,2,none⟩ v2).heap[q]? = some (.cells #[v0,v1,v2] T (0,0))/\Kept (fun i=>i=q) w (((w.setCell ⟨q,0,none⟩ v0).setCell ⟨q,1,none⟩ v1).setCell ⟨q,2,none⟩ v2):=by
 refine⟨?_,((((Kept.refl (fun i=>i=q) w).setCell _ _ (fun _=>rfl)).setCell _ _ (fun _=>rfl)).setCell _ _ (fun _=>rfl))⟩;have h2:=aA3 (aA3 (aA3 h 0 v0) 1 v1) 2 v2;rw[h2];simp
theorem cells3{w:World}{q:Nat}{a0 a1 a2:Value}{T:TypeId}{fz:Nat×Nat}(h:w.heap[q]? = some (.cells #[a0,a1,a2] T fz)):w.cell? ⟨q,0,none⟩=some a0/\w.cell? ⟨q,1,none⟩=some a1/\w.cell? ⟨q,2,none⟩=some a2 :=
 ⟨by rw[aA2 h];rfl,by rw[aA2 h];rfl,by rw[aA2 h];rfl⟩
theorem cM8(neg:Bool)(b o cap:Nat)(cs:Array Value)(l:List Nat)(e:Int)(w:World)(hcap:l.length<=cap)(hsz:o+cap<=cs.size)(hb:w.heap[b]? = some (.cells cs 3 (0,0)))(hl:HasI cs o l)(hlen:l.length<=100000)(he:-1000000<=e/\e<=1000000):
  Calls prog 36 #[.bool neg,.slice (some ⟨b,o,none⟩) l.length cap,.int .i64 e] w (DmRes w (decL neg l e)):=by
 have k0:Kept (fun _=>False) w (w.alloc (.cells #[.bool false,.slice none 0 0,.int .i64 0] 30)):=(Kept.refl _ _).alloc _;have h0:=aA0 w (.cells #[.bool false,.slice none 0 0,.int .i64 0] 30);have b0:=k0.at hb (fun f=>f);have HN:=hiD h0;have K0:=hiD k0;have HL:=hiD hl;obtain⟨q,hq⟩:∃ q,q=w.heap.size:=⟨_,rfl⟩;have cell:∀(w':World) (j:Nat),w'.heap[b]? = some (.cells cs 3 (0,0))->j<l.length->w'.cell? ⟨b,o+j,none⟩=some (.int .i64 (l.getD j 0:Nat)):=fun w' j h hj=>by rw[aA2 h];exact hl j hj
 have CELL:=hiD cell;have B0:=hiD b0;clear h0 k0 b0 hl hb cell;go_enter func36,ntmps36;go_wp2_with fail;generalize hW:w.alloc (.cells #[.bool false,.slice none 0 0,.int .i64 0] 30)=W at *;clear hW
 go_loop [1] (fun v=>∃ i o',i<=l.length/\v=.slice (some ⟨b,o',none⟩) (l.length-i) (cap-i)/\(i<l.length->o'=o+i)/\∀ j,j<i->l.getD j 0=0) (fun v=>slen v)
 case atStart=>exact⟨0,o,by omega,by simp,fun _=>rfl,fun j h=>by omega⟩
 case round =>
  obtain⟨i,o',hi,rfl,ho,hz⟩:=hrel;have HZ:=hiD hz;clear hz;rcases Nat.lt_or_ge i l.length with hlt|hge
  ·obtain rfl:=ho hlt;have c:=CELL.out _ i B0.out hlt;by_cases h0:l.getD i 0=0
   ·rw[h0]at c;have H0:=hiD h0;clear h0;go_wp2_with fail;go_round
    case rel =>
     have hz':∀ j,j<i+1->l.getD j 0=0:=fun j hj=>by
      by_cases hji:j=i
      ·rw[hji];exact H0.out
      ·exact HZ.out j (by omega)
     by_cases hc:cap-i=1
     ·exact⟨i+1,o+i,by omega,by rw[if_pos hc,Nat.sub_sub,Nat.sub_sub],fun h=>by omega,hz'⟩
     ·exact⟨i+1,o+i+1,by omega,by rw[if_neg hc,Nat.sub_sub,Nat.sub_sub],fun h=>by omega,hz'⟩
    case measure=>simp[slen];omega
   ·have g:(((l.getD i 0:Nat):Int)==0)=false:=beqF (by omega);have hle:=bB2 hi HZ.out (Or.inr h0);have HLE:=hiD hle;have HNZ:=hiD h0;generalize hx:l.getD i 0=x at c g h0;clear hle hx;have g2:(x==0)=false:=by simpa using h0
    go_wp2_with fail;have ht0:trail l<=l.length:=by unfold trail;have:=bH2 l.reverse;simpa using this
    go_loop [1,2] (fun v u=>∃ t:Nat,i+t<l.length/\v=.slice (some ⟨b,o+i,none⟩) (l.length-i-t) (cap-i)/\u=.int .i64 (e+(t:Int))/\∀ j,j<t->l.reverse.getD j 0=0) (fun v _=>slen v)
    case atStart=>exact⟨0,by omega,by simp,by simp,fun j h=>by omega⟩
    case round =>
     obtain⟨t,hit,rfl,rfl,hzt⟩:=hrel;have HT:=hiD hzt;clear hzt;have c2:=CELL.out _ (l.length-1-t) B0.out (by omega);have hrv:=cH6 l t (by omega);by_cases hy:l.reverse.getD t 0=0
     ·have hti:i+(t+1)<l.length:=by
       rcases Nat.lt_or_ge (i+(t+1)) l.length with h|h
       ·exact h
       ·exfalso
        rw[show l.length-1-t=i by omega]at hrv;exact HNZ.out (by rw[<- hrv];exact hy)
      rw[<- hrv,hy]at c2;have HY:=hiD hy;rw[show o+(l.length-1-t)=o+i+(l.length-i-t-1)by omega]at c2;generalize hn:l.length-i-t=n at *;have hn1:1<=n:=by omega
      clear hy hrv;have HN2:=hiD hn;go_wp2_with fail;go_round
      case rel =>
       refine⟨t+1,hti,by rw[show l.length-i-(t+1)=n-1 by have:=HN2.out;omega],by rw[Int.add_assoc];rfl,fun j hj=>?_⟩;by_cases hjt:j=t
       ·rw[hjt];exact HY.out
       ·exact HT.out j (by omega)
      case measure=>simp[slen];omega
     ·rw[<- hrv]at c2;have HTR:=hiD (bB2 (l:=l.reverse) (i:=t) (by simp;omega) HT.out (Or.inr hy));rw[show o+(l.length-1-t)=o+i+(l.length-i-t-1)by omega]at c2;generalize hyx:l.reverse.getD t 0=y at c2 hy;have g3:((y:Int)==0)=false:=beqF (by omega);have g4:(y==0)=false:=by simpa using hy
      generalize hn:l.length-i-t=n at *;have hn1:1<=n:=by omega
      clear hyx hrv;have HN2:=hiD hn;have hlz:((l.drop i).take n).length=n:=by simp;omega
      have hys:HasI cs (o+i) ((l.drop i).take n):=fun j hj=>by
       rw[hlz]at hj;have:=HL.out (i+j) (by omega);rw[Nat.add_assoc,this];simp[List.getD,List.getElem?_take,hj,List.getElem?_drop]
      have hW1:Kept (fun _=>False) W (W.alloc (.cells #[] 3)):=(Kept.refl _ _).alloc _;have hx1:NsAt (W.alloc (.cells #[] 3)) (.slice (some ⟨W.heap.size,0,none⟩) 0 0) [] (some W.heap.size):=⟨0,0,#[],rfl,Nat.le_refl _,Nat.le_refl _,aA0 _ _,fun j hj=>by simp at hj⟩;have hy1:NsAt (W.alloc (.cells #[] 3)) (.slice (some ⟨b,o+i,none⟩) n (cap-i)) ((l.drop i).take n) (some b):=⟨o+i,cap-i,cs,by rw[hlz],by rw[hlz];omega,by omega,hW1.at B0.out (fun f=>f),hys⟩;obtain⟨r,w2,b',hrun,hr,hk,hown⟩:=aP1 hx1 hy1 (by rw[hlz];simp;omega);rw[List.nil_append]at hr;have hWs:w.heap.size<W.heap.size:=aB5 HN.out;have hq2:w2.heap[w.heap.size]? = some (.cells #[.bool false,.slice none 0 0,.int .i64 0] 30 (0,0)):=hk.at (hW1.at HN.out (fun f=>f)) (fun h=>by injection h with h;omega);have hK2:Kept (fun _=>False) w w2:=(K0.out.same hW1).trans hk (fun _ _ f=>f) (fun j hj h=>by injection h with h;omega);cases b' with
      | none=>exfalso;have:=congrArg List.length hr.2;rw[hlz]at this;simp at this;omega
      | some k =>
       have hkw:k≠w.heap.size:=by
        rcases hown with h|⟨j,h,hj⟩
        ·injection h with h;omega
        ·injection h with h;have:=hW1.size;omega
       obtain⟨o2,cap2,cs2,rfl,g1,g2',g3',g4'⟩:=hr;have HR:Hid (NsAt w2 (.slice (some ⟨k,o2,none⟩) n cap2) ((l.drop i).take n) (some k)):=⟨o2,cap2,cs2,by rw[hlz],g1,g2',g3',g4'⟩;rw[hlz]at hrun;have HRUN:=hiD hrun;have HK2:=hiD hK2;obtain⟨c0,c1,c2'⟩:=cells3 hq2;have f0:=aA1 hq2 0;have f1:=aA1 hq2 1;have f2:=aA1 hq2 2;have st:=aP2 hq2 (.bool neg) (.slice (some ⟨k,o2,none⟩) n cap2) (.int .i64 (e+(t:Int)));generalize hW3:(((w2.setCell ⟨w.heap.size,0,none⟩ (.bool neg)).setCell ⟨w.heap.size,1,none⟩ (.slice (some ⟨k,o2,none⟩) n cap2)).setCell ⟨w.heap.size,2,none⟩ (.int .i64 (e+(t:Int))))=W3 at st;have S1:=hiD st.1;have S2:=hiD st.2;have q1:=fun a p n m c w=>dQ8 a p n m c w
       generalize hys2:(l.drop i).take n=ys at *;have HYS:=hiD hys2;clear st hK2 hrun hk hown hx1 hy1 hys g1 g2' g3' g4' hq2 hW1;go_wp2_with (at_builtin;refine aE5 rfl _ _ rfl (.slice (some ⟨W.heap.size,0,none⟩) 0 0) (.slice (some ⟨b,o+i,none⟩) n (cap-i)) _ rfl rfl HRUN.out ?_)
       obtain⟨d0,d1,d2⟩:=cells3 S1.out;have hdec:decL neg l e=⟨neg,ys,e+(t:Int)⟩:=by
        unfold decL;have h1:lead l=i:=HLE.out;have h2:trail l=t:=HTR.out;have h3:=HN2.out;rw[if_neg (by omega),h1,h2,h3,HYS.out]
       refine bodyPost_ret (v:=.agg #[.bool neg,.slice (some ⟨k,o2,none⟩) n cap2,.int .i64 (e+(t:Int))]) ?_ rfl ⟨_,rfl,⟨_,some k,by rw[hdec],by rw[hdec];exact NsAt.kept HR.out S2.out (fun j hj=>by injection hj with hj;omega)⟩,HK2.out.trans S2.out (fun _ _ f=>f) (fun j hj h=>by omega)⟩;simp[results,Tryz.f36,loadVar,go_sem,d0,d1,d2]
  ·obtain rfl:i=l.length:=by omega
   have hdec:decL neg l e=⟨false,[],0⟩:=by unfold decL;rw[if_pos (bB2 hi HZ.out (Or.inl rfl))]
   have HD:=hiD hdec;clear hdec;have e0:l.length-l.length=0:=Nat.sub_self _;rw[e0];have q2:=fun w=>cH7 w
   obtain⟨c0,c1,c2⟩:=cells3 HN.out;have f0:=aA1 HN.out 0;have f1:=aA1 HN.out 1;have f2:=aA1 HN.out 2;have st:=aP2 HN.out (.bool false) (.slice none 0 0) (.int .i64 0);generalize hW3:(((W.setCell ⟨w.heap.size,0,none⟩ (.bool false)).setCell ⟨w.heap.size,1,none⟩ (.slice none 0 0)).setCell ⟨w.heap.size,2,none⟩ (.int .i64 0))=W3 at st;have S1:=hiD st.1;have S2:=hiD st.2;clear st;go_wp2_with fail;refine wp_loop_rounds 1 ?_;rw[rounds_succ];go_wp2_with fail;obtain⟨d0,d1,d2⟩:=cells3 S1.out;refine bodyPost_ret (v:=.agg #[.bool false,.slice none 0 0,.int .i64 0]) ?_ rfl ⟨_,rfl,⟨.slice none 0 0,none,by rw[HD.out],by rw[HD.out];exact⟨rfl,rfl⟩⟩,K0.out.trans S2.out (fun _ _ f=>f) (fun j hj h=>by omega)⟩;simp[results,Tryz.f36,loadVar,go_sem,d0,d1,d2]
theorem cB0(neg:Bool)(e:Int)(w:World):
  Calls prog 36 #[.bool neg,.slice none 0 0,.int .i64 e] w (DmRes w (decL neg [] e)):=by
 have K0:=hiD ((Kept.refl (fun _=>False) w).alloc (.cells #[.bool false,.slice none 0 0,.int .i64 0] 30));have HN:=hiD (aA0 w (.cells #[.bool false,.slice none 0 0,.int .i64 0] 30));have q2:=fun w=>cH7 w
 go_enter func36,ntmps36;go_wp2_with fail;generalize hW:w.alloc (.cells #[.bool false,.slice none 0 0,.int .i64 0] 30)=W at *;clear hW;obtain⟨c0,c1,c2⟩:=cells3 HN.out;have f0:=aA1 HN.out 0;have f1:=aA1 HN.out 1;have f2:=aA1 HN.out 2;have st:=aP2 HN.out (.bool false) (.slice none 0 0) (.int .i64 0);generalize hW3:(((W.setCell ⟨w.heap.size,0,none⟩ (.bool false)).setCell ⟨w.heap.size,1,none⟩ (.slice none 0 0)).setCell ⟨w.heap.size,2,none⟩ (.int .i64 0))=W3 at st;have S1:=hiD st.1;have S2:=hiD st.2;clear st;refine wp_loop_rounds 1 ?_;rw[rounds_succ];go_wp2_with fail;refine wp_loop_rounds 1 ?_;rw[rounds_succ];go_wp2_with fail;obtain⟨d0,d1,d2⟩:=cells3 S1.out;refine bodyPost_ret (v:=.agg #[.bool false,.slice none 0 0,.int .i64 0]) ?_ rfl ⟨_,rfl,⟨.slice none 0 0,none,rfl,⟨rfl,rfl⟩⟩,K0.out.trans S2.out (fun _ _ f=>f) (fun j hj h=>by omega)⟩;simp[results,Tryz.f36,loadVar,go_sem,d0,d1,d2]
theorem aQ9(neg:Bool)(v:Value)(b:Option Nat)(l:List Nat)(e:Int)(w:World)(h:NsAt w v l b)(hlen:l.length<=100000)(he:-1000000<=e/\e<=1000000):
  Calls prog 36 #[.bool neg,v,.int .i64 e] w (DmRes w (decL neg l e)):=by
 cases b with
 | none=>obtain⟨rfl,rfl⟩:=h;exact cB0 neg e w
 | some k =>
  obtain⟨o,cap,cs,rfl,h1,h2,h3,h4⟩:=h;exact cM8 neg k o cap cs l e w h1 h2 h3 h4 hlen he
structure DmB (d:Dm) (L:Nat) (K:Int):Prop where
 dig:∀ x∈d.ds,x<=9
 len:d.ds.length<=L
 lo:-K<=d.e
 hi:d.e<=K
theorem bV0{neg:Bool}{l:List Nat}{e:Int}{L:Nat}{K:Int}(h1:∀ x∈l,x<=9)(h2:l.length<=L)(h3:-K<=e)(h4:e<=K):DmB (decL neg l e) L (K+L):=by
 unfold decL;have hK:0<=K:=by omega
 split
 ·exact⟨fun x h=>by simp at h,by simp,by simp;omega,by simp;omega⟩
 ·have ht:trail l<=l.length:=by unfold trail;have:=bH2 l.reverse;simpa using this
  exact⟨fun x h=>h1 x (List.mem_of_mem_drop (List.mem_of_mem_take h)),by simp;omega,by simp;omega,by simp;omega⟩
theorem DmAt.shape{w:World}{v:Value}{d:Dm}(h:DmAt w v d):∃ p n c b,v=.agg #[.bool d.neg,.slice p n c,.int .i64 d.e]/\NsAt w (.slice p n c) d.ds b:=by
 obtain⟨s,b,rfl,hs⟩:=h;cases b with
 | none=>obtain⟨rfl,h⟩:=hs;exact⟨none,0,0,none,rfl,rfl,h⟩
 | some k =>
  obtain⟨o,cap,cs,rfl,h⟩:=hs;exact⟨_,_,_,some k,rfl,o,cap,cs,rfl,h⟩
theorem NsAt.ne{w:World}{v:Value}{l:List Nat}{b:Option Nat}{q:Nat}{cs:Array Value}{T:TypeId}{fz:Nat×Nat}(h:NsAt w v l b)(hq:w.heap[q]? = some (.cells cs T fz))(hT:T≠3):∀ k,b=some k->¬ (k=q):=by
 intro k hk e;subst hk e;obtain⟨o,cap,cs',_,_,_,h4,_⟩:=h;rw[hq]at h4;injection h4 with h4;injection h4 with _ h4 _;exact hT h4
def dgs(u:Nat):List Nat:=if h:u=0 then []else dgs (u/10)++[u%10]
termination_by u
decreasing_by omega
theorem aR0:dgs 0=[]:=by rw[dgs];simp
theorem aT3{u:Nat}(h:u≠0):dgs u=dgs (u/10)++[u%10]:=by rw[dgs];rw[dif_neg h]
theorem aZ1:∀(k u:Nat),u<10^k->(dgs u).length<=k/\∀ x∈dgs u,x<=9:=by
 intro k
 induction k with
 | zero =>
  intro u h;have hu:u=0:=by simpa using h
  subst hu;rw[aR0];simp
 | succ k ih =>
  intro u h;by_cases hu:u=0
  ·subst hu;simp[aR0]
  ·rw[aT3 hu];obtain⟨h1,h2⟩:=ih (u/10) (by rw[Nat.div_lt_iff_lt_mul (by omega),<- Nat.pow_succ];exact h);refine⟨by simp;exact h1,fun x hx=>?_⟩;rcases List.mem_append.1 hx with h|h
   ·exact h2 x h
   ·simp at h;omega
theorem cH8(w:World)(a:Nat):NsAt (w.alloc (.cells #[.int .i64 ((a:Nat):Int)] 3)) (.slice (some ⟨w.heap.size,0,none⟩) 1 1) [a] (some w.heap.size) :=
 ⟨0,1,_,rfl,Nat.le_refl _,by simp,aA0 _ _,fun i hi=>by
  have:i=0:=by simp at hi;omega
  subst this;rfl⟩
def uOf:Value->Nat
 | .int _ n=>n.toNat
 | _=>0
theorem aE0(n exp:Int)(w:World)(hn:-9223372036854775808<=n/\n<=9223372036854775807)(he:-1000000<=exp/\exp<=1000000):
  Calls prog 14 #[.int .i64 n,.int .i64 exp] w (DmRes w (decL (decide (n<0)) (dgs n.natAbs) exp)):=by
 have K0:=hiD ((Kept.refl (fun _=>False) w).alloc (.cells #[.bool false,.slice none 0 0,.int .i64 0] 30));have HN:=hiD (aA0 w (.cells #[.bool false,.slice none 0 0,.int .i64 0] 30));have u0:n.natAbs<10^20:=by omega
 have hu:0<=n->IntKind.u64.wrap n=(n.natAbs:Int):=fun h=>by rw[IntKind.wrap_u64];omega
 have hu2:n<0->IntKind.u64.wrap (-(IntKind.u64.wrap n))=(n.natAbs:Int):=fun h=>by rw[IntKind.wrap_u64,IntKind.wrap_u64];omega
 generalize hm:n.natAbs=m at *;generalize hDD:decL (decide (n<0)) (dgs m) exp=D;rcases Int.lt_or_le n 0 with hneg|hpos;all_goals
  first|have hu3:=hu2 hneg|have hu3:=hu hpos
  first|have hbn:decide (n<0)=true:=decT hneg|have hbn:decide (n<0)=false:=decF (by omega)
  rw[hbn]at hDD;have HDD:=hiD hDD;clear hu hu2 hDD;go_enter func14,ntmps14;go_wp2_with fail;generalize hW:w.alloc (.cells #[.bool false,.slice none 0 0,.int .i64 0] 30)=W at *;clear hW
  go_loopw [5,6] (fun v5 v6 wr=>∃(u:Nat) (l:List Nat) (b:Option Nat),v5=.int .u64 (u:Int)/\u<=m/\Hid (NsAt wr v6 l b)/\Hid (dgs m=dgs u++l)/\Hid (u<10^(20-l.length)/\l.length<=20)/\Hid (Kept (fun _=>False) W wr)) (fun v5 _ _=>uOf v5)
  case atStart=>exact⟨m,[],none,rfl,Nat.le_refl _,hiD ⟨rfl,rfl⟩,hiD (by simp),hiD ⟨u0,by simp⟩,hiD (Kept.refl _ _)⟩
  case round =>
   obtain⟨u,l,b,rfl,hum,HL,HD,HB,HK⟩:=hrel;by_cases hu0:u=0
   ·subst hu0;have hd:=HD.out;rw[aR0,List.nil_append]at hd;have HD2:=hiD hd;clear hd;go_wp2_with fail;have hb9:=HB.out.2;have hkw:Kept (fun _=>False) w wr:=K0.out.same HK.out;have hbx:=HK.out.at HN.out (fun f=>f);refine(aQ9 _ _ b l exp wr HL.out (by omega) he).mono ?_;rintro e w2 ⟨v,rfl,hv,hk⟩;obtain⟨p,n',c',b',rfl,hs⟩:=hv.shape;have hb2:=hk.at hbx (fun f=>f);obtain⟨c0,c1,c2⟩:=cells3 hb2;have f0:=aA1 hb2 0;have f1:=aA1 hb2 1;have f2:=aA1 hb2 2;have HNE:=hiD (hs.ne hb2 (by decide));rw[<- HD2.out,HDD.out]at hs ⊢;have st:=aP2 hb2 (.bool D.neg) (.slice p n' c') (.int .i64 D.e);generalize hW3:(((w2.setCell ⟨w.heap.size,0,none⟩ (.bool D.neg)).setCell ⟨w.heap.size,1,none⟩ (.slice p n' c')).setCell ⟨w.heap.size,2,none⟩ (.int .i64 D.e))=W3 at st;have S1:=hiD st.1;have S2:=hiD st.2;have HS:=hiD hs;have HKW:=hiD (hkw.same hk);clear st hs hkw hk hb2 hbx hv;go_wp2_with fail;obtain⟨d0,d1,d2⟩:=cells3 S1.out;refine bodyPost_ret (v:=.agg #[.bool D.neg,.slice p n' c',.int .i64 D.e]) ?_ rfl ⟨_,rfl,⟨_,b',rfl,HS.out.kept S2.out HNE.out⟩,HKW.out.trans S2.out (fun _ _ f=>f) (fun j hj h=>by omega)⟩;simp[results,Tryz.f14,loadVar,go_sem,d0,d1,d2]
   ·have hone:=cH8 wr (u%10);have e1:((u%10:Nat):Int)=(u:Int)%10:=by omega
    rw[e1]at hone;have hk1:Kept (fun _=>False) wr (wr.alloc (.cells #[.int .i64 ((u:Int)%10)] 3)):=(Kept.refl _ _).alloc _;obtain⟨r,w2,b',hrun,hr,hk,hown⟩:=aP1 hone (HL.out.old hk1) (by have:=HB.out.2;simp;omega);have hd:=HD.out;rw[aT3 hu0,List.append_assoc]at hd;have HD2:=hiD hd;have HR:=hiD hr;have HRUN:=hiD hrun;have hl20:l.length<20:=by
     rcases Nat.lt_or_ge l.length 20 with h|h
     ·exact h
     ·have h1:=HB.out.1;rw[show 20-l.length=0 by omega]at h1;simp at h1;omega
    have hb2:u/10<10^(20-(l.length+1)):=by
     rw[Nat.div_lt_iff_lt_mul (by omega),<- Nat.pow_succ,show(20-(l.length+1)).succ=20-l.length by omega];exact HB.out.1
    have HB2:=hiD hb2;have hkk:Kept (fun _=>False) W w2:=(HK.out.same hk1).trans hk (fun _ _ f=>f) (fun j hj h=>by injection h with h;have:=HK.out.size;omega);have HKK:=hiD hkk;have g1:decide (0<(u:Int))=true:=decT (by omega);have hwq:IntKind.u64.wrap ((u:Int)/10)=(u:Int)/10:=by rw[IntKind.wrap_u64];omega
    have hcv:∀ w:World,(convert 79 3 (.int .u64 ((u:Int)%10))).run prog w=.ok (.int .i64 ((u:Int)%10)) w:=fun w=>by
     have hw:IntKind.i64.wrap ((u:Int)%10)=(u:Int)%10:=by rw[IntKind.wrap_i64];omega
     have:(convert 79 3 (.int .u64 ((u:Int)%10))).run prog w=.ok (.int .i64 (IntKind.i64.wrap ((u:Int)%10))) w:=by kernel_rfl
     rw[this,hw]
    clear hone hk1 hrun hr hk hown hd hb2 hkk e1;go_wp2_with (at_builtin;refine aE5 rfl _ _ rfl (.slice (some ⟨wr.heap.size,0,none⟩) 1 1) u6 _ rfl rfl HRUN.out ?_)
    go_roundw
    case rel=>exact⟨u/10,u%10::l,b',by rw[show((u/10:Nat):Int)=(u:Int)/10 by omega],by omega,HR,hiD HD2.out,hiD ⟨by simpa using HB2.out,by simp;omega⟩,HKK⟩
    case measure=>simp[uOf];omega
theorem DmAt.shape2{w:World}{v:Value}{d:Dm}(h:DmAt w v d):∃ p c b,v=.agg #[.bool d.neg,.slice p d.ds.length c,.int .i64 d.e]/\NsAt w (.slice p d.ds.length c) d.ds b:=by
 obtain⟨s,b,rfl,hs⟩:=h;cases b with
 | none=>obtain⟨rfl,h⟩:=hs;exact⟨none,0,none,by rw[h];rfl,by rw[h];rfl,h⟩
 | some k =>
  obtain⟨o,cap,cs,rfl,h⟩:=hs;exact⟨_,_,some k,rfl,o,cap,cs,rfl,h⟩
def sgnD(d:Dm):Int:=if d.ds=[]then 0 else if d.neg then -1 else 1
theorem aM2(v:Value)(d:Dm)(w:World)(h:DmAt w v d):Calls prog 19 #[v] w fun e w'=>e=.returned (.int .i64 (sgnD d))/\Kept (fun _=>False) w w':=by
 obtain⟨p,c,b,rfl,hs⟩:=h.shape2;have K0:=hiD ((Kept.refl (fun _=>False) w).alloc (.cells #[.bool d.neg,.slice p d.ds.length c,.int .i64 d.e] 30));have hb:=aA0 w (.cells #[.bool d.neg,.slice p d.ds.length c,.int .i64 d.e] 30);obtain⟨c0,c1,c2⟩:=cells3 hb;clear h hs hb;by_cases h0:d.ds=[]
 ·have hsg:sgnD d=0:=if_pos h0;have hl:d.ds.length=0:=by rw[h0];rfl
  rw[hsg];rw[hl]at c0 c1 c2 K0 ⊢;go_enter func19,ntmps19;go_wp2_with fail;go_ret;exact⟨rfl,K0.out⟩
 ·have hl:((d.ds.length:Int)==0)=false:=beqF (by
   intro h;exact h0 (List.eq_nil_of_length_eq_zero (by omega)))
  generalize hn:d.ds.length=n at *;cases hneg:d.neg with
  | true =>
   have hsg:sgnD d = -1:=by unfold sgnD;rw[if_neg h0,hneg];rfl
   rw[hsg];rw[hneg]at c0 c1 c2 K0;clear h0 hn;go_enter func19,ntmps19;go_wp2_with fail;go_ret;exact⟨rfl,K0.out⟩
  | false =>
   have hsg:sgnD d=1:=by unfold sgnD;rw[if_neg h0,hneg];rfl
   rw[hsg];rw[hneg]at c0 c1 c2 K0;clear h0 hn;go_enter func19,ntmps19;go_wp2_with fail;go_ret;exact⟨rfl,K0.out⟩
def zs(n:Nat):List Nat:=List.replicate n 0
def wideL(d:Dm)(exp:Int):List Nat:=if d.ds=[]then []else d.ds++zs (d.e-exp).toNat
def NsRes(w:World)(l:List Nat)(e:Ending)(w':World):Prop:=∃ v b,e=.returned v/\NsAt w' v l b/\Kept (fun _=>False) w w'
theorem aR1{w:World}{v:Value}{l:List Nat}{b:Option Nat}(h:NsAt w v l b):∃ p c,v=.slice p l.length c:=by
 cases b with
 | none=>obtain⟨rfl,rfl⟩:=h;exact⟨none,0,rfl⟩
 | some k=>obtain⟨o,cap,cs,rfl,_⟩:=h;exact⟨_,_,rfl⟩
theorem dQ9(w:World):NsAt (w.alloc (.cells #[] 3)) (.slice (some ⟨w.heap.size,0,none⟩) 0 0) [] (some w.heap.size) :=
 ⟨0,0,#[],rfl,Nat.le_refl _,Nat.le_refl _,aA0 _ _,fun j hj=>by simp at hj⟩
theorem cH9(v:Value)(d:Dm)(exp:Int)(w:World)(h:DmAt w v d)(hlen:d.ds.length<=10000)(he:-10000<=exp/\exp<=10000)(hd:-10000<=d.e/\d.e<=10000):Calls prog 40 #[v,.int .i64 exp] w (NsRes w (wideL d exp)):=by
 obtain⟨p,c,b,rfl,hs⟩:=h.shape2;have k0:Kept (fun _=>False) w (w.alloc (.cells #[.bool d.neg,.slice p d.ds.length c,.int .i64 d.e] 30)):=(Kept.refl _ _).alloc _;have hb:=aA0 w (.cells #[.bool d.neg,.slice p d.ds.length c,.int .i64 d.e] 30);have hs0:=hs.old k0;generalize hW0:w.alloc (.cells #[.bool d.neg,.slice p d.ds.length c,.int .i64 d.e] 30)=W0 at *;have k1:Kept (fun _=>False) W0 (W0.alloc (.cells #[] 3)):=(Kept.refl _ _).alloc _;obtain⟨r,w2,b',hrun,hr,hk,hown⟩:=aP1 (dQ9 W0) (hs0.old k1) (by simp;omega);rw[List.nil_append]at hr;have kk:Kept (fun _=>False) W0 w2:=k1.trans hk (fun _ _ f=>f) (fun j hj h=>by injection h with h;omega);have hb1:=k1.at hb (fun f=>f);have hb2:=kk.at hb (fun f=>f);have hfb:∀ k,b'=some k->W0.heap.size<=k:=by
  intro k hk';rcases hown with h|⟨j,h,hj⟩
  ·rw[hk']at h;injection h with h;omega
  ·rw[hk']at h;injection h with h;have:=k1.size;omega
 obtain⟨c0,c1,c2⟩:=cells3 hb1;obtain⟨e0,e1,e2⟩:=cells3 hb2;have HR:=hiD hr;have HRUN:=hiD hrun;have K2:=hiD kk;have K0:=hiD k0;have HFB:=hiD hfb;have S0:=hiD k0.size;have HLEN:=hiD hlen;have HHD:=hiD hd;have HHE:=hiD he;clear h hs hs0 k1 hk hown hr hrun kk hb hb1 hb2 k0 hfb;go_enter func40,ntmps40;go_wp2_with (at_builtin;refine aE5 rfl _ _ rfl (.slice (some ⟨W0.heap.size,0,none⟩) 0 0) (.slice p d.ds.length c) _ rfl rfl HRUN.out ?_)
 go_loopw [5,6] (fun v5 v6 wr=>∃(t:Nat) (b:Option Nat),(v6=.int .i64 (d.e-(t:Int)))/\(t:Int)<=((d.e-exp).toNat:Int)/\Hid (d.ds=[]->t=0)/\Hid (NsAt wr v5 (d.ds++zs t) b)/\Hid (∀ k,b=some k->W0.heap.size<=k)/\Hid (Kept (fun _=>False) W0 wr)) (fun _ v6 _=>(intOf v6-exp).toNat)
 case atStart=>exact⟨0,b',by simp,by omega,hiD (fun _=>rfl),hiD (by simpa[zs]using HR.out),HFB,K2⟩
 case round =>
  obtain⟨t,b2,rfl,ht,HT0,HL,HF,HK⟩:=hrel;obtain⟨p2,c2',rfl⟩:=aR1 HL.out;by_cases h0:d.ds=[]
  ·have hwd:wideL d exp=[]:=if_pos h0;have ht0:=HT0.out h0;subst ht0;have hl:=HL.out;have hnil:d.ds++zs 0=[]:=by rw[h0];rfl
   rw[hnil]at hl ⊢;have HL2:=hiD hl;have HWD:=hiD hwd;simp only[List.length_nil]at HL2 ⊢;clear hl hnil h0 hwd HL;by_cases hlt:exp<d.e-((0:Nat):Int);all_goals
    go_wp2_with fail;go_ret;exact⟨_,b2,rfl,by rw[HWD.out];exact HL2.out,K0.out.same HK.out⟩
  ·have hn:(d.ds++zs t).length=d.ds.length+t:=by simp[zs]
   have hl0:=HL.out;rw[hn]at hl0 ⊢;have HL:=hiD hl0;clear hl0;have hpos:0<d.ds.length:=by
    rcases Nat.eq_zero_or_pos d.ds.length with h|h
    ·exact absurd (List.eq_nil_of_length_eq_zero h) h0
    ·exact h
   by_cases hlt:exp<d.e-(t:Int)
   ·have hone:=cH8 wr 0;have hk1:Kept (fun _=>False) wr (wr.alloc (.cells #[.int .i64 ((0:Nat):Int)] 3)):=(Kept.refl _ _).alloc _;obtain⟨r2,w3,b3,hrun,hr,hk,hown⟩:=aP1 (HL.out.old hk1) hone (by have:=HLEN.out;have:=HHD.out;have:=HHE.out;simp[zs];omega);have hl3:(d.ds++zs t)++[0]=d.ds++zs (t+1):=by
     rw[List.append_assoc];congr 1;simp[zs,List.replicate_succ']
    rw[hl3]at hr;have HR3:=hiD hr;have HRUN3:=hiD hrun;have hsz:=HK.out.size;have HK3:Hid (Kept (fun _=>False) W0 w3):=(HK.out.same hk1).trans hk (fun _ _ f=>f) (fun j hj h=>by have:=HF.out j h;omega);have HF3:Hid (∀ k,b3=some k->W0.heap.size<=k):=by
     intro k hk';rcases hown with h|⟨j,h,hj⟩
     ·rw[hk']at h;exact HF.out k h.symm
     ·rw[hk']at h;injection h with h;have:=hk1.size;omega
    have HN0:=hiD h0;clear hn;clear hone hk1 hrun hr hk hown hl3 h0 HT0;go_wp2_with (at_builtin;refine aE5 rfl _ _ rfl (.slice p2 (d.ds.length+t) c2') (.slice (some ⟨wr.heap.size,0,none⟩) 1 1) _ rfl rfl HRUN3.out ?_)
    go_roundw
    case rel=>exact⟨t+1,b3,by rw[show d.e-((t+1:Nat):Int)=d.e-(t:Int)-1 by omega],by omega,hiD (fun h=>absurd h HN0.out),HR3,HF3,HK3⟩
    case measure=>simp[intOf];omega
   ·have hwd:wideL d exp=d.ds++zs t:=by
     unfold wideL;rw[if_neg h0,show(d.e-exp).toNat=t by omega]
    have HWD:=hiD hwd;have hl:=HL.out;clear hn;have HL2:=hiD hl;clear hwd HL h0 hl;go_wp2_with fail;go_ret;exact⟨_,b2,rfl,by rw[HWD.out];exact HL2.out,K0.out.same HK.out⟩
def dgOf(c:Nat):Nat:=if isDg c=true then c-48 else 0
def rd(s:ByteArray):List Nat:=s.data.toList.map fun c=>dgOf c.toNat
theorem bH3(s:ByteArray):(rd s).length=s.size:=by simp[rd]
theorem cB1(c:Nat):dgOf c<=9:=by
 unfold dgOf;split
 ·rename_i h;simp[isDg]at h;omega
 ·omega
theorem rd_le(s:ByteArray):∀ x∈rd s,x<=9:=by
 intro x hx;simp only[rd,List.mem_map]at hx;obtain⟨c,_,rfl⟩:=hx;exact cB1 _
theorem dR0(s:ByteArray)(i:Nat)(h:i<s.size):(rd s).take i++[dgOf s[i].toNat]=(rd s).take (i+1):=by
 have hl:i<(rd s).length:=by rw[bH3];exact h
 have hi:(rd s)[i]'hl=dgOf s[i].toNat:=by simp[rd];rfl
 rw[List.take_succ_eq_append_getElem hl,hi]
theorem bH4(neg:Bool)(s:ByteArray)(exp:Int)(w:World)(hs:s.size<=10000)(he:-1000000<=exp/\exp<=1000000):
  Calls prog 74 #[.bool neg,.string s,.int .i64 exp] w (DmRes w (decL neg (rd s) exp)):=by
 have K0:=hiD ((Kept.refl (fun _=>False) w).alloc (.cells #[.bool false,.slice none 0 0,.int .i64 0] 30));have HN:=hiD (aA0 w (.cells #[.bool false,.slice none 0 0,.int .i64 0] 30));have HS:=hiD hs;have HE:=hiD he;generalize hDD:decL neg (rd s) exp=D;have HDD:=hiD hDD;clear hDD;go_enter func74,ntmps74;go_wp2_with fail;generalize hW:w.alloc (.cells #[.bool false,.slice none 0 0,.int .i64 0] 30)=W at *;clear hW
 go_loopw [7,8] (fun v7 v8 wr=>∃(i:Nat) (b:Option Nat),v8=.int .i64 (i:Int)/\i<=s.size/\Hid (NsAt wr v7 ((rd s).take i) b)/\Hid (∀ k,b=some k->W.heap.size<=k)/\Hid (Kept (fun _=>False) W wr)) (fun _ v8 _=>s.size-uOf v8)
 case atStart=>exact⟨0,none,rfl,by omega,hiD ⟨rfl,by simp⟩,hiD (by simp),hiD (Kept.refl _ _)⟩
 case round =>
  obtain⟨i,b,rfl,hi,HL,HF,HK⟩:=hrel;rcases Nat.lt_or_ge i s.size with hlt|hge
  ·have key:∀ dd:Nat,dd=dgOf s[i].toNat->∃ r2 w3 b3,(∀ ty,(Builtin.append_ #[28,28] ty #[u7,.slice (some ⟨wr.heap.size,0,none⟩) 1 1]).run prog (wr.alloc (.cells #[.int .i64 (dd:Int)] 3))=.ok r2 w3)/\NsAt w3 r2 ((rd s).take (i+1)) b3/\(∀ k,b3=some k->W.heap.size<=k)/\Kept (fun _=>False) W w3:=by
    intro dd hdd;have hone:=cH8 wr dd;have hk1:Kept (fun _=>False) wr (wr.alloc (.cells #[.int .i64 ((dd:Nat):Int)] 3)):=(Kept.refl _ _).alloc _;obtain⟨r2,w3,b3,hrun,hr,hk,hown⟩:=aP1 (HL.out.old hk1) hone (by simp;have:=HS.out;omega);rw[hdd,dR0 s i hlt]at hr;refine⟨r2,w3,b3,hrun,hr,fun k hk'=>?_,(HK.out.same hk1).trans hk (fun _ _ f=>f) (fun j hj h=>by have:=HF.out j h;omega)⟩;rcases hown with h|⟨j,h,hj⟩
    ·rw[hk']at h;exact HF.out k h.symm
    ·rw[hk']at h;injection h with h;have:=hk1.size;have:=HK.out.size;omega
   by_cases hd:isDg s[i].toNat=true
   ·have hdg:dgOf s[i].toNat=s[i].toNat-48:=if_pos hd;have hd':=hd;simp only[isDg,Bool.and_eq_true,decide_eq_true_eq]at hd';obtain⟨r2,w3,b3,hrun,hr,hf,hk⟩:=key (s[i].toNat-48) hdg.symm;have e1:((s[i].toNat-48:Nat):Int)=(s[i].toNat:Int)-48:=by omega
    rw[e1]at hrun;have hw8:IntKind.u8.wrap ((s[i].toNat:Int)-48)=(s[i].toNat:Int)-48:=by rw[IntKind.wrap_u8];omega
    have HRUN:=hiD hrun;have HR:=hiD hr;have HF3:=hiD hf;have HK3:=hiD hk;clear key hrun hr hf hk hdg hd e1;obtain⟨d1,d2⟩:=hd';go_wp2_with (at_builtin;refine aE5 rfl _ _ rfl u7 (.slice (some ⟨wr.heap.size,0,none⟩) 1 1) _ rfl rfl HRUN.out ?_)
    go_roundw
    case rel=>exact⟨i+1,b3,rfl,by omega,HR,HF3,HK3⟩
    case measure=>simp[uOf];omega
   ·have hdg:dgOf s[i].toNat=0:=if_neg hd;have hd1:¬ (48<=s[i].toNat/\s[i].toNat<=57):=by simpa[isDg]using hd
    obtain⟨r2,w3,b3,hrun,hr,hf,hk⟩:=key 0 hdg.symm;have HRUN:=hiD hrun;have HR:=hiD hr;have HF3:=hiD hf;have HK3:=hiD hk;clear key hrun hr hf hk hdg hd;by_cases hlo:48<=s[i].toNat
    all_goals
     go_wp2_with (at_builtin;refine aE5 rfl _ _ rfl u7 (.slice (some ⟨wr.heap.size,0,none⟩) 1 1) _ rfl rfl HRUN.out ?_)
     go_roundw
     case rel=>exact⟨i+1,b3,rfl,by omega,HR,HF3,HK3⟩
     case measure=>simp[uOf];omega
  ·obtain rfl:i=s.size:=by omega
   have hl:=HL.out;rw[List.take_of_length_le (by rw[bH3];omega)]at hl;have HL2:=hiD hl;clear hl;go_wp2_with fail;have hbx:=HK.out.at HN.out (fun f=>f);refine(aQ9 neg u7 b (rd s) exp wr HL2.out (by rw[bH3];have:=HS.out;omega) HE.out).mono ?_;rintro e w2 ⟨v,rfl,hv,hk⟩;obtain⟨p,n',c',b',rfl,hs'⟩:=hv.shape;have hb2:=hk.at hbx (fun f=>f);obtain⟨c0,c1,c2⟩:=cells3 hb2;have f0:=aA1 hb2 0;have f1:=aA1 hb2 1;have f2:=aA1 hb2 2;have HNE:=hiD (hs'.ne hb2 (by decide));rw[HDD.out]at hs' ⊢;have st:=aP2 hb2 (.bool D.neg) (.slice p n' c') (.int .i64 D.e);generalize hW3:(((w2.setCell ⟨w.heap.size,0,none⟩ (.bool D.neg)).setCell ⟨w.heap.size,1,none⟩ (.slice p n' c')).setCell ⟨w.heap.size,2,none⟩ (.int .i64 D.e))=W3 at st;have S1:=hiD st.1;have S2:=hiD st.2;have HS':=hiD hs';have HKW:=hiD ((K0.out.same HK.out).same hk);clear st hs' hk hb2 hbx hv;go_wp2_with fail;obtain⟨d0,d1,d2⟩:=cells3 S1.out;refine bodyPost_ret (v:=.agg #[.bool D.neg,.slice p n' c',.int .i64 D.e]) ?_ rfl ⟨_,rfl,⟨_,b',rfl,HS'.out.kept S2.out HNE.out⟩,HKW.out.trans S2.out (fun _ _ f=>f) (fun j hj h=>by omega)⟩;simp[results,Tryz.f74,loadVar,go_sem,d0,d1,d2]
end Go.Proofs.YtjebnpkebccffaaGreatDoor
