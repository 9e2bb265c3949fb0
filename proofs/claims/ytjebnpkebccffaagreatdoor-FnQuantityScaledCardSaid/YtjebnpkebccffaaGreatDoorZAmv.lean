import Derived.Test.YtjebnpkebccffaaGreatDoorZKdr
set_option linter.unusedSimpArgs false
set_option linter.unusedVariables false
set_option linter.unusedSectionVars false
set_option maxRecDepth 100000
set_option maxHeartbeats 8000000
namespace Go.Proofs.YtjebnpkebccffaaGreatDoor
open Go.RowKit Go.Proofs.Tryz
def amP(A C m a j:Nat):Nat:=A%B64^j+C%B64^j*m+a
theorem cI6(A C m a j:Nat):amP A C m a (j+1)=amP A C m a j+B64^j*(A/B64^j%B64+C/B64^j%B64*m):=by
 unfold amP;rw[Nat.pow_succ,Nat.mod_mul,Nat.mod_mul,Nat.mul_add,Nat.add_mul,Nat.mul_assoc];omega
theorem cW9{A C m a:Nat}(hm:m<B64)(ha:a<B64)(j:Nat):amP A C m a j/B64^j<B64:=by
 rw[Nat.div_lt_iff_lt_mul (Nat.pow_pos aA6)];unfold amP;have h1:A%B64^j<B64^j:=Nat.mod_lt _ (Nat.pow_pos aA6);have h2:C%B64^j<B64^j:=Nat.mod_lt _ (Nat.pow_pos aA6);obtain⟨m',hm'⟩:∃ m',B64=m'+1:=⟨B64-1,by have:=aA6;omega⟩;generalize B64^j=P at *;have h3:C%P*m<=(P-1)*m':=Nat.mul_le_mul (by omega) (by omega);obtain⟨P',rfl⟩:∃ P',P=P'+1:=⟨P-1,by omega⟩;rw[Nat.add_sub_cancel]at h3;rw[hm',Nat.add_mul,Nat.one_mul,Nat.mul_add,Nat.mul_one,Nat.mul_comm m' P'];omega
theorem dG4{A C m a j t:Nat}(ht:t=C/B64^j%B64*m+A/B64^j%B64+amP A C m a j/B64^j):amP A C m a (j+1)/B64^(j+1)=t/B64/\wds (j+1) (amP A C m a (j+1))=wds j (amP A C m a j)++[t%B64]:=by
 have hp:0<B64^j:=Nat.pow_pos aA6;have h1:amP A C m a (j+1)/B64^j=t:=by
  rw[cI6,Nat.add_mul_div_left _ _ hp,ht];omega
 refine⟨by rw[Nat.pow_succ,<- Nat.div_div_eq_div_mul,h1],?_⟩;rw[bN8,h1,<- bG6 j (amP A C m a (j+1)),cI6,Nat.add_mul_mod_self_left,bG6];rfl
theorem bB4(zb zo zc xc yb yo yc k A C m a:Nat)(cz cy:Array Value)(Tz Ty:TypeId)(w:World)(hk:k<=100000)(hm:m<B64)(ha:a<B64)(hz:w.heap[zb]? = some (.cells cz Tz (0,0)))(hzo:zo+k<=cz.size)(hxc:Has cz zo (wds k A))(hy:w.heap[yb]? = some (.cells cy Ty (0,0)))(hyc:Has cy yo (wds k C))(hne:zb≠yb):
  Calls prog 230 #[.slice (some ⟨zb,zo,none⟩) k zc,.slice (some ⟨zb,zo,none⟩) k xc,.slice (some ⟨yb,yo,none⟩) k yc,.int .u64 (m:Int),.int .u64 (a:Int)] w fun e w' =>
   e=.returned (.int .u64 ((amP A C m a k/B64^k:Nat):Int))/\Put w zb (putC cz zo (wds k (amP A C m a k))) Tz w':=by
 have hrx:∀(wr:World) (j:Nat),wr.heap[zb]? = some (.cells (putC cz zo (wds j (amP A C m a j))) Tz (0,0))->j<k->wr.cell? ⟨zb,zo+j,none⟩=some (.int .u64 ((A/B64^j%B64:Nat):Int)):=by
  intro wr j h hj;rw[aA2 h,aD8 _ _ _ _ (Or.inr (by rw[aA9];exact Nat.le_refl _)),hxc j (by rw[aA9];exact hj),aD7 _ _ _ hj]
 have hry:∀(wr:World) (j:Nat),Kept (fun i=>i=zb) w wr->j<k->wr.cell? ⟨yb,yo+j,none⟩=some (.int .u64 ((C/B64^j%B64:Nat):Int)):=by
  intro wr j h hj;rw[aA2 (h.at hy (fun e=>hne e.symm)),hyc j (by rw[aA9];exact hj),aD7 _ _ _ hj]
 have HRX:=hiD hrx;have HRY:=hiD hry;have HZ:=hiD hz;have HC:=hiD (fun j=>cW9 (A:=A) (C:=C) hm ha j);have HM:=hiD hm;have HB:=hiD (And.intro hk hzo);have hst:amP A C m a 0/B64^0=a:=by simp[amP,Nat.mod_one]
 have HST:=hiD hst;clear hrx hry hz hxc hy hyc hne hk hzo hst;go_enter func230,ntmps230;go_wp2_with fail
 go_loopw [10,32] (fun c i wr=>∃ j:Nat,j<=k/\i=.int .i64 (j:Int)/\c=.int .u64 ((amP A C m a j/B64^j:Nat):Int)/\Put w zb (putC cz zo (wds j (amP A C m a j))) Tz wr) (fun _ i _=>k-(intOf i).toNat)
 case atStart=>exact⟨0,Nat.zero_le _,rfl,by rw[HST.out],HZ.out,Kept.refl _ _⟩
 case round =>
  obtain⟨j,hj,rfl,rfl,hp⟩:=hrel;have HP:=hiD hp;clear hp;by_cases hlt:j<k
  ·have hb:=HP.out.1;have c1:=HRX.out wr j hb hlt;have c2:=HRY.out wr j HP.out.2 hlt;have hxb:=cA7 A j;have hyb:=cA7 C j;have hcb:=HC.out j;obtain⟨t,ht⟩:∃ t,t=C/B64^j%B64*m+A/B64^j%B64+amP A C m a j/B64^j:=⟨_,rfl⟩;obtain⟨n1,n2⟩:=dG4 ht;have hmw:=fun w=>aP9 (C/B64^j%B64) m (A/B64^j%B64) hyb HM.out hxb w;have m1:=bK4 (C/B64^j%B64) m (A/B64^j%B64);have m2:=aR5 (C/B64^j%B64) m (A/B64^j%B64);generalize mwH (C/B64^j%B64) m (A/B64^j%B64)=hi at *;generalize mwL (C/B64^j%B64) m (A/B64^j%B64)=lo at *;obtain⟨cj,hcj⟩:∃ cj,cj=amP A C m a j/B64^j:=⟨_,rfl⟩;rw[<- hcj]at ht hcb ⊢;have had:=fun w=>aD9 lo cj 0 (by omega) w;have a1:=cE8 lo cj 0;have a2:=cE7 lo cj 0;generalize adS lo cj 0=S at *;generalize adC lo cj 0=cc at *;have htv:t=B64*(hi+cc)+S:=by
    rw[ht,<- m1,Nat.mul_add];omega
   have hq:t/B64=hi+cc:=by rw[htv,Nat.mul_add_div aA6,Nat.div_eq_of_lt a2,Nat.add_zero]
   have hs:t%B64=S:=by rw[htv,Nat.mul_add_mod,Nat.mod_eq_of_lt a2]
   have hnb:=HC.out (j+1);rw[n1,hq]at hnb;obtain⟨nc,hnc⟩:∃ nc,nc=cc+hi:=⟨_,rfl⟩;have hB:B64=18446744073709551616:=rfl;have w1:IntKind.u64.wrap ((cc:Int)+(hi:Int))=(nc:Int):=by rw[IntKind.wrap_u64];omega
   have HN1:Hid (amP A C m a (j+1)/B64^(j+1)=nc):=by
    show amP A C m a (j+1)/B64^(j+1)=nc;rw[n1,hq,hnc,Nat.add_comm]
   rw[hs]at n2;have hfin:∀ wz:World,wz.heap=wr.heap->(wz.setCell ⟨zb,zo+j,none⟩ (.int .u64 (S:Int))).heap[zb]? = some (.cells (putC cz zo (wds (j+1) (amP A C m a (j+1)))) Tz (0,0)):=by
    intro wz hwz;have hbz:wz.heap[zb]? = some (.cells (putC cz zo (wds j (amP A C m a j))) Tz (0,0)):=by rw[hwz];exact hb
    rw[aA3 hbz _ _,n2,bH1,aA9]
   have HF:=hiD hfin;have f1:=aA1 hb (zo+j);have d1:wr.drew.cell? ⟨zb,zo+j,none⟩=some (.int .u64 ((A/B64^j%B64:Nat):Int)):=c1;have d2:wr.drew.cell? ⟨yb,yo+j,none⟩=some (.int .u64 ((C/B64^j%B64:Nat):Int)):=c2;have d3:wr.drew.frozen? ⟨zb,zo+j,none⟩=false:=f1;have HMW:=hiD hmw;have HAD:=hiD had;have HLT:=hiD hlt;generalize A/B64^j%B64=xj at *;generalize C/B64^j%B64=yj at *;clear hb hxb hyb hcb ht n1 n2 hmw m1 m2 hcj had a1 a2 htv hq hs hnb hnc hB hfin
   go_upto_region 7 with fail
   go_region_with (go_at_call 260;refine(HMW.out _).mono ?_;rintro e w7 ⟨rfl,rfl⟩)
   all_goals
    go_wp2_with fail;refine(HAD.out _).mono ?_;rintro e w7 ⟨rfl,rfl⟩;go_wp2_with fail;have hk2:=HB.out.1;have hlt2:=HLT.out;have hw9:wrap64 ((j:Int)+1)=((j+1:Nat):Int):=by unfold wrap64;omega
    go_roundw
    case rel=>exact⟨j+1,HLT.out,by rw[hw9],by rw[HN1.out],HF.out _ rfl,HP.out.2.drew.setCell _ _ (fun _=>rfl)⟩
    case measure =>
     rw[hw9];show k-(((j+1:Nat):Int)).toNat<k-((j:Int)).toNat
     omega
  ·have:j=k:=by omega
   subst this;go_wp2_with fail;go_ret;exact⟨rfl,HP.out⟩
theorem dS0{A C m a k:Nat}(hA:A<B64^k)(hC:C<B64^k):amP A C m a k=A+C*m+a:=by
 unfold amP;rw[Nat.mod_eq_of_lt hA,Nat.mod_eq_of_lt hC]
theorem bI0(zb zo zc xc yb yo yc k A C m a:Nat)(cz cy:Array Value)(Tz Ty:TypeId)(w:World)(hk:k<=100000)(hm:m<B64)(ha:a<B64)(hA:A<B64^k)(hC:C<B64^k)(hz:w.heap[zb]? = some (.cells cz Tz (0,0)))(hzo:zo+k<=cz.size)(hxc:Has cz zo (wds k A))(hy:w.heap[yb]? = some (.cells cy Ty (0,0)))(hyc:Has cy yo (wds k C))(hne:zb≠yb):
  Calls prog 201 #[.slice (some ⟨zb,zo,none⟩) k zc,.slice (some ⟨zb,zo,none⟩) k xc,.slice (some ⟨yb,yo,none⟩) k yc,.int .u64 (m:Int),.int .u64 (a:Int)] w fun e w' =>
   e=.returned (.int .u64 (((A+C*m+a)/B64^k:Nat):Int))/\Put w zb (putC cz zo (wds k (A+C*m+a))) Tz w':=by
 have H:=hiD (bB4 zb zo zc xc yb yo yc k A C m a cz cy Tz Ty w hk hm ha hz hzo hxc hy hyc hne);rw[dS0 hA hC]at H;generalize(A+C*m+a)/B64^k=cr at *;generalize A+C*m+a=R at *;clear hz hxc hy hyc hne hA hC hk hm ha hzo;go_enter func201,ntmps201;go_wp2_with fail;refine H.out.mono ?_;rintro e w1 ⟨rfl,h⟩;have H1:=hiD h;clear h;go_wp2_with fail;go_ret;exact⟨rfl,H1.out⟩
theorem bJ9(w:World)(b o:Nat)(l:List Nat):w.setCells b o (l.map (fun x=>Value.int .u64 ((x:Nat):Int)))=aB2 w b o l:=by
 induction l generalizing w o with
 | nil=>rfl
 | cons x l ih=>exact ih _ _
theorem cC0(k o n c:Nat)(cz:Array Value)(w:World)(hz:w.heap[k]? = some (.cells cz 165 (0,0)))(h:o+n<=cz.size)(hn:n≠0)(ty:TypeId):(Builtin.clear_ #[107] ty #[.slice (some ⟨k,o,none⟩) n c]).run prog w=.ok (.tuple #[]) (aB2 w k o (List.replicate n 0)):=by
 obtain⟨i0,hi,hz0,hz1,hz2⟩:=info_parts Tryz.info165;have hl:(Builtin.zeroCells (Value.int IntKind.u64 0).cells n).toList=(List.replicate n 0).map (fun x=>Value.int .u64 ((x:Nat):Int)):=by
  apply List.ext_getElem?;intro i;simp[Builtin.zeroCells,Value.cells,List.getElem?_replicate,Array.getElem?_range,Nat.mod_one];split<;>simp_all
 have hs:=run_storeCells_cells (P:=prog) k o ((List.replicate n 0).map (fun x=>Value.int .u64 ((x:Nat):Int))) 0 w (fun j hj=>by
  rw[List.length_map,List.length_replicate]at hj;rw[aA2 hz,Nat.add_zero,Array.getElem?_eq_getElem (by omega)];rfl) (fun j _=>aA1 hz _) (fun v hv=>by
  rw[List.mem_map]at hv;obtain⟨_,_,rfl⟩:=hv;rfl)
 rw[bJ9,Nat.add_zero]at hs;obtain⟨n',rfl⟩:∃ n',n=n'+1:=⟨n-1,by omega⟩;have e9:(List.replicate (n'+1) 0).map (fun x=>Value.int .u64 ((x:Nat):Int))=List.replicate (n'+1) (Value.int .u64 0):=by simp
 rw[e9]at hs;simp[Builtin.clear_,run_underlying underlying107,zeroValue,typeInfo,hi,hz0,hl,hs]
theorem cX0{X Y nx j L:Nat}(hX:X<B64^nx)(d:Nat)(hd:d=Y/B64^j%B64):X*(Y%B64^j)<B64^(j+(nx+1))/\X*(Y%B64^j)/B64^j<B64^nx/\X*(Y%B64^j)/B64^j+X*d+0<B64^(nx+1)/\X*(Y%B64^(j+1))=X*(Y%B64^j)%B64^j+B64^j*(X*(Y%B64^j)/B64^j+X*d+0):=by
 have hp:0<B64^j:=Nat.pow_pos aA6;have h1:Y%B64^j<B64^j:=Nat.mod_lt _ hp;have h2:X*(Y%B64^j)<B64^nx*B64^j:=by
  rcases Nat.eq_zero_or_pos X with h|h
  ·rw[h,Nat.zero_mul];exact Nat.mul_pos (Nat.pow_pos aA6) hp
  ·exact Nat.lt_of_lt_of_le (Nat.mul_lt_mul_of_pos_left h1 h) (Nat.mul_le_mul_right _ (Nat.le_of_lt hX))
 have h3:X*(Y%B64^j)/B64^j<B64^nx:=by
  rw[Nat.div_lt_iff_lt_mul hp];exact h2
 have hdb:d<B64:=by rw[hd];exact Nat.mod_lt _ aA6
 have h4:X*d+X<=X*B64:=by
  have:X*(d+1)<=X*B64:=Nat.mul_le_mul_left _ hdb;rw[Nat.mul_add,Nat.mul_one]at this;exact this
 have h5:X*B64+B64<=B64^(nx+1):=by
  rw[Nat.pow_succ];have:(X+1)*B64<=B64^nx*B64:=Nat.mul_le_mul_right _ hX;rw[Nat.add_mul,Nat.one_mul]at this;exact this
 have hle:X*(Y%B64^j)/B64^j<=X:=by
  refine Nat.div_le_of_le_mul ?_;rw[Nat.mul_comm];exact Nat.mul_le_mul_right _ (Nat.le_of_lt h1)
 refine⟨?_,h3,?_,?_⟩
 ·rw[<- Nat.pow_add,Nat.add_comm nx j]at h2;exact Nat.lt_of_lt_of_le h2 (Nat.pow_le_pow_right aA6 (by omega))
 ·have:=aA6;omega
 ·rw[Nat.pow_succ,Nat.mod_mul,<- hd,Nat.mul_add,Nat.add_zero,Nat.mul_add,<- Nat.add_assoc,Nat.mod_add_div];congr 1;rw[Nat.mul_left_comm]
def BmSt(w:World)(zb sz L:Nat)(Z:Nat)(wr:World):Prop:=(∃ cz,wr.heap[zb]? = some (.cells cz 165 (0,0))/\cz.size=sz/\Has cz 0 (wds L Z))/\Kept (fun i=>i=zb) w wr
theorem dS1{w wr w6:World}{zb sz nx ny j X Y d:Nat}{cz:Array Value}(hX:X<B64^nx)(hj:j<ny)(hd:d=Y/B64^j%B64)(hk:Kept (fun i=>i=zb) w wr)(hz2:cz.size=sz)(hz3:Has cz 0 (wds (nx+ny) (X*(Y%B64^j))))(hsz:nx+ny<=sz)(hp:Put wr zb (putC cz j (wds nx (X*(Y%B64^j)/B64^j+X*d+0))) 165 w6)(s:Nat)(hs:s=j+nx):
  (∃ u,w6.cell? ⟨zb,s,none⟩=some u)/\w6.frozen? ⟨zb,s,none⟩=false/\BmSt w zb sz (nx+ny) (X*(Y%B64^(j+1))) (w6.setCell ⟨zb,s,none⟩ (.int .u64 (((X*(Y%B64^j)/B64^j+X*d+0)/B64^nx:Nat):Int))):=by
 obtain⟨n1,n2,n3,n4⟩:=cX0 (L:=0) hX d hd;subst hs;refine⟨?_,aA1 hp.1 _,⟨_,aA3 hp.1 _ _,by rw[Array.size_setIfInBounds,aB1];exact hz2,?_⟩,(hk.trans hp.2 (fun _ _ e=>e) (fun _ _ e=>e)).setCell _ _ (fun _=>rfl)⟩
 ·rw[aA2 hp.1];exact⟨_,Array.getElem?_eq_getElem (by rw[aB1];omega)⟩
 rw[n4];generalize X*(Y%B64^j)/B64^j+X*d+0=R at *;refine aT5 hz3 n1 n3 (fun t ht=>?_) (fun t ht=>?_) (fun t ht=>?_)
 ·rw[Array.getElem?_setIfInBounds,if_neg (by omega),aD8 _ _ _ _ (Or.inl ht)]
 ·rcases Nat.lt_or_ge t nx with h4|h4
  ·rw[Array.getElem?_setIfInBounds,if_neg (by omega),aW0 _ _ _ _ (by omega) (by rw[aA9];omega) (by omega),Nat.add_sub_cancel_left,aD7 _ _ _ h4]
  ·have:t=nx:=by omega
   subst this;rw[Array.getElem?_setIfInBounds,if_pos rfl,if_pos (by rw[aB1];omega),Nat.mod_eq_of_lt (by rw[Nat.div_lt_iff_lt_mul (Nat.pow_pos aA6),<- Nat.pow_succ'];exact n3)]
 ·rw[Array.getElem?_setIfInBounds,if_neg (by omega),aD8 _ _ _ _ (Or.inr (by rw[aA9];omega))]
theorem dS2{X Y j:Nat}(hd:Y/B64^j%B64=0):X*(Y%B64^(j+1))=X*(Y%B64^j):=by
 rw[Nat.pow_succ,Nat.mod_mul,hd,Nat.mul_zero,Nat.add_zero]
theorem dS3{w W:World}{zb xb sz nx ny L j X Y d s zc xc cr:Nat}{cx:Array Value}(hX:X<B64^nx)(hj:j<ny)(hd:d=Y/B64^j%B64)(hL:L=nx+ny)(hzc2:L<=sz)(hb:nx+ny<=1000)(hne:zb≠xb)(hs:s=j+nx)(hcr:cr=(X*(Y%B64^j)/B64^j+X*d+0)/B64^nx)(hB:BmSt w zb sz L (X*(Y%B64^j)) W)(hx:W.heap[xb]? = some (.cells cx 165 (0,0)))(hxc:Has cx 0 (wds nx X)):
  Calls prog 201 #[.slice (some ⟨zb,j,none⟩) (s-j) (zc-j),.slice (some ⟨zb,j,none⟩) (s-j) (zc-j),.slice (some ⟨xb,0,none⟩) nx xc,.int .u64 (d:Int),.int .u64 0] W fun e w'=>e=.returned (.int .u64 (cr:Int))/\(∃ u,w'.cell? ⟨zb,s,none⟩=some u)/\w'.frozen? ⟨zb,s,none⟩=false/\BmSt w zb sz L (X*(Y%B64^(j+1))) (w'.setCell ⟨zb,s,none⟩ (.int .u64 (cr:Int))):=by
 subst hL;obtain⟨⟨cz5,z1,z2,z3⟩,hk⟩:=hB;obtain⟨-,b2,-,-⟩:=cX0 (L:=0) hX d hd;have hdb:d<B64:=by rw[hd];exact Nat.mod_lt _ aA6
 have hsub:=bH8 (i:=j) (r:=nx) z3 (by omega);rw[Nat.zero_add]at hsub;have hle:j+nx<=cz5.size:=by omega
 have hnx:nx<=100000:=by omega
 have hsz:nx+ny<=sz:=hzc2;rw[show s-j=nx by omega];refine(bI0 zb j (zc-j) (zc-j) xb 0 xc nx (X*(Y%B64^j)/B64^j) X d 0 cz5 cx 165 165 W hnx hdb aA6 b2 hX z1 hle hsub hx hxc hne).mono ?_;rintro e w' ⟨rfl,hp⟩;have h:=dS1 (sz:=sz) hX hj hd hk z2 z3 hsz hp s hs;rw[<- hcr]at h ⊢;exact⟨rfl,h⟩
theorem dG5{nx ny L zc j s:Nat}(hb:nx+ny<=1000)(hnx:1<=nx)(hL:L=nx+ny)(hzc:L<=zc)(hj:j<ny)(hs:s=j+nx):IntKind.i64.wrap ((j:Int)+(nx:Int))=(s:Int)/\IntKind.i64.wrap ((nx:Int)+(j:Int))=(s:Int)/\s<L/\j<=s/\s<=zc/\¬ j=zc/\j<zc/\¬ zc-j=0/\(s:Int)<(nx:Int)+(ny:Int):=by
 refine⟨by rw[IntKind.wrap_i64];omega,by rw[IntKind.wrap_i64];omega,by omega,by omega,by omega,by omega,by omega,by omega,by omega⟩
theorem bm_ne{d:Nat}(h:¬ d=0):((d:Int)==0)=false:=beqF (by omega)
theorem BmSt.drew{w wr:World}{zb sz L Z:Nat}(h:BmSt w zb sz L Z wr):BmSt w zb sz L Z wr.drew:=⟨h.1,h.2.drew⟩
end Go.Proofs.YtjebnpkebccffaaGreatDoor
