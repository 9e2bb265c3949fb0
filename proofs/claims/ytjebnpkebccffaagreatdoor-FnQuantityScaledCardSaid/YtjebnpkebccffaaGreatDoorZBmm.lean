import Derived.Test.YtjebnpkebccffaaGreatDoorZAmv
set_option linter.unusedSimpArgs false
set_option linter.unusedVariables false
set_option linter.unusedSectionVars false
set_option maxRecDepth 100000
set_option maxHeartbeats 8000000
namespace Go.Proofs.YtjebnpkebccffaaGreatDoor
open Go.RowKit Go.Proofs.Tryz
section
open Go.RowKit
open Go.Proofs.YtjebnpkebccffaaGreatDoorW.PrintLast
theorem bC9(zb xb yb nx ny zc xc yc X Y L sz:Nat)(cz cx cy:Array Value)(w:World)(hX:X<B64^nx)(hY:Y<B64^ny)(hnx:1<=nx)(hny:1<=ny)(hb:nx+ny<=1000)(hL:L=nx+ny)(hzc:L<=zc)(hzc2:zc<=sz)(hsz:cz.size=sz)(hz:w.heap[zb]? = some (.cells cz 165 (0,0)))(hx:w.heap[xb]? = some (.cells cx 165 (0,0)))(hxc:Has cx 0 (wds nx X))(hy:w.heap[yb]? = some (.cells cy 165 (0,0)))(hyc:Has cy 0 (wds ny Y))(hzx:zb≠xb)(hzy:zb≠yb):
  Calls prog 168 #[.slice (some ⟨zb,0,none⟩) L zc,.slice (some ⟨xb,0,none⟩) nx xc,.slice (some ⟨yb,0,none⟩) ny yc] w fun e w'=>e=.returned (.tuple #[])/\BmSt w zb sz L (X*Y) w':=by
 have hcl:=fun ty=>cC0 zb 0 L zc cz w hz (by omega) (by omega) ty
 have hb0:=aB9 hz 0 (List.replicate L 0);have hst:BmSt w zb sz L (X*(Y%B64^0)) (aB2 w zb 0 (List.replicate L 0)):=by
  refine⟨⟨_,hb0,by rw[aB1];exact hsz,?_⟩,aE6 (Kept.refl _ _) zb 0 _ (fun _=>rfl)⟩;rw[Nat.pow_zero,Nat.mod_one,Nat.mul_zero,dE6];exact aI9 _ _ _ (by rw[List.length_replicate];omega)
 have HST:=hiD hst;have HRY:Hid (∀(wr:World) (j:Nat),Kept (fun i=>i=zb) w wr->j<ny->wr.cell? ⟨yb,j,none⟩=some (.int .u64 ((Y/B64^j%B64:Nat):Int))):=by
  intro wr j h hj;have:=hyc j (by rw[aA9];exact hj);rw[Nat.zero_add,aD7 _ _ _ hj]at this;rw[aA2 (h.at hy (fun e=>hzy e.symm)),this]
 have HXB:Hid (∀ wr:World,Kept (fun i=>i=zb) w wr->wr.heap[xb]? = some (.cells cx 165 (0,0))):=fun wr h=>h.at hx (fun e=>hzx e.symm);have HXC:=hiD (And.intro hxc (And.intro hX hY));have HN:=hiD (show 1<=nx/\1<=ny/\nx+ny<=1000/\L=nx+ny/\L<=zc/\zc<=sz/\zb≠xb from⟨hnx,hny,hb,hL,hzc,hzc2,hzx⟩);rw[show((.slice (some ⟨zb,0,none⟩) L zc):Value)=.slice (some ⟨zb,0,none⟩) (nx+ny) zc by rw[hL]]at hcl;have q1:nx+ny<=zc:=by omega
 have q2:¬ L=0:=by omega
 generalize aB2 w zb 0 (List.replicate L 0)=w1 at *;clear hst hb0 hx hxc hy hyc hzx hzy hX hY hz hsz;go_enter func168,ntmps168;go_wp2_with fail;clear hcl
 go_loopw [17] (fun i wr=>∃ j:Nat,j<=ny/\i=.int .i64 (j:Int)/\Hid (BmSt w zb sz L (X*(Y%B64^j)) wr)) (fun i _=>ny-(intOf i).toNat)
 case atStart=>exact⟨0,Nat.zero_le _,rfl,HST⟩
 case round =>
  obtain⟨j,hj,rfl,HB⟩:=hrel;by_cases hlt:j<ny
  ·have c1:=HRY.out wr j HB.out.2 hlt;obtain⟨d,hd⟩:∃ d,d=Y/B64^j%B64:=⟨_,rfl⟩;rw[<- hd]at c1;have hw9:IntKind.i64.wrap ((j:Int)+1)=((j+1:Nat):Int):=by rw[IntKind.wrap_i64];have:=HN.out;omega
   have hw9':wrap64 ((j:Int)+1)=((j+1:Nat):Int):=by unfold wrap64;have:=HN.out;omega
   have HLT:=hiD hlt;have HW:=hiD hw9';by_cases hd0:d=0
   ·have HNX:Hid (BmSt w zb sz L (X*(Y%B64^(j+1))) wr):=by
     show BmSt w zb sz L (X*(Y%B64^(j+1))) wr;rw[dS2 (by rw[<- hd];exact hd0)];exact HB.out
    have t1:((d:Int)==0)=true:=by rw[hd0];rfl
    have t2:d=0:=hd0;clear hd hd0 hw9 hw9';go_wp2_with fail;go_roundw
    case rel=>exact⟨j+1,HLT.out,by first|rfl|rw[HW.out],HNX⟩
    case measure =>
     show ny-(((j:Int)+1)).toNat<ny-((j:Int)).toNat
     have:=HLT.out;omega
   ·obtain⟨s,hs⟩:∃ s,s=j+nx:=⟨_,rfl⟩;obtain⟨cr,hcr⟩:∃ cr,cr=(X*(Y%B64^j)/B64^j+X*d+0)/B64^nx:=⟨_,rfl⟩;have HAM:Hid (∀ W:World,BmSt w zb sz L (X*(Y%B64^j)) W->Calls prog 201 #[.slice (some ⟨zb,j,none⟩) (s-j) (zc-j),.slice (some ⟨zb,j,none⟩) (s-j) (zc-j),.slice (some ⟨xb,0,none⟩) nx xc,.int .u64 (d:Int),.int .u64 0] W fun e w'=>e=.returned (.int .u64 (cr:Int))/\(∃ u,w'.cell? ⟨zb,s,none⟩=some u)/\w'.frozen? ⟨zb,s,none⟩=false/\BmSt w zb sz L (X*(Y%B64^(j+1))) (w'.setCell ⟨zb,s,none⟩ (.int .u64 (cr:Int)))):=fun W hB=>dS3 HXC.out.2.1 hlt hd HN.out.2.2.2.1 (Nat.le_trans HN.out.2.2.2.2.1 HN.out.2.2.2.2.2.1) HN.out.2.2.1 HN.out.2.2.2.2.2.2 hs hcr hB (HXB.out W hB.2) HXC.out.1;obtain⟨v1,v2,v3,v4,v5,v6,v7,v8,v9⟩:=dG5 HN.out.2.2.1 HN.out.1 HN.out.2.2.2.1 HN.out.2.2.2.2.1 hlt hs;have v10:¬ zc=j:=fun e=>v6 e.symm
    have t1:=bm_ne hd0;have t2:¬ d=0:=hd0;clear hs hcr hd hd0 hw9 hw9'
    go_upto_region 5 with fail
    have hB0:=HB.out.drew;refine start_ (n:=24) (S:=fun w'=>BmSt w zb sz L (X*(Y%B64^j)) w') (ds:=[21,23]) #[false,false,false,false,false,false,false,false,false,false,false,false,false,false,false,false,false,false,false,false,false,false,false,false] (by kernel_rfl) rfl rfl (hB0) (fun hHeld=>?_);refine rgp 0 24 ?_;refine rgp 1 25 ?_;refine rgp 2 26 ?_;refine rgp 3 27 ?_;refine rgp 4 28 ?_;refine rgp 5 29 ?_;refine rgp 6 30 ?_;refine rgp 7 31 ?_;refine rgp 8 32 ?_;refine rgp 9 33 ?_;refine rgp 10 34 ?_;refine rgp 11 35 ?_;refine rgp 12 36 ?_;refine rgp 13 37 ?_;refine rgp 14 38 ?_;refine rgp 15 39 ?_;refine rgp 16 40 ?_;refine rgp 17 41 ?_;refine rgp 18 42 ?_;refine rgp 19 43 ?_;refine rgp 20 44 ?_;refine last_ (i:=21) (N:=some 45) #[true,true,true,true,true,true,true,true,true,true,true,true,true,true,true,true,true,true,true,true,true,true,false,false] rfl rfl (by kernel_rfl) (by decide) (fun K hK=>?_);refine goes_ func201 (by kernel_rfl) rfl #[.slice (some ⟨zb,j,none⟩) (s-j) (zc-j),.slice (some ⟨zb,j,none⟩) (s-j) (zc-j),.slice (some ⟨xb,0,none⟩) nx xc,.int .u64 (d:Int),.int .u64 0] (by rfl) rfl rfl (by simp only[List.map_toArray,List.map_cons,List.map_nil];rfl) ?_;with_reducible refine(HAM.out _ hB0).mono ?_
    rintro e w7 ⟨rfl,⟨uu,x7⟩,f7,h7⟩;have HS7:=hiD h7;clear h7;refine⟨_,rfl,?_⟩;refine hK.out _ _ ?_;clear hK K;refine rgn 45 ?_;refine rgp 22 46 ?_;refine last_ (i:=23) (N:=none) #[true,true,true,true,true,true,true,true,true,true,true,true,true,true,true,true,true,true,true,true,true,true,true,true] rfl rfl (by kernel_rfl) (by decide) (fun K hK=>?_);refine skip_ (w1:=?_) (by rfl) rfl ?_ ?_;rotate_left
    ·go_simp;rfl
    refine hK.out _ _ ?_;clear hK K;refine done_ (by kernel_rfl) ?_
    go_wp2_with fail;go_roundw
    case rel=>exact⟨j+1,HLT.out,by first|rfl|rw[HW.out],HS7⟩
    case measure =>
     show ny-(((j:Int)+1)).toNat<ny-((j:Int)).toNat
     have:=HLT.out;omega
  ·have hje:j=ny:=by omega
   have HFIN:Hid (BmSt w zb sz L (X*Y) wr):=by
    have h:=HB.out;rw[hje,Nat.mod_eq_of_lt HXC.out.2.2]at h;exact h
   have t0:decide (j<ny)=false:=decF hlt;clear hje;go_wp2_with fail
   go_end0
   exact⟨rfl,HFIN.out⟩
end
end Go.Proofs.YtjebnpkebccffaaGreatDoor
