import Derived.Test.YtjebnpkebccffaaGreatDoorZInt
set_option linter.unusedSimpArgs false
set_option linter.unusedVariables false
set_option linter.unusedSectionVars false
set_option maxRecDepth 100000
set_option maxHeartbeats 8000000
namespace Go.Proofs.YtjebnpkebccffaaGreatDoor
open Go.RowKit Go.Proofs.Tryz
section
open Go.RowKit
open Go.Proofs.YtjebnpkebccffaaGreatDoorW.PrintLast
def QRRes(w:World)(z r:Nat)(bz br:Option Nat)(q s:Int)(rz rr:List Value)(Tz Tr:TypeId)(e:Ending)(w':World):Prop :=
 e=.returned (.tuple #[.pointer (some ⟨z,0,none⟩),.pointer (some ⟨r,0,none⟩)])/\∃ bq bs,IntAt w' z q bq rz Tz/\IntAt w' r s bs rr Tr/\Kept (fun k=>k=z\/k=r\/bz=some k\/br=some k) w w'/\Own w bz bq/\Own w br bs/\(∀ k,bq=some k->bs≠some k)
theorem NatAt.move'{w w':World}{v:Value}{n n':Nat}{b:Option Nat}(h:NatAt w v n b)(hn:n'=n)(hk:∀ k,b=some k->w'.heap[k]? = w.heap[k]?):NatAt w' v n' b:=by subst hn;exact h.move hk
def QMid(w:World)(z r:Nat)(bz br:Option Nat)(n m:Int)(s1 s2:Bool)(rz rr:List Value)(Tz Tr:TypeId)(wx:World):Prop :=
 ∃ vq bq vs bs,NatAt wx vq (quoN n.natAbs m.natAbs) bq/\NatAt wx vs (remN n.natAbs m.natAbs) bs/\Kept (fun k=>k=z\/k=r\/bz=some k\/br=some k) w wx/\Own w bz bq/\Own w br bs/\(∀ k,bq=some k->bs≠some k) /\
  bq≠some z/\bq≠some r/\bs≠some z/\bs≠some r/\wx.heap[z]? = some (.cells (Value.bool s1::vq::rz).toArray Tz (0,0))/\wx.heap[r]? = some (.cells (Value.bool s2::vs::rr).toArray Tr (0,0))
theorem dO4{w w1:World}{z r:Nat}{bz br bq bs:Option Nat}{n m:Int}{s1 s2:Bool}{v1 v2 vq vs:Value}{rz rr:List Value}{Tz Tr:TypeId}(hz1:w.heap[z]? = some (.cells (Value.bool s1::v1::rz).toArray Tz (0,0)))(hr1:w.heap[r]? = some (.cells (Value.bool s2::v2::rr).toArray Tr (0,0)))(hz3:bz≠some z)(hr3:br≠some r)(hb3:bz≠some r)(hb6:br≠some z)(hzr:z≠r)(h:NatAt w1 vq (quoN n.natAbs m.natAbs) bq/\NatAt w1 vs (remN n.natAbs m.natAbs) bs/\Kept (fun k=>bz=some k\/br=some k) w.drew w1/\Own w.drew bz bq/\Own w.drew br bs/\(∀ k,bq=some k->bs≠some k)):
  QMid w z r bz br n m s1 s2 rz rr Tz Tr ((w1.setCell ⟨z,1,none⟩ vq).setCell ⟨r,1,none⟩ vs):=by
 obtain⟨h1,h2,hK,hO1,hO2,hA⟩:=h;have hK:=hK.undrew;have hO1:Own w bz bq:=hO1;have hO2:Own w br bs:=hO2;have n1:=aK3 hO1 (aB5 hz1) hz3;have n2:=aK3 hO1 (aB5 hr1) hb3;have n3:=aK3 hO2 (aB5 hz1) hb6;have n4:=aK3 hO2 (aB5 hr1) hr3;have e1:=hK.at hz1 (by intro h;rcases h with h|h;exact hz3 h;exact hb6 h);have e2:=hK.at hr1 (by intro h;rcases h with h|h;exact hb3 h;exact hr3 h);refine⟨vq,bq,vs,bs,h1.move ?_,h2.move ?_,?_,hO1,hO2,hA,n1,n2,n3,n4,?_,?_⟩
 ·intro k hk;rw[aA7 (by intro e;subst e;exact n2 hk),aA7 (by intro e;subst e;exact n1 hk)]
 ·intro k hk;rw[aA7 (by intro e;subst e;exact n4 hk),aA7 (by intro e;subst e;exact n3 hk)]
 ·have h0:Kept (fun k=>k=z\/k=r\/bz=some k\/br=some k) w w1:=hK.mono (fun _ _ h=>Or.inr (Or.inr h));exact(h0.setCell ⟨z,1,none⟩ vq (fun _=>Or.inl rfl)).setCell ⟨r,1,none⟩ vs (fun _=>Or.inr (Or.inl rfl))
 ·rw[aA7 hzr];exact bM5 e1 vq
 ·exact bM5 ((aA7 (Ne.symm hzr)).trans e2) vs
theorem bE3{w wx:World}{z r:Nat}{bz br:Option Nat}{n m:Int}{s1 s2:Bool}{rz rr:List Value}{Tz Tr:TypeId}(h:QMid w z r bz br n m s1 s2 rz rr Tz Tr wx)(hzr:z≠r){a b:Bool}(ha:a=decide (n.tdiv m<0))(hb:b=decide (n.tmod m<0)):
  QRRes w z r bz br (n.tdiv m) (n.tmod m) rz rr Tz Tr (.returned (.tuple #[.pointer (some ⟨z,0,none⟩),.pointer (some ⟨r,0,none⟩)])) (((wx.setCell ⟨z,0,none⟩ (.bool a)).setCell ⟨r,0,none⟩ (.bool b)).drew):=by
 obtain⟨vq,bq,vs,bs,h1,h2,h3,h4,h5,h6,h7,h8,h9,h10,h11,h12⟩:=h;have hh:((((wx.setCell ⟨z,0,none⟩ (.bool a)).setCell ⟨r,0,none⟩ (.bool b)).drew)).heap=((wx.setCell ⟨z,0,none⟩ (.bool a)).setCell ⟨r,0,none⟩ (.bool b)).heap:=rfl;refine⟨rfl,bq,bs,⟨vq,?_,h1.move' ?_ ?_,h7⟩,⟨vs,?_,h2.move' ?_ ?_,h10⟩,?_,h4,h5,h6⟩
 ·rw[hh,aA7 hzr,ha];exact bE1 h11 _
 ·rw[Int.natAbs_tdiv];rfl
 ·intro k hk;rw[hh,aA7 (by intro e;subst e;exact h8 hk),aA7 (by intro e;subst e;exact h7 hk)]
 ·rw[hh,hb];exact bE1 ((aA7 (Ne.symm hzr)).trans h12) _
 ·rw[Int.natAbs_tmod];rfl
 ·intro k hk;rw[hh,aA7 (by intro e;subst e;exact h10 hk),aA7 (by intro e;subst e;exact h9 hk)]
 ·exact((h3.setCell ⟨z,0,none⟩ (.bool a) (fun _=>Or.inl rfl)).setCell ⟨r,0,none⟩ (.bool b) (fun _=>Or.inr (Or.inl rfl))).drew
theorem bS4{n m:Int}(h:quoN n.natAbs m.natAbs=0):decide (n.tdiv m<0)=false:=by
 have:(n.tdiv m).natAbs=0:=by rw[Int.natAbs_tdiv];exact h
 exact decF (by omega)
theorem bS5{n m:Int}(h:remN n.natAbs m.natAbs=0):decide (n.tmod m<0)=false:=by
 have:(n.tmod m).natAbs=0:=by rw[Int.natAbs_tmod];exact h
 exact decF (by omega)
theorem bS6{n m:Int}(hm:m≠0)(h:quoN n.natAbs m.natAbs≠0):decide (n.tdiv m<0)=(decide (n<0)!=decide (m<0)):=by
 have h0:n.tdiv m≠0:=by
  intro e;have:(n.tdiv m).natAbs=0:=by rw[e];rfl
  rw[Int.natAbs_tdiv]at this;exact h this
 by_cases h1:n<0<;>by_cases h2:m<0
 ·have:0<=n.tdiv m:=by have:=Int.tdiv_nonneg (a:=-n) (b:=-m) (by omega) (by omega);rwa[Int.neg_tdiv_neg]at this
  simp[h1,h2];omega
 ·have:0<=(-n).tdiv m:=Int.tdiv_nonneg (by omega) (by omega);rw[Int.neg_tdiv]at this;simp[h1,h2];omega
 ·have:0<=n.tdiv (-m):=Int.tdiv_nonneg (by omega) (by omega);rw[Int.tdiv_neg]at this;simp[h1,h2];omega
 ·have:0<=n.tdiv m:=Int.tdiv_nonneg (by omega) (by omega);simp[h1,h2];omega
theorem bS7{n m:Int}(h:remN n.natAbs m.natAbs≠0):decide (n.tmod m<0)=decide (n<0):=by
 have h0:n.tmod m≠0:=by
  intro e;have:(n.tmod m).natAbs=0:=by rw[e];rfl
  rw[Int.natAbs_tmod]at this;exact h this
 by_cases h1:n<0
 ·have:0<=(-n).tmod m:=Int.tmod_nonneg _ (by omega);rw[Int.neg_tmod]at this;simp[h1];omega
 ·have:0<=n.tmod m:=Int.tmod_nonneg _ (by omega);simp[h1];omega
theorem aQ3(z x y r:Nat)(nz n m nr:Int)(bz bx by_ br:Option Nat)(rz rx ry rr:List Value)(Tz Tx Ty Tr:TypeId)(w:World)(hz:IntAt w z nz bz rz Tz)(hx:IntAt w x n bx rx Tx)(hy:IntAt w y m by_ ry Ty)(hr:IntAt w r nr br rr Tr)(hzx:z≠x)(hzy:z≠y)(hrx:r≠x)(hry:r≠y)(hzr:z≠r)(hb:bz≠some x/\bz≠some y/\bz≠some r/\br≠some x/\br≠some y/\br≠some z)(hm0:m≠0)(hdiv:∀(W:World) (vz vr vx vy:Value),W.heap=w.heap->NatAt W vz nz.natAbs bz->NatAt W vr nr.natAbs br->NatAt W vx n.natAbs bx->NatAt W vy m.natAbs by_->Calls prog 196 #[vz,.pointer none,vr,vx,vy] W (QR W bz br (quoN n.natAbs m.natAbs) (remN n.natAbs m.natAbs))):
  Calls prog 158 #[.pointer (some ⟨z,0,none⟩),.pointer (some ⟨x,0,none⟩),.pointer (some ⟨y,0,none⟩),.pointer (some ⟨r,0,none⟩)] w (QRRes w z r bz br (n.tdiv m) (n.tmod m) rz rr Tz Tr):=by
 obtain⟨vz,hz1,hz2,hz3⟩:=hz;obtain⟨vx,hx1,hx2,hx3⟩:=hx;obtain⟨vy,hy1,hy2,hy3⟩:=hy;obtain⟨vr,hr1,hr2,hr3⟩:=hr;obtain⟨cz0,cz1,fz0,fz1⟩:=aA5 hz1;obtain⟨cx0,cx1,_,_⟩:=aA5 hx1;obtain⟨cy0,cy1,_,_⟩:=aA5 hy1;obtain⟨cr0,cr1,fr0,fr1⟩:=aA5 hr1;obtain⟨hb1,hb2,hb3,hb4,hb5,hb6⟩:=hb;have HM:=hiD (hdiv w.drew vz vr vx vy rfl (by exact hz2) (by exact hr2) (by exact hx2) (by exact hy2));have HW1:Hid (∀(w1:World),Kept (fun k=>bz=some k\/br=some k) w.drew w1->w1.cell? ⟨z,1,none⟩=some vz/\w1.frozen? ⟨z,1,none⟩=false/\w1.cell? ⟨r,1,none⟩=some vr/\w1.frozen? ⟨r,1,none⟩=false):=by
  intro w1 hK;have e:=hK.at (o:=.cells (Value.bool (decide (nz<0))::vz::rz).toArray Tz (0,0)) hz1 (by intro h;rcases h with h|h;exact hz3 h;exact hb6 h);have e':=hK.at (o:=.cells (Value.bool (decide (nr<0))::vr::rr).toArray Tr (0,0)) hr1 (by intro h;rcases h with h|h;exact hb3 h;exact hr3 h);exact⟨(aA5 e).2.1,(aA5 e).2.2.2,(aA5 e').2.1,(aA5 e').2.2.2⟩
 have HFIN:Hid (∀(w1:World) (vq vs:Value) (bq bs:Option Nat),NatAt w1 vq (quoN n.natAbs m.natAbs) bq/\NatAt w1 vs (remN n.natAbs m.natAbs) bs/\Kept (fun k=>bz=some k\/br=some k) w.drew w1/\Own w.drew bz bq/\Own w.drew br bs/\(∀ k,bq=some k->bs≠some k) ->
   QMid w z r bz br n m (decide (nz<0)) (decide (nr<0)) rz rr Tz Tr ((w1.setCell ⟨z,1,none⟩ vq).setCell ⟨r,1,none⟩ vs)):=fun w1 vq vs bq bs h=>dO4 hz1 hr1 hz3 hr3 hb3 hb6 hzr h
 have HX0:Hid (∀ wx,QMid w z r bz br n m (decide (nz<0)) (decide (nr<0)) rz rr Tz Tr wx->(∃ a c,wx.cell? ⟨z,1,none⟩=some (.slice a (dig (quoN n.natAbs m.natAbs)).length c))/\(∃ a c,wx.cell? ⟨r,1,none⟩=some (.slice a (dig (remN n.natAbs m.natAbs)).length c)) /\
   wx.cell? ⟨x,0,none⟩=some (.bool (decide (n<0)))/\wx.cell? ⟨y,0,none⟩=some (.bool (decide (m<0)))/\wx.cell? ⟨z,0,none⟩=some (.bool (decide (nz<0)))/\wx.cell? ⟨r,0,none⟩=some (.bool (decide (nr<0)))/\wx.frozen? ⟨z,0,none⟩=false/\wx.frozen? ⟨r,0,none⟩=false):=by
  intro wx ⟨vq,bq,vs,bs,h1,h2,h3,h4,h5,h6,h7,h8,h9,h10,h11,h12⟩;obtain⟨a1,c1,rfl⟩:=aB6 h1;obtain⟨a2,c2,rfl⟩:=aB6 h2;have ex:=h3.at hx1 (by intro h;rcases h with h|h|h|h;exact hzx h.symm;exact hrx h.symm;exact hb1 h;exact hb4 h);have ey:=h3.at hy1 (by intro h;rcases h with h|h|h|h;exact hzy h.symm;exact hry h.symm;exact hb2 h;exact hb5 h);obtain⟨d0,d1,d2,_⟩:=aA5 h11;obtain⟨e0,e1,e2,_⟩:=aA5 h12;exact⟨⟨a1,c1,d1⟩,⟨a2,c2,e1⟩,(aA5 ex).1,(aA5 ey).1,d0,e0,d2,e2⟩
 have HZ1:=hiD hz1;have HX1:=hiD hx1;have HY1:=hiD hy1;have HR1:=hiD hr1;clear hz1 hx1 hy1 hr1 hz2 hx2 hy2 hr2 hdiv;go_enter func158,ntmps158
 go_upto_region 1 with(fail)
 go_cut [] (fun wx=>QMid w z r bz br n m (decide (nz<0)) (decide (nr<0)) rz rr Tz Tr wx)
 case first =>
  refine start_ (n:=28) (S:=fun w'=>w'.cell? ⟨z,1,none⟩=some vz/\w'.cell? ⟨r,1,none⟩=some vr/\w'.cell? ⟨x,1,none⟩=some vx/\w'.cell? ⟨y,1,none⟩=some vy) (ds:=[18,24,27]) #[false,false,false,false,false,false,false,false,false,false,false,false,false,false,false,false,false,false,false,false,false,false,false,false,false,false,false,false] (by kernel_rfl) rfl rfl ⟨cz1,cr1,cx1,cy1⟩ (fun hHeld=>?_);refine rgp 0 11 ?_;refine rgp 1 12 ?_;refine rgp 2 13 ?_;refine rgp 3 14 ?_;refine rgp 4 15 ?_;refine rgp 6 17 ?_;refine rgp 7 18 ?_;refine rgp 8 19 ?_;refine rgp 10 21 ?_;refine rgp 11 22 ?_;refine rgp 12 23 ?_;refine rgp 14 25 ?_;refine rgp 15 26 ?_;refine rgp 16 27 ?_;refine rgt 5 16 hHeld ?_;refine rgt 9 20 hHeld ?_;refine rgt 13 24 hHeld ?_;refine rgt 17 28 hHeld ?_;refine last_ (i:=18) (N:=some 29) #[true,true,true,true,true,true,true,true,true,true,true,true,true,true,true,true,true,true,true,false,false,false,false,false,false,false,false,false] rfl rfl (by kernel_rfl) (by decide) (fun K hK=>?_);refine goes_ func196 (by kernel_rfl) rfl #[vz,.pointer none,vr,vx,vy] (by rfl) rfl rfl (by simp only[List.map_toArray,List.map_cons,List.map_nil];rfl) ?_;with_reducible refine(HM.out).mono ?_
  rintro e w1 ⟨vq,bq,vs,bs,rfl,hh⟩;obtain⟨aq,cq,rfl⟩:=aB6 hh.1;obtain⟨ar,cr,rfl⟩:=aB6 hh.2.1;obtain⟨g1,g2,g3,g4⟩:=HW1.out w1 hh.2.2.1;have H:=hiD hh;clear hh;refine⟨_,rfl,?_⟩;refine hK.out _ _ ?_;clear hK K;refine rgn 29 ?_;refine rgp 19 10 ?_;refine rgp 20 30 ?_;refine rgp 21 31 ?_;refine rgp 22 32 ?_;refine rgp 23 33 ?_;refine last_ (i:=24) (N:=none) #[true,true,true,true,true,true,true,true,true,true,true,true,true,true,true,true,true,true,true,true,true,true,true,true,true,false,false,false] rfl rfl (by kernel_rfl) (by decide) (fun K hK=>?_);refine skip_ (w1:=?_) (by rfl) rfl ?_ ?_;rotate_left
  ·go_simp;rfl
  refine hK.out _ _ ?_;clear hK K;refine rgp 25 34 ?_;refine rgp 26 35 ?_;refine last_ (i:=27) (N:=none) #[true,true,true,true,true,true,true,true,true,true,true,true,true,true,true,true,true,true,true,true,true,true,true,true,true,true,true,true] rfl rfl (by kernel_rfl) (by decide) (fun K hK=>?_);refine skip_ (w1:=?_) (by rfl) rfl ?_ ?_;rotate_left
  ·go_simp;rfl
  refine hK.out _ _ ?_;clear hK K;refine done_ (by kernel_rfl) ?_
  go_wp2_with fail;go_meet;exact HFIN.out _ _ _ _ _ H.out
 case rest =>
  obtain⟨⟨aq,kq,z1⟩,⟨as1,kr,r1⟩,x0,y0,z0,r0,fz,fr⟩:=HX0.out _ hcut;have HC:=hiD hcut;clear hcut;generalize hL1:(dig (quoN n.natAbs m.natAbs)).length=L1 at *;generalize hL2:(dig (remN n.natAbs m.natAbs)).length=L2 at *;by_cases hq0:quoN n.natAbs m.natAbs=0<;>by_cases hr0:remN n.natAbs m.natAbs=0
  ·have e1:L1=0:=by rw[<- hL1,hq0,aC4];rfl
   have e2:L2=0:=by rw[<- hL2,hr0,aC4];rfl
   subst e1;subst e2;clear hL1 hL2;have gq:decide ((0:Int)<((0:Nat):Int))=false:=by decide
   go_wp2_with fail;refine start_ (n:=37) (S:=fun w'=>w'.cell? ⟨z,1,none⟩=some (.slice aq 0 kq)/\w'.cell? ⟨r,1,none⟩=some (.slice as1 0 kr)/\w'.cell? ⟨x,0,none⟩=some (.bool (decide (n<0)))/\w'.cell? ⟨y,0,none⟩=some (.bool (decide (m<0)))) (ds:=[33,36]) #[false,false,false,false,false,false,false,false,false,false,false,false,false,false,false,false,false,false,false,false,false,false,false,false,false,false,false,false,false,false,false,false,false,false,false,false,false] (by kernel_rfl) rfl rfl ⟨z1,r1,x0,y0⟩ (fun hHeld=>?_);refine rgp 0 36 ?_;refine rgp 1 37 ?_;refine rgp 2 38 ?_;refine rgp 3 39 ?_;refine rgp 4 40 ?_;refine rgp 19 55 ?_;refine rgp 20 56 ?_;refine rgp 21 57 ?_;refine rgt 5 41 hHeld ?_;refine rgp 6 42 ?_;refine rgp 7 43 ?_;refine rgp 8 44 ?_;refine rgu 9 45 ?_;refine rgu 10 46 ?_;refine rgu 11 47 ?_;refine rgu 12 48 ?_;refine rgu 13 49 ?_;refine rgu 14 50 ?_;refine rgu 15 51 ?_;refine rgu 16 52 ?_;refine rgu 17 53 ?_;refine rgp 18 54 ?_;refine rgt 22 58 hHeld ?_;refine rgp 23 59 ?_;refine rgp 24 60 ?_;refine rgp 25 61 ?_;refine rgu 26 62 ?_;refine rgu 27 63 ?_;refine rgu 28 64 ?_;refine rgu 29 65 ?_;refine rgp 30 66 ?_;refine rgp 31 67 ?_;refine rgp 32 68 ?_;refine last_ (i:=33) (N:=none) #[true,true,true,true,true,true,true,true,true,true,true,true,true,true,true,true,true,true,true,true,true,true,true,true,true,true,true,true,true,true,true,true,true,true,false,false,false] rfl rfl (by kernel_rfl) (by decide) (fun K hK=>?_);refine skip_ (w1:=?_) (by rfl) rfl ?_ ?_;rotate_left
   ·go_simp;rfl
   refine hK.out _ _ ?_;clear hK K;refine rgp 34 69 ?_;refine rgp 35 70 ?_;refine last_ (i:=36) (N:=none) #[true,true,true,true,true,true,true,true,true,true,true,true,true,true,true,true,true,true,true,true,true,true,true,true,true,true,true,true,true,true,true,true,true,true,true,true,true] rfl rfl (by kernel_rfl) (by decide) (fun K hK=>?_);refine skip_ (w1:=?_) (by rfl) rfl ?_ ?_;rotate_left
   ·go_simp;rfl
   refine hK.out _ _ ?_;clear hK K;refine done_ (by kernel_rfl) ?_
   go_wp2_with fail;go_ret2;refine bE3 HC.out hzr ?_ ?_
   ·exact(bS4 hq0).symm
   ·exact(bS5 hr0).symm
  ·have e1:L1=0:=by rw[<- hL1,hq0,aC4];rfl
   have e2:0<L2:=by rw[<- hL2];exact aB3 hr0
   subst e1;clear hL1 hL2;have gq:decide ((0:Int)<((0:Nat):Int))=false:=by decide
   have gr:decide ((0:Int)<(L2:Int))=true:=decT (by omega)
   go_wp2_with fail;refine start_ (n:=37) (S:=fun w'=>w'.cell? ⟨z,1,none⟩=some (.slice aq 0 kq)/\w'.cell? ⟨r,1,none⟩=some (.slice as1 L2 kr)/\w'.cell? ⟨x,0,none⟩=some (.bool (decide (n<0)))/\w'.cell? ⟨y,0,none⟩=some (.bool (decide (m<0)))) (ds:=[33,36]) #[false,false,false,false,false,false,false,false,false,false,false,false,false,false,false,false,false,false,false,false,false,false,false,false,false,false,false,false,false,false,false,false,false,false,false,false,false] (by kernel_rfl) rfl rfl ⟨z1,r1,x0,y0⟩ (fun hHeld=>?_);refine rgp 0 36 ?_;refine rgp 1 37 ?_;refine rgp 2 38 ?_;refine rgp 3 39 ?_;refine rgp 4 40 ?_;refine rgp 19 55 ?_;refine rgp 20 56 ?_;refine rgp 21 57 ?_;refine rgt 5 41 hHeld ?_;refine rgp 6 42 ?_;refine rgp 7 43 ?_;refine rgp 8 44 ?_;refine rgu 9 45 ?_;refine rgu 10 46 ?_;refine rgu 11 47 ?_;refine rgu 12 48 ?_;refine rgu 13 49 ?_;refine rgu 14 50 ?_;refine rgu 15 51 ?_;refine rgu 16 52 ?_;refine rgu 17 53 ?_;refine rgp 18 54 ?_;refine rgt 22 58 hHeld ?_;refine rgp 23 59 ?_;refine rgp 24 60 ?_;refine rgp 25 61 ?_;refine rgp 26 62 ?_;refine rgp 27 63 ?_;refine rgp 28 64 ?_;refine rgt 29 65 hHeld ?_;refine rgp 30 66 ?_;refine rgp 31 67 ?_;refine rgp 32 68 ?_;refine last_ (i:=33) (N:=none) #[true,true,true,true,true,true,true,true,true,true,true,true,true,true,true,true,true,true,true,true,true,true,true,true,true,true,true,true,true,true,true,true,true,true,false,false,false] rfl rfl (by kernel_rfl) (by decide) (fun K hK=>?_);refine skip_ (w1:=?_) (by rfl) rfl ?_ ?_;rotate_left
   ·go_simp;rfl
   refine hK.out _ _ ?_;clear hK K;refine rgp 34 69 ?_;refine rgp 35 70 ?_;refine last_ (i:=36) (N:=none) #[true,true,true,true,true,true,true,true,true,true,true,true,true,true,true,true,true,true,true,true,true,true,true,true,true,true,true,true,true,true,true,true,true,true,true,true,true] rfl rfl (by kernel_rfl) (by decide) (fun K hK=>?_);refine skip_ (w1:=?_) (by rfl) rfl ?_ ?_;rotate_left
   ·go_simp;rfl
   refine hK.out _ _ ?_;clear hK K;refine done_ (by kernel_rfl) ?_
   go_wp2_with fail;go_ret2;refine bE3 HC.out hzr ?_ ?_
   ·exact(bS4 hq0).symm
   ·rw[bS7 hr0]
  ·have e1:0<L1:=by rw[<- hL1];exact aB3 hq0
   have e2:L2=0:=by rw[<- hL2,hr0,aC4];rfl
   subst e2;clear hL1 hL2;have gr:decide ((0:Int)<((0:Nat):Int))=false:=by decide
   have gq:decide ((0:Int)<(L1:Int))=true:=decT (by omega)
   go_wp2_with fail;refine start_ (n:=37) (S:=fun w'=>w'.cell? ⟨z,1,none⟩=some (.slice aq L1 kq)/\w'.cell? ⟨r,1,none⟩=some (.slice as1 0 kr)/\w'.cell? ⟨x,0,none⟩=some (.bool (decide (n<0)))/\w'.cell? ⟨y,0,none⟩=some (.bool (decide (m<0)))) (ds:=[33,36]) #[false,false,false,false,false,false,false,false,false,false,false,false,false,false,false,false,false,false,false,false,false,false,false,false,false,false,false,false,false,false,false,false,false,false,false,false,false] (by kernel_rfl) rfl rfl ⟨z1,r1,x0,y0⟩ (fun hHeld=>?_);refine rgp 0 36 ?_;refine rgp 1 37 ?_;refine rgp 2 38 ?_;refine rgp 3 39 ?_;refine rgp 4 40 ?_;refine rgp 19 55 ?_;refine rgp 20 56 ?_;refine rgp 21 57 ?_;refine rgt 5 41 hHeld ?_;refine rgp 6 42 ?_;refine rgp 7 43 ?_;refine rgp 8 44 ?_;refine rgp 9 45 ?_;refine rgp 10 46 ?_;refine rgp 11 47 ?_;refine rgp 13 49 ?_;refine rgp 14 50 ?_;refine rgp 15 51 ?_;refine rgt 12 48 hHeld ?_;refine rgt 16 52 hHeld ?_;refine rgp 17 53 ?_;refine rgp 18 54 ?_;refine rgt 22 58 hHeld ?_;refine rgp 23 59 ?_;refine rgp 24 60 ?_;refine rgp 25 61 ?_;refine rgu 26 62 ?_;refine rgu 27 63 ?_;refine rgu 28 64 ?_;refine rgu 29 65 ?_;refine rgp 30 66 ?_;refine rgp 31 67 ?_;refine rgp 32 68 ?_;refine last_ (i:=33) (N:=none) #[true,true,true,true,true,true,true,true,true,true,true,true,true,true,true,true,true,true,true,true,true,true,true,true,true,true,true,true,true,true,true,true,true,true,false,false,false] rfl rfl (by kernel_rfl) (by decide) (fun K hK=>?_);refine skip_ (w1:=?_) (by rfl) rfl ?_ ?_;rotate_left
   ·go_simp;rfl
   refine hK.out _ _ ?_;clear hK K;refine rgp 34 69 ?_;refine rgp 35 70 ?_;refine last_ (i:=36) (N:=none) #[true,true,true,true,true,true,true,true,true,true,true,true,true,true,true,true,true,true,true,true,true,true,true,true,true,true,true,true,true,true,true,true,true,true,true,true,true] rfl rfl (by kernel_rfl) (by decide) (fun K hK=>?_);refine skip_ (w1:=?_) (by rfl) rfl ?_ ?_;rotate_left
   ·go_simp;rfl
   refine hK.out _ _ ?_;clear hK K;refine done_ (by kernel_rfl) ?_
   go_wp2_with fail;go_ret2;refine bE3 HC.out hzr ?_ ?_
   ·rw[bS6 hm0 hq0];rfl
   ·exact(bS5 hr0).symm
  ·have e1:0<L1:=by rw[<- hL1];exact aB3 hq0
   have e2:0<L2:=by rw[<- hL2];exact aB3 hr0
   clear hL1 hL2;have gq:decide ((0:Int)<(L1:Int))=true:=decT (by omega);have gr:decide ((0:Int)<(L2:Int))=true:=decT (by omega)
   go_wp2_with fail;refine start_ (n:=37) (S:=fun w'=>w'.cell? ⟨z,1,none⟩=some (.slice aq L1 kq)/\w'.cell? ⟨r,1,none⟩=some (.slice as1 L2 kr)/\w'.cell? ⟨x,0,none⟩=some (.bool (decide (n<0)))/\w'.cell? ⟨y,0,none⟩=some (.bool (decide (m<0)))) (ds:=[33,36]) #[false,false,false,false,false,false,false,false,false,false,false,false,false,false,false,false,false,false,false,false,false,false,false,false,false,false,false,false,false,false,false,false,false,false,false,false,false] (by kernel_rfl) rfl rfl ⟨z1,r1,x0,y0⟩ (fun hHeld=>?_);refine rgp 0 36 ?_;refine rgp 1 37 ?_;refine rgp 2 38 ?_;refine rgp 3 39 ?_;refine rgp 4 40 ?_;refine rgp 19 55 ?_;refine rgp 20 56 ?_;refine rgp 21 57 ?_;refine rgt 5 41 hHeld ?_;refine rgp 6 42 ?_;refine rgp 7 43 ?_;refine rgp 8 44 ?_;refine rgp 9 45 ?_;refine rgp 10 46 ?_;refine rgp 11 47 ?_;refine rgp 13 49 ?_;refine rgp 14 50 ?_;refine rgp 15 51 ?_;refine rgt 12 48 hHeld ?_;refine rgt 16 52 hHeld ?_;refine rgp 17 53 ?_;refine rgp 18 54 ?_;refine rgt 22 58 hHeld ?_;refine rgp 23 59 ?_;refine rgp 24 60 ?_;refine rgp 25 61 ?_;refine rgp 26 62 ?_;refine rgp 27 63 ?_;refine rgp 28 64 ?_;refine rgt 29 65 hHeld ?_;refine rgp 30 66 ?_;refine rgp 31 67 ?_;refine rgp 32 68 ?_;refine last_ (i:=33) (N:=none) #[true,true,true,true,true,true,true,true,true,true,true,true,true,true,true,true,true,true,true,true,true,true,true,true,true,true,true,true,true,true,true,true,true,true,false,false,false] rfl rfl (by kernel_rfl) (by decide) (fun K hK=>?_);refine skip_ (w1:=?_) (by rfl) rfl ?_ ?_;rotate_left
   ·go_simp;rfl
   refine hK.out _ _ ?_;clear hK K;refine rgp 34 69 ?_;refine rgp 35 70 ?_;refine last_ (i:=36) (N:=none) #[true,true,true,true,true,true,true,true,true,true,true,true,true,true,true,true,true,true,true,true,true,true,true,true,true,true,true,true,true,true,true,true,true,true,true,true,true] rfl rfl (by kernel_rfl) (by decide) (fun K hK=>?_);refine skip_ (w1:=?_) (by rfl) rfl ?_ ?_;rotate_left
   ·go_simp;rfl
   refine hK.out _ _ ?_;clear hK K;refine done_ (by kernel_rfl) ?_
   go_wp2_with fail;go_ret2;refine bE3 HC.out hzr ?_ ?_
   ·rw[bS6 hm0 hq0];rfl
   ·rw[bS7 hr0]
theorem bM6(z x y r:Nat)(nz n m nr:Int)(bz bx by_ br:Option Nat)(rz rx ry rr:List Value)(Tz Tx Ty Tr:TypeId)(w:World)(hz:IntAt w z nz bz rz Tz)(hx:IntAt w x n bx rx Tx)(hy:IntAt w y m by_ ry Ty)(hr:IntAt w r nr br rr Tr)(hzx:z≠x)(hzy:z≠y)(hrx:r≠x)(hry:r≠y)(hzr:z≠r)(hb:bz≠some x/\bz≠some y/\bz≠some r/\br≠some x/\br≠some y/\br≠some z)(hm0:m≠0)(hdiv:∀(W:World) (vz vr vx vy:Value),NatAt W vz nz.natAbs bz->NatAt W vr nr.natAbs br->NatAt W vx n.natAbs bx->NatAt W vy m.natAbs by_->Calls prog 196 #[vz,.pointer none,vr,vx,vy] W (QR W bz br (quoN n.natAbs m.natAbs) (remN n.natAbs m.natAbs))):
  Calls prog 158 #[.pointer (some ⟨z,0,none⟩),.pointer (some ⟨x,0,none⟩),.pointer (some ⟨y,0,none⟩),.pointer (some ⟨r,0,none⟩)] w (QRRes w z r bz br (n.tdiv m) (n.tmod m) rz rr Tz Tr) :=
 aQ3 z x y r nz n m nr bz bx by_ br rz rx ry rr Tz Tx Ty Tr w hz hx hy hr hzx hzy hrx hry hzr hb hm0 (fun W vz vr vx vy _=>hdiv W vz vr vx vy)
end
end Go.Proofs.YtjebnpkebccffaaGreatDoor
