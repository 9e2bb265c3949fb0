import Derived.Test.YtjebnpkebccffaaGreatDoorZTim
set_option linter.unusedSimpArgs false
set_option linter.unusedVariables false
set_option linter.unusedSectionVars false
set_option maxRecDepth 100000
set_option maxHeartbeats 8000000
namespace Go.Proofs.YtjebnpkebccffaaGreatDoor
open Go.RowKit Go.Proofs.Tryz
section
open Go.RowKit
open Go.Proofs.YtjebnpkebccffaaGreatDoorW.PrintLast
theorem nd_b{neg:Bool}{N:Nat}{e:Int}{L:Nat}{K:Int}(h:N<10^L)(h3:-K<=e)(h4:e<=K):DmB (nd neg N e) L (K+L):=bV0 (aZ1 L N h).2 (aZ1 L N h).1 h3 h4
theorem dM0(n1 n2:Bool)(N1 N2:Nat)(e1 e2:Int):nd ((nd n1 N1 e1).neg != (nd n2 N2 e2).neg) (dv (nd n1 N1 e1).ds*dv (nd n2 N2 e2).ds) ((nd n1 N1 e1).e+(nd n2 N2 e2).e)=nd (n1 != n2) (N1*N2) (e1+e2):=by
 by_cases h1:N1=0
 ·subst h1;rw[aI4 n1 e1,show dv (⟨false,[],0⟩:Dm).ds=0 from rfl,Nat.zero_mul,Nat.zero_mul,aI4,aI4]
 ·by_cases h2:N2=0
  ·subst h2;rw[aI4 n2 e2,show dv (⟨false,[],0⟩:Dm).ds=0 from rfl,Nat.mul_zero,Nat.mul_zero,aI4,aI4]
  ·obtain⟨M1,k1,rfl,p1⟩:=prim N1 h1;obtain⟨M2,k2,rfl,p2⟩:=prim N2 h2;rw[aV5,aV5,aN7 _ _ _ p1,aN7 _ _ _ p2];simp only[bD2];rw[show M1*10^k1*(M2*10^k2)=M1*M2*10^(k1+k2)by rw[Nat.pow_add];ac_rfl,aV5];congr 1;omega
def pwr(q:QW):Int:=if q.psign=2 then -(dv (rd q.power):Int)else(dv (rd q.power):Int)
def qM(q:QW):Nat:=dv (rd (q.num++q.denom))
def qN(q:QW):Nat:=if q.kind=1 then qM q*1024^q.place.toNat else qM q
def qE(q:QW):Int:=if q.kind=2 then -(q.denom.size:Int)+3*q.place else if q.kind=1 then -(q.denom.size:Int)else -(q.denom.size:Int)+pwr q
def aP7(q:QW):Dm:=nd (q.sign==2) (qN q) (qE q)
structure MS (w:World) (q:QW) (b3:Nat) (d:Dm) (p:Option Addr) (n c:Nat) (wr:World):Prop where
 word:wr.heap[w.heap.size]? = some (.cells q.cells 23 (0,0))
 out:wr.heap[w.heap.size+1]? = some (.cells #[.bool false,.slice none 0 0,.int .i64 0] 30 (0,0))
 num:wr.heap[b3]? = some (.cells #[.bool d.neg,.slice p n c,.int .i64 d.e] 30 (0,0))
 digs:∃ b,NsAt wr (.slice p n c) d.ds b
 kept:Kept (fun _=>False) w wr
 far:w.heap.size+1<b3
theorem MS.step{w:World}{q:QW}{b3:Nat}{d:Dm}{p:Option Addr}{n c:Nat}{wr w2:World}(h:MS w q b3 d p n c wr)(hk:Kept (fun _=>False) wr w2):MS w q b3 d p n c w2 :=
 ⟨hk.at h.word (fun f=>f),hk.at h.out (fun f=>f),hk.at h.num (fun f=>f),by obtain⟨b,hb⟩:=h.digs;exact⟨b,hb.old hk⟩,h.kept.same hk,h.far⟩
theorem MS.drew{w:World}{q:QW}{b3:Nat}{d:Dm}{p:Option Addr}{n c:Nat}{wr:World}(h:MS w q b3 d p n c wr):MS w q b3 d p n c wr.drew:=h.step (Kept.refl _ _).drew
theorem MS.dm{w:World}{q:QW}{b3:Nat}{d:Dm}{p:Option Addr}{n c:Nat}{wr:World}(h:MS w q b3 d p n c wr):DmAt wr (.agg #[.bool d.neg,.slice p n c,.int .i64 d.e]) d:=by obtain⟨b,hb⟩:=h.digs;exact⟨_,b,rfl,hb⟩
theorem MS.cells{w:World}{b3:Nat}{d:Dm}{p:Option Addr}{n c:Nat}{wr:World}{sg kd pl ps:Int}{nm dn pw:ByteArray}{dt up:Bool}(h:MS w ⟨sg,nm,dt,dn,kd,pl,up,ps,pw⟩ b3 d p n c wr):
  (wr.cell? ⟨b3,0,none⟩=some (.bool d.neg)/\wr.cell? ⟨b3,1,none⟩=some (.slice p n c)/\wr.cell? ⟨b3,2,none⟩=some (.int .i64 d.e)) /\
  (wr.cell? ⟨w.heap.size,0,none⟩=some (.int .i64 sg)/\wr.cell? ⟨w.heap.size,1,none⟩=some (.string nm)/\wr.cell? ⟨w.heap.size,2,none⟩=some (.bool dt)/\wr.cell? ⟨w.heap.size,3,none⟩=some (.string dn)/\wr.cell? ⟨w.heap.size,4,none⟩=some (.int .i64 kd)/\wr.cell? ⟨w.heap.size,5,none⟩=some (.int .i64 pl)/\wr.cell? ⟨w.heap.size,6,none⟩=some (.bool up)/\wr.cell? ⟨w.heap.size,7,none⟩=some (.int .i64 ps)/\wr.cell? ⟨w.heap.size,8,none⟩=some (.string pw)) :=
 ⟨cells3 h.num,cell9 h.word⟩
theorem MS.froz{w:World}{q:QW}{b3:Nat}{d:Dm}{p:Option Addr}{n c:Nat}{wr:World}(h:MS w q b3 d p n c wr):wr.frozen? ⟨b3,0,none⟩=false/\wr.frozen? ⟨b3,1,none⟩=false/\wr.frozen? ⟨b3,2,none⟩=false:=⟨aA1 h.num 0,aA1 h.num 1,aA1 h.num 2⟩
theorem MS.store{w:World}{q:QW}{b3:Nat}{d D:Dm}{p p2:Option Addr}{n c n2 c2:Nat}{wr:World}(h:MS w q b3 d p n c wr)(hv:DmAt wr (.agg #[.bool D.neg,.slice p2 n2 c2,.int .i64 D.e]) D):
  MS w q b3 D p2 n2 c2 (((wr.setCell ⟨b3,0,none⟩ (.bool D.neg)).setCell ⟨b3,1,none⟩ (.slice p2 n2 c2)).setCell ⟨b3,2,none⟩ (.int .i64 D.e)):=by
 have st:=aP2 h.num (.bool D.neg) (.slice p2 n2 c2) (.int .i64 D.e);obtain⟨s,b,e,hs⟩:=hv;have e2:s=.slice p2 n2 c2:=by
  injection e with e;have:=congrArg (fun a=>a[1]?) e
  simpa using this.symm
 subst e2;have hne:=hs.ne h.num (by decide);have hfar:=h.far;exact⟨st.2.at h.word (by omega),st.2.at h.out (by omega),st.1,⟨b,hs.kept st.2 hne⟩,h.kept.trans st.2 (fun _ _ f=>f) (fun j hj e=>by have:=hfar;omega),h.far⟩
theorem MS.fin{w:World}{q:QW}{b3:Nat}{d:Dm}{p:Option Addr}{n c:Nat}{wr:World}(h:MS w q b3 d p n c wr):
  DmRes w d (.returned (.agg #[.bool d.neg,.slice p n c,.int .i64 d.e])) (((wr.setCell ⟨w.heap.size+1,0,none⟩ (.bool d.neg)).setCell ⟨w.heap.size+1,1,none⟩ (.slice p n c)).setCell ⟨w.heap.size+1,2,none⟩ (.int .i64 d.e))/\(((wr.setCell ⟨w.heap.size+1,0,none⟩ (.bool d.neg)).setCell ⟨w.heap.size+1,1,none⟩ (.slice p n c)).setCell ⟨w.heap.size+1,2,none⟩ (.int .i64 d.e)).heap[w.heap.size+1]? = some (.cells #[.bool d.neg,.slice p n c,.int .i64 d.e] 30 (0,0)):=by
 have st:=aP2 h.out (.bool d.neg) (.slice p n c) (.int .i64 d.e);obtain⟨b,hs⟩:=h.digs;have hne:=hs.ne h.out (by decide);exact⟨⟨_,rfl,⟨_,b,rfl,hs.kept st.2 hne⟩,h.kept.trans st.2 (fun _ _ f=>f) (fun j hj e=>by omega)⟩,st.1⟩
theorem MS.ocells{w:World}{q:QW}{b3:Nat}{d:Dm}{p:Option Addr}{n c:Nat}{wr:World}(h:MS w q b3 d p n c wr):
  (wr.cell? ⟨w.heap.size+1,0,none⟩=some (.bool false)/\wr.cell? ⟨w.heap.size+1,1,none⟩=some (.slice none 0 0)/\wr.cell? ⟨w.heap.size+1,2,none⟩=some (.int .i64 0))/\(wr.frozen? ⟨w.heap.size+1,0,none⟩=false/\wr.frozen? ⟨w.heap.size+1,1,none⟩=false/\wr.frozen? ⟨w.heap.size+1,2,none⟩=false) :=
 ⟨cells3 h.out,aA1 h.out 0,aA1 h.out 1,aA1 h.out 2⟩
theorem MS.new{w wr:World}{q:QW}{d:Dm}{p:Option Addr}{n c:Nat}(h1:wr.heap[w.heap.size]? = some (.cells q.cells 23 (0,0)))(h2:wr.heap[w.heap.size+1]? = some (.cells #[.bool false,.slice none 0 0,.int .i64 0] 30 (0,0)))(hv:DmAt wr (.agg #[.bool d.neg,.slice p n c,.int .i64 d.e]) d)(hk:Kept (fun _=>False) w wr):
  MS w q wr.heap.size d p n c (wr.alloc (.cells #[.bool d.neg,.slice p n c,.int .i64 d.e] 30)):=by
 have k1:Kept (fun _=>False) wr (wr.alloc (.cells #[.bool d.neg,.slice p n c,.int .i64 d.e] 30)):=(Kept.refl _ _).alloc _;have hlt:=aB5 h2;obtain⟨s,b,e,hs⟩:=hv;have e2:s=.slice p n c:=by
  injection e with e;have:=congrArg (fun a=>a[1]?) e
  simpa using this.symm
 subst e2;exact⟨k1.at h1 (fun f=>f),k1.at h2 (fun f=>f),aA0 _ _,⟨b,hs.old k1⟩,hk.same k1,hlt⟩
def Times1(w:World)(q:QW)(b3:Nat)(d D9 D10:Dm)(p:Option Addr)(n c:Nat):Prop:=∀ w9 v9,MS w q b3 d p n c w9->DmAt w9 v9 D9->Calls prog 18 #[.agg #[.bool d.neg,.slice p n c,.int .i64 d.e],v9] w9 (DmRes w9 D10)
theorem cJ2{w:World}{q:QW}{b3:Nat}(ng:Bool)(N F:Nat)(e k:Int)(p:Option Addr)(n c:Nat)(hN:N<10^130)(hF:F<10^4)(he:-2000<=e/\e<=2000)(hk:-2000<=k/\k<=2000):
  Times1 w q b3 (nd ng N e) (nd false F k) (nd ng (N*F) (e+k)) p n c:=fun w9 v9 hm hv=>by
 have b1:DmB (nd ng N e) 130 (2000+(130:Nat)):=nd_b hN he.1 he.2;have b2:DmB (nd false F k) 4 (2000+(4:Nat)):=nd_b hF hk.1 hk.2;have:=aR9 _ v9 (nd ng N e) (nd false F k) w9 hm.dm hv (by have:=b1.len;omega) (by have:=b2.len;omega) b1.dig b2.dig (by have:=b1.lo;have:=b1.hi;omega) (by have:=b2.lo;have:=b2.hi;omega);unfold bP8 at this;rw[dM0]at this
 simpa using this
def dI4(w:World)(q:QW)(e:Ending)(w':World):Prop:=DmRes w (aP7 q) e w'
def OfR(n:Int)(k:Int)(D:Dm):Prop:=∀ w,Calls prog 14 #[.int .i64 n,.int .i64 k] w (DmRes w D)
theorem of_r(n k:Int)(h1:0<=n)(h2:n<=9223372036854775807)(h3:-2000<=k/\k<=2000):OfR n k (nd false n.toNat k):=fun w=>by
 have:=aE0 n k w (by omega) (by omega);rw[show decide (n<0)=false from decF (by omega),show n.natAbs=n.toNat by omega]at this;exact this
theorem OfR.at{n k:Int}{D:Dm}(h:OfR n k D)(w:World):Calls prog 14 #[.int .i64 n,.int .i64 k] w (DmRes w D):=h w
theorem Times1.at{w:World}{q:QW}{b3:Nat}{d D9 D10:Dm}{p:Option Addr}{n c:Nat}(h:Times1 w q b3 d D9 D10 p n c)(w9:World)(v9:Value)(hm:MS w q b3 d p n c w9)(hv:DmAt w9 v9 D9):Calls prog 18 #[.agg #[.bool d.neg,.slice p n c,.int .i64 d.e],v9] w9 (DmRes w9 D10):=h w9 v9 hm hv
theorem dI5{s:ByteArray}(h:allDg s=true):∀ i (hi:i<s.size),48<=s[i].toNat/\s[i].toNat<=57:=by
 intro i hi;unfold allDg at h;rw[List.all_eq_true]at h;have:=h s[i] (by
  have hl:i<s.data.toList.length:=by simpa using hi
  have e:s[i]=s.data.toList[i]:=rfl;rw[e];exact List.getElem_mem hl)
 simpa[isDg]using this
theorem bF0(s:ByteArray)(L:Nat)(h:s.size<=L):dv (rd s)<10^L:=by
 have:=dv_lt (rd s) (rd_le s);rw[bH3]at this;exact Nat.lt_of_lt_of_le this (Nat.pow_le_pow_right (by omega) h)
theorem bB9(q:QW)(hq:QRight q)(h1:q.num.size+q.denom.size<=100)(w:World):Calls prog 30 #[.agg q.cells] w (dI4 w q):=by
 obtain⟨-,-,-,-,hs0,hs2,hkinds⟩:=hq;show Calls prog 30 #[.agg q.cells] w (DmRes w (aP7 q));have hsz:(q.num++q.denom).size=q.num.size+q.denom.size:=by simp
 have hM:=bF0 (q.num++q.denom) 100 (by omega);have rdc:∀ w,Calls prog 74 #[.bool (q.sign==2),.string (q.num++q.denom),.int .i64 (-(q.denom.size:Int))] w (DmRes w (nd (q.sign==2) (qM q) (-(q.denom.size:Int)))):=fun w=>by
  have:=bH4 (q.sign==2) (q.num++q.denom) (-(q.denom.size:Int)) w (by omega) (by omega);rwa[nd_of _ _ _ (rd_le _)]at this
 have hb0:DmB (nd (q.sign==2) (qM q) (-(q.denom.size:Int))) 100 (100+(100:Nat)):=nd_b hM (by omega) (by omega);have RDC:=hiD rdc;have HB0:=hiD hb0;have HMM:Hid (qM q<10^100):=hM;have HQM:Hid (aP7 q=nd (q.sign==2) (qN q) (qE q)):=rfl;have HQN:Hid (qN q=if q.kind=1 then qM q*1024^q.place.toNat else qM q):=rfl
 have HQE:Hid (qE q=if q.kind=2 then -(q.denom.size:Int)+3*q.place else if q.kind=1 then -(q.denom.size:Int)else -(q.denom.size:Int)+pwr q):=rfl
 have HPW:Hid (pwr q=if q.psign=2 then -(dv (rd q.power):Int)else(dv (rd q.power):Int)):=rfl
 generalize hD:aP7 q=D at HQM ⊢;generalize qN q=QN at *;generalize qE q=QE at *;generalize pwr q=PW at *;generalize qM q=M at *;obtain⟨sg,nm,dt,dn,kd,pl,up,ps,pw⟩:=q;simp only[QW.cells]at *;have f1:¬ (9223372036854775807<nm.size+dn.size):=by omega
 have k0:Kept (fun _=>False) w ((w.alloc (.cells #[.int .i64 sg,.string nm,.bool dt,.string dn,.int .i64 kd,.int .i64 pl,.bool up,.int .i64 ps,.string pw] 23)).alloc (.cells #[.bool false,.slice none 0 0,.int .i64 0] 30)):=((Kept.refl _ _).alloc _).alloc _;have b1:=aA0 w (.cells #[.int .i64 sg,.string nm,.bool dt,.string dn,.int .i64 kd,.int .i64 pl,.bool up,.int .i64 ps,.string pw] 23);have b1:=((Kept.refl (fun _=>False) _).alloc (.cells #[.bool false,.slice none 0 0,.int .i64 0] 30)).at b1 (fun f=>f);have b2:=aA0 (w.alloc (.cells #[.int .i64 sg,.string nm,.bool dt,.string dn,.int .i64 kd,.int .i64 pl,.bool up,.int .i64 ps,.string pw] 23)) (.cells #[.bool false,.slice none 0 0,.int .i64 0] 30);have e2:(w.alloc (.cells #[.int .i64 sg,.string nm,.bool dt,.string dn,.int .i64 kd,.int .i64 pl,.bool up,.int .i64 ps,.string pw] 23)).heap.size=w.heap.size+1:=by simp
 rw[e2]at b2;generalize hW:(w.alloc (.cells #[.int .i64 sg,.string nm,.bool dt,.string dn,.int .i64 kd,.int .i64 pl,.bool up,.int .i64 ps,.string pw] 23)).alloc (.cells #[.bool false,.slice none 0 0,.int .i64 0] 30)=W at *;have B1:=hiD b1;have B2:=hiD b2;have K0:=hiD k0;have HKD:=hiD hkinds;have HDN:Hid (dn.size<=100):=by show dn.size<=100;omega
 generalize hng:(sg==2)=ng at *;obtain⟨c0,c1,c2,c3,c4,c5,c6,c7,c8⟩:=cell9 b1;clear hM rdc hb0 b1 b2 k0 e2 hkinds h1 hsz hD;go_enter func30,ntmps30;go_wp2_with fail;refine(RDC.out _).mono ?_;rintro e w2 ⟨v2,rfl,hv2,hk2⟩;have HV2:=hiD hv2;obtain⟨p,n,c,b,rfl,hs⟩:=hv2.shape;have hnew:=MS.new (q:=⟨sg,nm,dt,dn,kd,pl,up,ps,pw⟩) (hk2.at B1.out (fun f=>f)) (hk2.at B2.out (fun f=>f)) HV2.out (K0.out.same hk2);generalize hd:nd ng M (-(dn.size:Int))=d at *;have HD:=hiD hd;generalize hb3:w2.heap.size=b3 at *;generalize hX:w2.alloc (.cells #[.bool d.neg,.slice p n c,.int .i64 d.e] 30)=X at *;obtain⟨⟨x0,x1,x2⟩,⟨q0,q1,q2,q3,q4,q5,q6,q7,q8⟩⟩:=hnew.cells;have HX:=hiD hnew;clear hnew hv2 hk2 hs hd hng;have hHX:=hX;clear hHX;rcases HKD.out with⟨rfl,p1,p2⟩|⟨rfl,p1,p2⟩|⟨rfl,p1,p2,p3,p4,p5⟩
 ·have hof:=of_r 1 (3*pl) (by omega) (by omega) (by omega);have htt:=cJ2 (w:=w) (q:=⟨sg,nm,dt,dn,2,pl,up,ps,pw⟩) (b3:=b3) ng M 1 (-(dn.size:Int)) (3*pl) p n c (Nat.lt_of_lt_of_le HMM.out (by decide)) (by decide) (by have:=HDN.out;omega) (by omega);have hdd:=HQM.out;rw[HQN.out,HQE.out,if_neg (by decide),if_pos rfl]at hdd;rw[HD.out,Nat.mul_one,<- hdd]at htt;rw[show(1:Int).toNat=1 from rfl]at hof;obtain⟨D10,hD10⟩:∃ D10,D10=D:=⟨_,rfl⟩;rw[<- hD10]at htt;have HDD:=hiD hD10;generalize hD9:nd false 1 (3*pl)=D9 at hof htt;rw[show 3*pl=wrap64 (3*pl)by unfold wrap64;omega]at hof;have HOF:=hiD hof;have HTT:=hiD htt;have M0:=hiD HX.out.drew;obtain⟨⟨x0,x1,x2⟩,⟨q0,q1,q2,q3,q4,q5,q6,q7,q8⟩⟩:=M0.out.cells;clear hof htt hdd hD10 hD9;go_wp2_with fail;refine start_ (n:=7) (S:=fun w'=>w'.cell? ⟨b3,0,none⟩=some (.bool d.neg)/\w'.cell? ⟨b3,1,none⟩=some (.slice p n c)/\w'.cell? ⟨b3,2,none⟩=some (.int .i64 d.e)/\w'.cell? ⟨w.heap.size,5,none⟩=some (.int .i64 pl)) (ds:=[6]) #[false,false,false,false,false,false,false] (by kernel_rfl) rfl rfl ⟨x0,x1,x2,q5⟩ (fun hHeld=>?_);refine rgp 1 49 ?_;refine rgt 0 48 hHeld ?_;refine rgt 2 50 hHeld ?_;refine rgp 3 51 ?_;refine one_ (i:=4) (N:=some 52) #[true,true,true,true,true,false,false] rfl rfl (by kernel_rfl) (by decide) (fun K hK=>?_);refine goes_ func14 (by kernel_rfl) rfl #[.int .i64 1,.int .i64 (wrap64 (3*pl))] (by rfl) rfl rfl (by simp only[List.map_toArray,List.map_cons,List.map_nil];rfl) ?_;with_reducible refine(HOF.out.at _).mono ?_
  rintro e w9 ⟨v9,rfl,hv9,hk⟩;have G1:=hiD (M0.out.step hk);obtain⟨⟨x0,x1,x2⟩,⟨q0,q1,q2,q3,q4,q5,q6,q7,q8⟩⟩:=G1.out.cells;have V9:=hiD hv9;obtain⟨p9,n9,c9,b9,rfl,hs9⟩:=hv9.shape;clear hk hv9 hs9;refine⟨_,rfl,?_⟩;refine hK.out _ _ ⟨x0,x1,x2,q5⟩ (fun hHeld=>?_);clear hK K;refine rgn 52 ?_;refine one_ (i:=5) (N:=some 53) #[true,true,true,true,true,true,false] rfl rfl (by kernel_rfl) (by decide) (fun K hK=>?_);refine goes_ func18 (by kernel_rfl) rfl #[.agg #[.bool d.neg,.slice p n c,.int .i64 d.e],.agg #[.bool D9.neg,.slice p9 n9 c9,.int .i64 D9.e]] (by rfl) rfl rfl (by simp only[List.map_toArray,List.map_cons,List.map_nil];rfl) ?_;with_reducible refine(HTT.out.at _ _ G1.out V9.out).mono ?_
  rintro e w10 ⟨v10,rfl,hv10,hk⟩;have G2:=hiD (G1.out.step hk);obtain⟨⟨x0,x1,x2⟩,⟨q0,q1,q2,q3,q4,q5,q6,q7,q8⟩⟩:=G2.out.cells;have V10:=hiD hv10;obtain⟨p10,n10,c10,b10,rfl,hs10⟩:=hv10.shape;clear hk hv10 hs10;have hst:=G2.out.store V10.out;obtain⟨f0,f1,f2⟩:=G2.out.froz;generalize hW3:(((w10.setCell ⟨b3,0,none⟩ (.bool D10.neg)).setCell ⟨b3,1,none⟩ (.slice p10 n10 c10)).setCell ⟨b3,2,none⟩ (.int .i64 D10.e))=W3 at hst;have HST:=hiD hst;clear hst;refine⟨_,rfl,?_⟩;refine hK.out _ _ ⟨x0,x1,x2,q5⟩ (fun hHeld=>?_);clear hK K;refine rgn 53 ?_;refine last_ (i:=6) (N:=none) #[true,true,true,true,true,true,true] rfl rfl (by kernel_rfl) (by decide) (fun K hK=>?_);refine skip_ (w1:=?_) (by rfl) rfl ?_ ?_;rotate_left
  ·go_simp;rfl
  refine hK.out _ _ ?_;clear hK K;refine done_ (by kernel_rfl) ?_;obtain⟨⟨x0,x1,x2⟩,⟨q0,q1,q2,q3,q4,q5,q6,q7,q8⟩⟩:=HST.out.cells;obtain⟨⟨o0,o1,o2⟩,g0,g1,g2⟩:=HST.out.ocells;have hf:=HST.out.fin;generalize hW4:(((W3.setCell ⟨w.heap.size+1,0,none⟩ (.bool D10.neg)).setCell ⟨w.heap.size+1,1,none⟩ (.slice p10 n10 c10)).setCell ⟨w.heap.size+1,2,none⟩ (.int .i64 D10.e))=W4 at hf;obtain⟨hf1,hf2⟩:=hf;have HF1:=hiD hf1;have HF2:=hiD hf2;clear hf1 hf2 hX;go_wp2_with fail;obtain⟨u0,u1,u2⟩:=cells3 HF2.out;refine bodyPost_ret (v:=.agg #[.bool D10.neg,.slice p10 n10 c10,.int .i64 D10.e]) ?_ rfl (by rw[<- HDD.out];exact HF1.out);simp[results,Tryz.f30,loadVar,go_sem,u0,u1,u2]
 ·obtain⟨K,rfl⟩:∃ K:Nat,pl=(K:Int):=⟨pl.toNat,by omega⟩;have HDD0:Hid (D=nd ng (M*1024^K) (-(dn.size:Int))):=by
   have hdd:=HQM.out;rw[HQN.out,HQE.out,if_pos rfl,if_neg (by decide),if_pos rfl]at hdd;rw[hdd];rfl
  have hX0:MS w ⟨sg,nm,dt,dn,1,(K:Int),up,ps,pw⟩ b3 (nd ng (M*1024^0) (-(dn.size:Int))) p n c X:=by
   rw[Nat.pow_zero,Nat.mul_one,HD.out];exact HX.out
  have HX0:=hiD hX0;clear hX0;go_wp2_with fail
  go_loopw [58] (fun v wr=>∃(i:Nat) (p:Option Addr) (n c:Nat),v=.int .i64 (i:Int)/\i<=K/\Hid (MS w ⟨sg,nm,dt,dn,1,(K:Int),up,ps,pw⟩ b3 (nd ng (M*1024^i) (-(dn.size:Int))) p n c wr)) (fun v _=>K-uOf v)
  case atStart=>exact⟨0,p,n,c,rfl,by omega,HX0⟩
  case round =>
   clear x0 x1 x2 q0 q1 q2 q3 q4 q5 q6 q7 q8 HX0 HX HD hX;obtain⟨i,p,n,c,rfl,hi,HM⟩:=hrel;rcases Nat.lt_or_ge i K with hlt|hge
   ·have hb6:M*1024^i<10^130:=by
     have h1:(1024:Nat)^i<=1024^6:=Nat.pow_le_pow_right (by omega) (by omega);have h2:(1024:Nat)^6<10^30:=by decide
     have h3:M*1024^i<10^100*10^30:=Nat.mul_lt_mul'' HMM.out (Nat.lt_of_le_of_lt h1 h2);rwa[<- Nat.pow_add]at h3
    have hof:=of_r 1024 0 (by omega) (by omega) (by omega);have htt:=cJ2 (w:=w) (q:=⟨sg,nm,dt,dn,1,(K:Int),up,ps,pw⟩) (b3:=b3) ng (M*1024^i) 1024 (-(dn.size:Int)) 0 p n c hb6 (by decide) (by have:=HDN.out;omega) (by omega);rw[Nat.mul_assoc,<- Nat.pow_succ,Int.add_zero]at htt;rw[show(1024:Int).toNat=1024 from rfl]at hof;obtain⟨D10,hD10⟩:∃ D10,D10=nd ng (M*1024^(i+1)) (-(dn.size:Int)):=⟨_,rfl⟩;rw[show i.succ=i+1 from rfl,<- hD10]at htt;have HDD:=hiD hD10;generalize hD9:nd false 1024 0=D9 at hof htt;have HOF:=hiD hof;have M0:=hiD HM.out.drew;generalize hd:nd ng (M*1024^i) (-(dn.size:Int))=d at *;have HTT:=hiD htt;obtain⟨⟨x0,x1,x2⟩,⟨q0,q1,q2,q3,q4,q5,q6,q7,q8⟩⟩:=M0.out.cells;clear hof htt hD10 hD9 hd hb6;go_wp2_with fail;refine start_ (n:=4) (S:=fun w'=>w'.cell? ⟨b3,0,none⟩=some (.bool d.neg)/\w'.cell? ⟨b3,1,none⟩=some (.slice p n c)/\w'.cell? ⟨b3,2,none⟩=some (.int .i64 d.e)) (ds:=[3]) #[false,false,false,false] (by kernel_rfl) rfl rfl ⟨x0,x1,x2⟩ (fun hHeld=>?_);refine rgt 0 60 hHeld ?_;refine one_ (i:=1) (N:=some 61) #[true,true,false,false] rfl rfl (by kernel_rfl) (by decide) (fun K hK=>?_);refine goes_ func14 (by kernel_rfl) rfl #[.int .i64 1024,.int .i64 0] (by rfl) rfl rfl (by simp only[List.map_toArray,List.map_cons,List.map_nil];rfl) ?_;with_reducible refine(HOF.out.at _).mono ?_
    rintro e w9 ⟨v9,rfl,hv9,hk⟩;have G1:=hiD (M0.out.step hk);obtain⟨⟨x0,x1,x2⟩,⟨q0,q1,q2,q3,q4,q5,q6,q7,q8⟩⟩:=G1.out.cells;have V9:=hiD hv9;obtain⟨p9,n9,c9,b9,rfl,hs9⟩:=hv9.shape;clear hk hv9 hs9;refine⟨_,rfl,?_⟩;refine hK.out _ _ ⟨x0,x1,x2⟩ (fun hHeld=>?_);clear hK K;refine rgn 61 ?_;refine one_ (i:=2) (N:=some 62) #[true,true,true,false] rfl rfl (by kernel_rfl) (by decide) (fun K hK=>?_);refine goes_ func18 (by kernel_rfl) rfl #[.agg #[.bool d.neg,.slice p n c,.int .i64 d.e],.agg #[.bool D9.neg,.slice p9 n9 c9,.int .i64 D9.e]] (by rfl) rfl rfl (by simp only[List.map_toArray,List.map_cons,List.map_nil];rfl) ?_;with_reducible refine(HTT.out.at _ _ G1.out V9.out).mono ?_
    rintro e w10 ⟨v10,rfl,hv10,hk⟩;have G2:=hiD (G1.out.step hk);obtain⟨⟨x0,x1,x2⟩,⟨q0,q1,q2,q3,q4,q5,q6,q7,q8⟩⟩:=G2.out.cells;have V10:=hiD hv10;obtain⟨p10,n10,c10,b10,rfl,hs10⟩:=hv10.shape;clear hk hv10 hs10;have hst:=G2.out.store V10.out;obtain⟨f0,f1,f2⟩:=G2.out.froz;generalize hW3:(((w10.setCell ⟨b3,0,none⟩ (.bool D10.neg)).setCell ⟨b3,1,none⟩ (.slice p10 n10 c10)).setCell ⟨b3,2,none⟩ (.int .i64 D10.e))=W3 at hst;have HST:=hiD hst;clear hst;refine⟨_,rfl,?_⟩;refine hK.out _ _ ⟨x0,x1,x2⟩ (fun hHeld=>?_);clear hK K;refine rgn 62 ?_;refine last_ (i:=3) (N:=none) #[true,true,true,true] rfl rfl (by kernel_rfl) (by decide) (fun K hK=>?_);refine skip_ (w1:=?_) (by rfl) rfl ?_ ?_;rotate_left
    ·go_simp;rfl
    refine hK.out _ _ ?_;clear hK K;refine done_ (by kernel_rfl) ?_;rw[HDD.out]at HST;go_wp2_with fail;go_roundw
    case rel=>exact⟨i+1,p10,n10,c10,rfl,by omega,HST⟩
    case measure=>simp[uOf];omega
   ·obtain rfl:K=i:=by omega
    obtain⟨D10,hD10⟩:∃ D10,D10=nd ng (M*1024^K) (-(dn.size:Int)):=⟨_,rfl⟩;rw[<- hD10]at HM HDD0;have HDD:Hid (D10=D):=HDD0.out.symm;have HST:=HM;obtain⟨W3,hW3⟩:∃ W3,W3=wr:=⟨_,rfl⟩;subst hW3;obtain⟨p10,hp10⟩:∃ p10,p10=p:=⟨_,rfl⟩;obtain⟨n10,hn10⟩:∃ n10,n10=n:=⟨_,rfl⟩;obtain⟨c10,hc10⟩:∃ c10,c10=c:=⟨_,rfl⟩;subst hp10 hn10 hc10;clear hD10 hge hi HM;obtain⟨⟨x0,x1,x2⟩,⟨q0,q1,q2,q3,q4,q5,q6,q7,q8⟩⟩:=HST.out.cells;obtain⟨⟨o0,o1,o2⟩,g0,g1,g2⟩:=HST.out.ocells;have hf:=HST.out.fin;generalize hW4:(((W3.setCell ⟨w.heap.size+1,0,none⟩ (.bool D10.neg)).setCell ⟨w.heap.size+1,1,none⟩ (.slice p10 n10 c10)).setCell ⟨w.heap.size+1,2,none⟩ (.int .i64 D10.e))=W4 at hf;obtain⟨hf1,hf2⟩:=hf;have HF1:=hiD hf1;have HF2:=hiD hf2;clear hf1 hf2;go_wp2_with fail;obtain⟨u0,u1,u2⟩:=cells3 HF2.out;refine bodyPost_ret (v:=.agg #[.bool D10.neg,.slice p10 n10 c10,.int .i64 D10.e]) ?_ rfl (by rw[<- HDD.out];exact HF1.out);simp[results,Tryz.f30,loadVar,go_sem,u0,u1,u2]
 ·have hpd:=dI5 p1;have HPD:=hiD hpd;clear hpd;go_wp2_with fail
  go_loop [4,5] (fun v4 v5=>∃ i:Nat,v5=.int .i64 (i:Int)/\i<=pw.size/\v4=.int .i64 (dv ((rd pw).take i):Int)) (fun _ v5=>pw.size-uOf v5)
  case atStart=>exact⟨0,rfl,by omega,by simp[dv]⟩
  case round =>
   obtain⟨i,rfl,hi,rfl⟩:=hrel;have hN:dv ((rd pw).take i)<1000:=by
    have:=dv_lt ((rd pw).take i) (fun x hx=>rd_le pw x (List.mem_of_mem_take hx));have h2:((rd pw).take i).length<=3:=by rw[List.length_take,bH3];omega
    exact Nat.lt_of_lt_of_le this (Nat.le_trans (Nat.pow_le_pow_right (by omega) h2) (by decide))
   rcases Nat.lt_or_ge i pw.size with hlt|hge
   ·obtain⟨g1,g2⟩:=HPD.out i hlt;have ht:dv ((rd pw).take (i+1))=10*dv ((rd pw).take i)+(pw[i].toNat-48):=by
     rw[bI3 _ _ (by rw[bH3];exact hlt)];congr 1;have:(rd pw)[i]? = some (dgOf pw[i].toNat):=by simp[rd,hlt];rfl
     rw[List.getD_eq_getElem?_getD,this];show dgOf pw[i].toNat=_;unfold dgOf isDg;rw[if_pos (by simp;omega)]
    have HT:=hiD ht;clear ht;generalize dv ((rd pw).take i)=N at *;generalize hN2:dv ((rd pw).take (i+1))=N2 at *;have hu8:IntKind.u8.wrap ((pw[i].toNat:Int)-48)=(pw[i].toNat:Int)-48:=by rw[IntKind.wrap_u8];omega
    go_wp2_with fail;go_round
    case rel=>exact⟨i+1,rfl,by omega,by rw[hN2,HT.out];congr 1;omega⟩
    case measure=>simp[uOf];omega
   ·obtain rfl:i=pw.size:=by omega
    rw[List.take_of_length_le (by rw[bH3];omega)]at hN ⊢;generalize hNN:dv (rd pw)=N at *;by_cases hps:ps=2
    ·subst hps;have hof:=of_r 1 (-(N:Int)) (by omega) (by omega) (by omega);have htt:=cJ2 (w:=w) (q:=⟨sg,nm,dt,dn,0,pl,up,2,pw⟩) (b3:=b3) ng M 1 (-(dn.size:Int)) (-(N:Int)) p n c (Nat.lt_of_lt_of_le HMM.out (by decide)) (by decide) (by have:=HDN.out;omega) (by omega);have hdd:=HQM.out;rw[HQN.out,HQE.out,if_neg (by decide),if_neg (by decide),if_neg (by decide),HPW.out,if_pos rfl]at hdd;rw[HD.out,Nat.mul_one,<- hdd]at htt;rw[show(1:Int).toNat=1 from rfl]at hof;obtain⟨D10,hD10⟩:∃ D10,D10=D:=⟨_,rfl⟩;rw[<- hD10]at htt;have HDD:=hiD hD10;generalize hD9:nd false 1 (-(N:Int))=D9 at hof htt;have HOF:=hiD hof;have HTT:=hiD htt;have M0:=hiD HX.out.drew;obtain⟨⟨x0,x1,x2⟩,⟨q0,q1,q2,q3,q4,q5,q6,q7,q8⟩⟩:=M0.out.cells;clear hof htt hdd hD10 hD9 hi hge hNN;go_wp2_with fail;refine start_ (n:=5) (S:=fun w'=>w'.cell? ⟨b3,0,none⟩=some (.bool d.neg)/\w'.cell? ⟨b3,1,none⟩=some (.slice p n c)/\w'.cell? ⟨b3,2,none⟩=some (.int .i64 d.e)) (ds:=[4]) #[false,false,false,false,false] (by kernel_rfl) rfl rfl ⟨x0,x1,x2⟩ (fun hHeld=>?_);refine rgp 1 43 ?_;refine rgt 0 42 hHeld ?_;refine one_ (i:=2) (N:=some 44) #[true,true,true,false,false] rfl rfl (by kernel_rfl) (by decide) (fun K hK=>?_);refine goes_ func14 (by kernel_rfl) rfl #[.int .i64 1,.int .i64 (-(N:Int))] (by rfl) rfl rfl (by simp only[List.map_toArray,List.map_cons,List.map_nil];rfl) ?_;with_reducible refine(HOF.out.at _).mono ?_
     rintro e w9 ⟨v9,rfl,hv9,hk⟩;have G1:=hiD (M0.out.step hk);obtain⟨⟨x0,x1,x2⟩,⟨q0,q1,q2,q3,q4,q5,q6,q7,q8⟩⟩:=G1.out.cells;have V9:=hiD hv9;obtain⟨p9,n9,c9,b9,rfl,hs9⟩:=hv9.shape;clear hk hv9 hs9;refine⟨_,rfl,?_⟩;refine hK.out _ _ ⟨x0,x1,x2⟩ (fun hHeld=>?_);clear hK K;refine rgn 44 ?_;refine one_ (i:=3) (N:=some 45) #[true,true,true,true,false] rfl rfl (by kernel_rfl) (by decide) (fun K hK=>?_);refine goes_ func18 (by kernel_rfl) rfl #[.agg #[.bool d.neg,.slice p n c,.int .i64 d.e],.agg #[.bool D9.neg,.slice p9 n9 c9,.int .i64 D9.e]] (by rfl) rfl rfl (by simp only[List.map_toArray,List.map_cons,List.map_nil];rfl) ?_;with_reducible refine(HTT.out.at _ _ G1.out V9.out).mono ?_
     rintro e w10 ⟨v10,rfl,hv10,hk⟩;have G2:=hiD (G1.out.step hk);obtain⟨⟨x0,x1,x2⟩,⟨q0,q1,q2,q3,q4,q5,q6,q7,q8⟩⟩:=G2.out.cells;have V10:=hiD hv10;obtain⟨p10,n10,c10,b10,rfl,hs10⟩:=hv10.shape;clear hk hv10 hs10;have hst:=G2.out.store V10.out;obtain⟨f0,f1,f2⟩:=G2.out.froz;generalize hW3:(((w10.setCell ⟨b3,0,none⟩ (.bool D10.neg)).setCell ⟨b3,1,none⟩ (.slice p10 n10 c10)).setCell ⟨b3,2,none⟩ (.int .i64 D10.e))=W3 at hst;have HST:=hiD hst;clear hst;refine⟨_,rfl,?_⟩;refine hK.out _ _ ⟨x0,x1,x2⟩ (fun hHeld=>?_);clear hK K;refine rgn 45 ?_;refine last_ (i:=4) (N:=none) #[true,true,true,true,true] rfl rfl (by kernel_rfl) (by decide) (fun K hK=>?_);refine skip_ (w1:=?_) (by rfl) rfl ?_ ?_;rotate_left
     ·go_simp;rfl
     refine hK.out _ _ ?_;clear hK K;refine done_ (by kernel_rfl) ?_;obtain⟨⟨x0,x1,x2⟩,⟨q0,q1,q2,q3,q4,q5,q6,q7,q8⟩⟩:=HST.out.cells;obtain⟨⟨o0,o1,o2⟩,g0,g1,g2⟩:=HST.out.ocells;have hf:=HST.out.fin;generalize hW4:(((W3.setCell ⟨w.heap.size+1,0,none⟩ (.bool D10.neg)).setCell ⟨w.heap.size+1,1,none⟩ (.slice p10 n10 c10)).setCell ⟨w.heap.size+1,2,none⟩ (.int .i64 D10.e))=W4 at hf;obtain⟨hf1,hf2⟩:=hf;have HF1:=hiD hf1;have HF2:=hiD hf2;clear hf1 hf2 hX;go_wp2_with fail;obtain⟨u0,u1,u2⟩:=cells3 HF2.out;refine bodyPost_ret (v:=.agg #[.bool D10.neg,.slice p10 n10 c10,.int .i64 D10.e]) ?_ rfl (by rw[<- HDD.out];exact HF1.out);simp[results,Tryz.f30,loadVar,go_sem,u0,u1,u2]
    ·have hps2:(ps==2)=false:=beqF hps;have hof:=of_r 1 ((N:Int)) (by omega) (by omega) (by omega);have htt:=cJ2 (w:=w) (q:=⟨sg,nm,dt,dn,0,pl,up,ps,pw⟩) (b3:=b3) ng M 1 (-(dn.size:Int)) ((N:Int)) p n c (Nat.lt_of_lt_of_le HMM.out (by decide)) (by decide) (by have:=HDN.out;omega) (by omega);have hdd:=HQM.out;rw[HQN.out,HQE.out,if_neg (by decide),if_neg (by decide),if_neg (by decide),HPW.out,if_neg hps]at hdd;rw[HD.out,Nat.mul_one,<- hdd]at htt;rw[show(1:Int).toNat=1 from rfl]at hof;obtain⟨D10,hD10⟩:∃ D10,D10=D:=⟨_,rfl⟩;rw[<- hD10]at htt;have HDD:=hiD hD10;generalize hD9:nd false 1 ((N:Int))=D9 at hof htt;have HOF:=hiD hof;have HTT:=hiD htt;have M0:=hiD HX.out.drew;obtain⟨⟨x0,x1,x2⟩,⟨q0,q1,q2,q3,q4,q5,q6,q7,q8⟩⟩:=M0.out.cells;clear hof htt hdd hD10 hD9 hi hge hNN;go_wp2_with fail;refine start_ (n:=5) (S:=fun w'=>w'.cell? ⟨b3,0,none⟩=some (.bool d.neg)/\w'.cell? ⟨b3,1,none⟩=some (.slice p n c)/\w'.cell? ⟨b3,2,none⟩=some (.int .i64 d.e)) (ds:=[4]) #[false,false,false,false,false] (by kernel_rfl) rfl rfl ⟨x0,x1,x2⟩ (fun hHeld=>?_);refine rgp 1 43 ?_;refine rgt 0 42 hHeld ?_;refine one_ (i:=2) (N:=some 44) #[true,true,true,false,false] rfl rfl (by kernel_rfl) (by decide) (fun K hK=>?_);refine goes_ func14 (by kernel_rfl) rfl #[.int .i64 1,.int .i64 (N:Int)] (by rfl) rfl rfl (by simp only[List.map_toArray,List.map_cons,List.map_nil];rfl) ?_;with_reducible refine(HOF.out.at _).mono ?_
     rintro e w9 ⟨v9,rfl,hv9,hk⟩;have G1:=hiD (M0.out.step hk);obtain⟨⟨x0,x1,x2⟩,⟨q0,q1,q2,q3,q4,q5,q6,q7,q8⟩⟩:=G1.out.cells;have V9:=hiD hv9;obtain⟨p9,n9,c9,b9,rfl,hs9⟩:=hv9.shape;clear hk hv9 hs9;refine⟨_,rfl,?_⟩;refine hK.out _ _ ⟨x0,x1,x2⟩ (fun hHeld=>?_);clear hK K;refine rgn 44 ?_;refine one_ (i:=3) (N:=some 45) #[true,true,true,true,false] rfl rfl (by kernel_rfl) (by decide) (fun K hK=>?_);refine goes_ func18 (by kernel_rfl) rfl #[.agg #[.bool d.neg,.slice p n c,.int .i64 d.e],.agg #[.bool D9.neg,.slice p9 n9 c9,.int .i64 D9.e]] (by rfl) rfl rfl (by simp only[List.map_toArray,List.map_cons,List.map_nil];rfl) ?_;with_reducible refine(HTT.out.at _ _ G1.out V9.out).mono ?_
     rintro e w10 ⟨v10,rfl,hv10,hk⟩;have G2:=hiD (G1.out.step hk);obtain⟨⟨x0,x1,x2⟩,⟨q0,q1,q2,q3,q4,q5,q6,q7,q8⟩⟩:=G2.out.cells;have V10:=hiD hv10;obtain⟨p10,n10,c10,b10,rfl,hs10⟩:=hv10.shape;clear hk hv10 hs10;have hst:=G2.out.store V10.out;obtain⟨f0,f1,f2⟩:=G2.out.froz;generalize hW3:(((w10.setCell ⟨b3,0,none⟩ (.bool D10.neg)).setCell ⟨b3,1,none⟩ (.slice p10 n10 c10)).setCell ⟨b3,2,none⟩ (.int .i64 D10.e))=W3 at hst;have HST:=hiD hst;clear hst;refine⟨_,rfl,?_⟩;refine hK.out _ _ ⟨x0,x1,x2⟩ (fun hHeld=>?_);clear hK K;refine rgn 45 ?_;refine last_ (i:=4) (N:=none) #[true,true,true,true,true] rfl rfl (by kernel_rfl) (by decide) (fun K hK=>?_);refine skip_ (w1:=?_) (by rfl) rfl ?_ ?_;rotate_left
     ·go_simp;rfl
     refine hK.out _ _ ?_;clear hK K;refine done_ (by kernel_rfl) ?_;obtain⟨⟨x0,x1,x2⟩,⟨q0,q1,q2,q3,q4,q5,q6,q7,q8⟩⟩:=HST.out.cells;obtain⟨⟨o0,o1,o2⟩,g0,g1,g2⟩:=HST.out.ocells;have hf:=HST.out.fin;generalize hW4:(((W3.setCell ⟨w.heap.size+1,0,none⟩ (.bool D10.neg)).setCell ⟨w.heap.size+1,1,none⟩ (.slice p10 n10 c10)).setCell ⟨w.heap.size+1,2,none⟩ (.int .i64 D10.e))=W4 at hf;obtain⟨hf1,hf2⟩:=hf;have HF1:=hiD hf1;have HF2:=hiD hf2;clear hf1 hf2 hX;go_wp2_with fail;obtain⟨u0,u1,u2⟩:=cells3 HF2.out;refine bodyPost_ret (v:=.agg #[.bool D10.neg,.slice p10 n10 c10,.int .i64 D10.e]) ?_ rfl (by rw[<- HDD.out];exact HF1.out);simp[results,Tryz.f30,loadVar,go_sem,u0,u1,u2]
end
def bv(l:List UInt8):Nat:=dv (l.map fun c=>dgOf c.toNat)
theorem cD3(c:UInt8)(l:List UInt8):bv (c::l)=dgOf c.toNat*10^l.length+bv l:=by simp[bv,dv]
theorem bv_lt(l:List UInt8):bv l<10^l.length:=by
 have:=dv_lt (l.map fun c=>dgOf c.toNat) (fun x hx=>by
  simp only[List.mem_map]at hx;obtain⟨c,_,rfl⟩:=hx;exact cB1 _)
 simpa[bv]using this
theorem bP9{c:Nat}(h:isDg c=true):dgOf c=c-48:=by unfold dgOf;rw[if_pos h]
theorem bW8{c:Nat}(h:isDg c=true):48<=c/\c<=57:=by simpa[isDg]using h
theorem cY5(z:Nat)(l r:List UInt8)(hz:z<=aC2 isZ l):bv (l++r)=bv (l.drop z++r):=by
 induction z generalizing l with
 | zero=>rfl
 | succ z ih =>
  cases l with
  | nil=>simp[aC2]at hz
  | cons c l =>
   unfold aC2 at hz;split at hz
   ·rename_i h;have hc:dgOf c.toNat=0:=by
     have:c.toNat=48:=by simpa[isZ]using h
     rw[this];rfl
    rw[List.cons_append,cD3,hc,Nat.zero_mul,Nat.zero_add,List.drop_succ_cons];exact ih l (by omega)
   ·omega
theorem cY6:∀(l:List UInt8) (acc:Nat),(∀ c∈l,isDg c.toNat=true)->(acc+1)*10^l.length<=1000000000000000000->Lib.parseUintM 18446744073709551615 acc l=.ok (acc*10^l.length+bv l)
 | [],acc,_,_=>by simp[Lib.parseUintM,bv,dv]
 | c::r,acc,hd,hb=>by
  have hc:=bW8 (hd c (by simp));have hp:0<10^r.length:=Nat.pow_pos (by omega);rw[List.length_cons,Nat.pow_succ]at hb;have h1:(acc+1)*10<=1000000000000000000:=by
   refine Nat.le_trans ?_ hb;rw[Nat.mul_comm (10^r.length),<- Nat.mul_assoc];exact Nat.le_mul_of_pos_right _ hp
  have h2:(acc*10+(c.toNat-48)+1)*10^r.length<=1000000000000000000:=by
   refine Nat.le_trans ?_ hb;rw[Nat.mul_comm (10^r.length),<- Nat.mul_assoc];exact Nat.mul_le_mul_right _ (by omega)
  rw[Lib.parseUintM,if_pos hc,if_neg (by omega),if_neg (by omega),cY6 r _ (fun x hx=>hd x (by simp[hx])) h2,cD3,bP9 (hd c (by simp)),List.length_cons,Nat.pow_succ,Nat.add_mul];congr 1;rw[Nat.mul_assoc,Nat.mul_comm 10,Nat.add_assoc]
theorem aZ8(l:List UInt8)(hd:∀ c∈l,isDg c.toNat=true)(h1:l≠[])(h2:l.length<=18):Lib.parseIntB 64 l=.ok (bv l:Int)/\bv l<1000000000000000000:=by
 have hb:=bv_lt l;have hp:(10:Nat)^l.length<=10^18:=Nat.pow_le_pow_right (by omega) h2;have e18:(10:Nat)^18=1000000000000000000:=by decide
 refine⟨?_,by omega⟩;have hu:Lib.parseUintB 64 l=.ok (bv l):=by
  unfold Lib.parseUintB;rw[if_neg h1,show(2:Nat)^64-1=18446744073709551615 by decide,cY6 l 0 hd (by omega)];simp
 cases l with
 | nil=>exact absurd rfl h1
 | cons c r =>
  have hc:=bW8 (hd c (by simp));rw[Lib.parseIntB_plain 64 c r (by omega) (by omega),hu];simp only[Lib.signlessC];rw[if_neg (by
   have e:(2:Nat)^(64-1)=9223372036854775808:=by decide
   omega)]
def strip(num:List UInt8):List UInt8:=if aC2 isZ num=num.length then [48]else num.drop (aC2 isZ num)
theorem dI6(num ds:List UInt8):bv (strip num++ds)=bv (num++ds):=by
 unfold strip;split
 ·rename_i h;rw[cY5 num.length num ds (by omega),List.drop_length];show bv (48::ds)=_;rw[cD3,show dgOf (48:UInt8).toNat=0 from rfl,Nat.zero_mul,Nat.zero_add];rfl
 ·exact(cY5 _ num ds (Nat.le_refl _)).symm
theorem dI7(num:List UInt8)(h:∀ x∈num,isDg x.toNat=true):∀ x∈strip num,isDg x.toNat=true:=by
 unfold strip;split
 ·intro x hx;simp at hx;subst hx;rfl
 ·exact fun x hx=>h x (List.mem_of_mem_drop hx)
theorem cY7(num:List UInt8):1<=(strip num).length/\(strip num).length<=num.length+1:=by
 have:=aS2 isZ num;unfold strip;split
 ·simp
 ·rw[List.length_drop];omega
theorem dI8{s:ByteArray}{sg num dn ps pw:List UInt8}{c:UInt8}(W:Word s sg num dn (c::(ps++pw)))(hp:ps=[]\/ps=[43]\/ps=[45])(hne:pw≠[])(hpw:∀ x∈pw,isDg x.toNat=true)(p:Bool)(nm dm:ByteArray):
  aO4 s p nm dm (sg.length+num.length+dn.length)=⟨p,s.extract 0 (sg.length+num.length+dn.length),nm,dm,⟨(c::(ps++pw)).toArray⟩,true⟩:=by
 have hw:=W.whole;have hsz:=aD1 hw;simp at hsz;obtain⟨c',r',hcr,hc⟩:=W.suff;injection hcr with h1 h2;subst h1 h2;have e:(sg++num++dn).length=sg.length+num.length+dn.length:=by simp;omega
 obtain⟨x,y,hxy,hx⟩:∃ x y,ps++pw=x::y/\isSf x.toNat=false:=by
  rcases hp with rfl|rfl|rfl
  ·cases pw with
   | nil=>exact absurd rfl hne
   | cons a l=>exact⟨a,_,rfl,(dg_no (hpw a (by simp))).2.1⟩
  ·exact⟨43,_,rfl,by decide⟩
  ·exact⟨45,_,rfl,by decide⟩
 have hf:skip isSf s (sg.length+num.length+dn.length)=sg.length+num.length+dn.length+1:=by
  rw[<- e,aH0 (rest:=[c]++x::y) (by rw[hw,hxy];simp),aJ5 (by simpa using hc),aX1 hx];rfl
 have hb:aD6 s (sg.length+num.length+dn.length+1)=x.toNat:=by
  have:=aE1 (pre:=sg++num++dn++[c]) (c:=x) (r:=y) (s:=s) (by rw[hw,hxy];simp)
  simpa[Nat.add_assoc]using this
 have hg:aM6 s (sg.length+num.length+dn.length+1)=sg.length+num.length+dn.length+1+ps.length:=by
  unfold aM6;rw[hb];rcases hp with rfl|rfl|rfl
  ·cases pw with
   | nil=>exact absurd rfl hne
   | cons a l =>
    simp at hxy;obtain⟨rfl,_⟩:=hxy;rw[(dg_no (hpw a (by simp))).1];rfl
  ·simp at hxy;obtain⟨rfl,_⟩:=hxy;rfl
  ·simp at hxy;obtain⟨rfl,_⟩:=hxy;rfl
 have hh:skip isDg s (sg.length+num.length+dn.length+1+ps.length)=s.size:=by
  have e2:(sg++num++dn++[c]++ps).length=sg.length+num.length+dn.length+1+ps.length:=by simp;omega
  rw[<- e2,aH0 (rest:=pw++[]) (by rw[hw];simp),aJ5 hpw];simp[aC2];omega
 unfold aO4;rw[hf,hg,hh,if_pos rfl];congr 1;apply aS3;have:=aH1 (s:=s) (a:=sg++num++dn) (b:=c::(ps++pw)) (c:=[]) (by rw[hw];simp);rw[e]at this;have hsz2:s.size=sg.length+num.length+dn.length+(c::(ps++pw)).length:=by simp;omega
 rw[hsz2];exact this
theorem bQ0{s:ByteArray}{sg num rest:List UInt8}(h:s.data.toList=sg++num++rest):(pqNum s (sg.length+aC2 isZ num) (sg.length+num.length)).data.toList=strip num:=by
 have hk:=aS2 isZ num;unfold pqNum strip;by_cases he:aC2 isZ num=num.length
 ·rw[if_pos (by omega),if_pos he];rfl
 ·rw[if_neg (by omega),if_neg he];have e:(sg++num.take (aC2 isZ num)).length=sg.length+aC2 isZ num:=by simp;omega
  have:=aH1 (s:=s) (a:=sg++num.take (aC2 isZ num)) (b:=num.drop (aC2 isZ num)) (c:=rest) (by rw[List.append_assoc sg,List.take_append_drop];exact h);rw[e,show sg.length+aC2 isZ num+(num.drop (aC2 isZ num)).length=sg.length+num.length by rw[List.length_drop];omega]at this;exact this
theorem bW9{s:ByteArray}{sg num ds rest:List UInt8}(h:s.data.toList=sg++num++(46::ds)++rest):(s.extract (sg.length+num.length+1) (sg.length+num.length+1+ds.length)).data.toList=ds:=by
 have:=aH1 (s:=s) (a:=sg++num++[46]) (b:=ds) (c:=rest) (by rw[h];simp);have e:(sg++num++[46]).length=sg.length+num.length+1:=by simp;omega
 rw[e]at this;exact this
def PzOk(s:ByteArray)(neg:Bool)(sg num dn ds suf:List UInt8):Prop :=
 ∃ value nm dm sf:ByteArray,pq s=⟨!neg,value,nm,dm,sf,true⟩/\nm.data.toList=strip num/\dm.data.toList=ds/\sf.data.toList=suf/\(value.data.toList=sg++num++dn\/(nm.size=1/\ds=[]/\suf=[]))
theorem dM1{s:ByteArray}{sg num dn ds suf:List UInt8}(W:Word s sg num dn suf)(hdn:dn=[]/\ds=[]\/dn=46::ds)(ht:∀ p nm dm,aO4 s p nm dm (sg.length+num.length+dn.length)=⟨p,s.extract 0 (sg.length+num.length+dn.length),nm,dm,⟨suf.toArray⟩,true⟩):PzOk s (sg==[45]) sg num dn ds suf:=by
 have hw:=W.whole;refine⟨_,_,_,_,(dN8 W).trans (ht _ _ _),bQ0 (rest:=dn++suf) (by rw[hw];simp),?_,by simp,Or.inl ?_⟩
 ·rcases hdn with⟨rfl,rfl⟩|rfl
  ·unfold bR6;rw[if_pos rfl];rfl
  ·unfold bR6;have e:sg.length+num.length+(46::ds).length=sg.length+num.length+1+ds.length:=by
    have:(46::ds).length=ds.length+1:=rfl;omega
   rw[if_neg (by simp),e];exact bW9 hw
 ·have:=aH1 (s:=s) (a:=[]) (b:=sg++num++dn) (c:=suf) (by rw[hw];simp);have e:(sg++num++dn).length=sg.length+num.length+dn.length:=by simp;omega
  rw[List.length_nil,Nat.zero_add,e]at this;exact this
theorem dI9{s:ByteArray}{sg num dn ds:List UInt8}(hw:s.data.toList=sg++num++dn)(hsg:sg=[]\/sg=[43]\/sg=[45])(hnum:∀ x∈num,isDg x.toNat=true)(hdn:dn=[]/\ds=[]\/dn=46::ds)(hds:∀ x∈ds,isDg x.toNat=true)(hne:num++ds≠[]):
  PzOk s (sg==[45]) sg num dn ds []:=by
 have hsz:=aD1 hw;simp at hsz;have hk:=aS2 isZ num
 -- the first byte behind the sign
 obtain⟨x,y,hxy,hxs⟩:∃ x y,num++dn=x::y/\isSg x.toNat=false:=by
  cases num with
  | cons a l=>exact⟨a,_,rfl,(dg_no (hnum a (by simp))).1⟩
  | nil =>
   rcases hdn with⟨rfl,rfl⟩|rfl
   ·exact absurd rfl hne
   ·exact⟨46,ds,rfl,by decide⟩
 have hs0:sgnLen s=sg.length/\(!(aD6 s 0==45)) = !(sg==[45]):=by
  rcases hsg with rfl|rfl|rfl
  ·have:=aE1 (pre:=[]) (c:=x) (r:=y) (s:=s) (by rw[hw,List.append_assoc,hxy]);simp at this;refine⟨by simp[sgnLen,this,hxs],?_⟩;rw[this];simp[isSg]at hxs;simp[hxs]
  ·have:=aE1 (pre:=[]) (c:=43) (r:=num++dn) (s:=s) (by rw[hw];simp);simp at this;exact⟨by simp[sgnLen,this,isSg],by rw[this];rfl⟩
  ·have:=aE1 (pre:=[]) (c:=45) (r:=num++dn) (s:=s) (by rw[hw];simp);simp at this;exact⟨by simp[sgnLen,this,isSg],by rw[this];rfl⟩
 obtain⟨hs1,hs2⟩:=hs0;have hz:skip isZ s sg.length=sg.length+aC2 isZ num:=by
  rw[aH0 (pre:=sg) (rest:=num++dn) (by rw[hw];simp)];rcases hdn with⟨rfl,rfl⟩|rfl
  ·simp
  ·rw[bC3 (by decide)]
 have hn:skip isDg s (sg.length+aC2 isZ num)=sg.length+num.length:=by
  have e:(sg++num.take (aC2 isZ num)).length=sg.length+aC2 isZ num:=by simp;omega
  rw[<- e,aH0 (rest:=num.drop (aC2 isZ num)++dn) (by rw[hw];simp[<- List.append_assoc];rw[List.append_assoc sg,List.take_append_drop]),aJ5 (fun x hx=>hnum x (List.mem_of_mem_drop hx)),e];have:aC2 isDg dn=0:=by
   rcases hdn with⟨rfl,rfl⟩|rfl
   ·rfl
   ·exact aX1 (by decide)
  rw[this,List.length_drop];omega
 unfold PzOk pq;rw[hs1,hs2,hz];rcases hdn with⟨rfl,rfl⟩|rfl
 ·simp at hsz;unfold pqA;by_cases he:aC2 isZ num=num.length
  ·rw[if_pos (by omega)];refine⟨_,_,_,_,rfl,?_,rfl,rfl,Or.inr ⟨rfl,rfl,rfl⟩⟩;unfold strip;rw[if_pos he];rfl
  ·rw[if_neg (by omega),hn];unfold pqB;rw[if_pos (by omega)];refine⟨_,_,_,_,rfl,?_,rfl,rfl,Or.inl (by rw[hw])⟩;have h1:=bQ0 (s:=s) (sg:=sg) (num:=num) (rest:=[]) (by rw[hw]);unfold pqNum at h1;rw[if_neg (by omega),show sg.length+num.length=s.size by omega]at h1;exact h1
 ·simp at hsz;unfold pqA;rw[if_neg (by omega),hn];unfold pqB;have hb:aD6 s (sg.length+num.length)=46:=by
   have:=aE1 (pre:=sg++num) (c:=46) (r:=ds) (s:=s) (by rw[hw])
   simpa using this
  have hd2:skip isDg s (sg.length+num.length+1)=s.size:=by
   have e:(sg++num++[46]).length=sg.length+num.length+1:=by simp;omega
   rw[<- e,aH0 (rest:=ds++[]) (by rw[hw];simp),aJ5 hds,e];simp[aC2];omega
  rw[if_neg (by omega),if_pos hb,if_pos hd2];refine⟨_,_,_,_,rfl,bQ0 (rest:=46::ds) hw,?_,rfl,Or.inl (by rw[hw])⟩;have h1:=bW9 (s:=s) (sg:=sg) (num:=num) (ds:=ds) (rest:=[]) (by rw[hw];simp);rw[show sg.length+num.length+1+ds.length=s.size by omega]at h1;exact h1
def lb(l:List UInt8)(j:Nat):Nat:=match l[j]? with|some c=>c.toNat|none=>48
theorem bX0{l:List UInt8}{j:Nat}{c:UInt8}(h:l[j]? = some c):lb l j=c.toNat:=by unfold lb;rw[h]
theorem dS9{l:List UInt8}{j:Nat}(h:l.length<=j):lb l j=48:=by unfold lb;rw[List.getElem?_eq_none h]
theorem dT0(l:List UInt8)(k:Nat)(h:k<l.length):bv (l.take (k+1))=bv (l.take k)*10+dgOf l[k].toNat:=by
 unfold bv;rw[List.take_succ_eq_append_getElem h,List.map_append,List.map_cons,List.map_nil,cD0];omega
theorem dT1(l:List UInt8)(hd:∀ c∈l,isDg c.toNat=true):∀ k,k<=l.length->dval (fun j=>lb l j-48) k=bv (l.take k):=by
 intro k
 induction k with
 | zero=>intro _;simp[dval,bv,dv]
 | succ k ih =>
  intro h;have hk:k<l.length:=by omega
  rw[dT0 l k hk,bP9 (hd _ (List.getElem_mem hk))];show dval _ k*10+_=_;rw[ih (by omega)];show _+(lb l k-48)=_;rw[bX0 (List.getElem?_eq_getElem hk)]
theorem dT2{value:ByteArray}{sg num dn ds:List UInt8}(hv:value.data.toList=sg++num++dn)(hsg:sg=[]\/sg=[43]\/sg=[45])(hnum:∀ x∈num,isDg x.toNat=true)(hdn:dn=[]/\ds=[]\/dn=46::ds)(hds:∀ x∈ds,isDg x.toNat=true)(hne:num++ds≠[])(hsz:value.size<=200):
  PVal value (sg==[45]) (sgZ (sg==[45]) (bv (num++ds))) ds.length:=by
 have hs:=aD1 hv;have hdig:∀ c∈num++ds,isDg c.toNat=true:=by
  intro c hc;rcases List.mem_append.1 hc with h|h
  ·exact hnum c h
  ·exact hds c h
 have hl1:1<=(num++ds).length:=List.length_pos_iff.2 hne;have hso:sg.length<=1:=by rcases hsg with rfl|rfl|rfl<;>simp
 obtain⟨pt,hpt1,hpt2⟩:∃ pt,(dn=[]->pt=value.size)/\(dn≠[]->pt=sg.length+num.length):=by
  by_cases h:dn=[]
  ·exact⟨value.size,fun _=>rfl,fun h'=>absurd h h'⟩
  ·exact⟨sg.length+num.length,fun h'=>absurd h' h,fun _=>rfl⟩
 -- the bytes without the point
 have hg:∀ k (h:k<value.size),k≠pt->value[k].toNat=lb (sg++num++ds) (cnt pt k):=by
  intro k h hk;have hb:=aO2 h;rw[<- hb];unfold aD6;rw[hv];rcases hdn with⟨rfl,rfl⟩|rfl
  ·rw[hpt1 rfl]at hk ⊢;unfold cnt;rw[if_pos (by omega)];have hk2:k<(sg++num++([]:List UInt8)).length:=by omega
   rw[List.getElem?_eq_getElem hk2,bX0 (List.getElem?_eq_getElem hk2)]
  ·have hp:=hpt2 (by simp);have e1:(sg++num).length=sg.length+num.length:=by simp
   rcases Nat.lt_or_ge k pt with hlt|hge
   ·unfold cnt;rw[if_pos (by omega),List.getElem?_append_left (by omega)];have hk2:k<(sg++num).length:=by omega
    have h3:(sg++num++ds)[k]? = some (sg++num)[k]:=by rw[List.getElem?_append_left hk2,List.getElem?_eq_getElem hk2]
    rw[bX0 h3,List.getElem?_eq_getElem hk2]
   ·have e2:(46::ds).length=ds.length+1:=rfl;have e3:(sg++num++46::ds).length=(sg++num).length+(46::ds).length:=List.length_append;unfold cnt;rw[if_neg (by omega),List.getElem?_append_right (by omega)];obtain⟨j,hj⟩:∃ j,k=sg.length+num.length+(j+1):=⟨k-(sg.length+num.length)-1,by omega⟩;have hj2:j<ds.length:=by omega
    rw[show k-(sg++num).length=j+1 by omega,List.getElem?_cons_succ,List.getElem?_eq_getElem hj2];have h3:(sg++num++ds)[k-1]? = some ds[j]:=by
     rw[List.getElem?_append_right (by omega),show k-1-(sg++num).length=j by omega,List.getElem?_eq_getElem hj2]
    rw[bX0 h3]
 have hpn:∀ h:pt<value.size,value[pt].toNat=46:=by
  intro h;have hb:=aO2 h;rcases hdn with⟨rfl,rfl⟩|rfl
  ·have:=hpt1 rfl;omega
  ·have hp:=hpt2 (by simp);have:=aE1 (pre:=sg++num) (c:=46) (r:=ds) (s:=value) hv;rw[show(sg++num).length=pt by simp;omega]at this;rw[<- hb,this];rfl
 have hlow:∀ j,sg.length<=j->48<=lb (sg++num++ds) j/\lb (sg++num++ds) j<=57:=by
  intro j hj;rcases Nat.lt_or_ge j (sg++num++ds).length with h|h
  ·have h3:(sg++num++ds)[j]? = (num++ds)[j-sg.length]?:=by rw[List.append_assoc,List.getElem?_append_right hj]
   have hj2:j-sg.length<(num++ds).length:=by simp at h ⊢;omega
   rw[List.getElem?_eq_getElem hj2]at h3;rw[bX0 h3];exact bW8 (hdig _ (List.getElem_mem hj2))
  ·rw[dS9 h];omega
 have hcn:cnt pt value.size=sg.length+(num++ds).length:=by
  unfold cnt;rcases hdn with⟨rfl,rfl⟩|rfl
  ·rw[if_pos (by rw[hpt1 rfl];exact Nat.le_refl _),hs];simp
  ·have e2:(sg++num++46::ds).length=sg.length+num.length+(ds.length+1):=by simp[Nat.add_assoc]
   have:=hpt2 (by simp);rw[if_neg (by omega),List.length_append];omega
 have hdv:dval (fun j=>lb (sg++num++ds) (sg.length+j)-48) (cnt pt value.size-sg.length)=bv (num++ds):=by
  have e:(fun j=>lb (sg++num++ds) (sg.length+j)-48)=fun j=>lb (num++ds) j-48:=by
   funext j
   unfold lb;rw[List.append_assoc,List.getElem?_append_right (by omega),Nat.add_sub_cancel_left]
  rw[e,hcn,Nat.add_sub_cancel_left,dT1 _ hdig _ (Nat.le_refl _),List.take_length]
 refine⟨⟨pt,sg.length,lb (sg++num++ds),⟨hg,hpn,hlow,⟨hso,fun h1=>?_,?_⟩,?_⟩,by omega,by rw[hdv],?_⟩,hsz⟩
 ·rcases hsg with rfl|rfl|rfl
  ·simp at h1
  ·exact Or.inl rfl
  ·exact Or.inr rfl
 ·rcases hdn with⟨rfl,rfl⟩|rfl
  ·rw[hpt1 rfl,hs];simp
  ·rw[hpt2 (by simp)];omega
 ·rcases hsg with rfl|rfl|rfl
  ·simp
  ·simp[lb]
  ·simp[lb]
 ·rcases hdn with⟨rfl,rfl⟩|rfl
  ·rw[if_neg (by rw[hpt1 rfl];omega)];rfl
  ·have e2:(sg++num++46::ds).length=sg.length+num.length+(ds.length+1):=by simp[Nat.add_assoc]
   have hp:=hpt2 (by simp);rw[if_pos (by omega),hcn,hp,List.length_append];omega
end Go.Proofs.YtjebnpkebccffaaGreatDoor
