import Derived.Test.YtjebnpkebccffaaGreatDoorZPzi
set_option linter.unusedSimpArgs false
set_option linter.unusedVariables false
set_option linter.unusedSectionVars false
set_option maxRecDepth 100000
set_option maxHeartbeats 8000000
namespace Go.Proofs.YtjebnpkebccffaaGreatDoor
open Go.RowKit Go.Proofs.Tryz
section
open Go.RowKit
open Go.Proofs.YtjebnpkebccffaaGreatDoorW.PrintLast
def d1024:Dm:=decL (decide ((1024:Int)<0)) (dgs (1024:Int).natAbs) 0
def b1024:Nat->Int->Int×Nat
 | 0,x=>(x,0)
 | n+1,x=>if x.tmod 1024=0 then((b1024 n (wrap64 (x.tdiv 1024))).1,(b1024 n (wrap64 (x.tdiv 1024))).2+1)else(x,0)
def binS:Nat->ByteArray
 | 1=>⟨#[75,105]⟩
 | 2=>⟨#[77,105]⟩
 | 3=>⟨#[71,105]⟩
 | 4=>⟨#[84,105]⟩
 | 5=>⟨#[80,105]⟩
 | 6=>⟨#[69,105]⟩
 | _=>⟨#[]⟩
def sfxD:Nat->ByteArray
 | 0=>⟨#[109]⟩
 | 2=>⟨#[107]⟩
 | 3=>⟨#[77]⟩
 | 4=>⟨#[71]⟩
 | 5=>⟨#[84]⟩
 | 6=>⟨#[80]⟩
 | 7=>⟨#[69]⟩
 | _=>⟨#[]⟩
def txtI(x:Int):ByteArray:=txtD (decL (decide (x<0)) (dgs x.natAbs) 0)
def sufX(f E:Int):ByteArray:=if E=0 then⟨#[]⟩else if f=2 then sfxD (E/3+1).toNat else if E<0 then⟨#[101,45]⟩++txtI (-E)else⟨#[101]⟩++txtI E
def eF(d:Dm):Int:=(d.e+300).tdiv 3*3-300
def binT(x:Int):ByteArray:=txtI (b1024 6 x).1++binS (b1024 6 x).2
inductive CanOk (d:Dm) (f:Int) (t:ByteArray):Prop
 | zero:mayD d maxD=true->d.ds=[]->t=⟨#[48]⟩->CanOk d f t
 | bin:mayD d maxD=true->d.ds≠[]->f=1->0<=d.e->(d.e<=2\/0<=cmpD ⟨false,d.ds,d.e⟩ d1024)->(intD d).2=true->t=binT (intD d).1->CanOk d f t
 | dec:mayD d maxD=true->d.ds≠[]->f≠1 -> -3<=eF d->eF d<=18->t=txtD ⟨d.neg,d.ds,d.e-eF d⟩++sufX f (eF d)->CanOk d f t
def CanP(d:Dm)(f:Int)(t:ByteArray)(k:Bool):Prop:=k=true->CanOk d f t
theorem dT4(d:Dm)(f:Int)(t:ByteArray):CanP d f t false:=fun h=>by cases h
def dM4(w:World)(d:Dm)(f:Int)(e:Ending)(w':World):Prop:=(∃(t:ByteArray) (k:Bool),e=.returned (.tuple #[.string t,.bool k])/\CanP d f t k)/\Kept (fun _=>False) w w'
theorem dZ0(d:Dm):-9223372036854775808<=(intD d).1/\(intD d).1<=9223372036854775807:=by
 unfold intD;split
 ·simp
 ·split<;>(simp only[wrap64];omega)
theorem aZ9(d:Dm)(h:d.ds.length<=5000)(he:d.e<=5000):(txtD d).size<=20000:=by
 unfold txtD;split
 ·decide
 ·have h1:=bX1 d.neg (wideL d 0);have h2:=bP6 d 0;omega
theorem apB(t:ByteArray):t=t++(⟨#[]⟩:ByteArray):=by apply ByteArray.ext;rw[ByteArray.data_append];simp
theorem cY9(k:Nat):(binS k).size<=2:=by unfold binS;split<;>decide
theorem tdiv3(x:Int)(h1:-1000<=x)(h2:x<=1000):-234<=(x+300).tdiv 3/\(x+300).tdiv 3<=434:=by
 have h:=Int.mul_tdiv_add_tmod (x+300) 3;have a1:=Int.tmod_lt_of_pos (x+300) (show(0:Int)<3 by decide);have a2:-3<(x+300).tmod 3:=by
  have:=Int.lt_tmod_of_pos (x+300) (show(0:Int)<3 by decide);exact this
 omega
theorem bQ4(x:Int)(h1:-1000<=x)(h2:x<=1000):DmB (decL (decide (x<0)) (dgs x.natAbs) 0) 20 (0+(20:Nat)):=by
 have hx:x.natAbs<=1000:=by omega
 generalize x.natAbs=u at *;have hu:u<10^20:=Nat.lt_of_le_of_lt hx (by decide);obtain⟨a,b⟩:=aZ1 20 u hu;exact bV0 b a (by omega) (by omega)
theorem cZ0(x:Int):-9223372036854775808<=wrap64 x/\wrap64 x<=9223372036854775807:=by unfold wrap64;omega
def CutQ(w wx:World)(a:Array Value)(v:Value)(c:Prop):Prop:=∃ r:Bool,v=.bool r/\(r=false->c)/\Kept (fun _=>False) w wx/\wx.heap[w.heap.size]? = some (.cells a 30 (0,0))
theorem n64_b(x:Int)(h:-9223372036854775808<=x/\x<=9223372036854775807):DmB (decL (decide (x<0)) (dgs x.natAbs) 0) 20 (0+(20:Nat)):=by
 have hx:x.natAbs<=9223372036854775808:=by omega
 generalize x.natAbs=u at *;have hu:u<10^20:=Nat.lt_of_le_of_lt hx (by decide);obtain⟨a,b⟩:=aZ1 20 u hu;exact bV0 b a (by omega) (by omega)
theorem dJ3(k:Nat)(hk:k<=6)(wx:World)(b:Nat)(h:wx.heap[b]? = some (.cells #[.string ⟨#[]⟩,.string ⟨#[75,105]⟩,.string ⟨#[77,105]⟩,.string ⟨#[71,105]⟩,.string ⟨#[84,105]⟩,.string ⟨#[80,105]⟩,.string ⟨#[69,105]⟩] 9 (0,0))):wx.cell? ⟨b,k,none⟩=some (.string (binS k)):=by
 have hc:k=0\/k=1\/k=2\/k=3\/k=4\/k=5\/k=6:=by omega
 rcases hc with rfl|rfl|rfl|rfl|rfl|rfl|rfl;all_goals (rw[aA2 h];rfl)
theorem dJ4{n:Nat}{x:Int}(h:x.tmod 1024=0):b1024 (n+1) x=((b1024 n (wrap64 (x.tdiv 1024))).1,(b1024 n (wrap64 (x.tdiv 1024))).2+1):=by
 show(if x.tmod 1024=0 then _ else _)=_
 rw[if_pos h]
theorem cO9{n:Nat}{x:Int}(h:¬ x.tmod 1024=0):b1024 n x=(x,0):=by
 cases n with
 | zero=>rfl
 | succ n=>show(if x.tmod 1024=0 then _ else _)=_;rw[if_neg h]
theorem w64{x:Int}(h1:-9223372036854775808<=x)(h2:x<=9223372036854775807):wrap64 x=x:=by unfold wrap64;omega
theorem aT7(v:Value)(d:Dm)(f:Int)(w:World)(h:DmAt w v d)(hl:d.ds.length<=1000)(hdg:∀ x∈d.ds,x<=9)(he:-1000<=d.e/\d.e<=1000):Calls prog 13 #[v,.int .i64 f] w (dM4 w d f):=by
 obtain⟨p,c,b,rfl,hs⟩:=h.shape2;have HOK0:Hid (d.ds.length=0->mayD d maxD=true->CanP d f ⟨#[48]⟩ true):=fun h hm _=>CanOk.zero hm (List.eq_nil_of_length_eq_zero h) rfl;have HOK1:Hid (d.ds.length≠0->mayD d maxD=true->f=1->(0<=d.e/\(d.e<=2\/0<=cmpD ⟨false,d.ds,d.e⟩ d1024))->∀ k x q,(intD d).2=k->b1024 6 (intD d).1=(x,q)->CanP d f (txtI x++binS q) k):=fun h hm hf hc k x q hk hb hkt =>
  CanOk.bin hm (fun e=>h (by rw[e];rfl)) hf hc.1 hc.2 (hk.trans hkt) (by unfold binT;rw[hb])
 have HOK2:Hid (d.ds.length≠0->mayD d maxD=true->f≠1->∀ E,(d.e+300).tdiv 3*3-300=E -> -3<=E->E<=18->∀ t,t=txtD ⟨d.neg,d.ds,d.e-E⟩++sufX f E->CanP d f t true):=fun h hm hf E hE h1 h2 t ht _=>by
  subst hE;exact CanOk.dec hm (fun e=>h (by rw[e];rfl)) hf h1 h2 ht
 have HNO:Hid (∀ t,CanP d f t false):=fun t=>dT4 d f t
 have HIB:=hiD (dZ0 d);have HDG:=hiD hdg;have HL0:=hiD hl;generalize hn:d.ds.length=n at *;have k0:Kept (fun _=>False) w (w.alloc (.cells #[.bool d.neg,.slice p n c,.int .i64 d.e] 30)):=(Kept.refl _ _).alloc _;have hb:=aA0 w (.cells #[.bool d.neg,.slice p n c,.int .i64 d.e] 30);generalize hW:w.alloc (.cells #[.bool d.neg,.slice p n c,.int .i64 d.e] 30)=W at *;obtain⟨c0,c1,c2⟩:=cells3 hb;have hva:∀ w',Kept (fun _=>False) w w'->DmAt w' (.agg #[.bool d.neg,.slice p n c,.int .i64 d.e]) d:=fun w' hk=>⟨_,b,rfl,hs.old hk⟩;have hvd:∀ w',Kept (fun _=>False) w w'->DmAt w' (.agg #[.bool false,.slice p n c,.int .i64 d.e]) ⟨false,d.ds,d.e⟩:=fun w' hk=>⟨_,b,rfl,hs.old hk⟩;have HVA:=hiD hva;have hvx:∀(X:Int) w',Kept (fun _=>False) w w'->DmAt w' (.agg #[.bool d.neg,.slice p n c,.int .i64 X]) ⟨d.neg,d.ds,X⟩:=fun X w' hk=>⟨_,b,rfl,hs.old hk⟩;have HVX:=hiD hvx;clear hvx;have HVD:=hiD hvd;have HLL:=hiD hl;have HEE:=hiD he;have HMAY:=hiD (bI6 (.agg #[.bool d.neg,.slice p n c,.int .i64 d.e]) d W (hva _ k0) (by omega) (by omega));have HD9:Hid (DmB (decL (decide ((1024:Int)<0)) (dgs (1024:Int).natAbs) 0) 20 (0+(20:Nat))):=bV0 (aZ1 20 _ (by decide)).2 (aZ1 20 _ (by decide)).1 (by omega) (by omega);have HOK1':Hid (n≠0->mayD d maxD=true->f=1->(0<=d.e/\(d.e<=2\/0<=cmpD ⟨false,d.ds,d.e⟩ (decL (decide ((1024:Int)<0)) (dgs (1024:Int).natAbs) 0)))->∀ k x q,(intD d).2=k->b1024 6 (intD d).1=(x,q)->CanP d f (txtI x++binS q) k):=HOK1;clear HOK1;generalize hD9:decL (decide ((1024:Int)<0)) (dgs (1024:Int).natAbs) 0=D9 at *;have K0:=hiD k0;have HB:=hiD hb;clear h hs hva hvd hb k0 hdg;have HCC:Hid (∀ w' v9,DmAt w' (.agg #[.bool false,.slice p n c,.int .i64 d.e]) ⟨false,d.ds,d.e⟩->DmAt w' v9 D9->Calls prog 34 #[.agg #[.bool false,.slice p n c,.int .i64 d.e],v9] w' (IntIs w' (cmpD ⟨false,d.ds,d.e⟩ D9))):=fun w' v9 h1 h2 =>
  aV7 _ v9 ⟨false,d.ds,d.e⟩ D9 w' h1 h2 (by show d.ds.length<=10000/\_;rw[hn];exact⟨by have:=HLL.out;omega,by have:=HD9.out.len;omega⟩) (by have:=HD9.out.lo;have:=HD9.out.hi;have:=HEE.out;exact⟨by show _<=d.e;omega,by show d.e<=_;omega,by omega,by omega⟩)
 have HOK1':Hid (n≠0->mayD d maxD=true->f=1->(0<=d.e/\(d.e<=2\/0<=cmpD ⟨false,d.ds,d.e⟩ D9))->∀ k x q,(intD d).2=k->b1024 6 (intD d).1=(x,q)->CanP d f (txtI x++binS q) k):=HOK1';have hcb:=dM3 ⟨false,d.ds,d.e⟩ D9;generalize cmpD ⟨false,d.ds,d.e⟩ D9=C at *;have HCB:=hiD hcb;clear hcb;generalize hmay:mayD d maxD=may at *;clear hmay;go_enter func13,ntmps13;go_wp2_with fail;refine HMAY.out.mono ?_;rintro e w1 ⟨rfl,hk⟩;have K1:=hiD (K0.out.same hk);have hb1:=hk.at HB.out (fun f=>f);have HB1:=hiD hb1;obtain⟨x0,x1,x2⟩:=cells3 hb1;clear hk HMAY c0 c1 c2 hW;cases may with
 | false =>
  go_wp2_with fail;go_ret2;exact⟨⟨_,_,rfl,HNO.out _⟩,K1.out⟩
 | true =>
 by_cases hz:n=0
 ·subst hz;go_wp2_with fail;go_ret2;exact⟨⟨_,_,rfl,HOK0.out (by simp) (by simp)⟩,K1.out⟩
 ·have q1:((n:Int)==0)=false:=beqF (by omega);have hlt1:=aB5 hb1;have k2:Kept (fun _=>False) w1 (w1.alloc (.cells #[.bool false,.slice p n c,.int .i64 d.e] 30)):=(Kept.refl _ _).alloc _;have hb2:=k2.at hb1 (fun f=>f);have hb3:=aA0 w1 (.cells #[.bool false,.slice p n c,.int .i64 d.e] 30);generalize hW2:w1.alloc (.cells #[.bool false,.slice p n c,.int .i64 d.e] 30)=W2 at *;have hb2d:W2.drew.heap[w.heap.size]? = _:=hb2;have hb3d:W2.drew.heap[w1.heap.size]? = _:=hb3;obtain⟨c0d,c1d,c2d⟩:=cells3 hb2d;obtain⟨g0d,g1d,g2d⟩:=cells3 hb3d;have H1d:=hiD hb2d;have H2d:=hiD hb3d;have KD:=hiD (K1.out.same k2).drew;clear hb1 hb2 hb3 hb2d hb3d k2;go_wp2_with fail;clear hW2;by_cases hf:f=1
  ·have q2:(f==1)=true:=beqT hf;have HF:=hiD hf;have HNZ:=hiD hz;clear hf
   go_upto_region 7 with fail
   go_cut [38]from 21 (fun v38 wx=>CutQ w wx #[.bool d.neg,.slice p n c,.int .i64 d.e] v38 (0<=d.e/\(d.e<=2\/0<=C)))
   case first =>
    by_cases h0:d.e<0
    ·have q3:decide (d.e<0)=true:=decide_eq_true h0;clear h0;refine start_ (n:=18) (S:=fun w'=>w'.cell? ⟨w.heap.size,0,none⟩=some (.bool d.neg)/\w'.cell? ⟨w.heap.size,1,none⟩=some (.slice p n c)/\w'.cell? ⟨w.heap.size,2,none⟩=some (.int .i64 d.e)/\w'.cell? ⟨w1.heap.size,0,none⟩=some (.bool false)/\w'.cell? ⟨w1.heap.size,1,none⟩=some (.slice p n c)/\w'.cell? ⟨w1.heap.size,2,none⟩=some (.int .i64 d.e)) (ds:=[]) #[false,false,false,false,false,false,false,false,false,false,false,false,false,false,false,false,false,false] (by kernel_rfl) rfl rfl ⟨c0d,c1d,c2d,g0d,g1d,g2d⟩ (fun hHeld=>?_);refine rgp 0 21 ?_;refine rgp 1 22 ?_;refine rgp 2 23 ?_;refine rgp 3 24 ?_;refine rgt 4 25 hHeld ?_;refine rgp 5 26 ?_;refine rgp 6 27 ?_;refine rgu 7 28 ?_;refine rgu 8 29 ?_;refine rgu 9 30 ?_;refine rgu 10 31 ?_;refine rgu 11 32 ?_;refine rgu 12 33 ?_;refine rgu 13 34 ?_;refine rgu 14 35 ?_;refine rgu 15 36 ?_;refine rgp 16 37 ?_;refine rgp 17 38 ?_;refine done_ (by kernel_rfl) ?_
     go_wp2_with fail;go_meet
     case rel=>exact⟨true,rfl,(fun h=>by cases h),KD.out,H1d.out⟩
    ·have q3:decide (d.e<0)=false:=decide_eq_false h0;by_cases h2:2<d.e
     ·have q4:decide (2<d.e)=true:=decide_eq_true h2;have H02:Hid (0<=d.e):=by show 0<=d.e;omega
      clear h0 h2;refine start_ (n:=18) (S:=fun w'=>w'.cell? ⟨w.heap.size,0,none⟩=some (.bool d.neg)/\w'.cell? ⟨w.heap.size,1,none⟩=some (.slice p n c)/\w'.cell? ⟨w.heap.size,2,none⟩=some (.int .i64 d.e)/\w'.cell? ⟨w1.heap.size,0,none⟩=some (.bool false)/\w'.cell? ⟨w1.heap.size,1,none⟩=some (.slice p n c)/\w'.cell? ⟨w1.heap.size,2,none⟩=some (.int .i64 d.e)) (ds:=[]) #[false,false,false,false,false,false,false,false,false,false,false,false,false,false,false,false,false,false] (by kernel_rfl) rfl rfl ⟨c0d,c1d,c2d,g0d,g1d,g2d⟩ (fun hHeld=>?_);refine rgp 0 21 ?_;refine rgp 1 22 ?_;refine rgp 2 23 ?_;refine rgp 3 24 ?_;refine rgt 4 25 hHeld ?_;refine rgp 5 26 ?_;refine rgp 6 27 ?_;refine rgp 7 28 ?_;refine rgt 8 29 hHeld ?_;refine rgp 9 30 ?_;refine rgp 10 31 ?_;refine rgt 11 32 hHeld ?_;refine one_ (i:=12) (N:=some 33) #[true,true,true,true,true,true,true,true,true,true,true,true,true,false,false,false,false,false] rfl rfl (by kernel_rfl) (by decide) (fun K hK=>?_);refine goes_ func14 (by kernel_rfl) rfl #[.int .i64 1024,.int .i64 0] (by rfl) rfl rfl (by simp only[List.map_toArray,List.map_cons,List.map_nil];rfl) ?_;with_reducible refine(aE0 1024 0 _ (by omega) (by omega)).mono ?_
      rintro e w9 ⟨v9,rfl,hv9,hk⟩;have G1:=hiD (hk.at H1d.out (fun f=>f));have G2:=hiD (hk.at H2d.out (fun f=>f));obtain⟨r0,r1,r2⟩:=cells3 G1.out;obtain⟨t0,t1,t2⟩:=cells3 G2.out;have K9:=hiD (KD.out.same hk);rw[hD9]at hv9;obtain⟨p9,c9,b9,rfl,hs9⟩:=hv9.shape2;have V9:=hiD hv9;clear hk hv9;refine⟨_,rfl,?_⟩;refine hK.out _ _ ⟨r0,r1,r2,t0,t1,t2⟩ (fun hHeld=>?_);clear hK K;refine rgn 33 ?_;refine one_ (i:=13) (N:=some 34) #[true,true,true,true,true,true,true,true,true,true,true,true,true,true,false,false,false,false] rfl rfl (by kernel_rfl) (by decide) (fun K hK=>?_);refine goes_ func34 (by kernel_rfl) rfl #[.agg #[.bool false,.slice p n c,.int .i64 d.e],.agg #[.bool D9.neg,.slice p9 D9.ds.length c9,.int .i64 D9.e]] (by rfl) rfl rfl (by simp only[List.map_toArray,List.map_cons,List.map_nil];rfl) ?_;with_reducible refine(HCC.out _ _ (HVD.out _ K9.out) V9.out).mono ?_
      rintro e w10 ⟨rfl,hk⟩;have G3:=hiD (hk.at G1.out (fun f=>f));have G4:=hiD (hk.at G2.out (fun f=>f));obtain⟨r0,r1,r2⟩:=cells3 G3.out;obtain⟨t0,t1,t2⟩:=cells3 G4.out;have K10:=hiD (K9.out.same hk);clear hk;refine⟨_,rfl,?_⟩;refine hK.out _ _ ⟨r0,r1,r2,t0,t1,t2⟩ (fun hHeld=>?_);clear hK K;refine rgn 34 ?_;refine rgp 14 35 ?_;refine rgp 15 36 ?_;refine rgp 16 37 ?_;refine rgp 17 38 ?_;refine done_ (by kernel_rfl) ?_
      go_wp2_with fail;go_meet
      case rel=>exact⟨_,rfl,(fun h=>⟨by have:=H02.out;omega,Or.inr (by simpa using h)⟩),K10.out,G3.out⟩
     ·have q4:decide (2<d.e)=false:=decide_eq_false h2;have H02:Hid (0<=d.e/\d.e<=2):=by show 0<=d.e/\d.e<=2;omega
      clear h0 h2;refine start_ (n:=18) (S:=fun w'=>w'.cell? ⟨w.heap.size,0,none⟩=some (.bool d.neg)/\w'.cell? ⟨w.heap.size,1,none⟩=some (.slice p n c)/\w'.cell? ⟨w.heap.size,2,none⟩=some (.int .i64 d.e)/\w'.cell? ⟨w1.heap.size,0,none⟩=some (.bool false)/\w'.cell? ⟨w1.heap.size,1,none⟩=some (.slice p n c)/\w'.cell? ⟨w1.heap.size,2,none⟩=some (.int .i64 d.e)) (ds:=[]) #[false,false,false,false,false,false,false,false,false,false,false,false,false,false,false,false,false,false] (by kernel_rfl) rfl rfl ⟨c0d,c1d,c2d,g0d,g1d,g2d⟩ (fun hHeld=>?_);refine rgp 0 21 ?_;refine rgp 1 22 ?_;refine rgp 2 23 ?_;refine rgp 3 24 ?_;refine rgt 4 25 hHeld ?_;refine rgp 5 26 ?_;refine rgp 6 27 ?_;refine rgp 7 28 ?_;refine rgt 8 29 hHeld ?_;refine rgp 9 30 ?_;refine rgp 10 31 ?_;refine rgu 11 32 ?_;refine rgu 12 33 ?_;refine rgu 13 34 ?_;refine rgu 14 35 ?_;refine rgp 15 36 ?_;refine rgp 16 37 ?_;refine rgp 17 38 ?_;refine done_ (by kernel_rfl) ?_
      go_wp2_with fail;go_meet
      case rel=>exact⟨false,rfl,(fun _=>by have:=H02.out;omega),KD.out,H1d.out⟩
   case rest =>
    obtain⟨r,rfl,hcond,hk,hb⟩:=hcut;have HCOND:=hiD hcond;clear hcond;clear x0 x1 x2 c0d c1d c2d g0d g1d g2d;have KC:=hiD hk;obtain⟨y0,y1,y2⟩:=cells3 hb;have HI:=hiD (aN8 (.agg #[.bool d.neg,.slice p n c,.int .i64 d.e]) d wc (HVA.out _ hk) (by rw[hn];have:=HLL.out;omega) HDG.out (by have:=HEE.out;constructor<;>omega));clear hk hb;cases r with
    | true =>
     go_wp2_with fail;go_ret2;exact⟨⟨_,_,rfl,HNO.out _⟩,KC.out⟩
    | false =>
     go_wp2_with fail;refine HI.out.mono ?_;rintro e w5 ⟨rfl,hk5⟩;obtain⟨hn1,hn2⟩:=HIB.out;have HOK3:Hid (∀ x q,b1024 6 (intD d).1=(x,q)->CanP d f (txtI x++binS q) (intD d).2):=fun x q h=>HOK1'.out HNZ.out (by simp) HF.out (HCOND.out (by simp)) _ x q rfl h;generalize(intD d).1=n0 at *;generalize(intD d).2=ok at *;have K5:=hiD (KC.out.same hk5);have HN0:=hiD (And.intro hn1 hn2);clear hk5 hn1 hn2 HI y0 y1 y2
     go_upto_block 0 with fail
     go_cut [7,9]from 42 (fun v7 v9 wx=>∃(x:Int) (k:Nat),v7=.int .i64 x/\Hid (-9223372036854775808<=x/\x<=9223372036854775807)/\v9=.int .i64 (k:Int)/\k<=6/\Hid (b1024 6 n0=(x,k))/\wx=w5)
     case first =>
      go_wp2_with fail
      go_loop [7,9] (fun v7 v9=>∃(x:Int) (k:Nat),v7=.int .i64 x/\Hid (-9223372036854775808<=x/\x<=9223372036854775807)/\v9=.int .i64 (k:Int)/\k<=6/\Hid (b1024 6 n0=((b1024 (6-k) x).1,k+(b1024 (6-k) x).2))) (fun _ v9=>6-uOf v9)
      case atStart=>exact⟨n0,0,rfl,HN0,rfl,by omega,hiD (by simp)⟩
      case round =>
       obtain⟨x,k,rfl,HX,rfl,hk6,HBX⟩:=hrel;by_cases hq:x.tmod 1024=0
       ·have q7:(x.tmod 1024==0)=true:=beqT hq;by_cases hlt:k<6
        ·have q8:decide ((k:Int)<6)=true:=decT (by omega);have HB2:Hid (b1024 6 n0=((b1024 (6-(k+1)) (wrap64 (x.tdiv 1024))).1,k+1+(b1024 (6-(k+1)) (wrap64 (x.tdiv 1024))).2)):=by
          show b1024 6 n0=_;rw[HBX.out,show 6-k=(6-(k+1))+1 by omega,dJ4 hq];simp only[Prod.mk.injEq,true_and];omega
         clear hq;go_wp2_with fail;go_round
         case rel=>exact⟨_,k+1,rfl,hiD (cZ0 _),rfl,by omega,HB2⟩
         case measure=>simp[uOf];omega
        ·have q8:decide ((k:Int)<6)=false:=decF (by omega);have HB2:Hid (b1024 6 n0=(x,k)):=by
          show b1024 6 n0=_;rw[HBX.out,show 6-k=0 by omega];rfl
         clear hq;go_wp2_with fail;go_meet
         case rel=>exact⟨x,k,rfl,HX,rfl,hk6,HB2,rfl⟩
       ·have q7:(x.tmod 1024==0)=false:=beqF hq;have HB2:Hid (b1024 6 n0=(x,k)):=by
         show b1024 6 n0=_;rw[HBX.out,cO9 hq];rfl
        clear hq;go_wp2_with fail;go_meet
        case rel=>exact⟨x,k,rfl,HX,rfl,hk6,HB2,rfl⟩
     case rest =>
      obtain⟨x,k,rfl,HX,rfl,hk6,HBX,hwc⟩:=hcut;have HB1:=hiD (HOK3.out x k HBX.out);have hK0:=K5.out;rw[<- hwc]at hK0;have KwL:=hiD hK0.drew;have KW0:=hiD hK0;have HDB:=hiD (n64_b x HX.out);have HTX:Hid (∀ w v,DmAt w v (decL (decide (x<0)) (dgs x.natAbs) 0)->Calls prog 35 #[v] w (StrIs w (txtI x))):=fun w v h=>aJ3 v _ w h (by have:=HDB.out.len;omega) HDB.out.dig (by have:=HDB.out.lo;have:=HDB.out.hi;omega);have ht59:(txtI x).size<=20000:=aZ9 _ (by have:=HDB.out.len;omega) (by have:=HDB.out.hi;omega);have hs63:=cY9 k;have HCEL:=hiD (dJ3 k hk6);generalize txtI x=TT at *;generalize binS k=B63 at *;have hkl:(k:Int)<7:=by omega
      have hkn:k<7:=by omega
      clear hwc hK0;go_wp2_with fail;refine start_ (n:=11) (S:=fun w'=>True) (ds:=[]) #[false,false,false,false,false,false,false,false,false,false,false] (by kernel_rfl) rfl rfl trivial (fun hHeld=>?_);refine rgp 0 57 ?_;refine rgp 4 61 ?_;refine rgp 8 65 ?_;refine join_ (σ:=Value×ByteArray×Nat×ByteArray) 3 #[true,true,true,true,true,true,true,false,true,false,false] (fun s=>[(58,s.1),(59,.string s.2.1),(60,.slice (some ⟨s.2.2.1,0,none⟩) 7 7),(62,.pointer (some ⟨s.2.2.1,k,none⟩)),(63,.string s.2.2.2)]) (fun s w'=>s.2.1=TT/\s.2.2.2=B63/\Kept (fun _=>False) w w') ?_ ?_;rotate_left
      ·intro hCont;refine two_ (i:=1) (j:=3) (Ni:=some 58) (Nj:=some 60) #[true,true,false,false,true,false,false,false,true,false,false] #[true,false,false,true,true,false,false,false,true,false,false] rfl rfl rfl rfl (by kernel_rfl) (by decide) (by decide) (fun K hK=>?_) (fun K hK=>?_)
       ·skip;refine goes_ func14 (by kernel_rfl) rfl #[.int .i64 x,.int .i64 0] (by rfl) rfl rfl (by simp only[List.map_toArray,List.map_cons,List.map_nil];rfl) ?_;with_reducible refine(aE0 x 0 _ HX.out (by omega)).mono ?_
        rintro e wa ⟨v58,rfl,hv58,hka⟩;have Kwa:=hiD (KwL.out.same hka);refine⟨_,rfl,?_⟩;refine hK.out _ _ trivial (fun hHeld=>?_);clear hK K;refine rgn 58 ?_;refine two_ (i:=2) (j:=3) (Ni:=some 59) (Nj:=some 60) #[true,true,true,false,true,false,false,false,true,false,false] #[true,true,false,true,true,false,false,false,true,false,false] rfl rfl rfl rfl (by kernel_rfl) (by decide) (by decide) (fun K hK=>?_) (fun K hK=>?_)
        ·skip;refine goes_ func35 (by kernel_rfl) rfl #[v58] (by rfl) rfl rfl (by simp only[List.map_toArray,List.map_cons,List.map_nil];rfl) ?_;with_reducible refine(HTX.out _ v58 hv58).mono ?_
         rintro e wb ⟨rfl,hkb⟩;have Kwb:=hiD (Kwa.out.same hkb);refine⟨_,rfl,?_⟩;refine hK.out _ _ trivial (fun hHeld=>?_);clear hK K;refine rgn 59 ?_;refine one_ (i:=3) (N:=some 60) #[true,true,true,true,true,false,false,false,true,false,false] rfl rfl (by kernel_rfl) (by decide) (fun K hK=>?_);refine value_ (w1:=?_) (v:=?_) (by rfl) rfl ?_ ?_;rotate_left 2
         ·go_simp;constructor
          ·rfl
          ·rfl
         have Kwn:=hiD (Kwb.out.alloc (.cells #[.string ⟨#[]⟩,.string ⟨#[75,105]⟩,.string ⟨#[77,105]⟩,.string ⟨#[71,105]⟩,.string ⟨#[84,105]⟩,.string ⟨#[80,105]⟩,.string ⟨#[69,105]⟩] 9));have Gwn:=hiD (aA0 wb (.cells #[.string ⟨#[]⟩,.string ⟨#[75,105]⟩,.string ⟨#[77,105]⟩,.string ⟨#[71,105]⟩,.string ⟨#[84,105]⟩,.string ⟨#[80,105]⟩,.string ⟨#[69,105]⟩] 9));skip;generalize wb.alloc (.cells #[.string ⟨#[]⟩,.string ⟨#[75,105]⟩,.string ⟨#[77,105]⟩,.string ⟨#[71,105]⟩,.string ⟨#[84,105]⟩,.string ⟨#[80,105]⟩,.string ⟨#[69,105]⟩] 9)=wn at *;refine hK.out _ _ trivial (fun hHeld=>?_);clear hK K;refine rgn 60 ?_;refine rgp 5 62 ?_;refine one_ (i:=6) (N:=some 63) #[true,true,true,true,true,true,true,false,true,false,false] rfl rfl (by kernel_rfl) (by decide) (fun K hK=>?_);have hc63:=HCEL.out _ _ Gwn.out;refine value_ (w1:=?_) (v:=?_) (by rfl) rfl ?_ ?_;rotate_left 2
         ·go_simp;constructor
          ·rfl
          ·rfl
         refine hK.out _ _ trivial (fun hHeld=>?_);clear hK K;refine rgn 63 ?_;exact norm_ (by first|(simp only[putAll,Act.put,List.setIfInBounds_toArray,List.set_cons_zero,List.set_cons_succ];done)|(simp only[putAll,Act.put,List.setIfInBounds_toArray,List.set_cons_zero,List.set_cons_succ];rfl)) (hCont (v58,TT,wb.heap.size,B63) _ ⟨rfl,rfl,Kwn.out⟩)
        ·skip;refine value_ (w1:=?_) (v:=?_) (by rfl) rfl ?_ ?_;rotate_left 2
         ·go_simp;constructor
          ·rfl
          ·rfl
         have Kwn:=hiD (Kwa.out.alloc (.cells #[.string ⟨#[]⟩,.string ⟨#[75,105]⟩,.string ⟨#[77,105]⟩,.string ⟨#[71,105]⟩,.string ⟨#[84,105]⟩,.string ⟨#[80,105]⟩,.string ⟨#[69,105]⟩] 9));have Gwn:=hiD (aA0 wa (.cells #[.string ⟨#[]⟩,.string ⟨#[75,105]⟩,.string ⟨#[77,105]⟩,.string ⟨#[71,105]⟩,.string ⟨#[84,105]⟩,.string ⟨#[80,105]⟩,.string ⟨#[69,105]⟩] 9));have hv58n:=hv58.old ((Kept.refl (fun _=>False) wa).alloc (.cells #[.string ⟨#[]⟩,.string ⟨#[75,105]⟩,.string ⟨#[77,105]⟩,.string ⟨#[71,105]⟩,.string ⟨#[84,105]⟩,.string ⟨#[80,105]⟩,.string ⟨#[69,105]⟩] 9));generalize wa.alloc (.cells #[.string ⟨#[]⟩,.string ⟨#[75,105]⟩,.string ⟨#[77,105]⟩,.string ⟨#[71,105]⟩,.string ⟨#[84,105]⟩,.string ⟨#[80,105]⟩,.string ⟨#[69,105]⟩] 9)=wn at *;refine hK.out _ _ trivial (fun hHeld=>?_);clear hK K;refine rgn 60 ?_;refine rgp 5 62 ?_;refine two_ (i:=2) (j:=6) (Ni:=some 59) (Nj:=some 63) #[true,true,true,true,true,true,false,false,true,false,false] #[true,true,false,true,true,true,true,false,true,false,false] rfl rfl rfl rfl (by kernel_rfl) (by decide) (by decide) (fun K hK=>?_) (fun K hK=>?_)
         ·skip;refine goes_ func35 (by kernel_rfl) rfl #[v58] (by rfl) rfl rfl (by simp only[List.map_toArray,List.map_cons,List.map_nil];rfl) ?_;with_reducible refine(HTX.out _ v58 hv58n).mono ?_
          rintro e wb ⟨rfl,hkb⟩;have Kwb:=hiD (Kwn.out.same hkb);have Gwb:=hiD (hkb.at Gwn.out (fun f=>f));refine⟨_,rfl,?_⟩;refine hK.out _ _ trivial (fun hHeld=>?_);clear hK K;refine rgn 59 ?_;refine one_ (i:=6) (N:=some 63) #[true,true,true,true,true,true,true,false,true,false,false] rfl rfl (by kernel_rfl) (by decide) (fun K hK=>?_);have hc63:=HCEL.out _ _ Gwb.out;refine value_ (w1:=?_) (v:=?_) (by rfl) rfl ?_ ?_;rotate_left 2
          ·go_simp;constructor
           ·rfl
           ·rfl
          refine hK.out _ _ trivial (fun hHeld=>?_);clear hK K;refine rgn 63 ?_;exact norm_ (by first|(simp only[putAll,Act.put,List.setIfInBounds_toArray,List.set_cons_zero,List.set_cons_succ];done)|(simp only[putAll,Act.put,List.setIfInBounds_toArray,List.set_cons_zero,List.set_cons_succ];rfl)) (hCont (v58,TT,wa.heap.size,B63) _ ⟨rfl,rfl,Kwb.out⟩)
         ·skip;have hc63:=HCEL.out _ _ Gwn.out;refine value_ (w1:=?_) (v:=?_) (by rfl) rfl ?_ ?_;rotate_left 2
          ·go_simp;constructor
           ·rfl
           ·rfl
          refine hK.out _ _ trivial (fun hHeld=>?_);clear hK K;refine rgn 63 ?_;refine one_ (i:=2) (N:=some 59) #[true,true,true,true,true,true,true,false,true,false,false] rfl rfl (by kernel_rfl) (by decide) (fun K hK=>?_);refine goes_ func35 (by kernel_rfl) rfl #[v58] (by rfl) rfl rfl (by simp only[List.map_toArray,List.map_cons,List.map_nil];rfl) ?_;with_reducible refine(HTX.out _ v58 hv58n).mono ?_
          rintro e wb ⟨rfl,hkb⟩;have Kwb:=hiD (Kwn.out.same hkb);have Gwb:=hiD (hkb.at Gwn.out (fun f=>f));refine⟨_,rfl,?_⟩;refine hK.out _ _ trivial (fun hHeld=>?_);clear hK K;refine rgn 59 ?_;exact norm_ (by first|(simp only[putAll,Act.put,List.setIfInBounds_toArray,List.set_cons_zero,List.set_cons_succ];done)|(simp only[putAll,Act.put,List.setIfInBounds_toArray,List.set_cons_zero,List.set_cons_succ];rfl)) (hCont (v58,TT,wa.heap.size,B63) _ ⟨rfl,rfl,Kwb.out⟩)
       ·skip;refine value_ (w1:=?_) (v:=?_) (by rfl) rfl ?_ ?_;rotate_left 2
        ·go_simp;constructor
         ·rfl
         ·rfl
        have Kwn:=hiD ((KW0.out.alloc (.cells #[.string ⟨#[]⟩,.string ⟨#[75,105]⟩,.string ⟨#[77,105]⟩,.string ⟨#[71,105]⟩,.string ⟨#[84,105]⟩,.string ⟨#[80,105]⟩,.string ⟨#[69,105]⟩] 9)).drew);have Gwn:Hid ((wc.alloc (.cells #[.string ⟨#[]⟩,.string ⟨#[75,105]⟩,.string ⟨#[77,105]⟩,.string ⟨#[71,105]⟩,.string ⟨#[84,105]⟩,.string ⟨#[80,105]⟩,.string ⟨#[69,105]⟩] 9)).drew.heap[wc.heap.size]? = some (.cells #[.string ⟨#[]⟩,.string ⟨#[75,105]⟩,.string ⟨#[77,105]⟩,.string ⟨#[71,105]⟩,.string ⟨#[84,105]⟩,.string ⟨#[80,105]⟩,.string ⟨#[69,105]⟩] 9)):=hiD (aA0 wc (.cells #[.string ⟨#[]⟩,.string ⟨#[75,105]⟩,.string ⟨#[77,105]⟩,.string ⟨#[71,105]⟩,.string ⟨#[84,105]⟩,.string ⟨#[80,105]⟩,.string ⟨#[69,105]⟩] 9));generalize(wc.alloc (.cells #[.string ⟨#[]⟩,.string ⟨#[75,105]⟩,.string ⟨#[77,105]⟩,.string ⟨#[71,105]⟩,.string ⟨#[84,105]⟩,.string ⟨#[80,105]⟩,.string ⟨#[69,105]⟩] 9)).drew=wn at *;refine hK.out _ _ trivial (fun hHeld=>?_);clear hK K;refine rgn 60 ?_;refine rgp 5 62 ?_;refine two_ (i:=1) (j:=6) (Ni:=some 58) (Nj:=some 63) #[true,true,false,true,true,true,false,false,true,false,false] #[true,false,false,true,true,true,true,false,true,false,false] rfl rfl rfl rfl (by kernel_rfl) (by decide) (by decide) (fun K hK=>?_) (fun K hK=>?_)
        ·skip;refine goes_ func14 (by kernel_rfl) rfl #[.int .i64 x,.int .i64 0] (by rfl) rfl rfl (by simp only[List.map_toArray,List.map_cons,List.map_nil];rfl) ?_;with_reducible refine(aE0 x 0 _ HX.out (by omega)).mono ?_
         rintro e wa ⟨v58,rfl,hv58,hka⟩;have Kwa:=hiD (Kwn.out.same hka);have Gwa:=hiD (hka.at Gwn.out (fun f=>f));refine⟨_,rfl,?_⟩;refine hK.out _ _ trivial (fun hHeld=>?_);clear hK K;refine rgn 58 ?_;refine two_ (i:=2) (j:=6) (Ni:=some 59) (Nj:=some 63) #[true,true,true,true,true,true,false,false,true,false,false] #[true,true,false,true,true,true,true,false,true,false,false] rfl rfl rfl rfl (by kernel_rfl) (by decide) (by decide) (fun K hK=>?_) (fun K hK=>?_)
         ·skip;refine goes_ func35 (by kernel_rfl) rfl #[v58] (by rfl) rfl rfl (by simp only[List.map_toArray,List.map_cons,List.map_nil];rfl) ?_;with_reducible refine(HTX.out _ v58 hv58).mono ?_
          rintro e wb ⟨rfl,hkb⟩;have Kwb:=hiD (Kwa.out.same hkb);have Gwb:=hiD (hkb.at Gwa.out (fun f=>f));refine⟨_,rfl,?_⟩;refine hK.out _ _ trivial (fun hHeld=>?_);clear hK K;refine rgn 59 ?_;refine one_ (i:=6) (N:=some 63) #[true,true,true,true,true,true,true,false,true,false,false] rfl rfl (by kernel_rfl) (by decide) (fun K hK=>?_);have hc63:=HCEL.out _ _ Gwb.out;refine value_ (w1:=?_) (v:=?_) (by rfl) rfl ?_ ?_;rotate_left 2
          ·go_simp;constructor
           ·rfl
           ·rfl
          refine hK.out _ _ trivial (fun hHeld=>?_);clear hK K;refine rgn 63 ?_;exact norm_ (by first|(simp only[putAll,Act.put,List.setIfInBounds_toArray,List.set_cons_zero,List.set_cons_succ];done)|(simp only[putAll,Act.put,List.setIfInBounds_toArray,List.set_cons_zero,List.set_cons_succ];rfl)) (hCont (v58,TT,wc.heap.size,B63) _ ⟨rfl,rfl,Kwb.out⟩)
         ·skip;have hc63:=HCEL.out _ _ Gwa.out;refine value_ (w1:=?_) (v:=?_) (by rfl) rfl ?_ ?_;rotate_left 2
          ·go_simp;constructor
           ·rfl
           ·rfl
          refine hK.out _ _ trivial (fun hHeld=>?_);clear hK K;refine rgn 63 ?_;refine one_ (i:=2) (N:=some 59) #[true,true,true,true,true,true,true,false,true,false,false] rfl rfl (by kernel_rfl) (by decide) (fun K hK=>?_);refine goes_ func35 (by kernel_rfl) rfl #[v58] (by rfl) rfl rfl (by simp only[List.map_toArray,List.map_cons,List.map_nil];rfl) ?_;with_reducible refine(HTX.out _ v58 hv58).mono ?_
          rintro e wb ⟨rfl,hkb⟩;have Kwb:=hiD (Kwa.out.same hkb);have Gwb:=hiD (hkb.at Gwa.out (fun f=>f));refine⟨_,rfl,?_⟩;refine hK.out _ _ trivial (fun hHeld=>?_);clear hK K;refine rgn 59 ?_;exact norm_ (by first|(simp only[putAll,Act.put,List.setIfInBounds_toArray,List.set_cons_zero,List.set_cons_succ];done)|(simp only[putAll,Act.put,List.setIfInBounds_toArray,List.set_cons_zero,List.set_cons_succ];rfl)) (hCont (v58,TT,wc.heap.size,B63) _ ⟨rfl,rfl,Kwb.out⟩)
        ·skip;have hc63:=HCEL.out _ _ Gwn.out;refine value_ (w1:=?_) (v:=?_) (by rfl) rfl ?_ ?_;rotate_left 2
         ·go_simp;constructor
          ·rfl
          ·rfl
         refine hK.out _ _ trivial (fun hHeld=>?_);clear hK K;refine rgn 63 ?_;refine one_ (i:=1) (N:=some 58) #[true,true,false,true,true,true,true,false,true,false,false] rfl rfl (by kernel_rfl) (by decide) (fun K hK=>?_);refine goes_ func14 (by kernel_rfl) rfl #[.int .i64 x,.int .i64 0] (by rfl) rfl rfl (by simp only[List.map_toArray,List.map_cons,List.map_nil];rfl) ?_;with_reducible refine(aE0 x 0 _ HX.out (by omega)).mono ?_
         rintro e wa ⟨v58,rfl,hv58,hka⟩;have Kwa:=hiD (Kwn.out.same hka);have Gwa:=hiD (hka.at Gwn.out (fun f=>f));refine⟨_,rfl,?_⟩;refine hK.out _ _ trivial (fun hHeld=>?_);clear hK K;refine rgn 58 ?_;refine one_ (i:=2) (N:=some 59) #[true,true,true,true,true,true,true,false,true,false,false] rfl rfl (by kernel_rfl) (by decide) (fun K hK=>?_);refine goes_ func35 (by kernel_rfl) rfl #[v58] (by rfl) rfl rfl (by simp only[List.map_toArray,List.map_cons,List.map_nil];rfl) ?_;with_reducible refine(HTX.out _ v58 hv58).mono ?_
         rintro e wb ⟨rfl,hkb⟩;have Kwb:=hiD (Kwa.out.same hkb);have Gwb:=hiD (hkb.at Gwa.out (fun f=>f));refine⟨_,rfl,?_⟩;refine hK.out _ _ trivial (fun hHeld=>?_);clear hK K;refine rgn 59 ?_;exact norm_ (by first|(simp only[putAll,Act.put,List.setIfInBounds_toArray,List.set_cons_zero,List.set_cons_succ];done)|(simp only[putAll,Act.put,List.setIfInBounds_toArray,List.set_cons_zero,List.set_cons_succ];rfl)) (hCont (v58,TT,wc.heap.size,B63) _ ⟨rfl,rfl,Kwb.out⟩)
      rintro⟨v58,t59,b60,t63⟩ w5 ⟨e59,e63,hk5⟩;simp only at e59 e63;subst e59 e63;have hHeld:True:=trivial;have K5:=hiD hk5;have fz:¬ (9223372036854775807<t59.size+t63.size):=by omega
      clear hk5;refine norm_ (a':=?_) ?_ ?_;rotate_left
      ·simp only[putAll,Act.put,List.setIfInBounds_toArray,List.set_cons_zero,List.set_cons_succ];rfl
      refine rgp 7 64 ?_;refine rgp 9 4 ?_;refine rgp 10 5 ?_;refine done_ (by kernel_rfl) ?_
      go_wp2_with fail;go_ret2;exact⟨⟨_,_,rfl,HB1.out⟩,K5.out⟩
  ·have q2:(f==1)=false:=beqF hf;have HF:=hiD hf;have HNZ:=hiD hz;clear hf;refine start_ (n:=18) (S:=fun w'=>w'.cell? ⟨w.heap.size,0,none⟩=some (.bool d.neg)/\w'.cell? ⟨w.heap.size,1,none⟩=some (.slice p n c)/\w'.cell? ⟨w.heap.size,2,none⟩=some (.int .i64 d.e)/\w'.cell? ⟨w1.heap.size,0,none⟩=some (.bool false)/\w'.cell? ⟨w1.heap.size,1,none⟩=some (.slice p n c)/\w'.cell? ⟨w1.heap.size,2,none⟩=some (.int .i64 d.e)) (ds:=[]) #[false,false,false,false,false,false,false,false,false,false,false,false,false,false,false,false,false,false] (by kernel_rfl) rfl rfl ⟨c0d,c1d,c2d,g0d,g1d,g2d⟩ (fun hHeld=>?_);refine rgp 0 21 ?_;refine rgp 1 22 ?_;refine rgp 2 23 ?_;refine rgu 3 24 ?_;refine rgu 4 25 ?_;refine rgu 5 26 ?_;refine rgu 6 27 ?_;refine rgu 7 28 ?_;refine rgu 8 29 ?_;refine rgu 9 30 ?_;refine rgu 10 31 ?_;refine rgu 11 32 ?_;refine rgu 12 33 ?_;refine rgu 13 34 ?_;refine rgu 14 35 ?_;refine rgu 15 36 ?_;refine rgu 16 37 ?_;refine rgp 17 38 ?_;refine done_ (by kernel_rfl) ?_
   clear c0d c1d c2d g0d g1d g2d x0 x1 x2 hHeld;obtain⟨y0,y1,y2⟩:=cells3 H1d.out;have fz:=aA1 H1d.out 2;obtain⟨t1,t2⟩:=tdiv3 d.e HEE.out.1 HEE.out.2;have e0:=HEE.out.1;have e1:=HEE.out.2;generalize hT:(d.e+300).tdiv 3=T at *;have v1:wrap64 (T*3)=T*3:=w64 (by omega) (by omega);have v2:wrap64 (T*3-300)=T*3-300:=w64 (by omega) (by omega);have v3:wrap64 (d.e-(T*3-300))=d.e-(T*3-300):=w64 (by omega) (by omega);obtain⟨X,hX⟩:∃ X,d.e-(T*3-300)=X:=⟨_,rfl⟩;rw[hX]at v3;have hXb:-5000<=X/\X<=5000:=by omega
   have hb4:((W2.setCell ⟨w.heap.size,2,none⟩ (.int .i64 X)).drew).heap[w.heap.size]? = some (.cells #[.bool d.neg,.slice p n c,.int .i64 X] 30 (0,0)):=by
    have h0:=aA3 H1d.out 2 (.int .i64 X);exact h0
   have k4:Kept (fun _=>False) w ((W2.setCell ⟨w.heap.size,2,none⟩ (.int .i64 X)).drew):=KD.out.setCell ⟨w.heap.size,2,none⟩ (.int .i64 X) (fun h=>by simp at h);generalize hW3:(W2.setCell ⟨w.heap.size,2,none⟩ (.int .i64 X)).drew=W3 at *;have H4:=hiD hb4;have K4:=hiD k4;have hvx:=HVX.out X _ k4;have HOK4:=hiD (HOK2.out HNZ.out (by simp) HF.out);have HT:=hiD (aJ3 _ ⟨d.neg,d.ds,X⟩ W3 hvx (by show d.ds.length<=_;rw[hn];have:=HL0.out;omega) HDG.out hXb);obtain⟨z0,z1,z2⟩:=cells3 hb4;clear hb4 k4 hvx;go_wp2_with fail;refine HT.out.mono ?_;rintro e w4 ⟨rfl,hk⟩;have hts:(txtD ⟨d.neg,d.ds,X⟩).size<=20000:=aZ9 _ (by show d.ds.length<=_;have:=HL0.out;omega) (by show X<=_;omega);have HFF:Hid (∀ E,T*3-300=E->d.e-E=X -> -3<=E->E<=18->∀ t',t'=txtD ⟨d.neg,d.ds,X⟩++sufX f E->CanP d f t' true):=fun E h1 h2 h3 h4 t' ht=>HOK4.out E h1 h3 h4 t' (by rw[h2];exact ht);generalize txtD ⟨d.neg,d.ds,X⟩=t at *;have K5:=hiD (K4.out.same hk);have HTS:=hiD hts;have f1:¬ (9223372036854775807<t.size+2):=by omega
   have f2:¬ (9223372036854775807<t.size+1):=by omega
   clear fz H4 hk z0 z1 z2 HT y0 y1 y2 H1d H2d hW3 hts;generalize hE:T*3-300=E at *;have HFF2:=hiD (HFF.out E rfl hX);by_cases h18:(18:Int)<E
   ·have q3:decide ((18:Int)<E)=true:=decide_eq_true h18;go_wp2_with fail;go_ret2;exact⟨⟨_,_,rfl,HNO.out _⟩,K5.out⟩
   have q3:decide ((18:Int)<E)=false:=decide_eq_false h18;by_cases h3:E < -3
   ·have q4:decide (E < -3)=true:=decide_eq_true h3;go_wp2_with fail;go_ret2;exact⟨⟨_,_,rfl,HNO.out _⟩,K5.out⟩
   have q4:decide (E < -3)=false:=decide_eq_false h3;have HFIN:Hid (∀ t',t'=t++sufX f E->CanP d f t' true):=fun t' h=>HFF2.out (by omega) (by omega) t' h;have hTT:T=99\/T=100\/T=101\/T=102\/T=103\/T=104\/T=105\/T=106:=by omega
   by_cases hE0:E=0
   ·have q5:(E==0)=true:=beqT hE0;have HSX0:Hid (sufX f E=⟨#[]⟩):=by show sufX f E=_;unfold sufX;rw[if_pos hE0]
    go_wp2_with fail;go_ret2;exact⟨⟨_,_,rfl,HFIN.out _ (by rw[HSX0.out];exact apB _)⟩,K5.out⟩
   have q5:(E==0)=false:=beqF hE0;by_cases hf2:f=2
   ·have q6:(f==2)=true:=beqT hf2;have HF2:=hiD hf2;clear HVX HVA HVD HDG HL0 HLL hXb;have main:∀ j:Nat,j<8->E=(j:Int)*3-3->∀ r,decide (E<0)=r->True:=fun _ _ _ _ _=>trivial
    clear main;rcases hTT with h|h|h|h|h|h|h|h
    ·obtain rfl:E = -3:=by omega
     go_wp2_with fail;go_ret2;exact⟨⟨_,_,rfl,HFIN.out _ (by rw[HF2.out];rfl)⟩,K5.out.alloc _⟩
    ·exact absurd (show E=0 by omega) hE0
    ·obtain rfl:E=3:=by omega
     go_wp2_with fail;go_ret2;exact⟨⟨_,_,rfl,HFIN.out _ (by rw[HF2.out];rfl)⟩,K5.out.alloc _⟩
    ·obtain rfl:E=6:=by omega
     go_wp2_with fail;go_ret2;exact⟨⟨_,_,rfl,HFIN.out _ (by rw[HF2.out];rfl)⟩,K5.out.alloc _⟩
    ·obtain rfl:E=9:=by omega
     go_wp2_with fail;go_ret2;exact⟨⟨_,_,rfl,HFIN.out _ (by rw[HF2.out];rfl)⟩,K5.out.alloc _⟩
    ·obtain rfl:E=12:=by omega
     go_wp2_with fail;go_ret2;exact⟨⟨_,_,rfl,HFIN.out _ (by rw[HF2.out];rfl)⟩,K5.out.alloc _⟩
    ·obtain rfl:E=15:=by omega
     go_wp2_with fail;go_ret2;exact⟨⟨_,_,rfl,HFIN.out _ (by rw[HF2.out];rfl)⟩,K5.out.alloc _⟩
    ·obtain rfl:E=18:=by omega
     go_wp2_with fail;go_ret2;exact⟨⟨_,_,rfl,HFIN.out _ (by rw[HF2.out];rfl)⟩,K5.out.alloc _⟩
   have q6:(f==2)=false:=beqF hf2;have hEb:-3<=E/\E<=18:=by omega
   have HSA:Hid (E<0->sufX f E=⟨#[101,45]⟩++txtI (-E)):=fun h=>by unfold sufX;rw[if_neg hE0,if_neg hf2,if_pos h]
   have HSB:Hid (¬ E<0->sufX f E=⟨#[101]⟩++txtI E):=fun h=>by unfold sufX;rw[if_neg hE0,if_neg hf2,if_neg h]
   have HE1:=hiD hEb;clear hTT hE0 hf2 h18 h3 hE v1 v2 v3 hX hXb t1 t2 hT e0 e1 hEb HVX HVA HVD HDG HL0 HLL;by_cases hEn:E<0
   ·have q7:decide (E<0)=true:=decide_eq_true hEn;have HSX:=hiD (HSA.out hEn);have hts6:(txtI (-E)).size<=20000:=by have hb:=bQ4 (-E) (by have:=HE1.out;omega) (by have:=HE1.out;omega);exact aZ9 _ (by have:=hb.len;omega) (by have:=hb.hi;omega)
    have HT6:Hid (txtD (decL (decide (-E<0)) (dgs (-E).natAbs) 0)=txtI (-E)):=rfl;have HTS6:=hiD hts6;clear hts6;have v4:wrap64 (-E) = -E:=w64 (by have:=HE1.out;omega) (by have:=HE1.out;omega);clear hEn;go_wp2_with fail;refine(aE0 (-E) 0 w4 (by have:=HE1.out;omega) (by omega)).mono ?_;rintro e w5 ⟨v5,rfl,h5,hk5⟩;have hB5:DmB (decL (decide (-E<0)) (dgs (-E).natAbs) 0) 20 (0+(20:Nat)):=by
     have:=HE1.out;exact bQ4 (-E) (by omega) (by omega)
    have HT5:=hiD (aJ3 v5 _ w5 h5 (by have:=hB5.len;omega) hB5.dig (by have:=hB5.lo;have:=hB5.hi;omega));have K6:=hiD (K5.out.same hk5);clear h5 hk5 hB5;go_wp2_with fail;refine HT5.out.mono ?_;rintro e w6 ⟨rfl,hk6⟩;rw[HT6.out];have hts6:=HTS6.out;generalize txtI (-E)=t6 at *;have K7:=hiD (K6.out.same hk6);have f3:¬ (9223372036854775807<t.size+2+t6.size):=by have:=HTS.out;omega
    clear hk6 hts6;go_wp2_with fail;go_ret2;exact⟨⟨_,_,rfl,HFIN.out _ (by rw[HSX.out,ByteArray.append_assoc])⟩,K7.out⟩
   have q7:decide (E<0)=false:=decide_eq_false hEn;have HSX:=hiD (HSB.out hEn);have hts6:(txtI E).size<=20000:=by have hb:=bQ4 E (by have:=HE1.out;omega) (by have:=HE1.out;omega);exact aZ9 _ (by have:=hb.len;omega) (by have:=hb.hi;omega)
   have HT6:Hid (txtD (decL (decide (E<0)) (dgs E.natAbs) 0)=txtI E):=rfl;have HTS6:=hiD hts6;clear hts6;have hEp:0<=E:=by omega
   clear hEn;go_wp2_with fail;refine(aE0 E 0 w4 (by have:=HE1.out;omega) (by omega)).mono ?_;rintro e w5 ⟨v5,rfl,h5,hk5⟩;have hB5:DmB (decL (decide (E<0)) (dgs E.natAbs) 0) 20 (0+(20:Nat)):=by
    have:=HE1.out;exact bQ4 E (by omega) (by omega)
   have HT5:=hiD (aJ3 v5 _ w5 h5 (by have:=hB5.len;omega) hB5.dig (by have:=hB5.lo;have:=hB5.hi;omega));have K6:=hiD (K5.out.same hk5);clear h5 hk5 hB5;go_wp2_with fail;refine HT5.out.mono ?_;rintro e w6 ⟨rfl,hk6⟩;rw[HT6.out];have hts6:=HTS6.out;generalize txtI E=t6 at *;have K7:=hiD (K6.out.same hk6);have f3:¬ (9223372036854775807<t.size+1+t6.size):=by have:=HTS.out;omega
   clear hk6 hts6;go_wp2_with fail;go_ret2;exact⟨⟨_,_,rfl,HFIN.out _ (by rw[HSX.out,ByteArray.append_assoc])⟩,K7.out⟩
end
end Go.Proofs.YtjebnpkebccffaaGreatDoor
