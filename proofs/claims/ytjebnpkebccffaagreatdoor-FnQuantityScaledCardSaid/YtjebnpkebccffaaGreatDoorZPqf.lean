import Derived.Test.YtjebnpkebccffaaGreatDoorZRd
set_option linter.unusedSimpArgs false
set_option linter.unusedVariables false
set_option linter.unusedSectionVars false
set_option maxRecDepth 100000
set_option maxHeartbeats 8000000
namespace Go.Proofs.YtjebnpkebccffaaGreatDoor
open Go.RowKit Go.Proofs.Tryz
structure PIn (s:ByteArray) (neg:Bool) (value num denom suf:ByteArray) (b x:Int) (f:ByteArray):Prop where
 ne:s.size≠0
 n0:(s.toList==[48])=false
 sz:s.size<=1000
 pq:pq s=⟨!neg,value,num,denom,suf,true⟩
 ip:∀ d w,Suffixer w d->Calls prog 331 #[.agg #[.pointer (some ⟨d,0,none⟩)],.string suf] w (aK4 w b x (.string f) true)
 l1:1<=num.size
 l2:num.size+denom.size<=101
 xb:-60<=x/\x<=60
theorem aL6(t:ByteArray)(ht:t.size<=1000)(v:Int)(h:Lib.parseIntB 64 t.data.toList=.ok v)(w:World):Calls prog 51 #[.string t,.int .i64 10,.int .i64 64] w fun e w'=>e=.returned (.tuple #[.int .i64 v,.nilIface])/\Kept (fun _=>False) w w' :=
 (Tryz.strconv_ParseInt_10_at64_ok t (by omega) v h w).mono (fun e w' h=>by
  refine⟨h.1,?_⟩;rcases h.2 with h|⟨x,h⟩
  ·rw[h];exact Kept.refl _ _
  ·rw[h];exact Kept.ofBelow (Lib.bytesWorld_below w 5 x) _)
def PqFast(w:World)(v sc:Int)(f:ByteArray)(e:Ending)(w':World):Prop :=
 (∃ st:ByteArray,e=.returned (.tuple #[.agg #[.int .i64 v,.int .i32 sc,.pointer none,.string st,.string f],.nilIface]))/\Kept (fun _=>False) w w'
theorem aC0{w:World}{q:Nat}{v sc:Int}{st f:ByteArray}{w1:World}(h1:Kept (fun _=>False) w w1)(hq:q=w.heap.size)(h2:w1.heap[q]? = some (.cells zQ 66 (0,0))):
  ∃ W,W=(((((w1.setCell ⟨q,0,none⟩ (.int .i64 v)).setCell ⟨q,1,none⟩ (.int .i32 sc)).setCell ⟨q,2,none⟩ (.pointer none)).setCell ⟨q,3,none⟩ (.string st)).setCell ⟨q,4,none⟩ (.string f))/\W.heap[q]? = some (.cells #[.int .i64 v,.int .i32 sc,.pointer none,.string st,.string f] 66 (0,0))/\Kept (fun _=>False) w W:=by
 have g:=cR9 h2 (.int .i64 v) (.int .i32 sc) (.pointer none) (.string st) (.string f);refine⟨_,rfl,g.1,h1.trans g.2 (fun _ _ f=>f) (fun i hi h=>by omega)⟩
theorem aJ1{w:World}{q:Nat}(h:w.heap[q]? = some (.cells zQ 66 (0,0))):(w.cell? ⟨q,0,none⟩=some (.int .i64 0)/\w.cell? ⟨q,1,none⟩=some (.int .i32 0)/\w.cell? ⟨q,2,none⟩=some (.pointer none)/\w.cell? ⟨q,3,none⟩=some (.string ⟨#[]⟩)/\w.cell? ⟨q,4,none⟩=some (.string ⟨#[]⟩))/\w.frozen? ⟨q,0,none⟩=false/\w.frozen? ⟨q,1,none⟩=false/\w.frozen? ⟨q,2,none⟩=false/\w.frozen? ⟨q,3,none⟩=false/\w.frozen? ⟨q,4,none⟩=false :=
 ⟨aC7 h,aA1 h 0,aA1 h 1,aA1 h 2,aA1 h 3,aA1 h 4⟩
theorem cU0(s:ByteArray)(neg:Bool)(value num denom suf:ByteArray)(x:Int)(M:Nat)(h:PIn s neg value num denom suf 10 x ⟨#[68,101,99,105,109,97,108,83,73]⟩)(hM:Lib.parseIntB 64 (num++denom).data.toList=.ok (M:Int))(hM2:M<1000000000000000000)(hlen:num.size+denom.size<=18)(hs9:-9<=x-(denom.size:Int))(w:World)(ev:Value)(hev0:w.cell? ⟨0,0,none⟩=some ev):Calls prog 27 #[.string s] w (PqFast w (sgZ neg M) (x-(denom.size:Int)) ⟨#[68,101,99,105,109,97,108,83,73]⟩):=by
 have k0:Kept (fun _=>False) w (w.alloc (.cells zQ 66)):=(Kept.refl _ _).alloc _;have h0:=aA0 w (.cells zQ 66);have HB:=hiD h0;have hp:=aG5 s (by have:=h.sz;omega) (w.alloc (.cells zQ 66)) _ (aC9 k0 hev0);rw[h.pq]at hp;have HP:=hiD hp;have K0:=hiD k0;have HIP:=hiD h.ip;have q1:=fun w=>e_nn0 w
 have q2:=fun w=>aL4 w
 have q3:=fun d w=>aS5 d w
 have hz:((s.size:Int)==0)=false:=beqF (by have:=h.ne;omega);have hz2:=h.n0;have HH:=hiD h;have hxb:=h.xb;have hl1:=h.l1;have hl2:=h.l2;have eP:wrap32 (18-wrap32 (wrap64 ((num.size:Int)+(denom.size:Int))))=18-((num.size:Int)+(denom.size:Int)):=by unfold wrap64 wrap32;omega
 have eS:wrap32 (x-wrap32 (denom.size:Int))=x-(denom.size:Int):=by unfold wrap32;omega
 have f1:decide (0<=wrap32 (18-wrap32 (wrap64 ((num.size:Int)+(denom.size:Int)))))=true:=decT (by rw[eP];omega);have f1b:decide (0<=wrap32 (18-wrap32 ((num.size:Int)+(denom.size:Int))))=true:=by
  have e:wrap64 ((num.size:Int)+(denom.size:Int))=(num.size:Int)+(denom.size:Int):=by unfold wrap64;omega
  rw[e]at f1;exact f1
 have f2:decide (-9<=wrap32 (x-wrap32 (denom.size:Int)))=true:=decT (by rw[eS];omega);have hcs:(num++denom).size=num.size+denom.size:=by rw[ByteArray.size_append]
 have HPI:=hiD (fun w=>aL6 (num++denom) (by omega) (M:Int) hM w);have HMU:=hiD (fun w=>aI5 M 1 hM2 (by omega) (by omega) w);have HSU:=hiD (fun w=>Tryz.strings_HasSuffix (num++denom) ⟨#[48,48,48]⟩ w (by omega));have hlz:0<(num++denom).size:=by omega
 have hcat:¬ (9223372036854775807<num.size+denom.size):=by omega
 have ES:=hiD eS;obtain⟨q,hq⟩:∃ q,q=w.heap.size:=⟨_,rfl⟩;rw[<- hq]at HB;have HQ:=hiD hq;clear hp k0 hev0 h0 h hM hlen hs9 hxb hl1 hl2 eP eS hcs;go_enter func27,ntmps27;clear hq;go_wp2_with fail;rw[<- HQ.out];refine HP.out.mono ?_;rintro e w1 ⟨rfl,hk⟩;have K1:=hiD (K0.out.same hk);have B1:=hiD (hk.at HB.out (fun f=>f));clear hk HP HB;simp only[pqV];go_wp2_with fail;refine(aC3 w1).mono ?_;rintro e w2 ⟨dd,rfl,hdd,hsf,hk⟩;have K2:=hiD (K1.out.same hk);have B2:=hiD (hk.at B1.out (fun f=>f));have HC:=hiD (HIP.out dd w2 hsf);clear hk hsf B1 K1;go_wp2_with fail;refine HC.out.mono ?_;rintro e w3 ⟨rfl,hk⟩;have K3:=hiD (K2.out.same hk);have B3:=hiD (hk.at B2.out (fun f=>f));clear hk B2 HC K2 HIP;go_wp2_with fail;refine(HPI.out _).mono ?_;rintro e w4 ⟨rfl,hk⟩;have K4:=hiD (K3.out.same hk);have B4:=hiD (hk.at B3.out (fun f=>f));clear hk B3 K3;go_wp2_with fail;refine(HMU.out _).mono ?_;rintro e w5 ⟨⟨c,k,rfl,hc,hc2⟩,hk⟩;obtain rfl:=hc2 (by omega);obtain⟨rfl,-⟩:=hc rfl;have K5:=hiD (K4.out.same hk);have B5:=hiD (hk.at B4.out (fun f=>f));clear hk B4 K4;clear hc hc2;rw[Nat.mul_one];generalize hS:wrap32 (x-wrap32 (denom.size:Int))=S at f2 ES ⊢;clear hS;obtain⟨⟨c0,c1,c2,c3,c4⟩,z0,z1,z2,z3,z4⟩:=aJ1 B5.out;generalize num++denom=tx at HSU hlz ⊢;cases neg with
 | false =>
  by_cases h3:S.tmod 3=0
  ·have t3:(S.tmod 3==0)=true:=beqT h3;clear h3;go_wp2_with fail;refine(HSU.out _).mono ?_;rintro e w6 ⟨rfl,rfl⟩;generalize Lib.hasSuffix tx.data.toList _=hb;cases hb with
   | false =>
    by_cases h48:tx[0].toNat=48
    ·have g:((tx[0].toNat:Int)==48)=true:=beqT (by omega);clear h48;obtain⟨W,hW,hg1,hg2⟩:=aC0 (v:=(M:Int)) (sc:=S) (st:=⟨#[]⟩) (f:=⟨#[68,101,99,105,109,97,108,83,73]⟩) K5.out HQ.out B5.out;have G1:=hiD hg1;have G2:=hiD hg2;have HW:=hiD hW;clear hW hg1 hg2;go_wp2_with fail;rw[<- HW.out];obtain⟨d0,d1,d2,d3,d4⟩:=aC7 G1.out;refine bodyPost_ret (v:=.tuple #[.agg #[.int .i64 (M:Int),.int .i32 S,.pointer none,.string ⟨#[]⟩,.string ⟨#[68,101,99,105,109,97,108,83,73]⟩],.nilIface]) ?_ rfl ⟨⟨_,by rw[<- ES.out];rfl⟩,G2.out⟩;simp[results,Tryz.f27,loadVar,go_sem,d0,d1,d2,d3,d4]
    ·have g:((tx[0].toNat:Int)==48)=false:=beqF (by omega);clear h48;obtain⟨W,hW,hg1,hg2⟩:=aC0 (v:=(M:Int)) (sc:=S) (st:=s) (f:=⟨#[68,101,99,105,109,97,108,83,73]⟩) K5.out HQ.out B5.out;have G1:=hiD hg1;have G2:=hiD hg2;have HW:=hiD hW;clear hW hg1 hg2;go_wp2_with fail;rw[<- HW.out];obtain⟨d0,d1,d2,d3,d4⟩:=aC7 G1.out;refine bodyPost_ret (v:=.tuple #[.agg #[.int .i64 (M:Int),.int .i32 S,.pointer none,.string s,.string ⟨#[68,101,99,105,109,97,108,83,73]⟩],.nilIface]) ?_ rfl ⟨⟨_,by rw[<- ES.out];rfl⟩,G2.out⟩;simp[results,Tryz.f27,loadVar,go_sem,d0,d1,d2,d3,d4]
   | true =>
    obtain⟨W,hW,hg1,hg2⟩:=aC0 (v:=(M:Int)) (sc:=S) (st:=⟨#[]⟩) (f:=⟨#[68,101,99,105,109,97,108,83,73]⟩) K5.out HQ.out B5.out;have G1:=hiD hg1;have G2:=hiD hg2;have HW:=hiD hW;clear hW hg1 hg2;go_wp2_with fail;rw[<- HW.out];obtain⟨d0,d1,d2,d3,d4⟩:=aC7 G1.out;refine bodyPost_ret (v:=.tuple #[.agg #[.int .i64 (M:Int),.int .i32 S,.pointer none,.string ⟨#[]⟩,.string ⟨#[68,101,99,105,109,97,108,83,73]⟩],.nilIface]) ?_ rfl ⟨⟨_,by rw[<- ES.out];rfl⟩,G2.out⟩;simp[results,Tryz.f27,loadVar,go_sem,d0,d1,d2,d3,d4]
  ·have t3:(S.tmod 3==0)=false:=beqF h3;clear h3;obtain⟨W,hW,hg1,hg2⟩:=aC0 (v:=(M:Int)) (sc:=S) (st:=⟨#[]⟩) (f:=⟨#[68,101,99,105,109,97,108,83,73]⟩) K5.out HQ.out B5.out;have G1:=hiD hg1;have G2:=hiD hg2;have HW:=hiD hW;clear hW hg1 hg2;go_wp2_with fail;rw[<- HW.out];obtain⟨d0,d1,d2,d3,d4⟩:=aC7 G1.out;refine bodyPost_ret (v:=.tuple #[.agg #[.int .i64 (M:Int),.int .i32 S,.pointer none,.string ⟨#[]⟩,.string ⟨#[68,101,99,105,109,97,108,83,73]⟩],.nilIface]) ?_ rfl ⟨⟨_,by rw[<- ES.out];rfl⟩,G2.out⟩;simp[results,Tryz.f27,loadVar,go_sem,d0,d1,d2,d3,d4]
 | true =>
  by_cases h3:S.tmod 3=0
  ·have t3:(S.tmod 3==0)=true:=beqT h3;clear h3;go_wp2_with fail;refine(HSU.out _).mono ?_;rintro e w6 ⟨rfl,rfl⟩;generalize Lib.hasSuffix tx.data.toList _=hb;cases hb with
   | false =>
    by_cases h48:tx[0].toNat=48
    ·have g:((tx[0].toNat:Int)==48)=true:=beqT (by omega);clear h48;obtain⟨W,hW,hg1,hg2⟩:=aC0 (v:=(-(M:Int))) (sc:=S) (st:=⟨#[]⟩) (f:=⟨#[68,101,99,105,109,97,108,83,73]⟩) K5.out HQ.out B5.out;have G1:=hiD hg1;have G2:=hiD hg2;have HW:=hiD hW;clear hW hg1 hg2;go_wp2_with fail;rw[<- HW.out];obtain⟨d0,d1,d2,d3,d4⟩:=aC7 G1.out;refine bodyPost_ret (v:=.tuple #[.agg #[.int .i64 (-(M:Int)),.int .i32 S,.pointer none,.string ⟨#[]⟩,.string ⟨#[68,101,99,105,109,97,108,83,73]⟩],.nilIface]) ?_ rfl ⟨⟨_,by rw[<- ES.out];rfl⟩,G2.out⟩;simp[results,Tryz.f27,loadVar,go_sem,d0,d1,d2,d3,d4]
    ·have g:((tx[0].toNat:Int)==48)=false:=beqF (by omega);clear h48;obtain⟨W,hW,hg1,hg2⟩:=aC0 (v:=(-(M:Int))) (sc:=S) (st:=s) (f:=⟨#[68,101,99,105,109,97,108,83,73]⟩) K5.out HQ.out B5.out;have G1:=hiD hg1;have G2:=hiD hg2;have HW:=hiD hW;clear hW hg1 hg2;go_wp2_with fail;rw[<- HW.out];obtain⟨d0,d1,d2,d3,d4⟩:=aC7 G1.out;refine bodyPost_ret (v:=.tuple #[.agg #[.int .i64 (-(M:Int)),.int .i32 S,.pointer none,.string s,.string ⟨#[68,101,99,105,109,97,108,83,73]⟩],.nilIface]) ?_ rfl ⟨⟨_,by rw[<- ES.out];rfl⟩,G2.out⟩;simp[results,Tryz.f27,loadVar,go_sem,d0,d1,d2,d3,d4]
   | true =>
    obtain⟨W,hW,hg1,hg2⟩:=aC0 (v:=(-(M:Int))) (sc:=S) (st:=⟨#[]⟩) (f:=⟨#[68,101,99,105,109,97,108,83,73]⟩) K5.out HQ.out B5.out;have G1:=hiD hg1;have G2:=hiD hg2;have HW:=hiD hW;clear hW hg1 hg2;go_wp2_with fail;rw[<- HW.out];obtain⟨d0,d1,d2,d3,d4⟩:=aC7 G1.out;refine bodyPost_ret (v:=.tuple #[.agg #[.int .i64 (-(M:Int)),.int .i32 S,.pointer none,.string ⟨#[]⟩,.string ⟨#[68,101,99,105,109,97,108,83,73]⟩],.nilIface]) ?_ rfl ⟨⟨_,by rw[<- ES.out];rfl⟩,G2.out⟩;simp[results,Tryz.f27,loadVar,go_sem,d0,d1,d2,d3,d4]
  ·have t3:(S.tmod 3==0)=false:=beqF h3;clear h3;obtain⟨W,hW,hg1,hg2⟩:=aC0 (v:=(-(M:Int))) (sc:=S) (st:=⟨#[]⟩) (f:=⟨#[68,101,99,105,109,97,108,83,73]⟩) K5.out HQ.out B5.out;have G1:=hiD hg1;have G2:=hiD hg2;have HW:=hiD hW;clear hW hg1 hg2;go_wp2_with fail;rw[<- HW.out];obtain⟨d0,d1,d2,d3,d4⟩:=aC7 G1.out;refine bodyPost_ret (v:=.tuple #[.agg #[.int .i64 (-(M:Int)),.int .i32 S,.pointer none,.string ⟨#[]⟩,.string ⟨#[68,101,99,105,109,97,108,83,73]⟩],.nilIface]) ?_ rfl ⟨⟨_,by rw[<- ES.out];rfl⟩,G2.out⟩;simp[results,Tryz.f27,loadVar,go_sem,d0,d1,d2,d3,d4]
theorem cU1(s:ByteArray)(neg:Bool)(value num denom suf:ByteArray)(x:Int)(M:Nat)(h:PIn s neg value num denom suf 10 x ⟨#[68,101,99,105,109,97,108,69,120,112,111,110,101,110,116]⟩)(hM:Lib.parseIntB 64 (num++denom).data.toList=.ok (M:Int))(hM2:M<1000000000000000000)(hlen:num.size+denom.size<=18)(hs9:-9<=x-(denom.size:Int))(w:World)(ev:Value)(hev0:w.cell? ⟨0,0,none⟩=some ev):Calls prog 27 #[.string s] w (PqFast w (sgZ neg M) (x-(denom.size:Int)) ⟨#[68,101,99,105,109,97,108,69,120,112,111,110,101,110,116]⟩):=by
 have k0:Kept (fun _=>False) w (w.alloc (.cells zQ 66)):=(Kept.refl _ _).alloc _;have h0:=aA0 w (.cells zQ 66);have HB:=hiD h0;have hp:=aG5 s (by have:=h.sz;omega) (w.alloc (.cells zQ 66)) _ (aC9 k0 hev0);rw[h.pq]at hp;have HP:=hiD hp;have K0:=hiD k0;have HIP:=hiD h.ip;have q1:=fun w=>e_nn0 w
 have q2:=fun w=>aL4 w
 have q3:=fun d w=>aS5 d w
 have hz:((s.size:Int)==0)=false:=beqF (by have:=h.ne;omega);have hz2:=h.n0;have HH:=hiD h;have hxb:=h.xb;have hl1:=h.l1;have hl2:=h.l2;have eP:wrap32 (18-wrap32 (wrap64 ((num.size:Int)+(denom.size:Int))))=18-((num.size:Int)+(denom.size:Int)):=by unfold wrap64 wrap32;omega
 have eS:wrap32 (x-wrap32 (denom.size:Int))=x-(denom.size:Int):=by unfold wrap32;omega
 have f1:decide (0<=wrap32 (18-wrap32 (wrap64 ((num.size:Int)+(denom.size:Int)))))=true:=decT (by rw[eP];omega);have f1b:decide (0<=wrap32 (18-wrap32 ((num.size:Int)+(denom.size:Int))))=true:=by
  have e:wrap64 ((num.size:Int)+(denom.size:Int))=(num.size:Int)+(denom.size:Int):=by unfold wrap64;omega
  rw[e]at f1;exact f1
 have f2:decide (-9<=wrap32 (x-wrap32 (denom.size:Int)))=true:=decT (by rw[eS];omega);have hcs:(num++denom).size=num.size+denom.size:=by rw[ByteArray.size_append]
 have HPI:=hiD (fun w=>aL6 (num++denom) (by omega) (M:Int) hM w);have HMU:=hiD (fun w=>aI5 M 1 hM2 (by omega) (by omega) w);have HSU:=hiD (fun w=>Tryz.strings_HasSuffix (num++denom) ⟨#[48,48,48]⟩ w (by omega));have hlz:0<(num++denom).size:=by omega
 have hcat:¬ (9223372036854775807<num.size+denom.size):=by omega
 have ES:=hiD eS;obtain⟨q,hq⟩:∃ q,q=w.heap.size:=⟨_,rfl⟩;rw[<- hq]at HB;have HQ:=hiD hq;clear hp k0 hev0 h0 h hM hlen hs9 hxb hl1 hl2 eP eS hcs;go_enter func27,ntmps27;clear hq;go_wp2_with fail;rw[<- HQ.out];refine HP.out.mono ?_;rintro e w1 ⟨rfl,hk⟩;have K1:=hiD (K0.out.same hk);have B1:=hiD (hk.at HB.out (fun f=>f));clear hk HP HB;simp only[pqV];go_wp2_with fail;refine(aC3 w1).mono ?_;rintro e w2 ⟨dd,rfl,hdd,hsf,hk⟩;have K2:=hiD (K1.out.same hk);have B2:=hiD (hk.at B1.out (fun f=>f));have HC:=hiD (HIP.out dd w2 hsf);clear hk hsf B1 K1;go_wp2_with fail;refine HC.out.mono ?_;rintro e w3 ⟨rfl,hk⟩;have K3:=hiD (K2.out.same hk);have B3:=hiD (hk.at B2.out (fun f=>f));clear hk B2 HC K2 HIP;go_wp2_with fail;refine(HPI.out _).mono ?_;rintro e w4 ⟨rfl,hk⟩;have K4:=hiD (K3.out.same hk);have B4:=hiD (hk.at B3.out (fun f=>f));clear hk B3 K3;go_wp2_with fail;refine(HMU.out _).mono ?_;rintro e w5 ⟨⟨c,k,rfl,hc,hc2⟩,hk⟩;obtain rfl:=hc2 (by omega);obtain⟨rfl,-⟩:=hc rfl;have K5:=hiD (K4.out.same hk);have B5:=hiD (hk.at B4.out (fun f=>f));clear hk B4 K4;clear hc hc2;rw[Nat.mul_one];generalize hS:wrap32 (x-wrap32 (denom.size:Int))=S at f2 ES ⊢;clear hS;obtain⟨⟨c0,c1,c2,c3,c4⟩,z0,z1,z2,z3,z4⟩:=aJ1 B5.out;generalize num++denom=tx at HSU hlz ⊢;cases neg with
 | false =>
  by_cases h3:S.tmod 3=0
  ·have t3:(S.tmod 3==0)=true:=beqT h3;clear h3;go_wp2_with fail;refine(HSU.out _).mono ?_;rintro e w6 ⟨rfl,rfl⟩;generalize Lib.hasSuffix tx.data.toList _=hb;cases hb with
   | false =>
    by_cases h48:tx[0].toNat=48
    ·have g:((tx[0].toNat:Int)==48)=true:=beqT (by omega);clear h48;obtain⟨W,hW,hg1,hg2⟩:=aC0 (v:=(M:Int)) (sc:=S) (st:=⟨#[]⟩) (f:=⟨#[68,101,99,105,109,97,108,69,120,112,111,110,101,110,116]⟩) K5.out HQ.out B5.out;have G1:=hiD hg1;have G2:=hiD hg2;have HW:=hiD hW;clear hW hg1 hg2;go_wp2_with fail;rw[<- HW.out];obtain⟨d0,d1,d2,d3,d4⟩:=aC7 G1.out;refine bodyPost_ret (v:=.tuple #[.agg #[.int .i64 (M:Int),.int .i32 S,.pointer none,.string ⟨#[]⟩,.string ⟨#[68,101,99,105,109,97,108,69,120,112,111,110,101,110,116]⟩],.nilIface]) ?_ rfl ⟨⟨_,by rw[<- ES.out];rfl⟩,G2.out⟩;simp[results,Tryz.f27,loadVar,go_sem,d0,d1,d2,d3,d4]
    ·have g:((tx[0].toNat:Int)==48)=false:=beqF (by omega);clear h48;obtain⟨W,hW,hg1,hg2⟩:=aC0 (v:=(M:Int)) (sc:=S) (st:=s) (f:=⟨#[68,101,99,105,109,97,108,69,120,112,111,110,101,110,116]⟩) K5.out HQ.out B5.out;have G1:=hiD hg1;have G2:=hiD hg2;have HW:=hiD hW;clear hW hg1 hg2;go_wp2_with fail;rw[<- HW.out];obtain⟨d0,d1,d2,d3,d4⟩:=aC7 G1.out;refine bodyPost_ret (v:=.tuple #[.agg #[.int .i64 (M:Int),.int .i32 S,.pointer none,.string s,.string ⟨#[68,101,99,105,109,97,108,69,120,112,111,110,101,110,116]⟩],.nilIface]) ?_ rfl ⟨⟨_,by rw[<- ES.out];rfl⟩,G2.out⟩;simp[results,Tryz.f27,loadVar,go_sem,d0,d1,d2,d3,d4]
   | true =>
    obtain⟨W,hW,hg1,hg2⟩:=aC0 (v:=(M:Int)) (sc:=S) (st:=⟨#[]⟩) (f:=⟨#[68,101,99,105,109,97,108,69,120,112,111,110,101,110,116]⟩) K5.out HQ.out B5.out;have G1:=hiD hg1;have G2:=hiD hg2;have HW:=hiD hW;clear hW hg1 hg2;go_wp2_with fail;rw[<- HW.out];obtain⟨d0,d1,d2,d3,d4⟩:=aC7 G1.out;refine bodyPost_ret (v:=.tuple #[.agg #[.int .i64 (M:Int),.int .i32 S,.pointer none,.string ⟨#[]⟩,.string ⟨#[68,101,99,105,109,97,108,69,120,112,111,110,101,110,116]⟩],.nilIface]) ?_ rfl ⟨⟨_,by rw[<- ES.out];rfl⟩,G2.out⟩;simp[results,Tryz.f27,loadVar,go_sem,d0,d1,d2,d3,d4]
  ·have t3:(S.tmod 3==0)=false:=beqF h3;clear h3;obtain⟨W,hW,hg1,hg2⟩:=aC0 (v:=(M:Int)) (sc:=S) (st:=⟨#[]⟩) (f:=⟨#[68,101,99,105,109,97,108,69,120,112,111,110,101,110,116]⟩) K5.out HQ.out B5.out;have G1:=hiD hg1;have G2:=hiD hg2;have HW:=hiD hW;clear hW hg1 hg2;go_wp2_with fail;rw[<- HW.out];obtain⟨d0,d1,d2,d3,d4⟩:=aC7 G1.out;refine bodyPost_ret (v:=.tuple #[.agg #[.int .i64 (M:Int),.int .i32 S,.pointer none,.string ⟨#[]⟩,.string ⟨#[68,101,99,105,109,97,108,69,120,112,111,110,101,110,116]⟩],.nilIface]) ?_ rfl ⟨⟨_,by rw[<- ES.out];rfl⟩,G2.out⟩;simp[results,Tryz.f27,loadVar,go_sem,d0,d1,d2,d3,d4]
 | true =>
  by_cases h3:S.tmod 3=0
  ·have t3:(S.tmod 3==0)=true:=beqT h3;clear h3;go_wp2_with fail;refine(HSU.out _).mono ?_;rintro e w6 ⟨rfl,rfl⟩;generalize Lib.hasSuffix tx.data.toList _=hb;cases hb with
   | false =>
    by_cases h48:tx[0].toNat=48
    ·have g:((tx[0].toNat:Int)==48)=true:=beqT (by omega);clear h48;obtain⟨W,hW,hg1,hg2⟩:=aC0 (v:=(-(M:Int))) (sc:=S) (st:=⟨#[]⟩) (f:=⟨#[68,101,99,105,109,97,108,69,120,112,111,110,101,110,116]⟩) K5.out HQ.out B5.out;have G1:=hiD hg1;have G2:=hiD hg2;have HW:=hiD hW;clear hW hg1 hg2;go_wp2_with fail;rw[<- HW.out];obtain⟨d0,d1,d2,d3,d4⟩:=aC7 G1.out;refine bodyPost_ret (v:=.tuple #[.agg #[.int .i64 (-(M:Int)),.int .i32 S,.pointer none,.string ⟨#[]⟩,.string ⟨#[68,101,99,105,109,97,108,69,120,112,111,110,101,110,116]⟩],.nilIface]) ?_ rfl ⟨⟨_,by rw[<- ES.out];rfl⟩,G2.out⟩;simp[results,Tryz.f27,loadVar,go_sem,d0,d1,d2,d3,d4]
    ·have g:((tx[0].toNat:Int)==48)=false:=beqF (by omega);clear h48;obtain⟨W,hW,hg1,hg2⟩:=aC0 (v:=(-(M:Int))) (sc:=S) (st:=s) (f:=⟨#[68,101,99,105,109,97,108,69,120,112,111,110,101,110,116]⟩) K5.out HQ.out B5.out;have G1:=hiD hg1;have G2:=hiD hg2;have HW:=hiD hW;clear hW hg1 hg2;go_wp2_with fail;rw[<- HW.out];obtain⟨d0,d1,d2,d3,d4⟩:=aC7 G1.out;refine bodyPost_ret (v:=.tuple #[.agg #[.int .i64 (-(M:Int)),.int .i32 S,.pointer none,.string s,.string ⟨#[68,101,99,105,109,97,108,69,120,112,111,110,101,110,116]⟩],.nilIface]) ?_ rfl ⟨⟨_,by rw[<- ES.out];rfl⟩,G2.out⟩;simp[results,Tryz.f27,loadVar,go_sem,d0,d1,d2,d3,d4]
   | true =>
    obtain⟨W,hW,hg1,hg2⟩:=aC0 (v:=(-(M:Int))) (sc:=S) (st:=⟨#[]⟩) (f:=⟨#[68,101,99,105,109,97,108,69,120,112,111,110,101,110,116]⟩) K5.out HQ.out B5.out;have G1:=hiD hg1;have G2:=hiD hg2;have HW:=hiD hW;clear hW hg1 hg2;go_wp2_with fail;rw[<- HW.out];obtain⟨d0,d1,d2,d3,d4⟩:=aC7 G1.out;refine bodyPost_ret (v:=.tuple #[.agg #[.int .i64 (-(M:Int)),.int .i32 S,.pointer none,.string ⟨#[]⟩,.string ⟨#[68,101,99,105,109,97,108,69,120,112,111,110,101,110,116]⟩],.nilIface]) ?_ rfl ⟨⟨_,by rw[<- ES.out];rfl⟩,G2.out⟩;simp[results,Tryz.f27,loadVar,go_sem,d0,d1,d2,d3,d4]
  ·have t3:(S.tmod 3==0)=false:=beqF h3;clear h3;obtain⟨W,hW,hg1,hg2⟩:=aC0 (v:=(-(M:Int))) (sc:=S) (st:=⟨#[]⟩) (f:=⟨#[68,101,99,105,109,97,108,69,120,112,111,110,101,110,116]⟩) K5.out HQ.out B5.out;have G1:=hiD hg1;have G2:=hiD hg2;have HW:=hiD hW;clear hW hg1 hg2;go_wp2_with fail;rw[<- HW.out];obtain⟨d0,d1,d2,d3,d4⟩:=aC7 G1.out;refine bodyPost_ret (v:=.tuple #[.agg #[.int .i64 (-(M:Int)),.int .i32 S,.pointer none,.string ⟨#[]⟩,.string ⟨#[68,101,99,105,109,97,108,69,120,112,111,110,101,110,116]⟩],.nilIface]) ?_ rfl ⟨⟨_,by rw[<- ES.out];rfl⟩,G2.out⟩;simp[results,Tryz.f27,loadVar,go_sem,d0,d1,d2,d3,d4]
def DecAt(w:World)(p:Nat)(n:Int)(sc:Int)(b:Option Nat):Prop:=IntAt w p n b [.int .i32 sc] 112
def aG3(w:World)(z:Nat)(b:Option Nat)(n:Int)(sc:Int)(e:Ending)(w':World):Prop:=aF5 w z b n [.int .i32 sc] 112 e w'
theorem cG7{w:World}{p:Nat}{n sc:Int}{b:Option Nat}(h:DecAt w p n sc b):w.cell? ⟨p,2,none⟩=some (.int .i32 sc)/\w.frozen? ⟨p,2,none⟩=false:=by
 obtain⟨v,h1,_⟩:=h;exact⟨by rw[aA2 h1];rfl,aA1 h1 2⟩
theorem dP6{w:World}{p:Nat}{n sc sc':Int}{b:Option Nat}(h:DecAt w p n sc b):DecAt (w.setCell ⟨p,2,none⟩ (.int .i32 sc')) p n sc' b:=by
 obtain⟨v,h1,h2,h3⟩:=h;refine⟨v,?_,h2.move (fun k hk=>aA7 (by intro e;subst e;exact h3 hk)),h3⟩;rw[aA3 h1 2];simp
theorem aA4(p:Nat)(n sc:Int)(b:Option Nat)(w:World)(h:DecAt w p n sc b):Calls prog 60 #[.pointer (some ⟨p,0,none⟩)] w fun e w'=>e=.returned (.pointer (some ⟨p,0,none⟩))/\w=w':=by
 obtain⟨v,h1,_⟩:=h;obtain⟨c0,c1,_,_⟩:=aA5 h1;clear h1;go_enter func60,ntmps60;go_wp2_with fail;go_ret;exact⟨rfl,rfl⟩
theorem aB4(p:Nat)(n sc:Int)(b:Option Nat)(w:World)(h:DecAt w p n sc b):Calls prog 56 #[.pointer (some ⟨p,0,none⟩)] w fun e w'=>e=.returned (.int .i32 sc)/\w=w':=by
 obtain⟨c2,f2⟩:=cG7 h;clear h;go_enter func56,ntmps56;go_wp2_with fail;go_ret;exact⟨rfl,rfl⟩
theorem aC6(p:Nat)(n sc sc':Int)(b:Option Nat)(w:World)(h:DecAt w p n sc b):Calls prog 55 #[.pointer (some ⟨p,0,none⟩),.int .i32 sc'] w fun e w'=>e=.returned (.pointer (some ⟨p,0,none⟩))/\DecAt w' p n sc' b/\Kept (fun k=>k=p) w w':=by
 obtain⟨c2,f2⟩:=cG7 h;have H:=hiD h;clear h;go_enter func55,ntmps55;go_wp2_with fail;go_ret;exact⟨rfl,dP6 H.out,(Kept.refl (fun k=>k=p) w).setCell ⟨p,2,none⟩ _ (fun _=>rfl)⟩
theorem aU1(p:Nat)(n sc:Int)(b:Option Nat)(w:World)(h:DecAt w p n sc b):Calls prog 63 #[.pointer (some ⟨p,0,none⟩)] w fun e w'=>e=.returned (.int .i64 (sgn n))/\w=w':=by
 have H:=hiD h;clear h;go_enter func63,ntmps63;go_wp2_with fail;refine(aA4 p n sc b w H.out).mono ?_;rintro e w1 ⟨rfl,rfl⟩;go_wp2_with fail;refine(bE2 p n b _ 112 w H.out).mono ?_;rintro e w1 ⟨rfl,rfl⟩;go_wp2_with fail;go_ret;exact⟨rfl,rfl⟩
def NewD(w:World)(n sc:Int)(e:Ending)(w':World):Prop :=
 ∃ p b,e=.returned (.pointer (some ⟨p,0,none⟩))/\w.heap.size<=p/\DecAt w' p n sc b/\Kept (fun _=>False) w w'/\(∀ k,b=some k->w.heap.size<=k)
def zDec:Obj:=.cells #[.bool false,.slice none 0 0,.int .i32 0] 112
theorem aL7(w:World):DecAt (w.alloc zDec) w.heap.size 0 0 none :=
 ⟨.slice none 0 0,aA0 _ _,⟨rfl,rfl⟩,by simp⟩
theorem bG1(p:Nat)(n m sc:Int)(b:Option Nat)(w:World)(h:DecAt w p n sc b)(hm:m.natAbs<=9223372036854775807):Calls prog 109 #[.pointer (some ⟨p,0,none⟩),.int .i64 m] w (aG3 w p b m sc):=by
 obtain⟨v,h1,h2⟩:=h;obtain⟨c0,c1,_,_⟩:=aA5 h1;have HC:Hid (Calls prog 102 #[.pointer (some ⟨p,0,none⟩),.int .i64 m] w (aF5 w p b m [.int .i32 sc] 112)):=by
  by_cases hlt:m<0
  ·obtain⟨k,rfl⟩:∃ k:Nat,m = -(k:Int):=⟨m.natAbs,by omega⟩;exact aR7 p k n b _ 112 w ⟨v,h1,h2⟩ (by omega) (by omega)
  ·obtain⟨k,rfl⟩:∃ k:Nat,m=(k:Int):=⟨m.natAbs,by omega⟩;exact aG1 p k n b _ 112 w ⟨v,h1,h2⟩ (by omega)
 clear h1 h2;go_enter func109,ntmps109;go_wp2_with fail;refine HC.out.mono ?_;rintro e w1 ⟨rfl,h⟩;have H:=hiD h;clear h;go_wp2_with fail;go_ret;exact⟨rfl,H.out⟩
theorem aI6(n sc:Int)(w:World)(hn:n.natAbs<=9223372036854775807):Calls prog 71 #[.int .i64 n,.int .i32 sc] w (NewD w n sc):=by
 go_enter func71,ntmps71;go_wp2_with fail;refine(bG1 w.heap.size 0 n 0 none (w.alloc zDec) (aL7 w) hn).mono ?_;rintro e w2 ⟨rfl,b',h1,h2,h3⟩;have hk:Kept (fun _=>False) w w2:=((Kept.refl (fun _=>False) w).alloc zDec).trans h2 (fun _ _ f=>f) (fun i hi f=>by
  rcases f with f|f
  ·omega
  ·cases f)
 have hb:∀ k,b'=some k->w.heap.size<=k:=by
  intro k hk';rcases h3 with h3|⟨j,hj,hjs⟩
  ·rw[h3]at hk';cases hk'
  ·rw[hj]at hk';injection hk' with hk';simp at hjs;omega
 have H1:=hiD h1;have HK:=hiD hk;have HB:=hiD hb;clear h1 h2 h3 hk hb;go_wp2_with fail;refine(aC6 w.heap.size n 0 sc b' w2 H1.out).mono ?_;rintro e w3 ⟨rfl,h1,h2⟩;have HF:Hid (NewD w n sc (.returned (.pointer (some ⟨w.heap.size,0,none⟩))) w3):=⟨w.heap.size,b',rfl,Nat.le_refl _,h1,HK.out.trans h2 (fun _ _ f=>f) (fun i hi f=>by omega),HB.out⟩;clear h1 h2;go_wp2_with fail;go_ret;exact HF.out
theorem bN4(a:Addr)(w:World):(binOp .neq 117 (.pointer (some a)) (.pointer (some a))).run prog w=.ok (.bool false) w:=by
 obtain⟨j,hte,hzz⟩:=Option.map_eq_some_iff.1 Tryz.info109;have h:∀ d:Nat,(Op.equalIn (d+1) 117 (.pointer (some a)) (.pointer (some a))).run prog w=.ok true w:=fun d=>by
  simp[Op.equalIn,run_underlying underlying117,sizeOf,typeInfo,hte,run_sameAddr_same]
 simp only[binOp];simp[Op.equal,Op.maxDepth,h 9999]
theorem aN0(z:Nat)(w:World):Calls prog 97 #[.pointer (some ⟨z,0,none⟩),.pointer (some ⟨z,0,none⟩)] w fun e w'=>e=.returned (.pointer (some ⟨z,0,none⟩))/\w=w':=by
 have h:=fun a w=>bN4 a w
 go_enter func97,ntmps97;go_wp2_with fail;go_ret;exact⟨rfl,rfl⟩
theorem aN1(p x:Nat)(np n sc:Int)(bp bx:Option Nat)(rx:List Value)(Tx:TypeId)(w:World)(hp:DecAt w p np sc bp)(hx:IntAt w x n bx rx Tx)(hne:p≠x)(hb:bp≠some x)(hn:Sm n.natAbs):
  Calls prog 61 #[.pointer (some ⟨p,0,none⟩),.pointer (some ⟨x,0,none⟩)] w (aG3 w p bp n sc):=by
 have HC:=hiD (cS4 p x np n bp bx _ rx 112 Tx w hp hx hne hb hn);obtain⟨v,h1,h2⟩:=hp;obtain⟨c0,c1,_,_⟩:=aA5 h1;clear h1 h2 hx;go_enter func61,ntmps61;go_wp2_with fail;refine HC.out.mono ?_;rintro e w1 ⟨rfl,h⟩;have H:=hiD h;clear h;go_wp2_with fail;go_ret;exact⟨rfl,H.out⟩
theorem aF8(p:Nat)(n sc:Int)(b:Option Nat)(w:World)(hp:DecAt w p n sc b):
  Calls prog 61 #[.pointer (some ⟨p,0,none⟩),.pointer (some ⟨p,0,none⟩)] w fun e w'=>e=.returned (.pointer (some ⟨p,0,none⟩))/\w=w':=by
 obtain⟨v,h1,h2⟩:=hp;obtain⟨c0,c1,_,_⟩:=aA5 h1;clear h1 h2;go_enter func61,ntmps61;go_wp2_with fail;refine(aN0 p w).mono ?_;rintro e w1 ⟨rfl,rfl⟩;go_wp2_with fail;go_ret;exact⟨rfl,rfl⟩
theorem aY2(x:Nat)(n sc:Int)(bx:Option Nat)(rx:List Value)(Tx:TypeId)(w:World)(hx:IntAt w x n bx rx Tx)(hn:Sm n.natAbs):Calls prog 186 #[.pointer (some ⟨x,0,none⟩),.int .i32 sc] w (NewD w n sc):=by
 have HX:=hiD hx;have HN:=hiD hn;clear hx hn;go_enter func186,ntmps186;go_wp2_with fail;refine(aN1 w.heap.size x 0 n 0 none bx rx Tx (w.alloc zDec) (aL7 w) (HX.out.old ((Kept.refl _ _).alloc _)) (by have:=HX.out.lt;omega) (by simp) HN.out).mono ?_;rintro e w2 ⟨rfl,b',h1,h2,h3⟩;have hk:Kept (fun _=>False) w w2:=((Kept.refl (fun _=>False) w).alloc zDec).trans h2 (fun _ _ f=>f) (fun i hi f=>by
  rcases f with f|f
  ·omega
  ·cases f)
 have hb:∀ k,b'=some k->w.heap.size<=k:=by
  intro k hk';rcases h3 with h3|⟨j,hj,hjs⟩
  ·rw[h3]at hk';cases hk'
  ·rw[hj]at hk';injection hk' with hk';simp at hjs;omega
 have H1:=hiD h1;have HK:=hiD hk;have HB:=hiD hb;clear h1 h2 h3 hk hb;go_wp2_with fail;refine(aC6 w.heap.size n 0 sc b' w2 H1.out).mono ?_;rintro e w3 ⟨rfl,h1,h2⟩;have HF:Hid (NewD w n sc (.returned (.pointer (some ⟨w.heap.size,0,none⟩))) w3):=⟨w.heap.size,b',rfl,Nat.le_refl _,h1,HK.out.trans h2 (fun _ _ f=>f) (fun i hi f=>by omega),HB.out⟩;clear h1 h2;go_wp2_with fail;go_ret;exact HF.out
theorem aI7(z x y:Nat)(nz n m:Int)(bz bx by_:Option Nat)(rz rx ry:List Value)(Tz Tx Ty:TypeId)(w:World)(hz:IntAt w z nz bz rz Tz)(hx:IntAt w x n bx rx Tx)(hy:IntAt w y m by_ ry Ty)(hxy:x≠y)(hzx:z=x\/(z≠x/\bz≠some x))(hzy:z≠y)(hby:bz≠some y)(hm0:m≠0)(hm:m.natAbs<B64)(hn:Sm n.natAbs):
  Calls prog 62 #[.pointer (some ⟨z,0,none⟩),.pointer (some ⟨x,0,none⟩),.pointer (some ⟨y,0,none⟩)] w (aF5 w z bz (n*m) rz Tz) :=
 bA8 z x y bz (n*m) rz Tz w (bA7 none z x y nz n m bz bx by_ rz rx ry Tz Tx Ty w hz hx hy hxy hzx hzy hby
  (fun W vz vx vy h1 h2 h3=>aX3 none vz vx vy bz bx by_ n.natAbs m.natAbs W h1.buf h2 h3 (by omega) hm hn))
theorem dX0{a b:Nat}(ha:(dig a).length<=50000)(hb:b<B64):Sm (a*b):=by
 refine Sm.of ((dig a).length+1) ?_ (by omega);rw[Nat.pow_succ];exact Nat.mul_lt_mul'' (aD0 a) hb
theorem aU2{k:Nat}(h:k<20):10^k<B64:=by
 have h1:(10:Nat)^k<=10^19:=Nat.pow_le_pow_right (by omega) (by omega);have h2:(10:Nat)^19<B64:=by unfold B64;decide
 omega
theorem aV3(p k M:Nat)(hM:10^k=M)(n sc sc':Int)(b:Option Nat)(w:World)(hp:DecAt w p n sc b)(hk1:1<=k)(hk:k<20)(hsc:sc'-sc=(k:Int))(hb1:-2000000000<=sc)(hb2:sc'<=2000000000)(hn:(dig n.natAbs).length<=50000):
  Calls prog 146 #[.pointer (some ⟨p,0,none⟩),.int .i32 sc'] w (NewD w (n*(M:Int)) sc'):=by
 have hM0:M≠0:=by have:=Nat.pow_pos (n:=k) (show 0<10 by omega);omega
 have hMw:M<B64:=by have:=aU2 hk;omega
 have HM:=hiD hM;clear hM;have HP:=hiD hp;have HN:=hiD hn;have e1:IntKind.i32.wrap (sc'-sc)=(k:Int):=by rw[hsc,IntKind.wrap_i32];omega
 have g1:decide ((k:Int)<0)=false:=decF (by omega);have g2:decide ((0:Int)<(k:Int))=true:=decT (by omega);clear hp hn;go_enter func146,ntmps146;go_wp2_with fail;refine(aB4 p n sc b w HP.out).mono ?_;rintro e w1 ⟨rfl,rfl⟩;rw[hsc]at e1;go_wp2_with fail;refine(aX6 k hk1 (by omega) _).mono ?_;rintro e w2 ⟨y,by_,rfl,hy,ay,ky,qy⟩;rw[HM.out]at ay;have AY:=hiD ay;have KY:=hiD ky;have hpy:p<w.heap.size:=HP.out.lt;have HPY:Hid (p≠y):=by intro e;omega
 have HP2:=hiD (HP.out.old ky);clear ay ky qy hy;go_wp2_with fail;refine(aA4 p n sc b (w2.alloc zInt) (HP2.out.old ((Kept.refl _ _).alloc _))).mono ?_;rintro e w3 ⟨rfl,rfl⟩;go_wp2_with fail;have hz:=aG7 w2;have hyl:=AY.out.lt;refine(aI7 w2.heap.size p y 0 n (M:Int) none b by_ [] _ [] 109 112 109 (w2.alloc zInt) hz (HP2.out.old ((Kept.refl _ _).alloc _)) (AY.out.old ((Kept.refl _ _).alloc _)) HPY.out (Or.inr ⟨by have:=HP2.out.lt;omega,by simp⟩) (by omega) (by simp) (by omega) (by rw[Int.natAbs_natCast];exact hMw) (Nat.le_trans HN.out (by omega))).mono ?_;rintro e w4 h;have hnew:=bC5 (w1:=w2.alloc zInt) (Nat.le_refl _) (KY.out.trans ((Kept.refl (fun _=>False) w2).alloc zInt) (fun _ _ f=>f) (fun _ _ f=>f)) KY.out.size h;obtain⟨z,bz,rfl,hz1,az,kz,qz⟩:=hnew;have AZ:=hiD az;have KZ:=hiD kz;clear h hz az kz qz hz1;go_wp2_with fail;refine(aY2 z (n*(M:Int)) sc' bz [] 109 w4 AZ.out ?_).mono ?_
 ·rw[Int.natAbs_mul,Int.natAbs_natCast];exact dX0 HN.out hMw
 rintro e w5 ⟨q,bq,rfl,hq,aq,kq,qq⟩;have HF:Hid (NewD w (n*(M:Int)) sc' (.returned (.pointer (some ⟨q,0,none⟩))) w5):=⟨q,bq,rfl,by have:=KZ.out.size;omega,aq,KZ.out.trans kq (fun _ _ f=>f) (fun _ _ f=>f),fun k hk=>by have:=KZ.out.size;have:=qq k hk;omega⟩;clear aq kq qq hq;go_wp2_with fail;go_ret;exact HF.out
theorem bT4(p q:Nat)(n m sc:Int)(b c:Option Nat)(w:World)(hp:DecAt w p n sc b)(hq:DecAt w q m sc c):
  Calls prog 108 #[.pointer (some ⟨p,0,none⟩),.pointer (some ⟨q,0,none⟩)] w fun e w'=>e=.returned (.tuple #[.pointer (some ⟨p,0,none⟩),.pointer (some ⟨q,0,none⟩)])/\w=w':=by
 have HP:=hiD hp;have HQ:=hiD hq;clear hp hq;go_enter func108,ntmps108;go_wp2_with fail;refine(aB4 p n sc b w HP.out).mono ?_;rintro e w1 ⟨rfl,rfl⟩;go_wp2_with fail;refine(aB4 q m sc c w HQ.out).mono ?_;rintro e w1 ⟨rfl,rfl⟩;go_wp2_with fail;go_ret2;exact⟨rfl,rfl⟩
theorem cL9(p q k M:Nat)(hM:10^k=M)(n m sc sd:Int)(b c:Option Nat)(w:World)(hp:DecAt w p n sc b)(hq:DecAt w q m sd c)(hk1:1<=k)(hk:k<20)(hsc:sc-sd=(k:Int))(hb1:-2000000000<=sd)(hb2:sc<=2000000000)(hn:(dig m.natAbs).length<=50000):
  Calls prog 108 #[.pointer (some ⟨p,0,none⟩),.pointer (some ⟨q,0,none⟩)] w fun e w'=>∃ r,e=.returned (.tuple #[.pointer (some ⟨p,0,none⟩),.pointer (some ⟨r,0,none⟩)])/\NewD w (m*(M:Int)) sc (.returned (.pointer (some ⟨r,0,none⟩))) w':=by
 have HP:=hiD hp;have HQ:=hiD hq;have HR:=hiD (aV3 q k M hM m sd sc c w hq hk1 hk hsc hb1 hb2 hn);have g1:(sc==sd)=false:=beqF (by omega);have g2:decide (sd<sc)=true:=decT (by omega);clear hp hq hM;go_enter func108,ntmps108;go_wp2_with fail;refine(aB4 p n sc b w HP.out).mono ?_;rintro e w1 ⟨rfl,rfl⟩;go_wp2_with fail;refine(aB4 q m sd c w HQ.out).mono ?_;rintro e w1 ⟨rfl,rfl⟩;go_wp2_with fail;refine(aB4 p n sc b w HP.out).mono ?_;rintro e w1 ⟨rfl,rfl⟩;go_wp2_with fail;refine(aB4 q m sd c w HQ.out).mono ?_;rintro e w1 ⟨rfl,rfl⟩;go_wp2_with fail;refine(aB4 p n sc b w HP.out).mono ?_;rintro e w1 ⟨rfl,rfl⟩;go_wp2_with fail;refine HR.out.mono ?_;intro e w2 h;have h':=h;obtain⟨r,br,rfl,_⟩:=h';have H:=hiD h;clear h;go_wp2_with fail;go_ret2;exact⟨r,rfl,H.out⟩
theorem cM0(p q k M:Nat)(hM:10^k=M)(n m sc sd:Int)(b c:Option Nat)(w:World)(hp:DecAt w p n sc b)(hq:DecAt w q m sd c)(hk1:1<=k)(hk:k<20)(hsc:sd-sc=(k:Int))(hb1:-2000000000<=sc)(hb2:sd<=2000000000)(hn:(dig n.natAbs).length<=50000):
  Calls prog 108 #[.pointer (some ⟨p,0,none⟩),.pointer (some ⟨q,0,none⟩)] w fun e w'=>∃ r,e=.returned (.tuple #[.pointer (some ⟨r,0,none⟩),.pointer (some ⟨q,0,none⟩)])/\NewD w (n*(M:Int)) sd (.returned (.pointer (some ⟨r,0,none⟩))) w':=by
 have HP:=hiD hp;have HQ:=hiD hq;have HR:=hiD (aV3 p k M hM n sc sd b w hp hk1 hk hsc hb1 hb2 hn);have g1:(sc==sd)=false:=beqF (by omega);have g2:decide (sd<sc)=false:=decF (by omega);clear hp hq hM;go_enter func108,ntmps108;go_wp2_with fail;refine(aB4 p n sc b w HP.out).mono ?_;rintro e w1 ⟨rfl,rfl⟩;go_wp2_with fail;refine(aB4 q m sd c w HQ.out).mono ?_;rintro e w1 ⟨rfl,rfl⟩;go_wp2_with fail;refine(aB4 p n sc b w HP.out).mono ?_;rintro e w1 ⟨rfl,rfl⟩;go_wp2_with fail;refine(aB4 q m sd c w HQ.out).mono ?_;rintro e w1 ⟨rfl,rfl⟩;go_wp2_with fail;refine(aB4 q m sd c w HQ.out).mono ?_;rintro e w1 ⟨rfl,rfl⟩;go_wp2_with fail;refine HR.out.mono ?_;intro e w2 h;have h':=h;obtain⟨r,br,rfl,_⟩:=h';have H:=hiD h;clear h;go_wp2_with fail;go_ret2;exact⟨r,rfl,H.out⟩
theorem aE3{S:Nat->Prop}{w w1 w2:World}(h:Kept S w w1)(k:Kept (fun _=>False) w1 w2):Kept S w w2:=h.trans k (fun _ _ h=>h) (fun _ _ f=>f.elim)
def aL8(w:World)(r:Int)(e:Ending)(w':World):Prop:=e=.returned (.int .i64 r)/\Kept (fun _=>False) w w'
def UpRes(w:World)(n' m':Int)(e:Ending)(w':World):Prop :=
 ∃ p' q' b' c' sc,e=.returned (.tuple #[.pointer (some ⟨p',0,none⟩),.pointer (some ⟨q',0,none⟩)])/\p'≠q'/\DecAt w' p' n' sc b'/\DecAt w' q' m' sc c'/\Kept (fun _=>False) w w'
theorem aU3(p q:Nat)(n' m':Int)(w:World)(hu:Calls prog 108 #[.pointer (some ⟨p,0,none⟩),.pointer (some ⟨q,0,none⟩)] w (UpRes w n' m')):
  Calls prog 68 #[.pointer (some ⟨p,0,none⟩),.pointer (some ⟨q,0,none⟩)] w (aL8 w (cmpZ n' m')):=by
 have HU:=hiD hu;clear hu;go_enter func68,ntmps68;go_wp2_with fail;refine HU.out.mono ?_;rintro e w1 ⟨p',q',b',c',sc,rfl,hne,hp,hq,hk⟩;have HP:=hiD hp;have HQ:=hiD hq;have HK:=hiD hk;clear hp hq hk;go_wp2_with fail;refine(aA4 p' n' sc b' w1 HP.out).mono ?_;rintro e w2 ⟨rfl,rfl⟩;go_wp2_with fail;refine(aA4 q' m' sc c' w1 HQ.out).mono ?_;rintro e w2 ⟨rfl,rfl⟩;go_wp2_with fail;refine(aW4 p' q' n' m' b' c' _ _ 112 112 w1 HP.out HQ.out hne).mono ?_;rintro e w2 ⟨rfl,hd⟩;have H:=hiD (aE3 HK.out hd.kept);clear hd;go_wp2_with fail;go_ret;exact⟨rfl,H.out⟩
theorem bT5(p q:Nat)(n m sc:Int)(b c:Option Nat)(w:World)(hne:p≠q)(hp:DecAt w p n sc b)(hq:DecAt w q m sc c):
  Calls prog 68 #[.pointer (some ⟨p,0,none⟩),.pointer (some ⟨q,0,none⟩)] w (aL8 w (cmpZ n m)):=by
 refine aU3 p q n m w ((bT4 p q n m sc b c w hp hq).mono ?_);rintro e w1 ⟨rfl,rfl⟩;exact⟨p,q,b,c,sc,rfl,hne,hp,hq,Kept.refl _ _⟩
theorem bB0(p q k M:Nat)(hM:10^k=M)(n m sc sd:Int)(b c:Option Nat)(w:World)(hp:DecAt w p n sc b)(hq:DecAt w q m sd c)(hk1:1<=k)(hk:k<20)(hsc:sc-sd=(k:Int))(hb1:-2000000000<=sd)(hb2:sc<=2000000000)(hn:(dig m.natAbs).length<=50000):
  Calls prog 68 #[.pointer (some ⟨p,0,none⟩),.pointer (some ⟨q,0,none⟩)] w (aL8 w (cmpZ n (m*(M:Int)))):=by
 refine aU3 p q n _ w ((cL9 p q k M hM n m sc sd b c w hp hq hk1 hk hsc hb1 hb2 hn).mono ?_);rintro e w1 ⟨r,rfl,r',br,he,hr,ar,kr,qr⟩;injection he with he;injection he with he;injection he with he;injection he with he;subst he;exact⟨p,r,b,br,sc,rfl,by have:=IntAt.lt hp;omega,IntAt.old hp kr,ar,kr⟩
theorem cM1(p q k M:Nat)(hM:10^k=M)(n m sc sd:Int)(b c:Option Nat)(w:World)(hp:DecAt w p n sc b)(hq:DecAt w q m sd c)(hk1:1<=k)(hk:k<20)(hsc:sd-sc=(k:Int))(hb1:-2000000000<=sc)(hb2:sd<=2000000000)(hn:(dig n.natAbs).length<=50000):
  Calls prog 68 #[.pointer (some ⟨p,0,none⟩),.pointer (some ⟨q,0,none⟩)] w (aL8 w (cmpZ (n*(M:Int)) m)):=by
 refine aU3 p q _ m w ((cM0 p q k M hM n m sc sd b c w hp hq hk1 hk hsc hb1 hb2 hn).mono ?_);rintro e w1 ⟨r,rfl,r',br,he,hr,ar,kr,qr⟩;injection he with he;injection he with he;injection he with he;injection he with he;subst he;exact⟨r,q,br,c,sd,rfl,by have:=IntAt.lt hq;omega,ar,IntAt.old hq kr,kr⟩
end Go.Proofs.YtjebnpkebccffaaGreatDoor
