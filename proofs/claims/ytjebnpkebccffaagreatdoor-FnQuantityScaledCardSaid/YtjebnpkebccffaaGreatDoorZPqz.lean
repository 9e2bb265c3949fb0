import Derived.Test.YtjebnpkebccffaaGreatDoorZIcm
set_option linter.unusedSimpArgs false
set_option linter.unusedVariables false
set_option linter.unusedSectionVars false
set_option maxRecDepth 100000
set_option maxHeartbeats 8000000
namespace Go.Proofs.YtjebnpkebccffaaGreatDoor
open Go.RowKit Go.Proofs.Tryz
theorem cP0(s:ByteArray)(w:World):(Instr.build 66 #[(3,.string ⟨#[68,101,99,105,109,97,108,83,73]⟩),(2,.string s)]).run prog w=.ok (.agg #[.int .i64 0,.int .i32 0,.pointer none,.string s,.string ⟨#[68,101,99,105,109,97,108,83,73]⟩]) w:=run_build w 66 _ _ (by kernel_rfl)
theorem dU6(s:ByteArray)(hs:(s.toList==[48])=true)(w:World):Calls prog 27 #[.string s] w (PqFast w 0 0 ⟨#[68,101,99,105,109,97,108,83,73]⟩):=by
 have k0:Kept (fun _=>False) w (w.alloc (.cells zQ 66)):=(Kept.refl _ _).alloc _;have h0:=aA0 w (.cells zQ 66);have hz1:s.size=1:=by
  have h1:s.toList=[48]:=by simpa using hs
  rw[ByteArray.toList_eq]at h1;exact aD1 h1
 have hz:((s.size:Int)==0)=false:=beqF (by omega);obtain⟨⟨c0,c1,c2,c3,c4⟩,z0,z1,z2,z3,z4⟩:=aJ1 h0;have q2:=fun w=>cP0 s w
 clear k0 h0;go_enter func27,ntmps27;go_wp2_with fail;have G1:=aA0 w (.cells #[.int .i64 0,.int .i32 0,.pointer none,.string s,.string ⟨#[68,101,99,105,109,97,108,83,73]⟩] 66);have G2:Kept (fun _=>False) w (w.alloc (.cells #[.int .i64 0,.int .i32 0,.pointer none,.string s,.string ⟨#[68,101,99,105,109,97,108,83,73]⟩] 66)):=(Kept.refl _ _).alloc _;obtain⟨d0,d1,d2,d3,d4⟩:=aC7 G1;refine bodyPost_ret (v:=.tuple #[.agg #[.int .i64 0,.int .i32 0,.pointer none,.string s,.string ⟨#[68,101,99,105,109,97,108,83,73]⟩],.nilIface]) ?_ rfl ⟨⟨_,rfl⟩,G2⟩;simp[results,Tryz.f27,loadVar,go_sem,d0,d1,d2,d3,d4]
theorem cD7(s:ByteArray)(neg:Bool)(value num denom suf:ByteArray)(M:Nat)(h:PIn s neg value num denom suf 2 10 ⟨#[66,105,110,97,114,121,83,73]⟩)(hM:Lib.parseIntB 64 (num++denom).data.toList=.ok (M:Int))(hM2:M<100000000000)(hden:denom.size=0)(hlen:num.size<=11)(w:World)(ev:Value)(hev0:w.cell? ⟨0,0,none⟩=some ev):Calls prog 27 #[.string s] w (PqFast w (sgZ neg (M*1024)) 0 ⟨#[66,105,110,97,114,121,83,73]⟩):=by
 have k0:Kept (fun _=>False) w (w.alloc (.cells zQ 66)):=(Kept.refl _ _).alloc _;have h0:=aA0 w (.cells zQ 66);have HB:=hiD h0;have hp:=aG5 s (by have:=h.sz;omega) (w.alloc (.cells zQ 66)) _ (aC9 k0 hev0);rw[h.pq]at hp;have HP:=hiD hp;have K0:=hiD k0;have HIP:=hiD h.ip;have q1:=fun w=>e_nn0 w
 have q2:=fun w=>aL4 w
 have q3:=fun d w=>aS5 d w
 have hz:((s.size:Int)==0)=false:=beqF (by have:=h.ne;omega);have hz2:=h.n0;have HH:=hiD h;have hl1:=h.l1;have eP:wrap32 (wrap32 (wrap32 (15-wrap32 (num.size:Int))-3)-1)=14-3-(num.size:Int):=by unfold wrap32;omega
 have f1:decide (0<=wrap32 (wrap32 (wrap32 (15-wrap32 (num.size:Int))-3)-1))=true:=decT (by rw[eP];omega);have hdz:((denom.size:Int)==0)=true:=beqT (by omega);have hd0:(denom.size==0)=true:=by simpa using hden
 have hd32:wrap32 (denom.size:Int)=0:=by rw[hden];unfold wrap32;rfl
 have hcs:(num++denom).size=num.size+denom.size:=by rw[ByteArray.size_append]
 have HPI:=hiD (fun w=>aL6 (num++denom) (by omega) (M:Int) hM w);have HMU:=hiD (fun w=>aI5 M 1024 (by omega) (by omega) (by omega) w);have hlz:0<(num++denom).size:=by omega
 have hcat:¬ (9223372036854775807<num.size+denom.size):=by omega
 have HM2:=hiD hM2;have v1:∀ w,(convert 21 101 (.int .i32 10)).run prog w=.ok (.float .f32 1092616192) w:=fun w=>by kernel_rfl
 have v2:∀ w,(binOp .mul 101 (.float .f32 1092616192) (.float .f32 1077936128)).run prog w=.ok (.float .f32 1106247680) w:=fun w=>by kernel_rfl
 have v3:∀ w,(binOp .quo 101 (.float .f32 1106247680) (.float .f32 1092616192)).run prog w=.ok (.float .f32 1077936128) w:=fun w=>by kernel_rfl
 have v4:∀ w,(convert 101 21 (.float .f32 1077936128)).run prog w=.ok (.int .i32 3) w:=fun w=>by kernel_rfl
 obtain⟨q,hq⟩:∃ q,q=w.heap.size:=⟨_,rfl⟩;rw[<- hq]at HB;have HQ:=hiD hq;clear hp k0 hev0 h0 h hM hM2 hden hlen hl1 eP hcs;go_enter func27,ntmps27;clear hq;go_wp2_with fail;rw[<- HQ.out];refine HP.out.mono ?_;rintro e w1 ⟨rfl,hk⟩;have K1:=hiD (K0.out.same hk);have B1:=hiD (hk.at HB.out (fun f=>f));clear hk HP HB;simp only[pqV];go_wp2_with fail;refine(aC3 w1).mono ?_;rintro e w2 ⟨dd,rfl,hdd,hsf,hk⟩;have K2:=hiD (K1.out.same hk);have B2:=hiD (hk.at B1.out (fun f=>f));have HC:=hiD (HIP.out dd w2 hsf);clear hk hsf B1 K1;go_wp2_with fail;refine HC.out.mono ?_;rintro e w3 ⟨rfl,hk⟩;have K3:=hiD (K2.out.same hk);have B3:=hiD (hk.at B2.out (fun f=>f));clear hk B2 HC K2 HIP;go_wp2_with fail;refine(HPI.out _).mono ?_;rintro e w4 ⟨rfl,hk⟩;have K4:=hiD (K3.out.same hk);have B4:=hiD (hk.at B3.out (fun f=>f));clear hk B3 K3;go_wp2_with fail;refine(HMU.out _).mono ?_;rintro e w5 ⟨⟨c,k,rfl,hc,hc2⟩,hk⟩;obtain rfl:=hc2 (by have:=HM2.out;omega);obtain⟨rfl,-⟩:=hc rfl;have K5:=hiD (K4.out.same hk);have B5:=hiD (hk.at B4.out (fun f=>f));clear hk B4 K4;clear hc hc2;obtain⟨V,hV⟩:∃ V,V=M*1024:=⟨_,rfl⟩;rw[<- hV];have HVV:=hiD hV;have hVb:V<9223372036854775807:=by rw[hV];have:=HM2.out;omega
 clear hV;obtain⟨⟨c0,c1,c2,c3,c4⟩,z0,z1,z2,z3,z4⟩:=aJ1 B5.out;cases neg with
 | false =>
  by_cases h7:bits BinOp.and IntKind.i64 (M:Int) 7=0
  ·have t7:(bits BinOp.and IntKind.i64 (M:Int) 7==0)=true:=beqT h7;clear h7;obtain⟨W,hW,hg1,hg2⟩:=aC0 (v:=(V:Int)) (sc:=0) (st:=⟨#[]⟩) (f:=⟨#[66,105,110,97,114,121,83,73]⟩) K5.out HQ.out B5.out;have G1:=hiD hg1;have G2:=hiD hg2;have HW:=hiD hW;clear hW hg1 hg2;go_wp2_with fail;rw[<- HW.out];obtain⟨d0,d1,d2,d3,d4⟩:=aC7 G1.out;refine bodyPost_ret (v:=.tuple #[.agg #[.int .i64 (V:Int),.int .i32 0,.pointer none,.string ⟨#[]⟩,.string ⟨#[66,105,110,97,114,121,83,73]⟩],.nilIface]) ?_ rfl ⟨⟨_,by rw[<- HVV.out];rfl⟩,G2.out⟩;simp[results,Tryz.f27,loadVar,go_sem,d0,d1,d2,d3,d4]
  ·have t7:(bits BinOp.and IntKind.i64 (M:Int) 7==0)=false:=beqF h7;clear h7;obtain⟨W,hW,hg1,hg2⟩:=aC0 (v:=(V:Int)) (sc:=0) (st:=s) (f:=⟨#[66,105,110,97,114,121,83,73]⟩) K5.out HQ.out B5.out;have G1:=hiD hg1;have G2:=hiD hg2;have HW:=hiD hW;clear hW hg1 hg2;go_wp2_with fail;rw[<- HW.out];obtain⟨d0,d1,d2,d3,d4⟩:=aC7 G1.out;refine bodyPost_ret (v:=.tuple #[.agg #[.int .i64 (V:Int),.int .i32 0,.pointer none,.string s,.string ⟨#[66,105,110,97,114,121,83,73]⟩],.nilIface]) ?_ rfl ⟨⟨_,by rw[<- HVV.out];rfl⟩,G2.out⟩;simp[results,Tryz.f27,loadVar,go_sem,d0,d1,d2,d3,d4]
 | true =>
  by_cases h7:bits BinOp.and IntKind.i64 (M:Int) 7=0
  ·have t7:(bits BinOp.and IntKind.i64 (M:Int) 7==0)=true:=beqT h7;clear h7;obtain⟨W,hW,hg1,hg2⟩:=aC0 (v:=(-(V:Int))) (sc:=0) (st:=⟨#[]⟩) (f:=⟨#[66,105,110,97,114,121,83,73]⟩) K5.out HQ.out B5.out;have G1:=hiD hg1;have G2:=hiD hg2;have HW:=hiD hW;clear hW hg1 hg2;go_wp2_with fail;rw[<- HW.out];obtain⟨d0,d1,d2,d3,d4⟩:=aC7 G1.out;refine bodyPost_ret (v:=.tuple #[.agg #[.int .i64 (-(V:Int)),.int .i32 0,.pointer none,.string ⟨#[]⟩,.string ⟨#[66,105,110,97,114,121,83,73]⟩],.nilIface]) ?_ rfl ⟨⟨_,by rw[<- HVV.out];rfl⟩,G2.out⟩;simp[results,Tryz.f27,loadVar,go_sem,d0,d1,d2,d3,d4]
  ·have t7:(bits BinOp.and IntKind.i64 (M:Int) 7==0)=false:=beqF h7;clear h7;obtain⟨W,hW,hg1,hg2⟩:=aC0 (v:=(-(V:Int))) (sc:=0) (st:=s) (f:=⟨#[66,105,110,97,114,121,83,73]⟩) K5.out HQ.out B5.out;have G1:=hiD hg1;have G2:=hiD hg2;have HW:=hiD hW;clear hW hg1 hg2;go_wp2_with fail;rw[<- HW.out];obtain⟨d0,d1,d2,d3,d4⟩:=aC7 G1.out;refine bodyPost_ret (v:=.tuple #[.agg #[.int .i64 (-(V:Int)),.int .i32 0,.pointer none,.string s,.string ⟨#[66,105,110,97,114,121,83,73]⟩],.nilIface]) ?_ rfl ⟨⟨_,by rw[<- HVV.out];rfl⟩,G2.out⟩;simp[results,Tryz.f27,loadVar,go_sem,d0,d1,d2,d3,d4]
theorem cD8(s:ByteArray)(neg:Bool)(value num denom suf:ByteArray)(M:Nat)(h:PIn s neg value num denom suf 2 20 ⟨#[66,105,110,97,114,121,83,73]⟩)(hM:Lib.parseIntB 64 (num++denom).data.toList=.ok (M:Int))(hM2:M<100000000)(hden:denom.size=0)(hlen:num.size<=8)(w:World)(ev:Value)(hev0:w.cell? ⟨0,0,none⟩=some ev):Calls prog 27 #[.string s] w (PqFast w (sgZ neg (M*1048576)) 0 ⟨#[66,105,110,97,114,121,83,73]⟩):=by
 have k0:Kept (fun _=>False) w (w.alloc (.cells zQ 66)):=(Kept.refl _ _).alloc _;have h0:=aA0 w (.cells zQ 66);have HB:=hiD h0;have hp:=aG5 s (by have:=h.sz;omega) (w.alloc (.cells zQ 66)) _ (aC9 k0 hev0);rw[h.pq]at hp;have HP:=hiD hp;have K0:=hiD k0;have HIP:=hiD h.ip;have q1:=fun w=>e_nn0 w
 have q2:=fun w=>aL4 w
 have q3:=fun d w=>aS5 d w
 have hz:((s.size:Int)==0)=false:=beqF (by have:=h.ne;omega);have hz2:=h.n0;have HH:=hiD h;have hl1:=h.l1;have eP:wrap32 (wrap32 (wrap32 (15-wrap32 (num.size:Int))-6)-1)=14-6-(num.size:Int):=by unfold wrap32;omega
 have f1:decide (0<=wrap32 (wrap32 (wrap32 (15-wrap32 (num.size:Int))-6)-1))=true:=decT (by rw[eP];omega);have hdz:((denom.size:Int)==0)=true:=beqT (by omega);have hd0:(denom.size==0)=true:=by simpa using hden
 have hd32:wrap32 (denom.size:Int)=0:=by rw[hden];unfold wrap32;rfl
 have hcs:(num++denom).size=num.size+denom.size:=by rw[ByteArray.size_append]
 have HPI:=hiD (fun w=>aL6 (num++denom) (by omega) (M:Int) hM w);have HMU:=hiD (fun w=>aI5 M 1048576 (by omega) (by omega) (by omega) w);have hlz:0<(num++denom).size:=by omega
 have hcat:¬ (9223372036854775807<num.size+denom.size):=by omega
 have HM2:=hiD hM2;have v1:∀ w,(convert 21 101 (.int .i32 20)).run prog w=.ok (.float .f32 1101004800) w:=fun w=>by kernel_rfl
 have v2:∀ w,(binOp .mul 101 (.float .f32 1101004800) (.float .f32 1077936128)).run prog w=.ok (.float .f32 1114636288) w:=fun w=>by kernel_rfl
 have v3:∀ w,(binOp .quo 101 (.float .f32 1114636288) (.float .f32 1092616192)).run prog w=.ok (.float .f32 1086324736) w:=fun w=>by kernel_rfl
 have v4:∀ w,(convert 101 21 (.float .f32 1086324736)).run prog w=.ok (.int .i32 6) w:=fun w=>by kernel_rfl
 obtain⟨q,hq⟩:∃ q,q=w.heap.size:=⟨_,rfl⟩;rw[<- hq]at HB;have HQ:=hiD hq;clear hp k0 hev0 h0 h hM hM2 hden hlen hl1 eP hcs;go_enter func27,ntmps27;clear hq;go_wp2_with fail;rw[<- HQ.out];refine HP.out.mono ?_;rintro e w1 ⟨rfl,hk⟩;have K1:=hiD (K0.out.same hk);have B1:=hiD (hk.at HB.out (fun f=>f));clear hk HP HB;simp only[pqV];go_wp2_with fail;refine(aC3 w1).mono ?_;rintro e w2 ⟨dd,rfl,hdd,hsf,hk⟩;have K2:=hiD (K1.out.same hk);have B2:=hiD (hk.at B1.out (fun f=>f));have HC:=hiD (HIP.out dd w2 hsf);clear hk hsf B1 K1;go_wp2_with fail;refine HC.out.mono ?_;rintro e w3 ⟨rfl,hk⟩;have K3:=hiD (K2.out.same hk);have B3:=hiD (hk.at B2.out (fun f=>f));clear hk B2 HC K2 HIP;go_wp2_with fail;refine(HPI.out _).mono ?_;rintro e w4 ⟨rfl,hk⟩;have K4:=hiD (K3.out.same hk);have B4:=hiD (hk.at B3.out (fun f=>f));clear hk B3 K3;go_wp2_with fail;refine(HMU.out _).mono ?_;rintro e w5 ⟨⟨c,k,rfl,hc,hc2⟩,hk⟩;obtain rfl:=hc2 (by have:=HM2.out;omega);obtain⟨rfl,-⟩:=hc rfl;have K5:=hiD (K4.out.same hk);have B5:=hiD (hk.at B4.out (fun f=>f));clear hk B4 K4;clear hc hc2;obtain⟨V,hV⟩:∃ V,V=M*1048576:=⟨_,rfl⟩;rw[<- hV];have HVV:=hiD hV;have hVb:V<9223372036854775807:=by rw[hV];have:=HM2.out;omega
 clear hV;obtain⟨⟨c0,c1,c2,c3,c4⟩,z0,z1,z2,z3,z4⟩:=aJ1 B5.out;cases neg with
 | false =>
  by_cases h7:bits BinOp.and IntKind.i64 (M:Int) 7=0
  ·have t7:(bits BinOp.and IntKind.i64 (M:Int) 7==0)=true:=beqT h7;clear h7;obtain⟨W,hW,hg1,hg2⟩:=aC0 (v:=(V:Int)) (sc:=0) (st:=⟨#[]⟩) (f:=⟨#[66,105,110,97,114,121,83,73]⟩) K5.out HQ.out B5.out;have G1:=hiD hg1;have G2:=hiD hg2;have HW:=hiD hW;clear hW hg1 hg2;go_wp2_with fail;rw[<- HW.out];obtain⟨d0,d1,d2,d3,d4⟩:=aC7 G1.out;refine bodyPost_ret (v:=.tuple #[.agg #[.int .i64 (V:Int),.int .i32 0,.pointer none,.string ⟨#[]⟩,.string ⟨#[66,105,110,97,114,121,83,73]⟩],.nilIface]) ?_ rfl ⟨⟨_,by rw[<- HVV.out];rfl⟩,G2.out⟩;simp[results,Tryz.f27,loadVar,go_sem,d0,d1,d2,d3,d4]
  ·have t7:(bits BinOp.and IntKind.i64 (M:Int) 7==0)=false:=beqF h7;clear h7;obtain⟨W,hW,hg1,hg2⟩:=aC0 (v:=(V:Int)) (sc:=0) (st:=s) (f:=⟨#[66,105,110,97,114,121,83,73]⟩) K5.out HQ.out B5.out;have G1:=hiD hg1;have G2:=hiD hg2;have HW:=hiD hW;clear hW hg1 hg2;go_wp2_with fail;rw[<- HW.out];obtain⟨d0,d1,d2,d3,d4⟩:=aC7 G1.out;refine bodyPost_ret (v:=.tuple #[.agg #[.int .i64 (V:Int),.int .i32 0,.pointer none,.string s,.string ⟨#[66,105,110,97,114,121,83,73]⟩],.nilIface]) ?_ rfl ⟨⟨_,by rw[<- HVV.out];rfl⟩,G2.out⟩;simp[results,Tryz.f27,loadVar,go_sem,d0,d1,d2,d3,d4]
 | true =>
  by_cases h7:bits BinOp.and IntKind.i64 (M:Int) 7=0
  ·have t7:(bits BinOp.and IntKind.i64 (M:Int) 7==0)=true:=beqT h7;clear h7;obtain⟨W,hW,hg1,hg2⟩:=aC0 (v:=(-(V:Int))) (sc:=0) (st:=⟨#[]⟩) (f:=⟨#[66,105,110,97,114,121,83,73]⟩) K5.out HQ.out B5.out;have G1:=hiD hg1;have G2:=hiD hg2;have HW:=hiD hW;clear hW hg1 hg2;go_wp2_with fail;rw[<- HW.out];obtain⟨d0,d1,d2,d3,d4⟩:=aC7 G1.out;refine bodyPost_ret (v:=.tuple #[.agg #[.int .i64 (-(V:Int)),.int .i32 0,.pointer none,.string ⟨#[]⟩,.string ⟨#[66,105,110,97,114,121,83,73]⟩],.nilIface]) ?_ rfl ⟨⟨_,by rw[<- HVV.out];rfl⟩,G2.out⟩;simp[results,Tryz.f27,loadVar,go_sem,d0,d1,d2,d3,d4]
  ·have t7:(bits BinOp.and IntKind.i64 (M:Int) 7==0)=false:=beqF h7;clear h7;obtain⟨W,hW,hg1,hg2⟩:=aC0 (v:=(-(V:Int))) (sc:=0) (st:=s) (f:=⟨#[66,105,110,97,114,121,83,73]⟩) K5.out HQ.out B5.out;have G1:=hiD hg1;have G2:=hiD hg2;have HW:=hiD hW;clear hW hg1 hg2;go_wp2_with fail;rw[<- HW.out];obtain⟨d0,d1,d2,d3,d4⟩:=aC7 G1.out;refine bodyPost_ret (v:=.tuple #[.agg #[.int .i64 (-(V:Int)),.int .i32 0,.pointer none,.string s,.string ⟨#[66,105,110,97,114,121,83,73]⟩],.nilIface]) ?_ rfl ⟨⟨_,by rw[<- HVV.out];rfl⟩,G2.out⟩;simp[results,Tryz.f27,loadVar,go_sem,d0,d1,d2,d3,d4]
theorem cD9(s:ByteArray)(neg:Bool)(value num denom suf:ByteArray)(M:Nat)(h:PIn s neg value num denom suf 2 30 ⟨#[66,105,110,97,114,121,83,73]⟩)(hM:Lib.parseIntB 64 (num++denom).data.toList=.ok (M:Int))(hM2:M<100000)(hden:denom.size=0)(hlen:num.size<=5)(w:World)(ev:Value)(hev0:w.cell? ⟨0,0,none⟩=some ev):Calls prog 27 #[.string s] w (PqFast w (sgZ neg (M*1073741824)) 0 ⟨#[66,105,110,97,114,121,83,73]⟩):=by
 have k0:Kept (fun _=>False) w (w.alloc (.cells zQ 66)):=(Kept.refl _ _).alloc _;have h0:=aA0 w (.cells zQ 66);have HB:=hiD h0;have hp:=aG5 s (by have:=h.sz;omega) (w.alloc (.cells zQ 66)) _ (aC9 k0 hev0);rw[h.pq]at hp;have HP:=hiD hp;have K0:=hiD k0;have HIP:=hiD h.ip;have q1:=fun w=>e_nn0 w
 have q2:=fun w=>aL4 w
 have q3:=fun d w=>aS5 d w
 have hz:((s.size:Int)==0)=false:=beqF (by have:=h.ne;omega);have hz2:=h.n0;have HH:=hiD h;have hl1:=h.l1;have eP:wrap32 (wrap32 (wrap32 (15-wrap32 (num.size:Int))-9)-1)=14-9-(num.size:Int):=by unfold wrap32;omega
 have f1:decide (0<=wrap32 (wrap32 (wrap32 (15-wrap32 (num.size:Int))-9)-1))=true:=decT (by rw[eP];omega);have hdz:((denom.size:Int)==0)=true:=beqT (by omega);have hd0:(denom.size==0)=true:=by simpa using hden
 have hd32:wrap32 (denom.size:Int)=0:=by rw[hden];unfold wrap32;rfl
 have hcs:(num++denom).size=num.size+denom.size:=by rw[ByteArray.size_append]
 have HPI:=hiD (fun w=>aL6 (num++denom) (by omega) (M:Int) hM w);have HMU:=hiD (fun w=>aI5 M 1073741824 (by omega) (by omega) (by omega) w);have hlz:0<(num++denom).size:=by omega
 have hcat:¬ (9223372036854775807<num.size+denom.size):=by omega
 have HM2:=hiD hM2;have v1:∀ w,(convert 21 101 (.int .i32 30)).run prog w=.ok (.float .f32 1106247680) w:=fun w=>by kernel_rfl
 have v2:∀ w,(binOp .mul 101 (.float .f32 1106247680) (.float .f32 1077936128)).run prog w=.ok (.float .f32 1119092736) w:=fun w=>by kernel_rfl
 have v3:∀ w,(binOp .quo 101 (.float .f32 1119092736) (.float .f32 1092616192)).run prog w=.ok (.float .f32 1091567616) w:=fun w=>by kernel_rfl
 have v4:∀ w,(convert 101 21 (.float .f32 1091567616)).run prog w=.ok (.int .i32 9) w:=fun w=>by kernel_rfl
 obtain⟨q,hq⟩:∃ q,q=w.heap.size:=⟨_,rfl⟩;rw[<- hq]at HB;have HQ:=hiD hq;clear hp k0 hev0 h0 h hM hM2 hden hlen hl1 eP hcs;go_enter func27,ntmps27;clear hq;go_wp2_with fail;rw[<- HQ.out];refine HP.out.mono ?_;rintro e w1 ⟨rfl,hk⟩;have K1:=hiD (K0.out.same hk);have B1:=hiD (hk.at HB.out (fun f=>f));clear hk HP HB;simp only[pqV];go_wp2_with fail;refine(aC3 w1).mono ?_;rintro e w2 ⟨dd,rfl,hdd,hsf,hk⟩;have K2:=hiD (K1.out.same hk);have B2:=hiD (hk.at B1.out (fun f=>f));have HC:=hiD (HIP.out dd w2 hsf);clear hk hsf B1 K1;go_wp2_with fail;refine HC.out.mono ?_;rintro e w3 ⟨rfl,hk⟩;have K3:=hiD (K2.out.same hk);have B3:=hiD (hk.at B2.out (fun f=>f));clear hk B2 HC K2 HIP;go_wp2_with fail;refine(HPI.out _).mono ?_;rintro e w4 ⟨rfl,hk⟩;have K4:=hiD (K3.out.same hk);have B4:=hiD (hk.at B3.out (fun f=>f));clear hk B3 K3;go_wp2_with fail;refine(HMU.out _).mono ?_;rintro e w5 ⟨⟨c,k,rfl,hc,hc2⟩,hk⟩;obtain rfl:=hc2 (by have:=HM2.out;omega);obtain⟨rfl,-⟩:=hc rfl;have K5:=hiD (K4.out.same hk);have B5:=hiD (hk.at B4.out (fun f=>f));clear hk B4 K4;clear hc hc2;obtain⟨V,hV⟩:∃ V,V=M*1073741824:=⟨_,rfl⟩;rw[<- hV];have HVV:=hiD hV;have hVb:V<9223372036854775807:=by rw[hV];have:=HM2.out;omega
 clear hV;obtain⟨⟨c0,c1,c2,c3,c4⟩,z0,z1,z2,z3,z4⟩:=aJ1 B5.out;cases neg with
 | false =>
  by_cases h7:bits BinOp.and IntKind.i64 (M:Int) 7=0
  ·have t7:(bits BinOp.and IntKind.i64 (M:Int) 7==0)=true:=beqT h7;clear h7;obtain⟨W,hW,hg1,hg2⟩:=aC0 (v:=(V:Int)) (sc:=0) (st:=⟨#[]⟩) (f:=⟨#[66,105,110,97,114,121,83,73]⟩) K5.out HQ.out B5.out;have G1:=hiD hg1;have G2:=hiD hg2;have HW:=hiD hW;clear hW hg1 hg2;go_wp2_with fail;rw[<- HW.out];obtain⟨d0,d1,d2,d3,d4⟩:=aC7 G1.out;refine bodyPost_ret (v:=.tuple #[.agg #[.int .i64 (V:Int),.int .i32 0,.pointer none,.string ⟨#[]⟩,.string ⟨#[66,105,110,97,114,121,83,73]⟩],.nilIface]) ?_ rfl ⟨⟨_,by rw[<- HVV.out];rfl⟩,G2.out⟩;simp[results,Tryz.f27,loadVar,go_sem,d0,d1,d2,d3,d4]
  ·have t7:(bits BinOp.and IntKind.i64 (M:Int) 7==0)=false:=beqF h7;clear h7;obtain⟨W,hW,hg1,hg2⟩:=aC0 (v:=(V:Int)) (sc:=0) (st:=s) (f:=⟨#[66,105,110,97,114,121,83,73]⟩) K5.out HQ.out B5.out;have G1:=hiD hg1;have G2:=hiD hg2;have HW:=hiD hW;clear hW hg1 hg2;go_wp2_with fail;rw[<- HW.out];obtain⟨d0,d1,d2,d3,d4⟩:=aC7 G1.out;refine bodyPost_ret (v:=.tuple #[.agg #[.int .i64 (V:Int),.int .i32 0,.pointer none,.string s,.string ⟨#[66,105,110,97,114,121,83,73]⟩],.nilIface]) ?_ rfl ⟨⟨_,by rw[<- HVV.out];rfl⟩,G2.out⟩;simp[results,Tryz.f27,loadVar,go_sem,d0,d1,d2,d3,d4]
 | true =>
  by_cases h7:bits BinOp.and IntKind.i64 (M:Int) 7=0
  ·have t7:(bits BinOp.and IntKind.i64 (M:Int) 7==0)=true:=beqT h7;clear h7;obtain⟨W,hW,hg1,hg2⟩:=aC0 (v:=(-(V:Int))) (sc:=0) (st:=⟨#[]⟩) (f:=⟨#[66,105,110,97,114,121,83,73]⟩) K5.out HQ.out B5.out;have G1:=hiD hg1;have G2:=hiD hg2;have HW:=hiD hW;clear hW hg1 hg2;go_wp2_with fail;rw[<- HW.out];obtain⟨d0,d1,d2,d3,d4⟩:=aC7 G1.out;refine bodyPost_ret (v:=.tuple #[.agg #[.int .i64 (-(V:Int)),.int .i32 0,.pointer none,.string ⟨#[]⟩,.string ⟨#[66,105,110,97,114,121,83,73]⟩],.nilIface]) ?_ rfl ⟨⟨_,by rw[<- HVV.out];rfl⟩,G2.out⟩;simp[results,Tryz.f27,loadVar,go_sem,d0,d1,d2,d3,d4]
  ·have t7:(bits BinOp.and IntKind.i64 (M:Int) 7==0)=false:=beqF h7;clear h7;obtain⟨W,hW,hg1,hg2⟩:=aC0 (v:=(-(V:Int))) (sc:=0) (st:=s) (f:=⟨#[66,105,110,97,114,121,83,73]⟩) K5.out HQ.out B5.out;have G1:=hiD hg1;have G2:=hiD hg2;have HW:=hiD hW;clear hW hg1 hg2;go_wp2_with fail;rw[<- HW.out];obtain⟨d0,d1,d2,d3,d4⟩:=aC7 G1.out;refine bodyPost_ret (v:=.tuple #[.agg #[.int .i64 (-(V:Int)),.int .i32 0,.pointer none,.string s,.string ⟨#[66,105,110,97,114,121,83,73]⟩],.nilIface]) ?_ rfl ⟨⟨_,by rw[<- HVV.out];rfl⟩,G2.out⟩;simp[results,Tryz.f27,loadVar,go_sem,d0,d1,d2,d3,d4]
theorem cE0(s:ByteArray)(neg:Bool)(value num denom suf:ByteArray)(M:Nat)(h:PIn s neg value num denom suf 2 40 ⟨#[66,105,110,97,114,121,83,73]⟩)(hM:Lib.parseIntB 64 (num++denom).data.toList=.ok (M:Int))(hM2:M<100)(hden:denom.size=0)(hlen:num.size<=2)(w:World)(ev:Value)(hev0:w.cell? ⟨0,0,none⟩=some ev):Calls prog 27 #[.string s] w (PqFast w (sgZ neg (M*1099511627776)) 0 ⟨#[66,105,110,97,114,121,83,73]⟩):=by
 have k0:Kept (fun _=>False) w (w.alloc (.cells zQ 66)):=(Kept.refl _ _).alloc _;have h0:=aA0 w (.cells zQ 66);have HB:=hiD h0;have hp:=aG5 s (by have:=h.sz;omega) (w.alloc (.cells zQ 66)) _ (aC9 k0 hev0);rw[h.pq]at hp;have HP:=hiD hp;have K0:=hiD k0;have HIP:=hiD h.ip;have q1:=fun w=>e_nn0 w
 have q2:=fun w=>aL4 w
 have q3:=fun d w=>aS5 d w
 have hz:((s.size:Int)==0)=false:=beqF (by have:=h.ne;omega);have hz2:=h.n0;have HH:=hiD h;have hl1:=h.l1;have eP:wrap32 (wrap32 (wrap32 (15-wrap32 (num.size:Int))-12)-1)=14-12-(num.size:Int):=by unfold wrap32;omega
 have f1:decide (0<=wrap32 (wrap32 (wrap32 (15-wrap32 (num.size:Int))-12)-1))=true:=decT (by rw[eP];omega);have hdz:((denom.size:Int)==0)=true:=beqT (by omega);have hd0:(denom.size==0)=true:=by simpa using hden
 have hd32:wrap32 (denom.size:Int)=0:=by rw[hden];unfold wrap32;rfl
 have hcs:(num++denom).size=num.size+denom.size:=by rw[ByteArray.size_append]
 have HPI:=hiD (fun w=>aL6 (num++denom) (by omega) (M:Int) hM w);have HMU:=hiD (fun w=>aI5 M 1099511627776 (by omega) (by omega) (by omega) w);have hlz:0<(num++denom).size:=by omega
 have hcat:¬ (9223372036854775807<num.size+denom.size):=by omega
 have HM2:=hiD hM2;have v1:∀ w,(convert 21 101 (.int .i32 40)).run prog w=.ok (.float .f32 1109393408) w:=fun w=>by kernel_rfl
 have v2:∀ w,(binOp .mul 101 (.float .f32 1109393408) (.float .f32 1077936128)).run prog w=.ok (.float .f32 1123024896) w:=fun w=>by kernel_rfl
 have v3:∀ w,(binOp .quo 101 (.float .f32 1123024896) (.float .f32 1092616192)).run prog w=.ok (.float .f32 1094713344) w:=fun w=>by kernel_rfl
 have v4:∀ w,(convert 101 21 (.float .f32 1094713344)).run prog w=.ok (.int .i32 12) w:=fun w=>by kernel_rfl
 obtain⟨q,hq⟩:∃ q,q=w.heap.size:=⟨_,rfl⟩;rw[<- hq]at HB;have HQ:=hiD hq;clear hp k0 hev0 h0 h hM hM2 hden hlen hl1 eP hcs;go_enter func27,ntmps27;clear hq;go_wp2_with fail;rw[<- HQ.out];refine HP.out.mono ?_;rintro e w1 ⟨rfl,hk⟩;have K1:=hiD (K0.out.same hk);have B1:=hiD (hk.at HB.out (fun f=>f));clear hk HP HB;simp only[pqV];go_wp2_with fail;refine(aC3 w1).mono ?_;rintro e w2 ⟨dd,rfl,hdd,hsf,hk⟩;have K2:=hiD (K1.out.same hk);have B2:=hiD (hk.at B1.out (fun f=>f));have HC:=hiD (HIP.out dd w2 hsf);clear hk hsf B1 K1;go_wp2_with fail;refine HC.out.mono ?_;rintro e w3 ⟨rfl,hk⟩;have K3:=hiD (K2.out.same hk);have B3:=hiD (hk.at B2.out (fun f=>f));clear hk B2 HC K2 HIP;go_wp2_with fail;refine(HPI.out _).mono ?_;rintro e w4 ⟨rfl,hk⟩;have K4:=hiD (K3.out.same hk);have B4:=hiD (hk.at B3.out (fun f=>f));clear hk B3 K3;go_wp2_with fail;refine(HMU.out _).mono ?_;rintro e w5 ⟨⟨c,k,rfl,hc,hc2⟩,hk⟩;obtain rfl:=hc2 (by have:=HM2.out;omega);obtain⟨rfl,-⟩:=hc rfl;have K5:=hiD (K4.out.same hk);have B5:=hiD (hk.at B4.out (fun f=>f));clear hk B4 K4;clear hc hc2;obtain⟨V,hV⟩:∃ V,V=M*1099511627776:=⟨_,rfl⟩;rw[<- hV];have HVV:=hiD hV;have hVb:V<9223372036854775807:=by rw[hV];have:=HM2.out;omega
 clear hV;obtain⟨⟨c0,c1,c2,c3,c4⟩,z0,z1,z2,z3,z4⟩:=aJ1 B5.out;cases neg with
 | false =>
  by_cases h7:bits BinOp.and IntKind.i64 (M:Int) 7=0
  ·have t7:(bits BinOp.and IntKind.i64 (M:Int) 7==0)=true:=beqT h7;clear h7;obtain⟨W,hW,hg1,hg2⟩:=aC0 (v:=(V:Int)) (sc:=0) (st:=⟨#[]⟩) (f:=⟨#[66,105,110,97,114,121,83,73]⟩) K5.out HQ.out B5.out;have G1:=hiD hg1;have G2:=hiD hg2;have HW:=hiD hW;clear hW hg1 hg2;go_wp2_with fail;rw[<- HW.out];obtain⟨d0,d1,d2,d3,d4⟩:=aC7 G1.out;refine bodyPost_ret (v:=.tuple #[.agg #[.int .i64 (V:Int),.int .i32 0,.pointer none,.string ⟨#[]⟩,.string ⟨#[66,105,110,97,114,121,83,73]⟩],.nilIface]) ?_ rfl ⟨⟨_,by rw[<- HVV.out];rfl⟩,G2.out⟩;simp[results,Tryz.f27,loadVar,go_sem,d0,d1,d2,d3,d4]
  ·have t7:(bits BinOp.and IntKind.i64 (M:Int) 7==0)=false:=beqF h7;clear h7;obtain⟨W,hW,hg1,hg2⟩:=aC0 (v:=(V:Int)) (sc:=0) (st:=s) (f:=⟨#[66,105,110,97,114,121,83,73]⟩) K5.out HQ.out B5.out;have G1:=hiD hg1;have G2:=hiD hg2;have HW:=hiD hW;clear hW hg1 hg2;go_wp2_with fail;rw[<- HW.out];obtain⟨d0,d1,d2,d3,d4⟩:=aC7 G1.out;refine bodyPost_ret (v:=.tuple #[.agg #[.int .i64 (V:Int),.int .i32 0,.pointer none,.string s,.string ⟨#[66,105,110,97,114,121,83,73]⟩],.nilIface]) ?_ rfl ⟨⟨_,by rw[<- HVV.out];rfl⟩,G2.out⟩;simp[results,Tryz.f27,loadVar,go_sem,d0,d1,d2,d3,d4]
 | true =>
  by_cases h7:bits BinOp.and IntKind.i64 (M:Int) 7=0
  ·have t7:(bits BinOp.and IntKind.i64 (M:Int) 7==0)=true:=beqT h7;clear h7;obtain⟨W,hW,hg1,hg2⟩:=aC0 (v:=(-(V:Int))) (sc:=0) (st:=⟨#[]⟩) (f:=⟨#[66,105,110,97,114,121,83,73]⟩) K5.out HQ.out B5.out;have G1:=hiD hg1;have G2:=hiD hg2;have HW:=hiD hW;clear hW hg1 hg2;go_wp2_with fail;rw[<- HW.out];obtain⟨d0,d1,d2,d3,d4⟩:=aC7 G1.out;refine bodyPost_ret (v:=.tuple #[.agg #[.int .i64 (-(V:Int)),.int .i32 0,.pointer none,.string ⟨#[]⟩,.string ⟨#[66,105,110,97,114,121,83,73]⟩],.nilIface]) ?_ rfl ⟨⟨_,by rw[<- HVV.out];rfl⟩,G2.out⟩;simp[results,Tryz.f27,loadVar,go_sem,d0,d1,d2,d3,d4]
  ·have t7:(bits BinOp.and IntKind.i64 (M:Int) 7==0)=false:=beqF h7;clear h7;obtain⟨W,hW,hg1,hg2⟩:=aC0 (v:=(-(V:Int))) (sc:=0) (st:=s) (f:=⟨#[66,105,110,97,114,121,83,73]⟩) K5.out HQ.out B5.out;have G1:=hiD hg1;have G2:=hiD hg2;have HW:=hiD hW;clear hW hg1 hg2;go_wp2_with fail;rw[<- HW.out];obtain⟨d0,d1,d2,d3,d4⟩:=aC7 G1.out;refine bodyPost_ret (v:=.tuple #[.agg #[.int .i64 (-(V:Int)),.int .i32 0,.pointer none,.string s,.string ⟨#[66,105,110,97,114,121,83,73]⟩],.nilIface]) ?_ rfl ⟨⟨_,by rw[<- HVV.out];rfl⟩,G2.out⟩;simp[results,Tryz.f27,loadVar,go_sem,d0,d1,d2,d3,d4]
theorem cZ3(s:ByteArray)(neg:Bool)(value num denom suf:ByteArray)(x U:Int)(Q:Nat)(h:PIn s neg value num denom suf 10 x ⟨#[68,101,99,105,109,97,108,83,73]⟩)(hslow:18<num.size+denom.size\/x-(denom.size:Int) < -9)(hval:PVal value neg U denom.size)(hl:(dig U.natAbs).length<=900)(hQ:Sm Q)(hr:U≠0->R9 U.natAbs ((denom.size:Int)-x) Q)(n9 s9:Int)(hn9:PqNum U ((denom.size:Int)-x) Q n9 s9)(w:World)(ev:Value)(a:Addr)(hev0:w.cell? ⟨0,0,none⟩=some ev)(heof:Eof w a)(ht:Thr w):Calls prog 27 #[.string s] w (PqSlow w n9 s9 ⟨#[68,101,99,105,109,97,108,83,73]⟩):=by
 have k0:Kept (fun _=>False) w (w.alloc (.cells zQ 66)):=(Kept.refl _ _).alloc _;have h0:=aA0 w (.cells zQ 66);have HB:=hiD h0;have hp:=aG5 s (by have:=h.sz;omega) (w.alloc (.cells zQ 66)) _ (aC9 k0 hev0);rw[h.pq]at hp;have HP:=hiD hp;have K0:=hiD k0;have HIP:=hiD h.ip;have q1:=fun w=>e_nn0 w
 have q2:=fun w=>aL4 w
 have q3:=fun d w=>aS5 d w
 have hz:((s.size:Int)==0)=false:=beqF (by have:=h.ne;omega);have hz2:=h.n0;have HH:=hiD h;have hxb:=h.xb;have hl1:=h.l1;have hl2:=h.l2;have eP:wrap32 (18-wrap32 (wrap64 ((num.size:Int)+(denom.size:Int))))=18-((num.size:Int)+(denom.size:Int)):=by unfold wrap64 wrap32;omega
 have eS:wrap32 (x-wrap32 (denom.size:Int))=x-(denom.size:Int):=by unfold wrap32;omega
 have HE:=hiD heof;have HT:=hiD ht;have HV:=hiD hval;have HSL:=hiD (And.intro eP (And.intro eS hslow));have HR:=hiD (And.intro hl (And.intro hQ (And.intro hr hn9)));have HXB:=hiD (And.intro hxb (And.intro hl1 hl2));obtain⟨q,hq⟩:∃ q,q=w.heap.size:=⟨_,rfl⟩;rw[<- hq]at HB;have HQ:=hiD hq;clear hp k0 hev0 h0 h hl hQ hr hn9 hslow hval heof ht hxb hl1 hl2 eP eS;go_enter func27,ntmps27;clear hq;go_wp2_with fail;rw[<- HQ.out];refine HP.out.mono ?_;rintro e w1 ⟨rfl,hk⟩;have K1:=hiD (K0.out.same hk);have B1:=hiD (hk.at HB.out (fun f=>f));clear hk HP HB;simp only[pqV];go_wp2_with fail;refine(aC3 w1).mono ?_;rintro e w2 ⟨dd,rfl,hdd,hsf,hk⟩;have K2:=hiD (K1.out.same hk);have B2:=hiD (hk.at B1.out (fun f=>f));have HC:=hiD (HIP.out dd w2 hsf);clear hk hsf B1 K1;go_wp2_with fail;refine HC.out.mono ?_;rintro e w3 ⟨rfl,hk⟩;have K3:=hiD (K2.out.same hk);have B3:=hiD (hk.at B2.out (fun f=>f));clear hk B2 HC K2 HIP
 go_upto_if 102 with fail
 have HW3:Hid (Kept (fun _=>False) w w3/\w3.heap[q]? = some (.cells zQ 66 (0,0))):=⟨K3.out,B3.out⟩
 go_cut []from 30 (fun wx=>wx=w3)
 case first=>as_aux_lemma =>
  obtain⟨eP,eS,hsl⟩:=HSL.out;obtain⟨hxb,hl1,hl2⟩:=HXB.out;by_cases hp:18<num.size+denom.size
  ·have f1:decide (0<=wrap32 (18-wrap32 (wrap64 ((num.size:Int)+(denom.size:Int)))))=false:=decF (by rw[eP];omega);clear eP eS hsl hxb hl1 hl2 hp;rw[f1];clear f1;go_wp2_with fail;go_meet
   case rel=>rfl
  ·have f1:decide (0<=wrap32 (18-wrap32 (wrap64 ((num.size:Int)+(denom.size:Int)))))=true:=decT (by rw[eP];omega);have f1b:decide (0<=wrap32 (18-wrap32 ((num.size:Int)+(denom.size:Int))))=true:=by
    have e:wrap64 ((num.size:Int)+(denom.size:Int))=(num.size:Int)+(denom.size:Int):=by unfold wrap64;omega
    rw[e]at f1;exact f1
   have f2:decide (-9<=wrap32 (x-wrap32 (denom.size:Int)))=false:=decF (by rw[eS];omega);have f2c:(-9<=wrap32 (x-wrap32 (denom.size:Int)))=False:=eq_false (by rw[eS];omega);have hcat:¬ (9223372036854775807<num.size+denom.size):=by omega
   clear eP eS hsl hxb hl1 hl2 hp;rw[f1];clear f1 f1b;go_wp2_with fail;go_meet
   case rel=>rfl
 case rest =>
  obtain rfl:=hcut;clear K3 B3 HSL;obtain⟨pt,o,g,hsp,hcn,hU,hdd⟩:=HV.out.ex;have k4:Kept (fun _=>False) w (wc.alloc zDec):=HW3.out.1.alloc _;have b4:=((Kept.refl (fun _=>False) wc).alloc zDec).at HW3.out.2 (fun f=>f);have hqw:=aB5 HW3.out.2;have Z4:=aL7 wc;have HSS:=hiD (aH3 wc.heap.size pt 0 0 none value g a (wc.alloc zDec) Z4 o neg hcn HV.out.sz (HE.out.kept k4 (fun f=>f)) hsp (by simp) U hU (denom.size:Int) hdd);have H4:Hid (Own9 w wc.heap.size q none 0 0 (wc.alloc zDec)):=⟨Z4,k4,b4,hqw,by simp⟩;clear hsp hcn hU hdd k4 b4 hqw Z4 HV;simp only[zDec]at HSS H4;go_wp2_with fail;generalize hd:wc.heap.size=d at HSS H4 ⊢;generalize hw4:wc.alloc (.cells #[.bool false,.slice none 0 0,.int .i32 0] 112)=w4 at HSS H4 ⊢;clear hd hw4;refine HSS.out.mono ?_;rintro e w5 ⟨rfl,b5,hd5,ho5,hk5⟩;have H5:=hiD (H4.out.set HQ.out.symm hd5 hk5 ho5);clear hd5 ho5 hk5 H4 HSS;go_wp2_with fail;refine(aB4 d U (denom.size:Int) b5 w5 H5.out.at').mono ?_;rintro e w6 ⟨rfl,rfl⟩;go_wp2_with fail;refine(aC8 x w5 (by have:=HXB.out.1;omega)).mono ?_;rintro e w6 ⟨rfl,rfl⟩;have esc:wrap32 ((denom.size:Int) + -x)=(denom.size:Int)-x:=by have:=HXB.out;unfold wrap32;omega
  obtain⟨sc,hsc⟩:∃ sc,sc=(denom.size:Int)-x:=⟨_,rfl⟩;have hscb:-1000<=sc/\sc<=1000:=by have:=HXB.out;omega
  have HSC:=hiD (show sc=(denom.size:Int)-x /\ -1000<=sc/\sc<=1000 from⟨hsc,hscb⟩);rw[<- hsc]at esc;have HR2:=HR;rw[<- hsc]at HR2;clear hsc hscb HR;go_wp2_with fail;rw[esc];clear esc;refine(aC6 d U (denom.size:Int) sc b5 w5 H5.out.at').mono ?_;rintro e w6 ⟨rfl,h1,h2⟩;have H6:=hiD (H5.out.set1 HQ.out.symm h1 h2);clear h1 h2 H5;go_wp2_with fail;refine(aU1 d U sc b5 w6 H6.out.at').mono ?_;rintro e w7 ⟨rfl,rfl⟩
  go_upto_if 212 with fail
  obtain⟨A,hA⟩:∃ A:Nat,A=U.natAbs:=⟨_,rfl⟩;have HA:=hiD hA
  go_cut []from 30 (fun wx=>Hid (Own9 w d q b5 (A:Int) sc wx))
  case first=>as_aux_lemma =>
   rcases Int.lt_or_le U 0 with hU|hU
   ·have hs:=bD0 hU;rw[hs];clear hs;go_wp2_with fail;refine(aF6 d U sc b5 w6 H6.out.at').mono ?_;rintro e w7 ⟨rfl,h1,h2⟩;have H7:=hiD (H6.out.set1 HQ.out.symm h1 h2);rw[show -U=(A:Int)by omega]at H7;clear h1 h2 hA hU;go_wp2_with fail;go_meet
    case rel=>exact H7
   ·have hs:=bD1 hU;rw[hs];have H7:=H6;rw[show U=(A:Int)by omega]at H7;clear hs hA hU;go_wp2_with fail;go_meet
    case rel=>exact H7
  case rest =>
   have H8:=hcut;clear hcut;clear H6;go_step;go_step;obtain⟨A9,S9,h9a,h9b⟩:∃(A9:Nat) (S9:Int),(A=0->A9=0/\S9=sc)/\(A≠0->A9=Q/\S9=9):=by
    by_cases h:A=0
    ·exact⟨0,sc,fun _=>⟨rfl,rfl⟩,fun h'=>absurd h h'⟩
    ·exact⟨Q,9,fun h'=>absurd h' h,fun _=>⟨rfl,rfl⟩⟩
   have H9A:=hiD (And.intro h9a h9b);clear h9a h9b
   go_cut []from 30 (fun wx=>Hid (∃ b9,Own9 w d q b9 (A9:Int) S9 wx))
   case first=>as_aux_lemma =>
    go_wp2_with fail;refine(aI3 d A sc b5 wc H8.out.at').mono ?_;rintro e w9 ⟨⟨u,ok,rfl,hok,hu0⟩,hk⟩;have H9:=hiD (H8.out.old hk);clear hk H8;by_cases hA0:A=0
    ·obtain rfl:=hu0 hA0;obtain rfl:ok=true:=hok.2 (by omega);obtain⟨e1,e2⟩:=H9A.out.1 hA0;have HM:Hid (∃ b9,Own9 w d q b9 (A9:Int) S9 w9):=⟨b5,by rw[e1,e2];have:=H9.out;rw[hA0]at this;exact this⟩;clear hok hu0 e1 e2 H9 hA0 hA;go_wp2_with fail;go_meet
     case rel=>exact HM
    ·have HRD:Hid (Calls prog 66 #[.pointer (some ⟨d,0,none⟩),.pointer (some ⟨d,0,none⟩),.int .i32 9,RU] w9 (aG3 w9 d b5 (Q:Int) 9)) :=
      aU7 H9.out (HT.out.old H9.out.k) hA0 (by rw[hA];exact HR2.out.1) HR2.out.2.1 HSC.out.2 (by rw[hA];exact HR2.out.2.2.1 (by omega))
     have HM:Hid (∀ wy,(∃ b9,DecAt wy d (Q:Int) 9 b9/\Kept (fun k=>k=d\/b5=some k) w9 wy/\Own w9 b5 b9)->∃ b9,Own9 w d q b9 (A9:Int) S9 wy):=by
      rintro wy ⟨b9,g1,g2,g3⟩;obtain⟨e1,e2⟩:=H9A.out.2 hA0;rw[e1,e2];exact⟨b9,H9.out.set HQ.out.symm g1 g2 g3⟩
     by_cases hu:u=0
     ·have hok2:ok=false:=by
       cases ok with
       | false=>rfl
       | true=>exact absurd (hok.1 rfl) (by omega)
      subst hu;subst hok2;clear hok hu0 H9 hA0 hA;go_wp2_with fail;refine(aC8 (-9) w9 (by omega)).mono ?_;rintro e w10 ⟨rfl,rfl⟩;go_wp2_with fail;refine(aE4 w9).mono ?_;rintro e w10 ⟨rfl,rfl⟩;go_wp2_with fail;refine HRD.out.mono ?_;rintro e w10 ⟨rfl,b9,g1,g2,g3⟩;have HMM:=hiD (HM.out w10 ⟨b9,g1,g2,g3⟩);clear g1 g2 g3;go_wp2_with fail;go_meet
      case rel=>exact HMM
     ·have t1:(u==0)=false:=beqF hu;have t2:(u != 0)=true:=by simp only[bne,t1];rfl
      clear hok hu0 H9 hA0 hA;go_wp2_with fail;refine(aC8 (-9) w9 (by omega)).mono ?_;rintro e w10 ⟨rfl,rfl⟩;go_wp2_with fail;refine(aE4 w9).mono ?_;rintro e w10 ⟨rfl,rfl⟩;go_wp2_with fail;refine HRD.out.mono ?_;rintro e w10 ⟨rfl,b9,g1,g2,g3⟩;have HMM:=hiD (HM.out w10 ⟨b9,g1,g2,g3⟩);clear g1 g2 g3;go_wp2_with fail;go_meet
      case rel=>exact HMM
   case rest =>
    have H10:=hcut.out;obtain⟨b9,h10⟩:=H10;have H11:=hiD h10;clear hcut h10 H8
    go_upto_if 260 with fail
    have hfin:(U<0->n9 = -(A9:Int))/\(0<=U->n9=(A9:Int))/\s9=S9:=by
     have hn:=HR2.out.2.2.2;unfold PqNum at hn;rcases Int.lt_trichotomy U 0 with h|h|h
     ·obtain⟨e1,e2⟩:=H9A.out.2 (by rw[HA.out];omega);obtain⟨e3,e4⟩:=hn.2.1 h;exact⟨fun _=>by rw[e1];exact e3,fun h'=>by omega,by omega⟩
     ·obtain⟨e1,e2⟩:=H9A.out.1 (by rw[HA.out];omega);obtain⟨e3,e4⟩:=hn.1 h;exact⟨fun h'=>by omega,fun _=>by omega,by omega⟩
     ·obtain⟨e1,e2⟩:=H9A.out.2 (by rw[HA.out];omega);obtain⟨e3,e4⟩:=hn.2.2 h;exact⟨fun h'=>by omega,fun _=>by omega,by omega⟩
    have HFIN:=hiD hfin;clear hfin hA
    go_cut []from 30 (fun wx=>Hid (Own9 w d q b9 n9 s9 wx))
    case first=>as_aux_lemma =>
     rcases Int.lt_or_le U 0 with hU|hU
     ·have hs:=bD0 hU;rw[hs];have e1:=HFIN.out.1 hU;clear hs;go_wp2_with fail;refine(aF6 d (A9:Int) S9 b9 wc H11.out.at').mono ?_;rintro e w12 ⟨rfl,h1,h2⟩;have H12:=hiD (H11.out.set1 HQ.out.symm h1 h2);rw[<- e1,<- HFIN.out.2.2]at H12;clear h1 h2 hU e1;go_wp2_with fail;go_meet
      case rel=>exact H12
     ·have hs:=bD1 hU;rw[hs];have H12:=H11;rw[<- HFIN.out.2.1 hU,<- HFIN.out.2.2]at H12;clear hs hU;go_wp2_with fail;go_meet
      case rel=>exact H12
    case rest =>
     have H13:=hcut;clear hcut H11 HFIN H9A HR2 HSC;obtain⟨⟨c0,c1,c2,c3,c4⟩,z0,z1,z2,z3,z4⟩:=aJ1 H13.out.res;obtain⟨W,hW,hg1,hg2,hg3⟩:=bE9 H13.out HQ.out.symm ⟨#[68,101,99,105,109,97,108,83,73]⟩;have G1:=hiD hg1;have G2:=hiD hg2;have G3:=hiD hg3;have HW:=hiD hW;clear hW hg1 hg2 hg3;go_wp2_with fail;rw[<- HW.out];obtain⟨d0,d1,d2,d3,d4⟩:=aC7 G1.out;refine bodyPost_ret (v:=.tuple #[.agg #[.int .i64 0,.int .i32 0,.pointer (some ⟨d,0,none⟩),.string ⟨#[]⟩,.string ⟨#[68,101,99,105,109,97,108,83,73]⟩],.nilIface]) ?_ rfl ⟨⟨d,_,rfl,G2.out⟩,G3.out⟩;simp[results,Tryz.f27,loadVar,go_sem,d0,d1,d2,d3,d4]
theorem cZ4(s:ByteArray)(neg:Bool)(value num denom suf:ByteArray)(x U:Int)(Q:Nat)(h:PIn s neg value num denom suf 10 x ⟨#[68,101,99,105,109,97,108,69,120,112,111,110,101,110,116]⟩)(hslow:18<num.size+denom.size\/x-(denom.size:Int) < -9)(hval:PVal value neg U denom.size)(hl:(dig U.natAbs).length<=900)(hQ:Sm Q)(hr:U≠0->R9 U.natAbs ((denom.size:Int)-x) Q)(n9 s9:Int)(hn9:PqNum U ((denom.size:Int)-x) Q n9 s9)(w:World)(ev:Value)(a:Addr)(hev0:w.cell? ⟨0,0,none⟩=some ev)(heof:Eof w a)(ht:Thr w):Calls prog 27 #[.string s] w (PqSlow w n9 s9 ⟨#[68,101,99,105,109,97,108,69,120,112,111,110,101,110,116]⟩):=by
 have k0:Kept (fun _=>False) w (w.alloc (.cells zQ 66)):=(Kept.refl _ _).alloc _;have h0:=aA0 w (.cells zQ 66);have HB:=hiD h0;have hp:=aG5 s (by have:=h.sz;omega) (w.alloc (.cells zQ 66)) _ (aC9 k0 hev0);rw[h.pq]at hp;have HP:=hiD hp;have K0:=hiD k0;have HIP:=hiD h.ip;have q1:=fun w=>e_nn0 w
 have q2:=fun w=>aL4 w
 have q3:=fun d w=>aS5 d w
 have hz:((s.size:Int)==0)=false:=beqF (by have:=h.ne;omega);have hz2:=h.n0;have HH:=hiD h;have hxb:=h.xb;have hl1:=h.l1;have hl2:=h.l2;have eP:wrap32 (18-wrap32 (wrap64 ((num.size:Int)+(denom.size:Int))))=18-((num.size:Int)+(denom.size:Int)):=by unfold wrap64 wrap32;omega
 have eS:wrap32 (x-wrap32 (denom.size:Int))=x-(denom.size:Int):=by unfold wrap32;omega
 have HE:=hiD heof;have HT:=hiD ht;have HV:=hiD hval;have HSL:=hiD (And.intro eP (And.intro eS hslow));have HR:=hiD (And.intro hl (And.intro hQ (And.intro hr hn9)));have HXB:=hiD (And.intro hxb (And.intro hl1 hl2));obtain⟨q,hq⟩:∃ q,q=w.heap.size:=⟨_,rfl⟩;rw[<- hq]at HB;have HQ:=hiD hq;clear hp k0 hev0 h0 h hl hQ hr hn9 hslow hval heof ht hxb hl1 hl2 eP eS;go_enter func27,ntmps27;clear hq;go_wp2_with fail;rw[<- HQ.out];refine HP.out.mono ?_;rintro e w1 ⟨rfl,hk⟩;have K1:=hiD (K0.out.same hk);have B1:=hiD (hk.at HB.out (fun f=>f));clear hk HP HB;simp only[pqV];go_wp2_with fail;refine(aC3 w1).mono ?_;rintro e w2 ⟨dd,rfl,hdd,hsf,hk⟩;have K2:=hiD (K1.out.same hk);have B2:=hiD (hk.at B1.out (fun f=>f));have HC:=hiD (HIP.out dd w2 hsf);clear hk hsf B1 K1;go_wp2_with fail;refine HC.out.mono ?_;rintro e w3 ⟨rfl,hk⟩;have K3:=hiD (K2.out.same hk);have B3:=hiD (hk.at B2.out (fun f=>f));clear hk B2 HC K2 HIP
 go_upto_if 102 with fail
 have HW3:Hid (Kept (fun _=>False) w w3/\w3.heap[q]? = some (.cells zQ 66 (0,0))):=⟨K3.out,B3.out⟩
 go_cut []from 30 (fun wx=>wx=w3)
 case first=>as_aux_lemma =>
  obtain⟨eP,eS,hsl⟩:=HSL.out;obtain⟨hxb,hl1,hl2⟩:=HXB.out;by_cases hp:18<num.size+denom.size
  ·have f1:decide (0<=wrap32 (18-wrap32 (wrap64 ((num.size:Int)+(denom.size:Int)))))=false:=decF (by rw[eP];omega);clear eP eS hsl hxb hl1 hl2 hp;rw[f1];clear f1;go_wp2_with fail;go_meet
   case rel=>rfl
  ·have f1:decide (0<=wrap32 (18-wrap32 (wrap64 ((num.size:Int)+(denom.size:Int)))))=true:=decT (by rw[eP];omega);have f1b:decide (0<=wrap32 (18-wrap32 ((num.size:Int)+(denom.size:Int))))=true:=by
    have e:wrap64 ((num.size:Int)+(denom.size:Int))=(num.size:Int)+(denom.size:Int):=by unfold wrap64;omega
    rw[e]at f1;exact f1
   have f2:decide (-9<=wrap32 (x-wrap32 (denom.size:Int)))=false:=decF (by rw[eS];omega);have f2c:(-9<=wrap32 (x-wrap32 (denom.size:Int)))=False:=eq_false (by rw[eS];omega);have hcat:¬ (9223372036854775807<num.size+denom.size):=by omega
   clear eP eS hsl hxb hl1 hl2 hp;rw[f1];clear f1 f1b;go_wp2_with fail;go_meet
   case rel=>rfl
 case rest =>
  obtain rfl:=hcut;clear K3 B3 HSL;obtain⟨pt,o,g,hsp,hcn,hU,hdd⟩:=HV.out.ex;have k4:Kept (fun _=>False) w (wc.alloc zDec):=HW3.out.1.alloc _;have b4:=((Kept.refl (fun _=>False) wc).alloc zDec).at HW3.out.2 (fun f=>f);have hqw:=aB5 HW3.out.2;have Z4:=aL7 wc;have HSS:=hiD (aH3 wc.heap.size pt 0 0 none value g a (wc.alloc zDec) Z4 o neg hcn HV.out.sz (HE.out.kept k4 (fun f=>f)) hsp (by simp) U hU (denom.size:Int) hdd);have H4:Hid (Own9 w wc.heap.size q none 0 0 (wc.alloc zDec)):=⟨Z4,k4,b4,hqw,by simp⟩;clear hsp hcn hU hdd k4 b4 hqw Z4 HV;simp only[zDec]at HSS H4;go_wp2_with fail;generalize hd:wc.heap.size=d at HSS H4 ⊢;generalize hw4:wc.alloc (.cells #[.bool false,.slice none 0 0,.int .i32 0] 112)=w4 at HSS H4 ⊢;clear hd hw4;refine HSS.out.mono ?_;rintro e w5 ⟨rfl,b5,hd5,ho5,hk5⟩;have H5:=hiD (H4.out.set HQ.out.symm hd5 hk5 ho5);clear hd5 ho5 hk5 H4 HSS;go_wp2_with fail;refine(aB4 d U (denom.size:Int) b5 w5 H5.out.at').mono ?_;rintro e w6 ⟨rfl,rfl⟩;go_wp2_with fail;refine(aC8 x w5 (by have:=HXB.out.1;omega)).mono ?_;rintro e w6 ⟨rfl,rfl⟩;have esc:wrap32 ((denom.size:Int) + -x)=(denom.size:Int)-x:=by have:=HXB.out;unfold wrap32;omega
  obtain⟨sc,hsc⟩:∃ sc,sc=(denom.size:Int)-x:=⟨_,rfl⟩;have hscb:-1000<=sc/\sc<=1000:=by have:=HXB.out;omega
  have HSC:=hiD (show sc=(denom.size:Int)-x /\ -1000<=sc/\sc<=1000 from⟨hsc,hscb⟩);rw[<- hsc]at esc;have HR2:=HR;rw[<- hsc]at HR2;clear hsc hscb HR;go_wp2_with fail;rw[esc];clear esc;refine(aC6 d U (denom.size:Int) sc b5 w5 H5.out.at').mono ?_;rintro e w6 ⟨rfl,h1,h2⟩;have H6:=hiD (H5.out.set1 HQ.out.symm h1 h2);clear h1 h2 H5;go_wp2_with fail;refine(aU1 d U sc b5 w6 H6.out.at').mono ?_;rintro e w7 ⟨rfl,rfl⟩
  go_upto_if 212 with fail
  obtain⟨A,hA⟩:∃ A:Nat,A=U.natAbs:=⟨_,rfl⟩;have HA:=hiD hA
  go_cut []from 30 (fun wx=>Hid (Own9 w d q b5 (A:Int) sc wx))
  case first=>as_aux_lemma =>
   rcases Int.lt_or_le U 0 with hU|hU
   ·have hs:=bD0 hU;rw[hs];clear hs;go_wp2_with fail;refine(aF6 d U sc b5 w6 H6.out.at').mono ?_;rintro e w7 ⟨rfl,h1,h2⟩;have H7:=hiD (H6.out.set1 HQ.out.symm h1 h2);rw[show -U=(A:Int)by omega]at H7;clear h1 h2 hA hU;go_wp2_with fail;go_meet
    case rel=>exact H7
   ·have hs:=bD1 hU;rw[hs];have H7:=H6;rw[show U=(A:Int)by omega]at H7;clear hs hA hU;go_wp2_with fail;go_meet
    case rel=>exact H7
  case rest =>
   have H8:=hcut;clear hcut;clear H6;go_step;go_step;obtain⟨A9,S9,h9a,h9b⟩:∃(A9:Nat) (S9:Int),(A=0->A9=0/\S9=sc)/\(A≠0->A9=Q/\S9=9):=by
    by_cases h:A=0
    ·exact⟨0,sc,fun _=>⟨rfl,rfl⟩,fun h'=>absurd h h'⟩
    ·exact⟨Q,9,fun h'=>absurd h' h,fun _=>⟨rfl,rfl⟩⟩
   have H9A:=hiD (And.intro h9a h9b);clear h9a h9b
   go_cut []from 30 (fun wx=>Hid (∃ b9,Own9 w d q b9 (A9:Int) S9 wx))
   case first=>as_aux_lemma =>
    go_wp2_with fail;refine(aI3 d A sc b5 wc H8.out.at').mono ?_;rintro e w9 ⟨⟨u,ok,rfl,hok,hu0⟩,hk⟩;have H9:=hiD (H8.out.old hk);clear hk H8;by_cases hA0:A=0
    ·obtain rfl:=hu0 hA0;obtain rfl:ok=true:=hok.2 (by omega);obtain⟨e1,e2⟩:=H9A.out.1 hA0;have HM:Hid (∃ b9,Own9 w d q b9 (A9:Int) S9 w9):=⟨b5,by rw[e1,e2];have:=H9.out;rw[hA0]at this;exact this⟩;clear hok hu0 e1 e2 H9 hA0 hA;go_wp2_with fail;go_meet
     case rel=>exact HM
    ·have HRD:Hid (Calls prog 66 #[.pointer (some ⟨d,0,none⟩),.pointer (some ⟨d,0,none⟩),.int .i32 9,RU] w9 (aG3 w9 d b5 (Q:Int) 9)) :=
      aU7 H9.out (HT.out.old H9.out.k) hA0 (by rw[hA];exact HR2.out.1) HR2.out.2.1 HSC.out.2 (by rw[hA];exact HR2.out.2.2.1 (by omega))
     have HM:Hid (∀ wy,(∃ b9,DecAt wy d (Q:Int) 9 b9/\Kept (fun k=>k=d\/b5=some k) w9 wy/\Own w9 b5 b9)->∃ b9,Own9 w d q b9 (A9:Int) S9 wy):=by
      rintro wy ⟨b9,g1,g2,g3⟩;obtain⟨e1,e2⟩:=H9A.out.2 hA0;rw[e1,e2];exact⟨b9,H9.out.set HQ.out.symm g1 g2 g3⟩
     by_cases hu:u=0
     ·have hok2:ok=false:=by
       cases ok with
       | false=>rfl
       | true=>exact absurd (hok.1 rfl) (by omega)
      subst hu;subst hok2;clear hok hu0 H9 hA0 hA;go_wp2_with fail;refine(aC8 (-9) w9 (by omega)).mono ?_;rintro e w10 ⟨rfl,rfl⟩;go_wp2_with fail;refine(aE4 w9).mono ?_;rintro e w10 ⟨rfl,rfl⟩;go_wp2_with fail;refine HRD.out.mono ?_;rintro e w10 ⟨rfl,b9,g1,g2,g3⟩;have HMM:=hiD (HM.out w10 ⟨b9,g1,g2,g3⟩);clear g1 g2 g3;go_wp2_with fail;go_meet
      case rel=>exact HMM
     ·have t1:(u==0)=false:=beqF hu;have t2:(u != 0)=true:=by simp only[bne,t1];rfl
      clear hok hu0 H9 hA0 hA;go_wp2_with fail;refine(aC8 (-9) w9 (by omega)).mono ?_;rintro e w10 ⟨rfl,rfl⟩;go_wp2_with fail;refine(aE4 w9).mono ?_;rintro e w10 ⟨rfl,rfl⟩;go_wp2_with fail;refine HRD.out.mono ?_;rintro e w10 ⟨rfl,b9,g1,g2,g3⟩;have HMM:=hiD (HM.out w10 ⟨b9,g1,g2,g3⟩);clear g1 g2 g3;go_wp2_with fail;go_meet
      case rel=>exact HMM
   case rest =>
    have H10:=hcut.out;obtain⟨b9,h10⟩:=H10;have H11:=hiD h10;clear hcut h10 H8
    go_upto_if 260 with fail
    have hfin:(U<0->n9 = -(A9:Int))/\(0<=U->n9=(A9:Int))/\s9=S9:=by
     have hn:=HR2.out.2.2.2;unfold PqNum at hn;rcases Int.lt_trichotomy U 0 with h|h|h
     ·obtain⟨e1,e2⟩:=H9A.out.2 (by rw[HA.out];omega);obtain⟨e3,e4⟩:=hn.2.1 h;exact⟨fun _=>by rw[e1];exact e3,fun h'=>by omega,by omega⟩
     ·obtain⟨e1,e2⟩:=H9A.out.1 (by rw[HA.out];omega);obtain⟨e3,e4⟩:=hn.1 h;exact⟨fun h'=>by omega,fun _=>by omega,by omega⟩
     ·obtain⟨e1,e2⟩:=H9A.out.2 (by rw[HA.out];omega);obtain⟨e3,e4⟩:=hn.2.2 h;exact⟨fun h'=>by omega,fun _=>by omega,by omega⟩
    have HFIN:=hiD hfin;clear hfin hA
    go_cut []from 30 (fun wx=>Hid (Own9 w d q b9 n9 s9 wx))
    case first=>as_aux_lemma =>
     rcases Int.lt_or_le U 0 with hU|hU
     ·have hs:=bD0 hU;rw[hs];have e1:=HFIN.out.1 hU;clear hs;go_wp2_with fail;refine(aF6 d (A9:Int) S9 b9 wc H11.out.at').mono ?_;rintro e w12 ⟨rfl,h1,h2⟩;have H12:=hiD (H11.out.set1 HQ.out.symm h1 h2);rw[<- e1,<- HFIN.out.2.2]at H12;clear h1 h2 hU e1;go_wp2_with fail;go_meet
      case rel=>exact H12
     ·have hs:=bD1 hU;rw[hs];have H12:=H11;rw[<- HFIN.out.2.1 hU,<- HFIN.out.2.2]at H12;clear hs hU;go_wp2_with fail;go_meet
      case rel=>exact H12
    case rest =>
     have H13:=hcut;clear hcut H11 HFIN H9A HR2 HSC;obtain⟨⟨c0,c1,c2,c3,c4⟩,z0,z1,z2,z3,z4⟩:=aJ1 H13.out.res;obtain⟨W,hW,hg1,hg2,hg3⟩:=bE9 H13.out HQ.out.symm ⟨#[68,101,99,105,109,97,108,69,120,112,111,110,101,110,116]⟩;have G1:=hiD hg1;have G2:=hiD hg2;have G3:=hiD hg3;have HW:=hiD hW;clear hW hg1 hg2 hg3;go_wp2_with fail;rw[<- HW.out];obtain⟨d0,d1,d2,d3,d4⟩:=aC7 G1.out;refine bodyPost_ret (v:=.tuple #[.agg #[.int .i64 0,.int .i32 0,.pointer (some ⟨d,0,none⟩),.string ⟨#[]⟩,.string ⟨#[68,101,99,105,109,97,108,69,120,112,111,110,101,110,116]⟩],.nilIface]) ?_ rfl ⟨⟨d,_,rfl,G2.out⟩,G3.out⟩;simp[results,Tryz.f27,loadVar,go_sem,d0,d1,d2,d3,d4]
theorem Own9.keptS{S:Nat->Prop}{w wx wy:World}{d q:Nat}{b:Option Nat}{n sc:Int}(h:Own9 w d q b n sc wx)(hk:Kept S wx wy)(lo:Nat)(hS:∀ k,S k->lo<=k)(hd:d<lo)(hb:∀ k,b=some k->k<lo)(hw:w.heap.size<=lo):Own9 w d q b n sc wy:=by
 have hq:=h.hd;refine⟨IntAt.kept h.at' hk (fun e=>by have:=hS _ e;omega) (fun k hk' e=>by have:=hb k hk';have:=hS _ e;omega),h.k.trans hk (fun _ _ f=>f) (fun i hi e=>by have:=hS _ e;omega),hk.at h.res (fun e=>by have:=hS _ e;omega),h.hd,h.hb⟩
theorem aU9{w wx:World}{d q p:Nat}{b bp:Option Nat}{A:Nat}{sc:Int}{m:Nat}(h:Own9 w d q b (A:Int) sc wx)(ht:Thr wx)(hp:DecAt wx p (m:Int) 0 bp)(hne:d≠p)(k:Nat)(hk:sc=(k:Int))(hk2:k<=180)(hm:m<B64)(r:Int)(hr:r=cmpZ (A:Int) ((m*10^k:Nat):Int)):
  Calls prog 68 #[.pointer (some ⟨d,0,none⟩),.pointer (some ⟨p,0,none⟩)] wx (aL8 wx r):=by
 subst hr;rcases Nat.eq_zero_or_pos k with h0|h0
 ·subst h0;have:=bT5 d p (A:Int) (m:Int) sc b bp wx hne h.at' (by rw[hk];exact hp);rw[Nat.pow_zero,Nat.mul_one];exact this
 ·have:=cC7 d p k (10^k) rfl (A:Int) (m:Int) sc 0 b bp wx h.at' hp h0 hk2 (by omega) (by omega) (by omega) (by rw[Int.natAbs_natCast];exact hm) ht;rw[show((m:Int)*((10^k:Nat):Int))=((m*10^k:Nat):Int)by simp]at this;exact this
def PqFmt(A k:Nat)(f:ByteArray):Prop:=(0<A/\A<10^k->f=⟨#[68,101,99,105,109,97,108,83,73]⟩)/\(¬ (0<A/\A<10^k)->f=⟨#[66,105,110,97,114,121,83,73]⟩)
theorem bX5{s:Nat}(h:s<64):2^s<B64:=Nat.lt_of_lt_of_le (Nat.pow_lt_pow_right (by omega) h) (by unfold B64;decide)
def FltK(x k:Int):Prop:=∃ a1 a2 a3:Nat,(∀ w,(convert 21 101 (.int .i32 x)).run prog w=.ok (.float .f32 a1) w)/\(∀ w,(binOp .mul 101 (.float .f32 a1) (.float .f32 1077936128)).run prog w=.ok (.float .f32 a2) w)/\(∀ w,(binOp .quo 101 (.float .f32 a2) (.float .f32 1092616192)).run prog w=.ok (.float .f32 a3) w)/\(∀ w,(convert 101 21 (.float .f32 a3)).run prog w=.ok (.int .i32 k) w)
theorem dU7:FltK 10 3:=⟨1092616192,1106247680,1077936128,fun w=>by kernel_rfl,fun w=>by kernel_rfl,fun w=>by kernel_rfl,fun w=>by kernel_rfl⟩
theorem dU8:FltK 20 6:=⟨1101004800,1114636288,1086324736,fun w=>by kernel_rfl,fun w=>by kernel_rfl,fun w=>by kernel_rfl,fun w=>by kernel_rfl⟩
theorem dU9:FltK 30 9:=⟨1106247680,1119092736,1091567616,fun w=>by kernel_rfl,fun w=>by kernel_rfl,fun w=>by kernel_rfl,fun w=>by kernel_rfl⟩
theorem dV0:FltK 40 12:=⟨1109393408,1123024896,1094713344,fun w=>by kernel_rfl,fun w=>by kernel_rfl,fun w=>by kernel_rfl,fun w=>by kernel_rfl⟩
theorem dV1:FltK 50 15:=⟨1112014848,1125515264,1097859072,fun w=>by kernel_rfl,fun w=>by kernel_rfl,fun w=>by kernel_rfl,fun w=>by kernel_rfl⟩
theorem dV2:FltK 60 18:=⟨1114636288,1127481344,1099956224,fun w=>by kernel_rfl,fun w=>by kernel_rfl,fun w=>by kernel_rfl,fun w=>by kernel_rfl⟩
end Go.Proofs.YtjebnpkebccffaaGreatDoor
