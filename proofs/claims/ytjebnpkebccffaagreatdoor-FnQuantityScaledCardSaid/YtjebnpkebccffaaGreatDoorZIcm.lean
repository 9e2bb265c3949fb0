import Derived.Test.YtjebnpkebccffaaGreatDoorZDlv
set_option linter.unusedSimpArgs false
set_option linter.unusedVariables false
set_option linter.unusedSectionVars false
set_option maxRecDepth 100000
set_option maxHeartbeats 8000000
namespace Go.Proofs.YtjebnpkebccffaaGreatDoor
open Go.RowKit Go.Proofs.Tryz
theorem bD9(z k:Nat)(nz:Int)(bz:Option Nat)(rz:List Value)(Tz:TypeId)(w:World)(hz:IntAt w z nz bz rz Tz)(h0:k=9223372036854775808):
  Calls prog 102 #[.pointer (some ⟨z,0,none⟩),.int .i64 (-(k:Int))] w (aF5 w z bz (-(k:Int)) rz Tz):=by
 obtain⟨vz,hz1,hz2,hz3⟩:=hz;obtain⟨cz0,cz1,fz0,fz1⟩:=aA5 hz1;have HZ1:=hiD hz1;have HZ2:=hiD hz2;have a1:decide (-(k:Int)<0)=true:=decT (by omega);have e0:IntKind.i64.wrap (k:Int) = -(k:Int):=by rw[IntKind.wrap_i64];omega
 have e1:IntKind.u64.wrap (-(k:Int))=(k:Int):=by rw[IntKind.wrap_u64];omega
 have h0p:0<k:=by omega
 have a2:k<B64:=by rw[h0];unfold B64;decide
 have HA2:=hiD a2;clear hz1 hz2 h0 a2;go_enter func102,ntmps102;go_wp2_with fail;refine(aQ1 vz bz k HA2.out _ HZ2.out.buf).mono ?_;rintro e w1 ⟨v',b',rfl,h⟩;obtain⟨a',c',rfl⟩:=aB6 h.1;have ez:=h.2.1.at HZ1.out hz3;obtain⟨d0,d1,d2,d3⟩:=aA5 ez;have H:=hiD h;clear h ez cz0 cz1 fz0 fz1;go_wp2_with fail;go_ret;have:=aW3 (n:=-(k:Int)) HZ1.out hz3 (by rw[Int.natAbs_neg,Int.natAbs_natCast];exact H.out.1) H.out.2.1 H.out.2.2;rw[a1]at this;exact this
theorem bE0(z:Nat)(m nz:Int)(bz:Option Nat)(rz:List Value)(Tz:TypeId)(w:World)(hz:IntAt w z nz bz rz Tz)(h:-9223372036854775808<=m/\m<=9223372036854775807):
  Calls prog 102 #[.pointer (some ⟨z,0,none⟩),.int .i64 m] w (aF5 w z bz m rz Tz):=by
 rcases Int.lt_or_le m 0 with h0|h0
 ·by_cases hmin:m = -9223372036854775808
  ·have:=bD9 z 9223372036854775808 nz bz rz Tz w hz rfl;rw[show(-((9223372036854775808:Nat):Int))=m by omega]at this;exact this
  ·obtain⟨k,hk⟩:∃ k:Nat,m = -(k:Int):=⟨m.natAbs,by omega⟩;subst hk;exact aR7 z k nz bz rz Tz w hz (by omega) (by omega)
 ·obtain⟨k,rfl⟩:∃ k:Nat,m=(k:Int):=⟨m.toNat,by omega⟩;exact aG1 z k nz bz rz Tz w hz (by omega)
theorem cO1(x:Int):-9223372036854775808<=IntKind.i64.wrap x/\IntKind.i64.wrap x<=9223372036854775807:=by rw[IntKind.wrap_i64];omega
theorem bP5(x n:Nat)(b:Option Nat)(r:List Value)(T:TypeId)(w:World)(hx:IntAt w x (n:Int) b r T)(u:Int)(hu:u=IntKind.i64.wrap ((n%B64:Nat):Int)):
  Calls prog 101 #[.pointer (some ⟨x,0,none⟩)] w fun e w'=>e=.returned (.int .i64 u)/\w=w':=by
 obtain⟨vx,hx1,hx2,hx3⟩:=hx;obtain⟨c0,c1,_,_⟩:=aA5 hx1;rw[decF (Int.not_lt.2 (Int.natCast_nonneg n))]at c0;rw[Int.natAbs_natCast]at hx2;have hl:=bS2 vx b n w hx2;have HL:=hiD hl;generalize n%B64=m at *;have e1:IntKind.i64.wrap (m:Int)=u:=hu.symm;clear hx1 hx2 hl hu;go_enter func101,ntmps101;go_wp2_with fail;refine HL.out.mono ?_;rintro e w1 ⟨rfl,rfl⟩;go_wp2_with fail;go_ret;exact⟨rfl,rfl⟩
theorem cY0{a b:Int}:(cmpZ a b==0)=true↔a=b:=by
 unfold cmpZ;split
 ·simp;omega
 ·split
  ·simp;omega
  ·simp;omega
theorem aI3(x n:Nat)(sc:Int)(b:Option Nat)(w:World)(hx:DecAt w x (n:Int) sc b):
  Calls prog 65 #[.pointer (some ⟨x,0,none⟩)] w fun e w'=>(∃(u:Int) (ok:Bool),e=.returned (.tuple #[.int .i64 u,.bool ok])/\(ok=true↔u=(n:Int))/\(n=0->u=0))/\Kept (fun _=>False) w w':=by
 obtain⟨u,hu⟩:∃ u,u=IntKind.i64.wrap ((n%B64:Nat):Int):=⟨_,rfl⟩;have hub:=cO1 ((n%B64:Nat):Int);rw[<- hu]at hub;have hu0:n=0->u=0:=by
  rintro rfl;rw[hu,IntKind.wrap_i64];rfl
 have HU0:=hiD hu0;have HX:=hiD hx;have HI:=hiD (bP5 x n b _ 112 w hx u hu);obtain⟨v,h1,_⟩:=hx;obtain⟨c0,c1,_,_⟩:=aA5 h1;have HCZ:Hid ((cmpZ u (n:Int)==0)=true↔u=(n:Int)):=cY0;obtain⟨cc,hcc⟩:∃ cc,cmpZ u (n:Int)=cc:=⟨_,rfl⟩;rw[hcc]at HCZ;have HCC:=hiD hcc;clear h1 hu hu0 hcc;go_enter func65,ntmps65;go_wp2_with fail;refine HI.out.mono ?_;rintro e w1 ⟨rfl,rfl⟩;have HS:Hid (Calls prog 102 #[.pointer (some ⟨w.heap.size,0,none⟩),.int .i64 u] ((w.alloc zInt).drew) (aF5 ((w.alloc zInt).drew) w.heap.size none u [] 109)):=bE0 w.heap.size u 0 none [] 109 _ ((aG7 w).drewN 1) hub;have HC:Hid (∀ e w3,aF5 ((w.alloc zInt).drew) w.heap.size none u [] 109 e w3->e=.returned (.pointer (some ⟨w.heap.size,0,none⟩))/\Kept (fun _=>False) w w3/\Calls prog 103 #[.pointer (some ⟨w.heap.size,0,none⟩),.pointer (some ⟨x,0,none⟩)] w3 fun e w'=>e=.returned (.int .i64 cc)/\Drew w3 w'):=by
  rintro e w3 ⟨rfl,b',h1,h2,h3⟩;have hk:Kept (fun _=>False) w w3:=(((Kept.refl (fun _=>False) w).alloc zInt).drew).trans h2 (fun _ _ f=>f) (fun i hi h=>by
   rcases h with h|h
   ·omega
   ·cases h)
  have hl:=IntAt.lt HX.out;have:=aW4 w.heap.size x u (n:Int) b' b [] _ 109 112 w3 h1 (IntAt.old HX.out hk) (by omega);rw[HCC.out]at this;exact⟨rfl,hk,this⟩
 clear HI hub;go_wp2_with fail
 go_region_with (first|(go_at_call 102;refine HS.out.mono ?_;intro e w3 h;obtain⟨rfl,hk,hc⟩:=HC.out e w3 h;have HK:=hiD hk;have HC3:=hiD hc;clear h hk hc)|(go_at_call 103;refine HC3.out.mono ?_;rintro e w4 ⟨rfl,hd⟩;have HD:=hiD hd;clear hd))
 all_goals
  go_wp2_with fail;go_ret2;exact⟨⟨_,_,rfl,HCZ.out,HU0.out⟩,HK.out.trans HD.out.kept (fun _ _ f=>f) (fun _ _ f=>f)⟩
theorem bV8(z:Nat)(n:Int)(b:Option Nat)(r:List Value)(T:TypeId)(w:World)(hz:IntAt w z n b r T):
  Calls prog 100 #[.pointer (some ⟨z,0,none⟩),.pointer (some ⟨z,0,none⟩)] w fun e w'=>e=.returned (.pointer (some ⟨z,0,none⟩))/\IntAt w' z (-n) b r T/\Kept (fun k=>k=z) w w':=by
 obtain⟨v,h1,h2,h3⟩:=hz;obtain⟨c0,c1,f0,f1⟩:=aA5 h1;have HF:Hid (∀ f:Bool,f=decide (-n<0)->IntAt (w.setCell ⟨z,0,none⟩ (.bool f)) z (-n) b r T/\Kept (fun k=>k=z) w (w.setCell ⟨z,0,none⟩ (.bool f))):=by
  rintro f rfl;refine⟨⟨_,bE1 h1 _,by rw[Int.natAbs_neg];exact h2.move (fun k hk=>aA7 (by rintro rfl;exact h3 hk)),h3⟩,(Kept.refl _ _).setCell _ _ (fun _=>rfl)⟩
 obtain⟨a,c,rfl⟩:=aB6 h2;have hL:(dig n.natAbs).length=0/\n=0\/0<(dig n.natAbs).length/\n≠0:=by
  by_cases h0:n=0
  ·left;rw[h0];simp[aC4]
  ·right;exact⟨aB3 (by omega),h0⟩
 generalize(dig n.natAbs).length=L at *;clear h1 h2 h3;rcases hL with⟨rfl,rfl⟩|⟨hL,h0⟩
 ·have HF2:=hiD (HF.out false (by decide));clear HF;go_enter func100,ntmps100;go_wp2_with fail;refine(aN0 z w).mono ?_;rintro e w1 ⟨rfl,rfl⟩;go_wp2_with fail;go_ret;exact⟨rfl,HF2.out⟩
 ·have a1:decide ((0:Int)<(L:Int))=true:=decT (by omega);by_cases hn:n<0
  ·rw[decT hn]at c0;have HF2:=hiD (HF.out false (by rw[decF (by omega)]));clear HF;go_enter func100,ntmps100;go_wp2_with fail;refine(aN0 z w).mono ?_;rintro e w1 ⟨rfl,rfl⟩;go_wp2_with fail;go_ret;exact⟨rfl,HF2.out⟩
  ·rw[decF hn]at c0;have HF2:=hiD (HF.out true (by rw[decT (by omega)]));clear HF;go_enter func100,ntmps100;go_wp2_with fail;refine(aN0 z w).mono ?_;rintro e w1 ⟨rfl,rfl⟩;go_wp2_with fail;go_ret;exact⟨rfl,HF2.out⟩
theorem aF6(z:Nat)(n sc:Int)(b:Option Nat)(w:World)(hz:DecAt w z n sc b):
  Calls prog 64 #[.pointer (some ⟨z,0,none⟩),.pointer (some ⟨z,0,none⟩)] w fun e w'=>e=.returned (.pointer (some ⟨z,0,none⟩))/\DecAt w' z (-n) sc b/\Kept (fun k=>k=z) w w':=by
 have HZ:=hiD hz;clear hz;go_enter func64,ntmps64;go_wp2_with fail;refine(aB4 z n sc b w HZ.out).mono ?_;rintro e w1 ⟨rfl,rfl⟩;go_wp2_with fail;refine(aC6 z n sc sc b w HZ.out).mono ?_;rintro e w2 ⟨rfl,h1,h2⟩;have H1:=hiD h1;have H2:=hiD h2;clear h1 h2;go_wp2_with fail;refine(aA4 z n sc b w2 H1.out).mono ?_;rintro e w3 ⟨rfl,rfl⟩;go_wp2_with fail;refine(aA4 z n sc b w2 H1.out).mono ?_;rintro e w3 ⟨rfl,rfl⟩;go_wp2_with fail;refine(bV8 z n b _ 112 w2 H1.out).mono ?_;rintro e w3 ⟨rfl,h1,h2⟩;have H3:=hiD (And.intro h1 h2);clear h1 h2;go_wp2_with fail;go_ret;exact⟨rfl,H3.out.1,H2.out.trans H3.out.2 (fun _ _ h=>h) (fun _ _ h=>h)⟩
theorem cO2:∀(k n:Nat),n<10^(k+1)->0<(decs n).length/\(decs n).length<=k+1/\∀ x∈decs n,x<58:=by
 intro k
 induction k with
 | zero =>
  intro n h;have h:n<10:=by simpa using h
  rw[aT9 h];simp;omega
 | succ k ih =>
  intro n h;by_cases hs:n<10
  ·rw[aT9 hs];simp;omega
  ·rw[aX8 (by omega)];obtain⟨a1,a2,a3⟩:=ih (n/10) (by rw[Nat.div_lt_iff_lt_mul (by omega),<- Nat.pow_succ];exact h);refine⟨by simp,by simp;exact a2,fun x hx=>?_⟩;rcases List.mem_append.1 hx with h'|h'
   ·exact a3 x h'
   ·simp at h';omega
theorem cC9(l:List Nat)(h0:0<l.length)(h1:l.length<=1000)(w:World):
  ∃ cap cs,(∀ ty,(Builtin.append_ #[57,9] ty #[.slice none 0 0,.string (strN l)]).run prog w=.ok (.slice (some ⟨w.heap.size,0,none⟩) l.length cap) (w.drew.alloc (.cells cs 5)))/\(∀ i,i<l.length->l.getD i 0<256->cs[i]? = some (.int .u8 (l.getD i 0:Nat))):=by
 obtain⟨i0,hi,hz0,hz1,hz2⟩:=info_parts Tryz.info5;have hsz:(strN l).size=l.length:=by simp[strN,strOfNums_size]
 have:=fun ty=>run_append_nil_string (P:=prog) (w:=w) 57 9 ty 5 i0 _ underlying57 underlying9 hi hz0 (strN l) (by omega) (by omega) (by rw[hz2];omega)
 simp only[hsz]at this;refine⟨_,_,this,fun i hi2 h256=>?_⟩;rw[Array.getElem?_append_left (by simp[strN,strOfNums];omega)];simp[strN,strOfNums,List.getD,hi2];simp[List.getD,hi2]at h256;omega
theorem aZ5{w w':World}{ops:Array Oper}{rest:List Oper}{o:Oper}{a:Act}{Q:Exit->Act->World->Prop}(hg:o.guard=none)(s x:Operand)(hop:o.op=Op.call { callee:=Callee.builtin Builtin.append,args:=#[s,x],argTypes:=#[57,9] })(t:ByteArray)(v:Value)(hs:a.eval s=.slice none 0 0)(hx:a.eval x=.string t)(hrun:∀ ty,(Builtin.append_ #[57,9] ty #[.slice none 0 0,.string t]).run prog w=.ok v w')(hK:wpList prog ops Q rest (a.put o.dst v) w'):wpList prog ops Q (o::rest) a w:=by
 refine wpList_plain hg fun K hK'=>?_
 unfold Oper.wp;simp[execOp,hop,resolve,invoke,builtin,hs,hx,hrun,Result.andThen];exact hK' _ _ hK
def B1024(w:World)(n:Nat)(e:Ending)(w':World):Prop :=
 ∃ t g cap cs,e=.returned (.tuple #[.slice (some ⟨g,0,none⟩) (decs (n/1024^t)).length cap,.int .i32 ((t:Nat):Int)])/\1024^t∣n/\n/1024^t%1024≠0/\w'.heap[g]? = some (.cells cs 5 (0,0))/\HasB cs 0 (decs (n/1024^t))/\Kept (fun _=>False) w w'
theorem dH4(d n:Nat)(b:Option Nat)(w:World)(hd:DecAt w d (n:Int) 0 b)(hn:n<B64)(hn0:n≠0)(hleaf:Leaf w)(hl19:19<w.heap.size):
  Calls prog 319 #[.agg #[.pointer (some ⟨d,0,none⟩)],.slice none 0 0] w (B1024 w n):=by
 have HD:=hiD hd;have HLF:=hiD hleaf;have hwk:Kept (fun _=>False) w ((w.alloc (.cells #[.pointer (some ⟨d,0,none⟩)] 63)).alloc zDec):=((Kept.refl _ _).alloc _).alloc _;have hdl:=IntAt.lt hd;have hz:=aL7 (w.alloc (.cells #[.pointer (some ⟨d,0,none⟩)] 63));have e2:(w.alloc (.cells #[.pointer (some ⟨d,0,none⟩)] 63)).heap.size=w.heap.size+1:=by simp
 rw[e2]at hz;have b0:((w.alloc (.cells #[.pointer (some ⟨d,0,none⟩)] 63)).alloc zDec).heap[w.heap.size]? = some (.cells #[.pointer (some ⟨d,0,none⟩)] 63 (0,0)):=by
  rw[Below.heap_alloc _ _ _ (by simp)];exact aA0 _ _
 have HWK:=hiD hwk;have HZ:=hiD hz;have HB0:=hiD b0;clear hd hleaf hwk hz b0 e2;go_enter func319,ntmps319;go_wp2_with fail;simp only[zDec]at HWK HZ HB0;generalize hW:((w.alloc (.cells #[.pointer (some ⟨d,0,none⟩)] 63)).alloc (.cells #[.bool false,.slice none 0 0,.int .i32 0] 112))=W at *;generalize hS:w.heap.size=S at *;have HSZ:=hiD hS;have hSW:S+2<=W.heap.size:=by rw[<- hW,<- hS];simp
 have ct:W.cell? ⟨S,0,none⟩=some (.pointer (some ⟨d,0,none⟩)):=by rw[aA2 HB0.out];rfl
 have ctd:W.drew.cell? ⟨S,0,none⟩=some (.pointer (some ⟨d,0,none⟩)):=ct;have hDW:DecAt W.drew d (n:Int) 0 b:=IntAt.drewN (IntAt.old HD.out HWK.out) 1;have hZW:DecAt W.drew (S+1) 0 0 none:=IntAt.drewN HZ.out 1;have HR:Hid (Calls prog 66 #[.pointer (some ⟨S+1,0,none⟩),.pointer (some ⟨d,0,none⟩),.int .i32 0,RU] W.drew (aG3 W.drew (S+1) none (n:Int) 0)) :=
  aT0 (S+1) d 0 0 (n:Int) 0 (n:Int) 1 0 none b W.drew hZW hDW (fun w' y c hx hy=>cM3 hx hy (by omega) (by rw[Int.natAbs_natCast];exact hn)) (Sm.one (by rw[Int.natAbs_natCast];exact hn))
 have HAFT:Hid (∀ e w9,aG3 W.drew (S+1) none (n:Int) 0 e w9->e=.returned (.pointer (some ⟨S+1,0,none⟩))/\Kept (fun _=>False) w w9/\(∃ c,DecAt w9 (S+1) (n:Int) 0 c/\(∀ k,c=some k->S+2<=k))):=by
  rintro e w9 ⟨rfl,c,h1,h2,h3⟩;have h2:=h2.undrew;have hk:Kept (fun _=>False) w w9:=HWK.out.trans h2 (fun _ _ f=>f) (fun i hi h=>by
   rcases h with h|h
   ·omega
   ·cases h)
  have hc:∀ k,c=some k->S+2<=k:=by
   intro k hk';rcases h3 with h3|⟨j,hj,hjs⟩
   ·rw[h3]at hk';cases hk'
   ·rw[hj]at hk';injection hk' with hk';have:W.heap.size<=j:=hjs;omega
  exact⟨rfl,hk,c,h1,hc⟩
 clear hDW hZW hW
 go_region_with (first|(go_at_call 67;refine(aE4 _).mono ?_;rintro e w9 ⟨rfl,rfl⟩)|(go_at_call 66;refine HR.out.mono ?_;intro e w9 h;obtain⟨rfl,h1,h2⟩:=HAFT.out e w9 h;have G2:=hiD h1;have G3:=hiD h2;clear h h1 h2))
 all_goals
  obtain⟨c,g3,g4⟩:=G3.out;have A3:=hiD g3;have A4:=hiD g4;have hS':=HSZ.out;clear g3 g4 HAFT HR ct ctd HZ HB0 HWK;go_wp2_with fail;refine(aA4 (S+1) (n:Int) 0 c w9 A3.out).mono ?_;rintro e w10 ⟨rfl,rfl⟩;go_wp2_with fail;refine(aD4 1024 (by omega) w9).mono ?_;rintro e w10 ⟨y,by_,rfl,hy,ay,ky,qy⟩;have AY:=hiD ay;have K10:=hiD (aE3 G2.out ky);have A10:=hiD (IntAt.old A3.out ky);have SP:Hid (Sep (S+1) c y by_):=(Sep.fresh hy qy (IntAt.lt A3.out) (IntAt.lts A3.out)).symm;clear ay ky hy qy;go_wp2_with fail;refine(aN5 (S+1) y n 1024 c by_ _ [] 112 109 w10 A10.out AY.out SP.out hn hn0 (by unfold B64;omega) (by omega)).mono ?_;rintro e w11 ⟨t,p,bp,rp,Tp,rfl,hdv,hmod,ap,kp,_⟩;have K11:Hid (Kept (fun _=>False) w w11):=K10.out.trans kp (fun _ _ f=>f) (fun i hi h=>by
   rcases h with h|h
   ·omega
   ·have:=A4.out i h;omega)
  have AP:=hiD ap;have HDV:=hiD hdv;have HMOD:=hiD hmod;clear ap kp hdv hmod A10 AY SP;go_wp2_with fail;have hq0:n/1024^t≠0:=by intro e;have:=HMOD.out;rw[e]at this;exact this rfl
  have hqn:n/1024^t<B64:=Nat.lt_of_le_of_lt (Nat.div_le_self _ _) hn;refine(bN0 p (n/1024^t) bp rp Tp w11 AP.out hq0 (Nat.le_trans (aD3 (k:=1) (by rw[Nat.pow_one];exact hqn)) (by omega)) (HLF.out.kept K11.out (fun f=>f)) (dD8 _ hqn)).mono ?_;rintro e w12 ⟨rfl,hk⟩;have K12:=hiD (aE3 K11.out hk);clear hk;have hdf:=cO2 19 (n/1024^t) (Nat.lt_of_lt_of_le hqn (by unfold B64;decide));obtain⟨hl0,hl1,hl2⟩:=hdf;obtain⟨cap,cs,hap,hcs⟩:=cC9 (decs (n/1024^t)) hl0 (by omega) w12;have HCS:Hid (HasB cs 0 (decs (n/1024^t))):=by
   intro i hi;rw[Nat.zero_add];refine hcs i hi ?_;have hm:(decs (n/1024^t)).getD i 0∈decs (n/1024^t):=by simp[List.getD,hi]
   have:=hl2 _ hm;omega
  have HNEW:Hid ((w12.drew.alloc (.cells cs 5)).heap[w12.heap.size]? = some (.cells cs 5 (0,0))):=aA0 w12.drew _;generalize hT:decs (n/1024^t)=T at *;have HT:=hiD hT;have HAP:=hiD hap;clear hcs hl2 hT hap;go_wp2_with (at_builtin;refine aZ5 rfl _ _ rfl (strN T) _ rfl rfl HAP.out ?_)
  go_ret2;exact⟨t,w12.heap.size,cap,cs,by rw[HT.out];rfl,HDV.out,HMOD.out,HNEW.out,by rw[HT.out];exact HCS.out,(K12.out.drew).alloc _⟩
def aw:ByteArray:=⟨#[49,46,53,71,105]⟩
theorem pq_aw:pq aw=⟨true,⟨#[49,46,53]⟩,⟨#[49]⟩,⟨#[53]⟩,⟨#[71,105]⟩,true⟩:=by kernel_rfl
def uaw:Nat->Nat:=fun j=>if j=0 then 1 else 5
theorem cY1:Spells ⟨#[49,46,53]⟩ 1 uaw where
 dig k h hk:=by
  have h':k<3:=h
  match k,h' with
  | 0,_=>rfl
  | 1,_=>exact absurd rfl hk
  | 2,_=>rfl
 pnt h:=rfl
 low j:=by unfold uaw;split<;>omega
theorem bE8{w a b:World}{d:Nat}{bz:Option Nat}(h:Kept (fun _=>False) w a)(k:Kept (fun k=>k=d\/bz=some k) a b)(hd:w.heap.size<=d)(hb:∀ k,bz=some k->w.heap.size<=k):Kept (fun _=>False) w b :=
 h.trans k (fun _ _ f=>f) (fun i hi h=>by
  rcases h with h|h
  ·omega
  ·have:=hb i h;omega)
theorem aZ6{w a:World}{bz b':Option Nat}(hs:w.heap.size<=a.heap.size)(hb:∀ k,bz=some k->w.heap.size<=k)(ho:Own a bz b'):∀ k,b'=some k->w.heap.size<=k:=by
 intro k hk;rcases ho with rfl|⟨j,rfl,hj⟩
 ·exact hb k hk
 ·injection hk with hk;omega
theorem dY4(d:Nat)(w:World)(h:Suffixer w d):Calls prog 331 #[.agg #[.pointer (some ⟨d,0,none⟩)],.string ⟨#[71,105]⟩] w (aK4 w 2 30 fBin true) :=
 aG6 d _ w 2 30 fBin true (fun w1 hk=>aF7 d _ w1 (h.kept hk) 2 30 2 lk_Gi.1 lk_Gi.2) (by rw[ByteArray.toList_eq];rfl) (by rw[ByteArray.toList_eq];rfl) (by rw[ByteArray.toList_eq];rfl) (by rw[ByteArray.toList_eq];rfl) (by rw[ByteArray.toList_eq];rfl) (by rw[ByteArray.toList_eq];rfl) (by rw[ByteArray.toList_eq];rfl)
theorem aw_ne:(aw.toList==[48])=false:=by rw[ByteArray.toList_eq];rfl
theorem fld63(p:Option Addr)(w:World):(Instr.field 63 (.agg #[.pointer p]) 0).run prog w=.ok (.pointer p) w:=by kernel_rfl
def AwRes(w:World)(e:Ending)(w':World):Prop :=
 ∃ d b,e=.returned (.tuple #[.agg #[.int .i64 0,.int .i32 0,.pointer (some ⟨d,0,none⟩),.string ⟨#[]⟩,fBin],.nilIface])/\w.heap.size<=d/\DecAt w' d 1610612736000000000 9 b/\Kept (fun _=>False) w w'/\(∀ k,b=some k->w.heap.size<=k)
theorem bV9(w:World)(ev:Value)(a:Addr)(hev0:w.cell? ⟨0,0,none⟩=some ev)(heof:Eof w a):Calls prog 27 #[.string aw] w (AwRes w):=by
 have k0:Kept (fun _=>False) w (w.alloc (.cells zQ 66)):=(Kept.refl _ _).alloc _;have h0:=aA0 w (.cells zQ 66);have HB:=hiD h0;have hp:=aG5 aw (by decide) (w.alloc (.cells zQ 66)) _ (aC9 k0 hev0);rw[pq_aw]at hp;have HP:=hiD hp;have K0:=hiD k0;have HE:=hiD heof;have q1:=fun w=>e_nn0 w
 have q2:=fun w=>aL4 w
 have q3:=fun d w=>aS5 d w
 have hz:((aw.size:Int)==0)=false:=rfl;have q4:=fun p w=>fld63 p w
 have hz2:=aw_ne;clear hp k0 hev0 h0 heof;go_enter func27,ntmps27;go_wp2_with fail;refine HP.out.mono ?_;rintro e w1 ⟨rfl,hk⟩;have K1:=hiD (K0.out.same hk);have B1:=hiD (hk.at HB.out (fun f=>f));clear hk HP HB;simp only[pqV];go_wp2_with fail;refine(aC3 w1).mono ?_;rintro e w2 ⟨dd,rfl,hdd,hsf,hk⟩;have K2:=hiD (K1.out.same hk);have B2:=hiD (hk.at B1.out (fun f=>f));have HC:=hiD (dY4 dd w2 hsf);clear hk hsf B1 K1;go_wp2_with fail;refine HC.out.mono ?_;rintro e w3 ⟨rfl,hk⟩;have K3:=hiD (K2.out.same hk);have B3:=hiD (hk.at B2.out (fun f=>f));have k4:Kept (fun _=>False) w (w3.alloc zDec):=K3.out.alloc _;have Z4:=hiD (aL7 w3);have hdq:w.heap.size<w3.heap.size:=aB5 B3.out;have B4:=hiD (((Kept.refl (fun _=>False) w3).alloc zDec).at B3.out (fun f=>f));have K4:=hiD k4;clear hk B2 k4 B3 HC;simp only[fBin];simp only[zDec]at K4 Z4 B4;go_wp2_with fail;generalize hw4:w3.alloc (.cells #[.bool false,.slice none 0 0,.int .i32 0] 112)=w4 at *;clear hw4;have hw4s:=aB5 B4.out;generalize hd:w3.heap.size=d at *;clear hd;have he4:Eof w4 a:=aC9 K4.out HE.out;refine(aV0 d 1 0 0 none ⟨#[49,46,53]⟩ uaw a w4 Z4.out (by decide) (by decide) he4 cY1 (by simp) 15 (by decide) 1 (by decide)).mono ?_;rintro e w5 ⟨rfl,b5,hd5,ho5,hk5⟩;have K5:=hiD (bE8 K4.out hk5 (by omega) (by simp));have F5:=hiD (aZ6 K4.out.size (by simp) ho5);have hq5:∀ k,b5=some k->w4.heap.size<=k:=aZ6 (Nat.le_refl _) (by simp) ho5;have D5:=hiD hd5;have B5:=hiD (hk5.at B4.out (by simp;omega));clear hk5 ho5 hd5 B4 K4 Z4 he4 K3 K2;go_wp2_with fail;refine(aD4 1 (by omega) w5).mono ?_;rintro e w6 ⟨x1,c1,rfl,hx1,hi1,hk,hf1⟩;have K6:=hiD (aE3 K5.out hk);have D6:=hiD (IntAt.old D5.out hk);have B6:=hiD (hk.at B5.out (fun f=>f));have X1:=hiD hi1;have X1l:=hiD hi1;have hd5:=IntAt.lt D5.out;have s5:=K5.out.size;have F1:=hiD hf1;have hs65:=hk.size;clear hk hi1 hf1 B5;go_wp2_with fail;refine(aD4 1 (by omega) w6).mono ?_;rintro e w7 ⟨x2,c2,rfl,hx2,hi2,hk,hf2⟩;have K7:=hiD (aE3 K6.out hk);have D7:=hiD (IntAt.old D6.out hk);have Y1:=hiD (IntAt.old X1.out hk);have B7:=hiD (hk.at B6.out (fun f=>f));have X2:=hiD hi2;have hx1l:=IntAt.lt X1.out;clear hk hi2 B6 D6 K5 K6 X1;have hx12:x1≠x2:=by omega
 have hc12:c1≠some x2:=by
  intro h;obtain⟨v,h1,h2,h3⟩:=Y1.out;rw[h]at h2;have:=NatAt.lt h2;have hb1:=F1.out x2 h;have:x2<w6.heap.size:=by
   obtain⟨v',g1,g2,g3⟩:=X1l.out;rw[h]at g2;exact NatAt.lt g2
  omega
 go_wp2_with fail;refine(aW5 x1 x2 30 1 c1 c2 [] [] 109 109 w7 Y1.out X2.out hc12 hx12 (by omega) (by omega)).mono ?_;rintro e w8 ⟨rfl,c3,hi3,hk,ho3⟩;have hnd:¬ (d=x1\/c1=some d):=by
  intro h;rcases h with h|h
  ·omega
  ·have:=F1.out d h;omega
 have K8:=hiD (bE8 K7.out hk (by omega) (fun k h=>by have:=F1.out k h;omega));have D8:=hiD (IntAt.kept D7.out hk hnd (fun k h1 h2=>by
  rcases h2 with h2|h2
  ·have:=IntAt.lts D5.out k h1;omega
  ·have:=IntAt.lts D5.out k h1;have:=F1.out k h2;omega))
 have B8:=hiD (hk.at B7.out (fun h=>by
  rcases h with h|h
  ·omega
  ·have:=F1.out _ h;omega))
 have I8:=hiD hi3;have O3:=hiD ho3;clear hk hi3 ho3 B7 D7 K7 Y1 X2 hnd;go_wp2_with fail;refine(aA4 d 15 1 b5 w8 D8.out).mono ?_;rintro e w8' ⟨rfl,rfl⟩;go_wp2_with fail;have hdx1:d≠x1:=by omega
 have hb5:b5≠some x1:=by intro h;have:=IntAt.lts D5.out x1 h;omega
 refine(aI7 d d x1 15 15 ((2^30:Nat):Int) b5 b5 c3 [.int .i32 1] [.int .i32 1] [] 112 112 109 w8 D8.out D8.out I8.out hdx1 (Or.inl rfl) hdx1 hb5 (by decide) (by decide) (Sm.one (by decide))).mono ?_;rintro e w9 ⟨rfl,b9,hd9,hk,ho9⟩;have hs8:=K8.out.size;have K9:=hiD (bE8 K8.out hk (by omega) F5.out);have F9:=hiD (aZ6 hs8 F5.out ho9);have hq:w.heap.size≠d:=by omega
 have B9:=hiD (hk.at B8.out (fun h=>by
  rcases h with h|h
  ·omega
  ·have h1:=F5.out _ h;obtain⟨v,g1,g2,g3⟩:=D5.out;have g4:=hq5 _ h;omega))
 have D9:Hid (DecAt w9 d 16106127360 1 b9):=hiD hd9;have hl8:=IntAt.lt D8.out;have hq9:¬ (b9=some w.heap.size):=by
  intro h;rcases ho9 with h'|⟨j,h1,h2⟩
  ·have:=hq5 _ (h'▸h);omega
  ·rw[h1]at h;injection h with h;omega
 clear hk hd9 ho9 D8 B8 I8 K8 O3 hs8;go_wp2_with fail;refine(aF8 d 16106127360 1 b9 w9 D9.out).mono ?_;rintro e w9' ⟨rfl,rfl⟩;go_wp2_with fail;refine(aU1 d 16106127360 1 b9 w9 D9.out).mono ?_;rintro e w9' ⟨rfl,rfl⟩;have hsg:sgn 16106127360=1:=by decide
 rw[hsg];go_wp2_with fail;refine(bD7 d 16106127360 1 b9 w9 D9.out (by decide)).mono ?_;rintro e w10 ⟨rfl,hk⟩;have K10:=hiD (aE3 K9.out hk);have D10:=hiD (IntAt.old D9.out hk);have B10:=hiD (hk.at B9.out (fun f=>f));clear hk K9 D9 B9;go_wp2_with fail;refine(aC8 (-9) w10 (by omega)).mono ?_;rintro e w10' ⟨rfl,rfl⟩;go_wp2_with fail;refine(aE4 w10).mono ?_;rintro e w10' ⟨rfl,rfl⟩;go_wp2_with fail;refine(aT0 d d 16106127360 1 16106127360 1 1610612736000000000 1 9 b9 b9 w10 D10.out D10.out (fun w' y c hx hy=>by
  have:=dE4 (k:=8) (M:=100000000) (s:=9) (by decide) (by omega) (by omega) (by omega) hx hy (by omega) (by decide) (Sm.one (by decide));exact this) (Sm.one (by decide))).mono ?_
 rintro e w11 ⟨rfl,b11,hd11,hk,ho11⟩;have K11:=hiD (bE8 K10.out hk (by omega) F9.out);have F11:=hiD (aZ6 K10.out.size F9.out ho11);have hl10:=K10.out.size;have B11:=hiD (hk.at B10.out (fun h=>by
  rcases h with h|h
  ·omega
  ·exact hq9 h))
 have D11:=hiD hd11;have hl10':=IntAt.lt D10.out;have hq11':¬ (b11=some w.heap.size):=by
  intro h;rcases ho11 with h'|⟨j,h1,h2⟩
  ·exact hq9 (h'▸h)
  ·rw[h1]at h;injection h with h;omega
 clear hk hd11 ho11 D10 B10 K10;go_wp2_with fail;refine(aN6 w11).mono ?_;rintro e w12 ⟨p,bp,rfl,hp,hdp,hk,hfp⟩;have K12:=hiD (aE3 K11.out hk);have D12:=hiD (IntAt.old D11.out hk);have P12:=hiD hdp;have B12:=hiD (hk.at B11.out (fun f=>f));clear hk hdp K11 D11 B11;go_wp2_with fail;refine(bB0 d p 9 1000000000 (by decide) 1610612736000000000 9223372036854775807 9 0 b11 bp w12 D12.out P12.out (by omega) (by omega) (by omega) (by omega) (by omega) (Nat.le_trans (aD3 (k:=1) (by decide)) (by omega))).mono ?_;have hc1:cmpZ 1610612736000000000 (9223372036854775807*((1000000000:Nat):Int)) = -1:=by decide
 rw[hc1];rintro e w13 ⟨rfl,hk⟩;have K13:=hiD (aE3 K12.out hk);have D13:=hiD (IntAt.old D12.out hk);have B13:=hiD (hk.at B12.out (fun f=>f));clear hk K12 D12 B12 P12 hc1;go_wp2_with fail;refine(aI6 1 0 w13 (by decide)).mono ?_;rintro e w14 ⟨y,by_,rfl,hy,hdy,hk,hfy⟩;have K14:=hiD (aE3 K13.out hk);have D14:=hiD (IntAt.old D13.out hk);have Y14:=hiD hdy;have B14:=hiD (hk.at B13.out (fun f=>f));clear hk hdy K13 D13 B13;go_wp2_with fail;refine(bB0 d y 9 1000000000 (by decide) 1610612736000000000 1 9 0 b11 by_ w14 D14.out Y14.out (by omega) (by omega) (by omega) (by omega) (by omega) (Nat.le_trans (aD3 (k:=1) (by decide)) (by omega))).mono ?_;have hc2:cmpZ 1610612736000000000 (1*((1000000000:Nat):Int))=1:=by decide
 rw[hc2];rintro e w15 ⟨rfl,hk⟩;have K15:=hiD (aE3 K14.out hk);have D15:=hiD (IntAt.old D14.out hk);have b15:=hk.at B14.out (fun f=>f);obtain⟨c0,c1',c2',c3',c4'⟩:=aC7 b15;have f0:=aA1 b15 0;have f1:=aA1 b15 1;have f2:=aA1 b15 2;have f3:=aA1 b15 3;have f4:=aA1 b15 4;have g:=cR9 b15 (.int .i64 0) (.int .i32 0) (.pointer (some ⟨d,0,none⟩)) (.string ⟨#[]⟩) (.string ⟨#[66,105,110,97,114,121,83,73]⟩);generalize hW:(((((w15.setCell ⟨w.heap.size,0,none⟩ (.int .i64 0)).setCell ⟨w.heap.size,1,none⟩ (.int .i32 0)).setCell ⟨w.heap.size,2,none⟩ (.pointer (some ⟨d,0,none⟩))).setCell ⟨w.heap.size,3,none⟩ (.string ⟨#[]⟩)).setCell ⟨w.heap.size,4,none⟩ (.string ⟨#[66,105,110,97,114,121,83,73]⟩))=W at g;have G1:=hiD g.1;have G2:=hiD g.2;clear hk K14 D14 B14 Y14 hc2 g b15;go_wp2_with fail;obtain⟨d0,d1,d2,d3,d4⟩:=aC7 G1.out;have hq11:∀ k,b11=some k->¬ (k=w.heap.size):=by
  intro k hk e;subst e;exact hq11' hk
 have hds:d≠w.heap.size:=by omega
 refine bodyPost_ret (v:=.tuple #[.agg #[.int .i64 0,.int .i32 0,.pointer (some ⟨d,0,none⟩),.string ⟨#[]⟩,fBin],.nilIface]) ?_ rfl ⟨d,b11,rfl,by omega,IntAt.kept D15.out G2.out hds hq11,K15.out.trans G2.out (fun _ _ f=>f) (fun i hi h=>by omega),F11.out⟩;simp[results,Tryz.f27,loadVar,go_sem,d0,d1,d2,d3,d4,fBin]
theorem dS7(a:Option Addr)(w:World):(Go.method 525 63 (.agg #[.pointer a]) "AsCanonicalBase1024Bytes").run prog w=.ok (319,.agg #[.pointer a]) w:=by kernel_rfl
theorem bW0(p d:Nat)(s fmt:ByteArray)(q:Nat)(b:Option Nat)(w:World)(h:QtyAt w p d s fmt)(hd:DecAt w d ((q*1000000000:Nat):Int) 9 b)(hq:q*1000000000<B64):
  Calls prog 113 #[.pointer (some ⟨p,0,none⟩),.int .i32 0] w fun e w'=>∃ t c,e=.returned (.tuple #[.iface 63 (.agg #[.pointer (some ⟨t,0,none⟩)]),.bool true])/\DecAt w' t (q:Int) 0 c/\Kept (fun _=>False) w w':=by
 obtain⟨c1,c2⟩:=aT1 h;have n1:=fun a w=>d_neq a w
 have H:=hiD (bG4 d q b w hd hq);clear h hd;go_enter func113,ntmps113;go_wp2_with fail;refine H.out.mono ?_;rintro e w1 ⟨t,c,rfl,h1,h2,h3,h4⟩;go_wp2_with fail;go_ret2;exact⟨t,c,rfl,h2,h3⟩
theorem aw_t{t:Nat}(h1:1024^t∣1610612736)(h2:1610612736/1024^t%1024≠0):t=2:=by
 match t with
 | 0=>exact absurd (by decide) h2
 | 1=>exact absurd (by decide) h2
 | 2=>rfl
 | k+3 =>
  have h3:1024^3∣1610612736:=Nat.dvd_trans (Nat.pow_dvd_pow 1024 (by omega)) h1;exact absurd h3 (by decide)
theorem dH5{w:World}{g cap:Nat}{cs:Array Value}{fr:Nat×Nat}(l:List Nat)(t:ByteArray)(hh:w.heap[g]? = some (.cells cs 5 fr))(hb:HasB cs 0 l)(hl:l.length=t.size)(ht:∀ j (h:j<t.size),l.getD j 0=t[j].toNat):BytesAt w (.slice (some ⟨g,0,none⟩) l.length cap) t:=by
 refine⟨g,cap,cs,fr,by rw[hl],hh,fun j hj=>?_⟩;have:=hb j (by omega);rw[Nat.zero_add]at this;rw[this,ht j hj]
theorem dH6(p d:Nat)(b:Option Nat)(w:World)(h:QtyAt w p d ⟨#[]⟩ ⟨#[66,105,110,97,114,121,83,73]⟩)(hd:DecAt w d 1610612736000000000 9 b)(hleaf:Leaf w):
  Calls prog 76 #[.pointer (some ⟨p,0,none⟩),.slice none 0 0] w fun e w'=>∃ v1 v2,e=.returned (.tuple #[v1,v2])/\BytesAt w' v1 ⟨#[49,53,51,54]⟩/\BytesAt w' v2 ⟨#[77,105]⟩/\Kept (fun _=>False) w w':=by
 obtain⟨c1,c2⟩:=aT1 h;have HQ:=hiD h;have HD:=hiD hd;have HL:=hiD hleaf;have q1:=fun a w=>dS7 a w
 have q2:=fun d w=>dW3 d w
 clear h hd;go_enter func76,ntmps76;go_wp2_with fail;refine(cM5 p d _ _ 1610612736000000000 9 b w HQ.out HD.out (by omega)).mono ?_;rintro e w1 ⟨rfl,rfl⟩;go_wp2_with fail;refine(aY5 p d _ _ 1610612736000000000 (-1024) b w HQ.out HD.out (by decide)).mono ?_;have hc1:cmpZ 1610612736000000000 (-1024*1000000000)=1:=by decide
 rw[hc1];rintro e w1 ⟨rfl,hk⟩;have K1:=hiD hk;have Q1:Hid (QtyAt w1 p d _ _):=hiD (hk.at HQ.out (fun f=>f));have D1:=hiD (IntAt.old HD.out hk);clear hk hc1;go_wp2_with fail;refine(aY5 p d _ _ 1610612736000000000 1024 b w1 Q1.out D1.out (by decide)).mono ?_;have hc1:cmpZ 1610612736000000000 (1024*1000000000)=1:=by decide
 rw[hc1];rintro e w2 ⟨rfl,hk⟩;have K2:=hiD (K1.out.same hk);have Q2:Hid (QtyAt w2 p d _ _):=hiD (hk.at Q1.out (fun f=>f));have D2:=hiD (IntAt.old D1.out hk);clear hk hc1;go_wp2_with fail;refine(bW0 p d _ _ 1610612736 b w2 Q2.out D2.out (by decide)).mono ?_;rintro e w3 ⟨t,c,rfl,ht,hk⟩;have K3:=hiD (K2.out.same hk);have T3:=hiD ht;clear hk ht;go_wp2_with fail;have hl3:Leaf w3:=HL.out.kept K3.out (fun f=>f);refine(dH4 t 1610612736 c w3 T3.out (by decide) (by decide) hl3 (cell_lt hl3)).mono ?_;rintro e w4 ⟨k,g,cap,cs,rfl,hdv,hm,hg,hb,hk⟩;obtain rfl:=aw_t hdv hm;have hdc:decs (1610612736/1024^2)=[49,53,51,54]:=by
  rw[show 1610612736/1024^2=1536 by decide,aX8 (by omega),aX8 (n:=1536/10) (by omega),aX8 (n:=1536/10/10) (by omega),aT9 (by omega)];rfl
 rw[hdc]at hb ⊢;have K4:=hiD (K3.out.same hk);have B4:=hiD (dH5 (cap:=cap) [49,53,51,54] ⟨#[49,53,51,54]⟩ hg hb rfl (fun j hj=>by
  have h':j<4:=hj
  match j,h' with
  | 0,_=>rfl
  | 1,_=>rfl
  | 2,_=>rfl
  | 3,_=>rfl))
 clear hk hg hb hdc hdv hm;go_wp2_with fail;refine(aC3 w4).mono ?_;rintro e w5 ⟨dd,rfl,hdd,hsf,hk⟩;have K5:=hiD (K4.out.same hk);have B5:=hiD (B4.out.kept hk (fun _ _ _ _ f=>f));have HC:=hiD (bL9 dd 2 20 ⟨#[77,105]⟩ w5 hsf lk_Mi);clear hk hsf;simp only[fBin]at HC;go_wp2_with fail;refine HC.out.mono ?_;rintro e w6 ⟨v,rfl,hv,hk⟩;go_wp2_with fail;go_ret2;exact⟨_,v,rfl,B5.out.kept hk (fun _ _ _ _ f=>f),hv,K5.out.same hk⟩
theorem bL2{w:World}{v:Value}{t:ByteArray}(h:BytesAt w v t):(convert 57 9 v).run prog w=.ok (.string t) w:=by
 obtain⟨g,cap,cs,fr,rfl,h1,h2⟩:=h;have hl:t.data.toList.length=t.size:=by simp
 have:=run_convert_bytes_back (P:=prog) w 57 9 5 ⟨g,0,none⟩ cap t.data.toList underlying57 underlying5 underlying9 (fun j hj=>by
  have hj':j<t.size:=by omega
  have e:=h2 j hj';have e2:(⟨g,0,none⟩:Addr).add j=⟨g,j,none⟩:=by simp[Addr.add]<;>omega
  rw[e2,aA2 h1,e];rfl)
 rw[hl]at this;rw[this]
theorem bW1(p d:Nat)(b:Option Nat)(w:World)(h:QtyAt w p d ⟨#[]⟩ ⟨#[66,105,110,97,114,121,83,73]⟩)(hd:DecAt w d 1610612736000000000 9 b)(hleaf:Leaf w):
  Calls prog 39 #[.pointer (some ⟨p,0,none⟩)] w fun e w'=>e=.returned (.string ⟨#[49,53,51,54,77,105]⟩)/\Kept (fun _=>False) w w':=by
 have H:=hiD (dH6 p d b w h hd hleaf);clear h hd hleaf;go_enter func39,ntmps39;go_wp2_with fail;refine H.out.mono ?_;rintro e w1 ⟨v1,v2,rfl,h1,h2,hk⟩;have g1:=bL2 h1;have g2:=bL2 h2;have HK:=hiD hk;clear h1 h2 hk;go_wp2_with fail;go_ret;exact⟨rfl,HK.out⟩
theorem bW2(w:World):Calls prog 47 #[.string ⟨#[66,105,110,97,114,121,83,73]⟩] w fun e w'=>e=.returned (.int .i64 1)/\w=w':=by
 go_enter func47,ntmps47;go_wp2_with fail;go_ret;exact⟨rfl,rfl⟩
theorem dS8(w:World)(ev:Value)(a:Addr)(hev0:w.cell? ⟨0,0,none⟩=some ev)(heof:Eof w a)(hleaf:Leaf w):
  Calls prog 32 #[.string aw] w fun e w'=>e=.returned (.tuple #[.string ⟨#[49,53,51,54,77,105]⟩,.int .i64 1,.int .i64 0])/\Kept (fun _=>False) w w':=by
 have H:=hiD (bV9 w ev a hev0 heof);have HL:=hiD hleaf;have q1:=fun w=>e_nn0 w
 clear hev0 heof hleaf;go_enter func32,ntmps32;go_wp2_with fail;refine H.out.mono ?_;rintro e w1 ⟨d,b,rfl,hd,hdd,hk,hf⟩;have k2:Kept (fun _=>False) w (w1.alloc (.cells #[.int .i64 0,.int .i32 0,.pointer (some ⟨d,0,none⟩),.string ⟨#[]⟩,.string ⟨#[66,105,110,97,114,121,83,73]⟩] 66)):=hk.alloc _;have hq:=aA0 w1 (.cells #[.int .i64 0,.int .i32 0,.pointer (some ⟨d,0,none⟩),.string ⟨#[]⟩,.string ⟨#[66,105,110,97,114,121,83,73]⟩] 66);have d2:=IntAt.old hdd ((Kept.refl (fun _=>False) w1).alloc (.cells #[.int .i64 0,.int .i32 0,.pointer (some ⟨d,0,none⟩),.string ⟨#[]⟩,.string ⟨#[66,105,110,97,114,121,83,73]⟩] 66));have K2:=hiD k2;have D2:=hiD d2;have Q2:=hiD hq;simp only[fBin];clear k2 d2 hq hk hdd hf H;go_wp2_with fail;generalize hp:w1.heap.size=p at *;generalize hW:w1.alloc (.cells #[.int .i64 0,.int .i32 0,.pointer (some ⟨d,0,none⟩),.string ⟨#[]⟩,.string ⟨#[66,105,110,97,114,121,83,73]⟩] 66)=W at *;clear hp hW;have q0:QtyAt W.drew p d ⟨#[]⟩ ⟨#[66,105,110,97,114,121,83,73]⟩:=Q2.out;have c4:=(aT1 q0).2;have hleafW:Leaf W.drew:=aC9 K2.out.drew HL.out;have HR:Hid (Calls prog 39 #[.pointer (some ⟨p,0,none⟩)] W.drew fun e w'=>e=.returned (.string ⟨#[49,53,51,54,77,105]⟩)/\w'.cell? ⟨p,4,none⟩=some (.string ⟨#[66,105,110,97,114,121,83,73]⟩)/\Kept (fun _=>False) w w') :=
  (bW1 p d b W.drew q0 (IntAt.drewN D2.out 1) hleafW).mono (fun e w' h=>⟨h.1,aC9 h.2 c4,K2.out.drew.same h.2⟩)
 clear q0 hleafW
 go_region_with (first|(go_at_call 39;refine HR.out.mono ?_;rintro e w9 ⟨rfl,c9,hk9⟩;have K9:=hiD hk9;clear hk9)|(go_at_call 47;refine(bW2 _).mono ?_;rintro e w8 ⟨rfl,rfl⟩))
 all_goals
  go_wp2_with fail;go_ret3;exact⟨rfl,K9.out⟩
theorem awake(w:World)(ev:Value)(a:Addr)(hev0:w.cell? ⟨0,0,none⟩=some ev)(heof:Eof w a)(hleaf:Leaf w):
  Calls prog 12 #[] w fun e w'=>e=.returned (.bool true)/\Kept (fun _=>False) w w':=by
 have H:=hiD (dS8 w ev a hev0 heof hleaf);simp only[aw]at H;clear hev0 heof hleaf;go_enter func12,ntmps12;go_wp2_with fail;refine H.out.mono ?_;rintro e w1 ⟨rfl,hk⟩;go_wp2_with fail;go_ret;exact⟨rfl,hk⟩
structure PVal (value:ByteArray) (neg:Bool) (U:Int) (dd:Nat):Prop where
 ex:∃ pt o g,SpellG value pt o neg g/\o+1<=cnt pt value.size/\U=sgZ neg (dval (fun j=>g (o+j)-48) (cnt pt value.size-o))/\(dd:Int)=if pt<value.size then(cnt pt value.size:Int)-pt else 0
 sz:value.size<=200
def R9(A:Nat)(sc:Int)(q:Nat):Prop:=(sc=9/\q=A)\/(∃ k:Nat,k<=180/\1<=k/\sc-9=(k:Int)/\A=q*10^k)\/(∃ k:Nat,1<=k/\k<40/\9-sc=(k:Int)/\q=A*10^k/\(k<20\/A<B64))
def PqNum(U sc:Int)(Q:Nat)(n9 s9:Int):Prop:=(U=0->n9=0/\s9=sc)/\(U<0->n9 = -(Q:Int)/\s9=9)/\(0<U->n9=(Q:Int)/\s9=9)
structure Own9 (w:World) (d q:Nat) (b:Option Nat) (n sc:Int) (wx:World):Prop where
 at':DecAt wx d n sc b
 k:Kept (fun _=>False) w wx
 res:wx.heap[q]? = some (.cells zQ 66 (0,0))
 hd:q<d
 hb:∀ j,b=some j->q<j
theorem Own9.old{w wx wy:World}{d q:Nat}{b:Option Nat}{n sc:Int}(h:Own9 w d q b n sc wx)(hk:Kept (fun _=>False) wx wy):Own9 w d q b n sc wy :=
 ⟨IntAt.old h.at' hk,h.k.same hk,hk.at h.res (fun f=>f),h.hd,h.hb⟩
theorem Own9.set{w wx wy:World}{d q:Nat}{b b':Option Nat}{n n' sc sc':Int}(hq:w.heap.size=q)(h:Own9 w d q b n sc wx)(h1:DecAt wy d n' sc' b')(hk:Kept (fun k=>k=d\/b=some k) wx wy)(ho:Own wx b b'):Own9 w d q b' n' sc' wy:=by
 refine⟨h1,h.k.trans hk (fun _ _ f=>f) (fun i hi e=>?_),hk.at h.res (fun e=>?_),h.hd,fun j hj=>?_⟩
 ·have:=h.hd;rcases e with e|e
  ·omega
  ·have:=h.hb i e;omega
 ·have:=h.hd;rcases e with e|e
  ·omega
  ·have:=h.hb _ e;omega
 ·rcases ho with e|⟨j',e,hj'⟩
  ·exact h.hb j (by rw[<- e,hj])
  ·rw[e]at hj;injection hj with hj;have:=aB5 h.res;omega
theorem Own9.set1{w wx wy:World}{d q:Nat}{b:Option Nat}{n n' sc sc':Int}(hq:w.heap.size=q)(h:Own9 w d q b n sc wx)(h1:DecAt wy d n' sc' b)(hk:Kept (fun k=>k=d) wx wy):Own9 w d q b n' sc' wy :=
 h.set hq h1 (hk.mono (fun _ _ e=>Or.inl e)) (Or.inl rfl)
def PqSlow(w:World)(n sc:Int)(f:ByteArray)(e:Ending)(w':World):Prop :=
 (∃ d b,e=.returned (.tuple #[.agg #[.int .i64 0,.int .i32 0,.pointer (some ⟨d,0,none⟩),.string ⟨#[]⟩,.string f],.nilIface])/\w.heap.size<=d/\DecAt w' d n sc b/\(∀ k,b=some k->w.heap.size<=k))/\Kept (fun _=>False) w w'
theorem bE9{w w1:World}{d q:Nat}{b:Option Nat}{n sc:Int}(h:Own9 w d q b n sc w1)(hq:w.heap.size=q)(f:ByteArray):
  ∃ W,W=(((((w1.setCell ⟨q,0,none⟩ (.int .i64 0)).setCell ⟨q,1,none⟩ (.int .i32 0)).setCell ⟨q,2,none⟩ (.pointer (some ⟨d,0,none⟩))).setCell ⟨q,3,none⟩ (.string ⟨#[]⟩)).setCell ⟨q,4,none⟩ (.string f))/\W.heap[q]? = some (.cells #[.int .i64 0,.int .i32 0,.pointer (some ⟨d,0,none⟩),.string ⟨#[]⟩,.string f] 66 (0,0))/\(w.heap.size<=d/\DecAt W d n sc b/\∀ k,b=some k->w.heap.size<=k)/\Kept (fun _=>False) w W:=by
 have g:=cR9 h.res (.int .i64 0) (.int .i32 0) (.pointer (some ⟨d,0,none⟩)) (.string ⟨#[]⟩) (.string f);have h1:=h.hd;refine⟨_,rfl,g.1,⟨by omega,IntAt.kept h.at' g.2 (by omega) (fun k hk e=>by have:=h.hb k hk;omega),fun k hk=>by have:=h.hb k hk;omega⟩,h.k.trans g.2 (fun _ _ f=>f) (fun i hi e=>by omega)⟩
theorem bD0{U:Int}(h:U<0):(sgn U == -1)=true:=by unfold sgn;rw[if_neg (by omega),if_pos h];rfl
theorem bD1{U:Int}(h:0<=U):(sgn U == -1)=false:=by
 unfold sgn;split
 ·rfl
 ·rw[if_neg (by omega)];rfl
theorem aU7{w wx:World}{d q:Nat}{b:Option Nat}{A Q:Nat}{sc:Int}(h:Own9 w d q b (A:Int) sc wx)(ht:Thr wx)(hA:A≠0)(hl:(dig A).length<=900)(hQ:Sm Q)(hs:-1000<=sc/\sc<=1000)(hr:R9 A sc Q):
  Calls prog 66 #[.pointer (some ⟨d,0,none⟩),.pointer (some ⟨d,0,none⟩),.int .i32 9,RU] wx (aG3 wx d b (Q:Int) 9):=by
 refine bI2 d d (A:Int) sc (A:Int) (Q:Int) sc 9 b b wx h.at' h.at' ht (by omega) (by rw[Int.natAbs_natCast];exact hl) (by rw[Int.natAbs_natCast];exact hQ) ⟨by omega,by omega,hs.1,hs.2⟩ ?_;rcases hr with⟨h1,h2⟩|⟨k,h1,h2,h3,h4⟩|⟨k,h1,h2,h3,h4,h5⟩
 ·exact Or.inl ⟨h1,by rw[h2]⟩
 ·exact Or.inr (Or.inl ⟨k,h1,h2,h3,by rw[h4];simp⟩)
 ·exact Or.inr (Or.inr ⟨k,h1,h2,h3,by rw[h4];simp,by rw[Int.natAbs_natCast];exact h5⟩)
section
open Go.RowKit
open Go.Proofs.YtjebnpkebccffaaGreatDoorW.PrintLast
theorem sgnD_b(d:Dm):-1<=sgnD d/\sgnD d<=1:=by unfold sgnD;split;omega;split<;>omega
open Go.RowKit
open Go.Proofs.YtjebnpkebccffaaGreatDoorW.PrintLast
end
theorem bP6(d:Dm)(exp:Int):(wideL d exp).length<=d.ds.length+(d.e-exp).toNat:=by
 unfold wideL;split
 ·simp
 ·simp[zs]
theorem cJ1{d:Dm}{exp:Int}(h:∀ x∈d.ds,x<=9):∀ x∈wideL d exp,x<=9:=by
 unfold wideL;intro x hx;split at hx
 ·simp at hx
 ·rcases List.mem_append.1 hx with hx|hx
  ·exact h x hx
  ·simp[zs]at hx;omega
def digS:ByteArray:=⟨#[48,49,50,51,52,53,54,55,56,57]⟩
def dv:List Nat->Nat
 | []=>0
 | x::l=>x*10^l.length+dv l
theorem bW3:∀(l:List Nat) (j y:Nat),j<l.length->dv (l.set j y)+l.getD j 0*10^(l.length-1-j)=dv l+y*10^(l.length-1-j):=by
 intro l
 induction l with
 | nil=>intro j y h;simp at h
 | cons x l ih =>
  intro j y h;cases j with
  | zero=>simp[dv,List.getD];omega
  | succ j =>
   have:=ih j y (by simpa using h);have e:(x::l).length-1-(j+1)=l.length-1-j:=by simp;omega
   rw[e];simp only[List.set_cons_succ,dv,List.length_set,List.getD_cons_succ];omega
theorem cD0(l:List Nat)(x:Nat):dv (l++[x])=10*dv l+x:=by
 induction l with
 | nil=>simp[dv]
 | cons y l ih =>
  simp only[List.cons_append,dv,List.length_append,List.length_cons,List.length_nil,Nat.zero_add];rw[ih,Nat.pow_succ,Nat.mul_add];have:y*(10^l.length*10)=10*(y*10^l.length):=by rw[<- Nat.mul_assoc,Nat.mul_comm]
  omega
theorem bW4(l:List Nat)(i:Nat)(h:i<l.length):l.take (i+1)=l.take i++[l.getD i 0]:=by
 rw[List.take_add_one,List.getElem?_eq_getElem h];simp[List.getD,h]
theorem bI3(l:List Nat)(i:Nat)(h:i<l.length):dv (l.take (i+1))=10*dv (l.take i)+l.getD i 0:=by
 rw[bW4 l i h,cD0]
theorem dv_lt(l:List Nat)(h:∀ x∈l,x<=9):dv l<10^l.length:=by
 induction l with
 | nil=>simp[dv]
 | cons x l ih =>
  have h1:=ih (fun y hy=>h y (List.mem_cons_of_mem _ hy));have h2:=h x (List.mem_cons_self ..);simp only[dv,List.length_cons,Nat.pow_succ];have h3:x*10^l.length<=9*10^l.length:=Nat.mul_le_mul_right _ h2;omega
theorem dv_zs(n:Nat):dv (List.replicate n 0)=0:=by
 induction n with
 | zero=>rfl
 | succ n ih=>simp[List.replicate_succ,dv,ih]
theorem cY2(l:List Nat)(h:0<l.length):l.getD 0 0*10^(l.length-1)<=dv l:=by
 cases l with
 | nil=>simp at h
 | cons x l=>simp[dv,List.getD]
theorem aN4(l:List Nat)(i j y:Nat)(h:i<l.length):(l.set i y).getD j 0=if i=j then y else l.getD j 0:=by
 simp only[List.getD,List.getElem?_set];split
 ·simp_all
 ·rfl
theorem dH7{l:List Nat}{x:Nat}(h:x∈l):∃ j,j<l.length/\l.getD j 0=x:=by
 obtain⟨j,hj,e⟩:=List.mem_iff_getElem.1 h;exact⟨j,hj,by simp[List.getD,hj,e]⟩
theorem aL0{l:List Nat}{j:Nat}(h:j<l.length):l.getD j 0∈l:=by
 simp only[List.getD,List.getElem?_eq_getElem h,Option.getD_some];exact List.getElem_mem h
def TI(A B:List Nat)(i k:Nat)(l:List Nat):Prop :=
 l.length=A.length+B.length+1/\(∀ j,l.getD j 0<=81*(i*B.length+k))/\dv l=dv (A.take i)*10^(A.length-i)*dv B+A.getD i 0*10^(A.length-1-i)*(dv (B.take k)*10^(B.length-k))
theorem TI.start(A B:List Nat):TI A B 0 0 (List.replicate (A.length+B.length+1) 0):=by
 refine⟨by simp,fun j=>?_,?_⟩
 ·simp only[List.getD,List.getElem?_replicate];split<;>simp
 ·rw[dv_zs];simp[dv]
theorem TI.step{A B l:List Nat}{i k:Nat}(h:TI A B i k l)(hA:∀ x∈A,x<=9)(hB:∀ x∈B,x<=9)(hi:i<A.length)(hk:k<B.length):
  TI A B i (k+1) (l.set (i+k+2) (l.getD (i+k+2) 0+A.getD i 0*B.getD k 0)):=by
 obtain⟨h1,h2,h3⟩:=h;have ha:=hA _ (aL0 hi);have hb:=hB _ (aL0 hk);have hab:A.getD i 0*B.getD k 0<=9*9:=Nat.mul_le_mul ha hb;refine⟨by simp[h1],fun j=>?_,?_⟩
 ·rw[aN4 _ _ _ _ (by omega)];split
  ·have:=h2 (i+k+2);omega
  ·have:=h2 j;omega
 ·have hs:=bW3 l (i+k+2) (l.getD (i+k+2) 0+A.getD i 0*B.getD k 0) (by omega);rw[Nat.add_mul]at hs;have e1:l.length-1-(i+k+2)=(A.length-1-i)+(B.length-(k+1)):=by omega
  rw[e1]at hs;have e2:A.getD i 0*B.getD k 0*10^((A.length-1-i)+(B.length-(k+1)))=A.getD i 0*10^(A.length-1-i)*(B.getD k 0*10^(B.length-(k+1))):=by
   rw[Nat.pow_add];ac_rfl
  have e3:dv (B.take (k+1))*10^(B.length-(k+1))=dv (B.take k)*10^(B.length-k)+B.getD k 0*10^(B.length-(k+1)):=by
   rw[bI3 B k hk,Nat.add_mul,show B.length-k=(B.length-(k+1))+1 by omega,Nat.pow_succ];congr 1
   ac_rfl
  rw[e3,Nat.mul_add,<- e2];omega
theorem TI.row{A B l:List Nat}{i:Nat}(h:TI A B i B.length l)(hi:i<A.length):TI A B (i+1) 0 l:=by
 obtain⟨h1,h2,h3⟩:=h;refine⟨h1,fun j=>?_,?_⟩
 ·have:=h2 j;rw[Nat.add_mul];omega
 ·rw[h3,List.take_length,Nat.sub_self,Nat.pow_zero,Nat.mul_one,<- Nat.add_mul,bI3 A i hi];simp only[List.take_zero,dv,Nat.zero_mul,Nat.mul_zero,Nat.add_zero];congr 1;rw[Nat.add_mul,show A.length-1-i=A.length-(i+1)by omega,show A.length-i=(A.length-(i+1))+1 by omega,Nat.pow_succ];congr 1
  ac_rfl
theorem TI.done{A B l:List Nat}(h:TI A B A.length 0 l):dv l=dv A*dv B:=by
 rw[h.2.2];simp[dv]
def CI(M D L j:Nat)(l:List Nat):Prop:=l.length=L/\dv l=D/\(∀ x,j<x->l.getD x 0<=9)/\(∀ x,x<j->l.getD x 0<=M)/\l.getD j 0<=2*M
theorem CI.start{A B l:List Nat}(h:TI A B A.length 0 l):CI (81*(A.length*B.length)) (dv A*dv B) (A.length+B.length+1) (A.length+B.length) l:=by
 refine⟨h.1,h.done,fun x hx=>?_,fun x _=>?_,?_⟩
 ·rw[List.getD_eq_getElem?_getD,List.getElem?_eq_none (by rw[h.1];omega)];simp
 ·simpa using h.2.1 x
 ·have:=h.2.1 (A.length+B.length);omega
def cstep(l:List Nat)(j:Nat):List Nat:=(l.set (j-1) (l.getD (j-1) 0+l.getD j 0/10)).set j (l.getD j 0%10)
theorem CI.step{M D L j:Nat}{l:List Nat}(h:CI M D L j l)(hj:0<j)(hL:j<L):CI M D L (j-1) (cstep l j):=by
 obtain⟨h1,h2,h3,h4,h5⟩:=h;have hj4:=h4 (j-1) (by omega);have hq:∀ x,(cstep l j).getD x 0=if j=x then l.getD j 0%10 else if j-1=x then l.getD (j-1) 0+l.getD j 0/10 else l.getD x 0:=by
  intro x;rw[cstep,aN4 _ _ _ _ (by simp;omega),aN4 _ _ _ _ (by omega)]
 refine⟨by simp[cstep,h1],?_,fun x hx=>?_,fun x hx=>?_,?_⟩
 ·have s1:=bW3 l (j-1) (l.getD (j-1) 0+l.getD j 0/10) (by omega);have s2:=bW3 (l.set (j-1) (l.getD (j-1) 0+l.getD j 0/10)) j (l.getD j 0%10) (by simp;omega);rw[aN4 _ _ _ _ (by omega),if_neg (by omega),List.length_set]at s2;have e:l.length-1-(j-1)=(l.length-1-j)+1:=by omega
  rw[e,Nat.pow_succ,Nat.add_mul]at s1;show dv (cstep l j)=D;unfold cstep;have hd:=Nat.div_add_mod (l.getD j 0) 10;generalize 10^(l.length-1-j)=P at *;generalize l.getD j 0=y at *;have e2:y*P=y/10*(P*10)+y%10*P:=by
   rw[<- Nat.mul_assoc,Nat.mul_right_comm,<- Nat.add_mul];congr 1;omega
  omega
 ·rw[hq];split
  ·omega
  ·rw[if_neg (by omega)];exact h3 x (by omega)
 ·rw[hq,if_neg (by omega),if_neg (by omega)];exact h4 x (by omega)
 ·rw[hq,if_neg (by omega),if_pos rfl];omega
theorem CI.done{M L n:Nat}{A B l:List Nat}(h:CI M (dv A*dv B) L 0 l)(hL:L=A.length+B.length+1)(hn:n=A.length+B.length)(hA:∀ x∈A,x<=9)(hB:∀ x∈B,x<=9):∀ x∈l,x<=9:=by
 obtain⟨h1,h2,h3,-,-⟩:=h;intro x hx;obtain⟨j,hj,rfl⟩:=dH7 hx;rcases Nat.eq_zero_or_pos j with rfl|hp
 ·have hh:=cY2 l (by omega);have hlt:dv A*dv B<10^A.length*10^B.length:=Nat.mul_lt_mul'' (dv_lt A hA) (dv_lt B hB);rw[<- Nat.pow_add,h2.symm,show A.length+B.length=l.length-1 by omega]at hlt;have:l.getD 0 0*10^(l.length-1)<1*10^(l.length-1):=by omega
  have:=Nat.lt_of_mul_lt_mul_right this;omega
 ·exact h3 j hp
theorem cY3(l:List Nat)(h:∀ x∈l,x<=9):∀ n,n≠0->dgs (n*10^l.length+dv l)=dgs n++l:=by
 induction l with
 | nil=>intro n hn;simp[dv]
 | cons y l ih =>
  intro n hn;have hy:=h y (List.mem_cons_self ..);have e:n*10^(y::l).length+dv (y::l)=(10*n+y)*10^l.length+dv l:=by
   simp only[dv,List.length_cons,Nat.pow_succ,Nat.add_mul];have:n*(10^l.length*10)=10*n*10^l.length:=by
    rw[Nat.mul_comm (10^l.length) 10,<- Nat.mul_assoc,Nat.mul_comm n 10]
   omega
  rw[e,ih (fun x hx=>h x (List.mem_cons_of_mem _ hx)) _ (by omega),aT3 (by omega),show(10*n+y)/10=n by omega,show(10*n+y)%10=y by omega];simp
theorem bW5{x:Nat}(h0:x≠0)(h:x<=9):dgs x=[x]:=by
 rw[aT3 h0,show x/10=0 by omega,aR0,show x%10=x by omega];rfl
theorem bW6(l:List Nat):lead (0::l)=lead l+1:=by simp[lead]
theorem cY4{x:Nat}(l:List Nat)(h:x≠0):lead (x::l)=0:=by simp[lead,h]
theorem dL9(l:List Nat)(h:∀ x∈l,x<=9):dgs (dv l)=l.drop (lead l):=by
 induction l with
 | nil=>simp[dv,aR0]
 | cons x l ih =>
  have hl:=fun y hy=>h y (List.mem_cons_of_mem x hy)
  by_cases hx:x=0
  ·subst hx;rw[bW6,List.drop_succ_cons];simp only[dv,Nat.zero_mul,Nat.zero_add];exact ih hl
  ·rw[cY4 l hx,List.drop_zero];show dgs (x*10^l.length+dv l)=_;rw[cY3 l hl x hx,bW5 hx (h x (List.mem_cons_self ..))];rfl
theorem bD2(n:Nat):dv (dgs n)=n:=by
 induction n using Nat.strongRecOn with
 | _ n ih =>
  by_cases hn:n=0
  ·subst hn;rw[aR0];rfl
  ·rw[aT3 hn,cD0,ih (n/10) (by omega)];omega
theorem bP7(n:Nat):∀ x∈dgs n,x<=9:=by
 have:=(aZ1 n n (Nat.lt_pow_self (by omega))).2;exact this
theorem bL3{n:Nat}(h:n≠0):dgs n≠[]:=by rw[aT3 h];simp
theorem aU8(n:Nat):lead (dgs n)=0:=by
 have h:=dL9 (dgs n) (bP7 n);rw[bD2]at h;have hl:=congrArg List.length h;rw[List.length_drop]at hl;have:=bH2 (dgs n);omega
theorem dH8(l r:List Nat)(h:lead l<l.length):lead (l++r)=lead l:=by
 refine bB2 (by simp;omega) (fun j hj=>?_) (Or.inr ?_)
 ·rw[List.getD_eq_getElem?_getD,List.getElem?_append_left (by omega),<- List.getD_eq_getElem?_getD];exact bO1 l j hj
 ·rw[List.getD_eq_getElem?_getD,List.getElem?_append_left h,<- List.getD_eq_getElem?_getD];exact aM1 l h
theorem bI4{l:List Nat}(h:lead l<l.length):trail l<l.length:=by
 unfold trail;have hs:=aM1 l h;rcases Nat.lt_or_ge (lead l.reverse) l.reverse.length with h1|h1
 ·simpa using h1
 ·exfalso
  have h2:=bO1 l.reverse (l.length-1-lead l) (by simp at h1;omega);rw[cH6 l _ (by omega),show l.length-1-(l.length-1-lead l)=lead l by omega]at h2;exact hs h2
theorem cO3(l:List Nat)(h:lead l<l.length):trail (l.drop (lead l))=trail l:=by
 have e:l=l.take (lead l)++l.drop (lead l):=(List.take_append_drop _ _).symm;have hr:l.reverse=(l.drop (lead l)).reverse++(l.take (lead l)).reverse:=by rw[<- List.reverse_append,List.take_append_drop]
 have h0:lead (l.drop (lead l))=0:=by
  refine bB2 (by omega) (fun j hj=>by omega) (Or.inr ?_);have:=aM1 l h;rwa[List.getD_eq_getElem?_getD,List.getElem?_drop,Nat.add_zero,<- List.getD_eq_getElem?_getD]
 have h1:lead (l.drop (lead l))<(l.drop (lead l)).length:=by rw[h0,List.length_drop];omega
 have h2:=bI4 h1;unfold trail at h2 ⊢;rw[hr,dH8 _ _ (by simpa using h2)]
theorem dH9(neg:Bool)(l:List Nat)(e:Int)(h:∀ x∈l,x<=9):decL neg l e=decL neg (dgs (dv l)) e:=by
 rw[dL9 l h];have hle:=bH2 l;unfold decL;by_cases hz:lead l=l.length
 ·rw[if_pos hz,if_pos (by rw[hz,List.drop_length];rfl)]
 ·have h0:lead (l.drop (lead l))=0:=by
   refine bB2 (by omega) (fun j hj=>by omega) (Or.inr ?_);have:=aM1 l (by omega);rwa[List.getD_eq_getElem?_getD,List.getElem?_drop,Nat.add_zero,<- List.getD_eq_getElem?_getD]
  rw[if_neg hz,h0,cO3 l (by omega),if_neg (by rw[List.length_drop];omega),List.drop_zero,List.length_drop,Nat.sub_zero]
def nd(neg:Bool)(N:Nat)(e:Int):Dm:=decL neg (dgs N) e
theorem nd_of(neg:Bool)(l:List Nat)(e:Int)(h:∀ x∈l,x<=9):decL neg l e=nd neg (dv l) e:=dH9 neg l e h
theorem aI4(neg:Bool)(e:Int):nd neg 0 e=⟨false,[],0⟩:=by unfold nd decL;rw[aR0];rfl
theorem cO4(l:List Nat):trail (l++[0])=trail l+1:=by unfold trail;rw[List.reverse_append];exact bW6 _
theorem dY5(neg:Bool)(N:Nat)(e:Int):nd neg (N*10) e=nd neg N (e+1):=by
 by_cases hN:N=0
 ·subst hN;rw[Nat.zero_mul,aI4,aI4]
 ·unfold nd decL;have hd:dgs (N*10)=dgs N++[0]:=by rw[aT3 (by omega),show N*10/10=N by omega,show N*10%10=0 by omega]
  have hl:(dgs N).length≠0:=fun h=>bL3 hN (List.eq_nil_of_length_eq_zero h);have hl2:(dgs (N*10)).length≠0:=by rw[hd];simp
  have hlt:trail (dgs N)<(dgs N).length:=bI4 (by rw[aU8];omega);rw[aU8,aU8,if_neg (by omega),if_neg (by omega),hd,cO4];simp only[List.drop_zero,Nat.sub_zero,List.length_append,List.length_cons,List.length_nil];congr 1
  ·rw[show(dgs N).length+(0+1)-(trail (dgs N)+1)=(dgs N).length-trail (dgs N)by omega,List.take_append_of_le_length (by omega)]
  ·omega
theorem aV5(neg:Bool)(N k:Nat)(e:Int):nd neg (N*10^k) e=nd neg N (e+(k:Int)):=by
 induction k generalizing e with
 | zero=>simp
 | succ k ih =>
  rw[Nat.pow_succ,<- Nat.mul_assoc,dY5,ih];congr 1;omega
theorem aN7(neg:Bool)(N:Nat)(e:Int)(h:N%10≠0):nd neg N e=⟨neg,dgs N,e⟩:=by
 have hN:N≠0:=fun h0=>by subst h0;exact h rfl
 have ht:trail (dgs N)=0:=by
  rw[aT3 hN];unfold trail;rw[List.reverse_append];exact cY4 _ h
 have hl:(dgs N).length≠0:=fun h=>bL3 hN (List.eq_nil_of_length_eq_zero h);unfold nd decL;rw[aU8,if_neg (by omega),ht];simp
theorem prim(N:Nat)(h:N≠0):∃ M k,N=M*10^k/\M%10≠0:=by
 induction N using Nat.strongRecOn with
 | _ N ih =>
  by_cases h10:N%10=0
  ·obtain⟨M,k,e,hM⟩:=ih (N/10) (by omega) (by omega);exact⟨M,k+1,by rw[Nat.pow_succ,<- Nat.mul_assoc,<- e];omega,hM⟩
  ·exact⟨N,0,by simp,h10⟩
inductive Pr:Dm->Prop
 | zero:Pr ⟨false,[],0⟩
 | num (neg:Bool) (M:Nat) (e:Int):M%10≠0->Pr ⟨neg,dgs M,e⟩
end Go.Proofs.YtjebnpkebccffaaGreatDoor
