import Derived.Test.YtjebnpkebccffaaGreatDoorZQof2
import Derived.Test.YtjebnpkebccffaaGreatDoorZPqt
import Derived.Test.YtjebnpkebccffaaGreatDoorZPqu
set_option linter.unusedSimpArgs false
set_option linter.unusedVariables false
set_option linter.unusedSectionVars false
set_option maxRecDepth 100000
set_option maxHeartbeats 8000000
namespace Go.Proofs.YtjebnpkebccffaaGreatDoor
open Go.RowKit Go.Proofs.Tryz
theorem bQ6(s:Nat)(hs:s<=1000)(w:World):Calls prog 115 #[.int .i64 0,.int .i32 (s:Int)] w (IntOk w 0 true):=by
 by_cases c0:s=0
 ·subst c0;go_enter func115,ntmps115;go_wp2_with fail;go_ret2;exact⟨rfl,rfl⟩
 ·have q0:((s:Int)==0)=false:=beqF (by omega);have q1:decide ((0:Int)<(s:Int))=true:=decT (by omega);clear c0;go_enter func115,ntmps115;go_wp2_with fail
  go_loop [6,7,8] (fun v6 v7 v8=>v6=.int .i64 0/\v7=.bool false/\v8=.int .i32 0) (fun _ _ _=>0)
  case atStart=>exact⟨rfl,rfl,rfl⟩
  case round =>
   obtain⟨rfl,rfl,rfl⟩:=hrel;go_wp2_with fail;all_goals
    refine bodyPost_ret (results_tmp2 rfl _ _ _) rfl ?_;exact⟨rfl,rfl⟩
def bQ7(w:World)(r:Int)(e:Ending)(w':World):Prop:=(∃ k:Bool,e=.returned (.tuple #[.int .i64 r,.bool k]))/\Kept (fun _=>False) w w'
theorem bK1(A:Nat)(s c:Int)(k:Nat)(hA:A<=9223372036854775807)(hk:c-s=(k:Int))(hk1:1<=k)(hk2:k<=1000)(hs:-1000<=s/\s<=1000)(hc:-1000<=c/\c<=1000)(w:World):
  Calls prog 77 #[.agg #[.int .i64 (A:Int),.int .i32 s],.int .i32 c] w (bQ7 w ((negN A k:Nat):Int)):=by
 have g1:decide (s<c)=true:=decT (by omega);have g2:IntKind.i32.wrap (c-s)=(k:Int):=by rw[hk,IntKind.wrap_i32];omega
 have H:Hid (∃ b:Bool,∀ w,Calls prog 115 #[.int .i64 (A:Int),.int .i32 (k:Int)] w (IntOk w ((negN A k:Nat):Int) b)):=by
  rcases Nat.eq_zero_or_pos A with h0|h0
  ·subst h0;have e:negN 0 k=0:=by simp[negN]
   rw[e];exact⟨true,bQ6 k hk2⟩
  ·exact⟨_,bV7 A k hA h0 hk2⟩
 obtain⟨b,hb⟩:=H.out;have HB:=hiD hb;clear hb H hA hk hk1 hk2 hs hc;generalize((negN A k:Nat):Int)=r at *;go_enter func77,ntmps77;go_wp2_with fail;refine(HB.out _).mono ?_;rintro e w1 ⟨rfl,rfl⟩;go_wp2_with fail;go_ret2;exact⟨⟨true,rfl⟩,(Kept.refl _ _).alloc _⟩
theorem bX6(a:Int)(s c:Int)(k:Nat)(ha:-9223372036854775807<=a/\a<=9223372036854775807)(hf:-9223372036854775807<=a*10^k/\a*10^k<=9223372036854775807)(hk:s-c=(k:Int))(hk2:k<=1000)(hs:-1000<=s/\s<=1000)(hc:-1000<=c/\c<=1000)(w:World):
  Calls prog 77 #[.agg #[.int .i64 a,.int .i32 s],.int .i32 c] w (bQ7 w (a*10^k)):=by
 have g1:decide (s<c)=false:=decF (by omega);have g2:IntKind.i32.wrap (s-c)=(k:Int):=by rw[hk,IntKind.wrap_i32];omega
 have HB:=hiD (fun w=>bC2 a k hk2 w ha.1 ha.2);obtain⟨p,hp⟩:∃ p,p=a*10^k:=⟨_,rfl⟩;rw[<- hp]at HB hf ⊢;have HF:=hiD hf;clear ha hf hk hk2 hs hc hp;go_enter func77,ntmps77;go_wp2_with fail;refine(HB.out _).mono ?_;intro e w1 h;obtain⟨rfl,hk⟩:=h.fits HF.out.1 HF.out.2;have HK:Hid (Kept (fun _=>False) w w1):=((Kept.refl _ _).alloc _).trans hk (fun _ _ f=>f) (fun _ _ f=>f);clear h hk;go_wp2_with fail;go_ret2;exact⟨⟨true,rfl⟩,HK.out⟩
def cK0(w:World)(a s:Int)(e:Ending)(w':World):Prop:=(∃(c:Int) (k:Bool),e=.returned (.tuple #[.int .i64 c,.bool k])/\(k=true->0<=s/\c=a*10^s.toNat /\ -9223372036854775808<=c/\c<=9223372036854775807))/\Kept (fun _=>False) w w'
theorem bX7(a:Int)(s:Int)(ha:-9223372036854775807<=a/\a<=9223372036854775807)(hs:-1000<=s/\s<=1000)(w:World):
  Calls prog 79 #[.agg #[.int .i64 a,.int .i32 s]] w (cK0 w a s):=by
 rcases Int.lt_trichotomy s 0 with h|h|h
 ·have g1:(s==0)=false:=beqF (by omega);have g2:decide (s<0)=true:=decT h;clear h hs ha;go_enter func79,ntmps79;go_wp2_with fail;go_ret2;exact⟨⟨0,false,rfl,by simp⟩,(Kept.refl _ _).alloc _⟩
 ·subst h;have HA:=hiD ha;clear ha hs;go_enter func79,ntmps79;go_wp2_with fail;go_ret2;exact⟨⟨a,true,rfl,fun _=>⟨by omega,by simp,by have:=HA.out;omega,by have:=HA.out;omega⟩⟩,(Kept.refl _ _).alloc _⟩
 ·have g1:(s==0)=false:=beqF (by omega);have g2:decide (s<0)=false:=decF (by omega);obtain⟨k,rfl⟩:∃ k:Nat,s=(k:Int):=⟨s.toNat,by omega⟩;have HB:=hiD (fun w=>bC2 a k (by omega) w ha.1 ha.2);have HE:Hid (a*10^k=a*10^((k:Int)).toNat):=by show _=_;rw[Int.toNat_natCast]
  generalize a*10^k=p at *;clear ha h hs;go_enter func79,ntmps79;go_wp2_with fail;refine(HB.out _).mono ?_;rintro e w1 ⟨⟨c,b,rfl,h1,h2⟩,hk⟩;have H:Hid (_/\_/\Kept (fun _=>False) w w1):=hiD (And.intro h1 (And.intro h2 (((Kept.refl _ _).alloc _).trans hk (fun _ _ f=>f) (fun _ _ f=>f))));clear h1 h2 hk;go_wp2_with fail;go_ret2;obtain⟨h1,h2,hk⟩:=H.out;refine⟨⟨c,b,rfl,fun hb=>?_⟩,hk⟩;by_cases hp:-9223372036854775807<=p/\p<=9223372036854775807
  ·obtain⟨e1,_⟩:=h1 hp;exact⟨by omega,by rw[e1];exact HE.out,by omega,by omega⟩
  ·rw[h2 hp]at hb;cases hb
def P10:List Nat:=[4607182418800017408,4621819117588971520,4636737291354636288,4652007308841189376,4666723172467343360,4681608360884174848,4696837146684686336,4711630319722168320,4726483295884279808,4741671816366391296,4756540486875873280,4771362005757984768,4786511204640096256,4801453603149578240,4816244402031689728,4831355200913801216,4846369599423283200,4861130398305394688,4876203697187506176,4891288408196988160,4906019910204099648,4921056587992461136,4936209963552724370,4950912855330343670,4965913770331839924,4981134201117475473,4995809153217856309,5010775143622804482,5026061058026967681,5040708725286295329,5055640609639927018,5070927765361438756]
def P32:List Nat:=[4607182418800017408,5085611494797045271,5564284217833028085,6043257259031049059,6521906365687930162,7000496887210966211,7479368607221621995,7958223736346011545,8436737289693151036,8915514139102383430]
def Tens(w:World):Prop:=(∀ i,i<32->w.cell? ⟨6,i,none⟩=some (.float .f64 (P10.getD i 0)))/\∀ i,i<10->w.cell? ⟨5,i,none⟩=some (.float .f64 (P32.getD i 0))
def dM9(n:Nat):Bool :=
 match FloatKind.f64.format.mul (P32.getD (n/32) 0) (P10.getD (n%32) 0)with
 | some c=>decide (19<=n)||decide ((FloatKind.f64.decode c).toInt .zero=some ((10^n:Nat):Int))
 | none=>false
theorem cP3:(List.range 101).all dM9=true:=by decide +kernel
theorem cP4(n:Nat)(h:n<=100):∃ c,FloatKind.f64.format.mul (P32.getD (n/32) 0) (P10.getD (n%32) 0)=some c/\(n<19->(FloatKind.f64.decode c).toInt .zero=some ((10^n:Nat):Int)):=by
 have h0:=List.all_eq_true.1 cP3 n (List.mem_range.2 (by omega));unfold dM9 at h0;split at h0
 ·rename_i c hc;refine⟨c,hc,fun hn=>?_⟩;rw[Bool.or_eq_true,decide_eq_true_eq,decide_eq_true_eq]at h0;rcases h0 with h0|h0
  ·omega
  ·exact h0
 ·cases h0
theorem cZ5(a b q:Nat)(h:FloatKind.f64.format.mul a b=some q)(w:World):(binOp .mul 193 (.float .f64 a) (.float .f64 b)).run prog w=.ok (.float .f64 q) w:=by
 have e:(binOp .mul 193 (.float .f64 a) (.float .f64 b)).run prog w=(Op.floatArith .mul .f64 a b).run prog w:=by kernel_rfl
 rw[e];simp[Op.floatArith,h]
theorem bX8(n:Nat)(h:n<=100)(w:World)(ht:Tens w):Calls prog 117 #[.int .i64 (n:Int)] w fun e w'=>(∃ c,e=.returned (.float .f64 c)/\(n<19->(FloatKind.f64.decode c).toInt .zero=some ((10^n:Nat):Int)))/\Drew w w':=by
 obtain⟨c,hc,hc2⟩:=cP4 n h;obtain⟨i,hi⟩:∃ i,i=n/32:=⟨_,rfl⟩;obtain⟨j,hj⟩:∃ j,j=n%32:=⟨_,rfl⟩;rw[<- hi,<- hj]at hc;have c5:w.cell? ⟨5,i,none⟩=some (.float .f64 (P32.getD i 0)):=ht.2 i (by omega);have c6:w.cell? ⟨6,j,none⟩=some (.float .f64 (P10.getD j 0)):=ht.1 j (by omega);have e1:(n:Int)/32=(i:Int):=by omega
 have e2:(n:Int)%32=(j:Int):=by omega
 have e3:i<10:=by omega
 have e4:j<32:=by omega
 have g1:decide ((0:Int)<=(n:Int))=true:=decT (by omega);have g2:decide ((n:Int)<=308)=true:=decT (by omega);have hm:=fun w=>cZ5 _ _ c hc w
 have HC:=hiD hc2;generalize P32.getD i 0=a at *;generalize P10.getD j 0=b at *;clear hc hc2 hi hj ht;go_enter func117,ntmps117;go_wp2_with fail
 go_quiet (fail)
 go_wp2_with fail;go_ret;exact⟨⟨c,rfl,HC.out⟩,_,rfl⟩
def SvRes(w:World)(r:Int)(e:Ending)(w':World):Prop:=e=.returned (.int .i64 r)/\Kept (fun _=>False) w w'
theorem dZ7(q D:Nat)(h:(FloatKind.f64.decode q).toInt .zero=some (D:Int))(hk:D<=1000000000000000000)(w:World):(convert 193 2 (.float .f64 q)).run prog w=.ok (.int .i64 (D:Int)) w:=by
 have e:(convert 193 2 (.float .f64 q)).run prog w=(Conv.floatToInt .f64 q .i64).run prog w:=by kernel_rfl
 rw[e];unfold Conv.floatToInt;rw[h];have h1:IntKind.i64.min<=(D:Int)/\(D:Int)<=IntKind.i64.max:=by
  have a:IntKind.i64.min = -9223372036854775808:=by decide
  have b:IntKind.i64.max=9223372036854775807:=by decide
  rw[a,b];omega
 simp only[h1,and_self,if_true];rfl
theorem cZ6(p n:Nat)(b:Option Nat)(r:List Value)(T:TypeId)(s:Int)(w:World)(hx:IntAt w p (n:Int) b r T)(hn:n<9223372036854775808)(hs:-2000<=s/\s<=2000):
  Calls prog 78 #[.pointer (some ⟨p,0,none⟩),.int .i64 s,.int .i64 s] w (SvRes w (n:Int)):=by
 have H:=hiD (aF9 p n b r T w hx hn);have g1:IntKind.i64.wrap (s-s)=0:=by rw[Int.sub_self];rfl
 have g2:((0:Int)==0)=true:=rfl;clear hx hn hs;go_enter func78,ntmps78;go_wp2_with fail;refine H.out.mono ?_;rintro e w1 ⟨rfl,rfl⟩;go_wp2_with fail;go_ret;exact⟨rfl,Kept.refl _ _⟩
theorem cE1(p n k:Nat)(b:Option Nat)(r:List Value)(T:TypeId)(s t:Int)(w:World)(hx:IntAt w p (n:Int) b r T)(hn:n<9223372036854775807)(hk:s-t=(k:Int))(hk1:1<=k)(hk2:k<19)(hs:-2000<=s/\s<=2000 /\ -2000<=t/\t<=2000)(ht:Tens w):
  Calls prog 78 #[.pointer (some ⟨p,0,none⟩),.int .i64 s,.int .i64 t] w (SvRes w ((negN n k:Nat):Int)):=by
 obtain⟨D,hD⟩:∃ D,D=10^k:=⟨_,rfl⟩;have hDb:D<=1000000000000000000/\2<=D:=by
  rw[hD];have h1:(10:Nat)^k<=10^18:=Nat.pow_le_pow_right (by omega) (by omega);have h2:(10:Nat)^1<=10^k:=Nat.pow_le_pow_right (by omega) hk1;have e1:(10:Nat)^18=1000000000000000000:=by decide
  omega
 have hw:IntKind.i64.wrap (s-t)=(k:Int):=by rw[hk,IntKind.wrap_i64];omega
 have g1:((k:Int)==0)=false:=beqF (by omega);have g2:decide ((k:Int)<0)=false:=decF (by omega);have g3:decide ((k:Int)<19)=true:=decT (by omega);have HX:=hiD hx;have HT:=hiD ht;have HK:=hiD (And.intro hk1 hk2);have HN:=hiD hn;have HD:=hiD hD;have HDB:=hiD hDb;clear hx ht hk hs hDb hD hn hk1 hk2;go_enter func78,ntmps78;go_wp2_with fail;refine(aD4 9223372036854775807 (by omega) w).mono ?_;rintro e w1 ⟨y,by_,rfl,hy,hi,hk,hf⟩;have hne:p≠y:=by have:=HX.out.lt;omega
 have HX1:=hiD (HX.out.old hk);have HC:=hiD (aW4 p y (n:Int) 9223372036854775807 b by_ r [] T 109 w1 HX1.out hi hne);have hc:cmpZ (n:Int) 9223372036854775807 = -1:=by unfold cmpZ;rw[if_pos (by have:=HN.out;omega)]
 rw[hc]at HC;have K1:=hiD hk;clear hy hi hk hf hne hc;go_wp2_with fail;refine HC.out.mono ?_;rintro e w2 ⟨rfl,hd⟩;have K2:Hid (Kept (fun _=>False) w w2):=K1.out.trans hd.kept (fun _ _ f=>f) (fun _ _ f=>f);have HX2:=hiD (HX.out.old K2.out);have HT2:Hid (Tens w2):=⟨fun i hi=>aB8 K2.out (HT.out.1 i hi),fun i hi=>aB8 K2.out (HT.out.2 i hi)⟩;clear hd K1 HX1;go_wp2_with fail;refine(bX8 k (by have:=HK.out;omega) w2 HT2.out).mono ?_;rintro e w3 ⟨⟨c,rfl,hc⟩,hd⟩;have hcv:=fun w=>dZ7 c D (by rw[HD.out];exact hc HK.out.2) HDB.out.1 w;have K3:Hid (Kept (fun _=>False) w w3):=K2.out.trans hd.kept (fun _ _ f=>f) (fun _ _ f=>f);have HX3:=hiD (HX.out.old K3.out);have hD0:¬ (D=0):=by have:=HDB.out;omega
 have hD0':(D==0)=false:=by simpa using hD0
 have hDz:((D:Int)==0)=false:=beqF (by omega);clear hc hd K2 HX2 HT2 HC;go_wp2_with fail;refine(aF9 p n b r T w3 HX3.out (by have:=HN.out;omega)).mono ?_;rintro e w4 ⟨rfl,rfl⟩;go_wp2_with fail;refine(aF9 p n b r T w3 HX3.out (by have:=HN.out;omega)).mono ?_;rintro e w4 ⟨rfl,rfl⟩;obtain⟨q,hq⟩:∃ q,q=n/D:=⟨_,rfl⟩;obtain⟨m,hm⟩:∃ m,m=n%D:=⟨_,rfl⟩;have eq1:(n:Int)/(D:Int)=(q:Int):=by rw[hq];simp
 have em1:(n:Int)%(D:Int)=(m:Int):=by rw[hm];simp
 have eq2:(n:Int).tdiv (D:Int)=(q:Int):=by rw[Int.tdiv_eq_ediv_of_nonneg (by omega)];exact eq1
 have em2:(n:Int).tmod (D:Int)=(m:Int):=by rw[Int.tmod_eq_emod_of_nonneg (by omega)];exact em1
 have hqb:q<9223372036854775807:=by
  have:=HN.out;have h2:=Nat.div_le_self n D;omega
 have hneg:negN n k=if m=0 then q else q+1:=by unfold negN;rw[<- HD.out,<- hq,<- hm]
 have HNG:=hiD hneg;clear hq hm hneg;by_cases hm0:m=0
 ·have t1:((m:Int)==0)=true:=beqT (by omega);have t2:(m==0)=true:=by simpa using hm0
  have HR:Hid (negN n k=q):=by show _=_;rw[HNG.out,if_pos hm0]
  clear hm0;go_wp2_with fail;go_ret;refine⟨?_,K3.out⟩;show Ending.returned (.int .i64 (wrap64 (q:Int)))=Ending.returned (.int .i64 ((negN n k:Nat):Int));rw[HR.out,show wrap64 (q:Int)=(q:Int)by unfold wrap64;omega]
 ·have t1:((m:Int)==0)=false:=beqF (by omega);have t2:(m==0)=false:=by simpa using hm0
  have t3:((m:Int)!=0)=true:=by simp only[bne,t1];rfl
  have HR:Hid (negN n k=q+1):=by show _=_;rw[HNG.out,if_neg hm0]
  clear hm0;go_wp2_with fail;go_ret;refine⟨?_,K3.out⟩;show Ending.returned (.int .i64 (wrap64 (wrap64 (q:Int)+1)))=Ending.returned (.int .i64 ((negN n k:Nat):Int));rw[HR.out,show wrap64 (q:Int)=(q:Int)by unfold wrap64;omega,show wrap64 ((q:Int)+1)=((q+1:Nat):Int)by unfold wrap64;omega]
theorem dZ8(q:Nat)(w:World):∃ m n,(convert 193 2 (.float .f64 q)).run prog w=.ok (.int .i64 m) (w.drewN n):=by
 have e:(convert 193 2 (.float .f64 q)).run prog w=(Conv.floatToInt .f64 q .i64).run prog w:=by kernel_rfl
 rw[e];unfold Conv.floatToInt;dsimp only;split
 ·split
  ·exact⟨_,0,rfl⟩
  ·exact⟨_,1,rfl⟩
 ·exact⟨_,1,rfl⟩
theorem bK2(p k:Nat)(b:Option Nat)(r:List Value)(T:TypeId)(s t:Int)(w:World)(hx:IntAt w p 0 b r T)(hk:t-s=(k:Int))(hk1:1<=k)(hk2:k<=100)(hs:-2000<=s/\s<=2000 /\ -2000<=t/\t<=2000)(ht:Tens w):
  Calls prog 78 #[.pointer (some ⟨p,0,none⟩),.int .i64 s,.int .i64 t] w (SvRes w 0):=by
 have hw:IntKind.i64.wrap (s-t) = -(k:Int):=by rw[show s-t = -(k:Int)by omega,IntKind.wrap_i64];omega
 have g1:(-(k:Int)==0)=false:=beqF (by omega);have g2:decide (-(k:Int)<0)=true:=decT (by omega);have g3:IntKind.i64.wrap (k:Int)=(k:Int):=by rw[IntKind.wrap_i64];omega
 have g4:decide (0<k)=true:=decT (by omega);have H:=hiD (aF9 p 0 b r T w hx (by omega));have HP:=hiD (bX8 k hk2 w ht);clear hx ht hk hs hk1 hk2;go_enter func78,ntmps78;go_wp2_with fail;refine H.out.mono ?_;rintro e w1 ⟨rfl,rfl⟩;go_wp2_with fail;refine HP.out.mono ?_;rintro e w3 ⟨⟨c,rfl,_⟩,hd⟩;obtain⟨m,n,hc⟩:=dZ8 c w3;have K3:Hid (Kept (fun _=>False) w (w3.drewN n)):=(hd.step n).kept;clear hd;go_wp2_with fail;go_ret;refine⟨?_,K3.out⟩;simp
structure Sc3 (w:World) (p n:Nat) (b:Option Nat) (r:List Value) (T:TypeId) (z:Nat) (nD nE:Int) (bD bE:Option Nat) (wx:World):Prop where
 D:IntAt wx z nD bD [] 109
 E:IntAt wx (z+1) nE bE [] 109
 R:IntAt wx (z+1+1) 0 none [] 109
 X:IntAt wx p (n:Int) b r T
 t:Thr wx
 k:Kept (fun _=>False) w wx
 lz:w.heap.size<=z/\p<z/\(∀ i,b=some i->i<z)/\15<z
 lD:∀ i,bD=some i->z+3<=i
 lE:∀ i,bE=some i->z+3<=i
 ne:∀ i,bE=some i->bD≠some i
theorem dZ9{w:World}(h:Thr w):15<w.heap.size:=aJ2 h.d
theorem bX9{w w2:World}{p n:Nat}{b:Option Nat}{r:List Value}{T:TypeId}(hx:IntAt w p (n:Int) b r T)(ht:Thr w)(hk:Kept (fun _=>False) w w2):Sc3 w p n b r T w2.heap.size 0 0 none none (((w2.alloc zInt).alloc zInt).alloc zInt):=by
 have k1:Kept (fun _=>False) w2 (w2.alloc zInt):=(Kept.refl _ _).alloc _;have k2:Kept (fun _=>False) (w2.alloc zInt) ((w2.alloc zInt).alloc zInt):=(Kept.refl _ _).alloc _;have k3:Kept (fun _=>False) ((w2.alloc zInt).alloc zInt) (((w2.alloc zInt).alloc zInt).alloc zInt):=(Kept.refl _ _).alloc _;have K:=((hk.same k1).same k2).same k3;have s1:(w2.alloc zInt).heap.size=w2.heap.size+1:=by simp
 have s2:((w2.alloc zInt).alloc zInt).heap.size=w2.heap.size+1+1:=by simp
 have e1:=aG7 (w2.alloc zInt);have e2:=aG7 ((w2.alloc zInt).alloc zInt);rw[s1]at e1;rw[s2]at e2;have hs:=hk.size;have hp:=hx.lt;have h15:=dZ9 ht;exact⟨((aG7 w2).old k2).old k3,e1.old k3,e2,hx.old K,ht.old K,K,⟨hs,by omega,fun i hi=>by have:=hx.lts i hi;omega,by omega⟩,by simp,by simp,by simp⟩
theorem Sc3.old{w wx wy:World}{p n:Nat}{b:Option Nat}{r:List Value}{T:TypeId}{z:Nat}{nD nE:Int}{bD bE:Option Nat}(h:Sc3 w p n b r T z nD nE bD bE wx)(hk:Kept (fun _=>False) wx wy):Sc3 w p n b r T z nD nE bD bE wy :=
 ⟨h.D.old hk,h.E.old hk,h.R.old hk,h.X.old hk,h.t.old hk,h.k.same hk,h.lz,h.lD,h.lE,h.ne⟩
theorem Sc3.size{w wx:World}{p n:Nat}{b:Option Nat}{r:List Value}{T:TypeId}{z:Nat}{nD nE:Int}{bD bE:Option Nat}(h:Sc3 w p n b r T z nD nE bD bE wx):z+3<=wx.heap.size:=by
 have:=h.R.lt;omega
theorem Sc3.setE{w wx wy:World}{p n:Nat}{b:Option Nat}{r:List Value}{T:TypeId}{z:Nat}{nD nE m:Int}{b':Option Nat}(h:Sc3 w p n b r T z nD nE none none wx)(h1:IntAt wy (z+1) m b' [] 109)(hk:Kept (fun k=>k=z+1\/(none:Option Nat)=some k) wx wy)(ho:Own wx none b'):Sc3 w p n b r T z nD m none b' wy:=by
 obtain⟨l1,l2,l3,l4⟩:=h.lz;have hs:=h.size;have hk':Kept (fun k=>k=z+1) wx wy:=hk.mono (fun _ _ e=>by rcases e with e|e;exact e;cases e)
 refine⟨h.D.kept hk' (by omega) (by simp),h1,h.R.kept hk' (by omega) (by simp),h.X.kept hk' (by omega) (fun i hi=>by have:=l3 i hi;omega),h.t.kept hk' (fun e=>by omega),h.k.trans hk' (fun _ _ f=>f) (fun i hi e=>by omega),h.lz,h.lD,fun i hi=>?_,by simp⟩;rcases ho with e|⟨j,e,hj⟩
 ·rw[e]at hi;cases hi
 ·rw[e]at hi;injection hi with hi;omega
theorem Sc3.setD{w wx wy:World}{p n:Nat}{b:Option Nat}{r:List Value}{T:TypeId}{z:Nat}{nD nE m:Int}{bE b':Option Nat}(h:Sc3 w p n b r T z nD nE none bE wx)(h1:IntAt wy z m b' [] 109)(hk:Kept (fun k=>k=z\/(none:Option Nat)=some k) wx wy)(ho:Own wx none b'):Sc3 w p n b r T z m nE b' bE wy:=by
 obtain⟨l1,l2,l3,l4⟩:=h.lz;have hs:=h.size;have hk':Kept (fun k=>k=z) wx wy:=hk.mono (fun _ _ e=>by rcases e with e|e;exact e;cases e)
 refine⟨h1,h.E.kept hk' (by omega) (fun i hi=>by have:=h.lE i hi;omega),h.R.kept hk' (by omega) (by simp),h.X.kept hk' (by omega) (fun i hi=>by have:=l3 i hi;omega),h.t.kept hk' (fun e=>by omega),h.k.trans hk' (fun _ _ f=>f) (fun i hi e=>by omega),h.lz,fun i hi=>?_,h.lE,fun i hi=>?_⟩
 ·rcases ho with e|⟨j,e,hj⟩
  ·rw[e]at hi;cases hi
  ·rw[e]at hi;injection hi with hi;omega
 ·rcases ho with e|⟨j,e,hj⟩
  ·rw[e];simp
  ·rw[e];intro e2;injection e2 with e2;have:=h.E.lts i hi;omega
structure Sc3Q (w:World) (z:Nat) (q m:Int) (wx:World):Prop where
 R:∃ b,IntAt wx (z+1+1) q b [] 109
 E:∃ b,IntAt wx (z+1) m b [] 109
 k:Kept (fun _=>False) w wx
theorem Sc3.divMod{w wx:World}{p n k:Nat}{b:Option Nat}{r:List Value}{T:TypeId}{z:Nat}{bD bE:Option Nat}(h:Sc3 w p n b r T z ((10^k:Nat):Int) (k:Int) bD bE wx)(hn:(dig n).length<=900)(hk:k<=180):
  Calls prog 119 #[.pointer (some ⟨z+1+1,0,none⟩),.pointer (some ⟨p,0,none⟩),.pointer (some ⟨z,0,none⟩),.pointer (some ⟨z+1,0,none⟩)] wx fun e w'=>(∃ u,e=.returned u)/\Sc3Q w z ((n/10^k:Nat):Int) ((n%10^k:Nat):Int) w':=by
 obtain⟨l1,l2,l3,l4⟩:=h.lz;have hs:=h.size;have hp:10^k≠0:=Nat.pos_iff_ne_zero.1 (Nat.pow_pos (by omega));have ht:=cX9 hk;refine(aX7 (z+1+1) p z (z+1) 0 (n:Int) ((10^k:Nat):Int) (k:Int) none b bD bE [] r [] [] 109 T 109 109 wx h.R h.X h.D h.E (by omega) (by omega) (by omega) (by omega) (by omega) ⟨by simp,by simp,by simp,fun e=>by have:=h.lE _ e;omega,fun e=>by have:=h.lE _ e;omega,fun e=>by have:=h.lE _ e;omega⟩ (by simp) (by omega) (Int.natCast_pos.2 (Nat.pos_of_ne_zero hp)) ?_).mono ?_
 ·intro W vz vr vx vy hh h1 h2 h3 h4;have e1:(0:Int).natAbs=0:=rfl;rw[Int.natAbs_natCast]at h2 h3 h4;rw[Int.natAbs_natCast,Int.natAbs_natCast];have hd:ThrD W:=by unfold ThrD;rw[bV5 hh];exact h.t.d
  exact cX1 vz vr vx vy none bE b bD n (10^k) W h1.buf h2.buf h3 h4 hp hn (by omega) ht.1 (by simp) (fun i hi=>⟨fun e=>by have:=h.lE i hi;have:=l3 i e;omega,h.ne i hi⟩) ⟨by simp,fun e=>by have:=h.lE _ e;omega⟩ hd
 ·rintro e w' ⟨rfl,bq,bs,e1,e2,e3,e4,e5,e6⟩;refine⟨⟨_,rfl⟩,⟨bq,?_⟩,⟨bs,?_⟩,h.k.trans e3 (fun _ _ f=>f) (fun i hi e=>?_)⟩
  ·have e0:((n:Int)).tdiv ((10^k:Nat):Int)=((n/10^k:Nat):Int):=by rw[Int.tdiv_eq_ediv_of_nonneg (by omega)];exact(Int.natCast_ediv _ _).symm
   rw[<- e0];exact e1
  ·have e0:((n:Int)).tmod ((10^k:Nat):Int)=((n%10^k:Nat):Int):=by rw[Int.tmod_eq_emod_of_nonneg (by omega)];exact(Int.natCast_emod _ _).symm
   rw[<- e0];exact e2
  ·rcases e with e|e|e|e
   ·omega
   ·omega
   ·cases e
   ·have:=h.lE i e;omega
theorem cE2(p n k:Nat)(b:Option Nat)(r:List Value)(T:TypeId)(s t:Int)(w:World)(hx:IntAt w p (n:Int) b r T)(hn:(dig n).length<=900)(hN:negN n k<9223372036854775808)(hk:s-t=(k:Int))(hk1:1<=k)(hk2:k<=180)(hlg:¬ n<9223372036854775807\/19<=k)(hs:-2000<=s/\s<=2000 /\ -2000<=t/\t<=2000)(ht:Thr w):
  Calls prog 78 #[.pointer (some ⟨p,0,none⟩),.int .i64 s,.int .i64 t] w (SvRes w ((negN n k:Nat):Int)):=by
 have hw:IntKind.i64.wrap (s-t)=(k:Int):=by rw[hk,IntKind.wrap_i64];omega
 have g1:((k:Int)==0)=false:=beqF (by omega);have g2:decide ((k:Int)<0)=false:=decF (by omega);have HX:=hiD hx;have HT:=hiD ht;have HK:=hiD (And.intro hk1 hk2);have HN:=hiD hn;have HNN:=hiD hN;have HLG:=hiD hlg;clear hx ht hk hs hn hk1 hk2 hN hlg;go_enter func78,ntmps78;go_wp2_with fail;refine(aD4 9223372036854775807 (by omega) w).mono ?_;rintro e w1 ⟨y,by_,rfl,hy,hi,hk,hf⟩;have hne:p≠y:=by have:=HX.out.lt;omega
 have HX1:=hiD (HX.out.old hk);have HC:=hiD (aW4 p y (n:Int) 9223372036854775807 b by_ r [] T 109 w1 HX1.out hi hne);have K1:=hiD hk;clear hy hi hk hf hne;go_wp2_with fail;refine HC.out.mono ?_;rintro e w2 ⟨rfl,hd⟩;have K2:Hid (Kept (fun _=>False) w w2):=K1.out.trans hd.kept (fun _ _ f=>f) (fun _ _ f=>f);clear hd K1 HX1 HC;obtain⟨c,hc⟩:∃ c,c=cmpZ (n:Int) 9223372036854775807:=⟨_,rfl⟩;rw[<- hc];have HCC:=hiD hc;have hcond:decide (c<0)=true->decide ((k:Int)<19)=false:=by
  intro h1;have h1:=of_decide_eq_true h1;rw[HCC.out]at h1;unfold cmpZ at h1;refine decF ?_;have:=HLG.out;split at h1
  ·omega
  ·split at h1<;>omega
 have HX2:=hiD (HX.out.old K2.out);have HT2:=hiD (HT.out.old K2.out);clear hc;rcases Bool.eq_false_or_eq_true (decide (c<0))with hcb|hcb
 ·have g3:=hcond hcb;clear hcond;go_wp2_with fail;change Calls _ _ _ (((w2.alloc zInt).alloc zInt).alloc zInt) _;have S0:=bX9 HX.out HT.out K2.out;obtain⟨W3,hW3⟩:∃ W3,W3=(((w2.alloc zInt).alloc zInt).alloc zInt):=⟨_,rfl⟩;rw[<- hW3]at S0;rw[<- hW3];obtain⟨z,hz⟩:∃ z,z=w2.heap.size:=⟨_,rfl⟩;rw[<- hz]at S0;rw[<- hz];have S0:=hiD S0;clear hcb hz hW3;refine(aD4 10 (by omega) W3).mono ?_;rintro e w4 ⟨p10,b10,rfl,hp,ha,hk,hb10⟩;have A10:=hiD ha;have P10:Hid (z+3<=p10/\∀ k,b10=some k->z+3<=k):=⟨by have:=S0.out.size;omega,fun k hk=>by have:=S0.out.size;have:=hb10 k hk;omega⟩;have S1:=hiD (S0.out.old hk);clear ha hk hp hb10 S0;go_wp2_with fail;have HE:=aG1 (z+1) k 0 none [] 109 w4 S1.out.E (by have:=HK.out;omega);refine HE.mono ?_;rintro e w5 ⟨rfl,bE,hE,hk,hO⟩;have S2:=hiD (S1.out.setE hE hk hO);have A11:Hid (IntAt w5 p10 10 b10 [] 109):=A10.out.kept hk (fun e=>by have:=P10.out;rcases e with e|e;omega;cases e) (fun i hi e=>by have:=P10.out.2 i hi;rcases e with e|e;omega;cases e)
  clear hE hk hO HE S1 A10;go_wp2_with fail;refine(aW8 z p10 (z+1) 10 k b10 bE [] [] [] 109 109 109 w5 S2.out.D A11.out S2.out.E (by omega) (by unfold B64;omega) HK.out.1 (by have:=HK.out;omega) (aW9 k HK.out.2) S2.out.t.ks).mono ?_;rintro e w6 ⟨rfl,bD,hD,hk,hO⟩;have S3:=hiD (S2.out.setD hD hk hO);clear hD hk hO S2 A11;go_wp2_with fail;refine(S3.out.divMod HN.out HK.out.2).mono ?_;rintro e w7 ⟨⟨u,rfl⟩,hq⟩;obtain⟨bR,hR⟩:=hq.R;obtain⟨bM,hM⟩:=hq.E;have HRR:=hiD hR;have HM:=hiD hM;have K7:=hiD hq.k;clear hR hM hq S3;go_wp2_with fail;refine(bE2 (z+1) _ bM [] 109 w7 HM.out).mono ?_;rintro e w8 ⟨rfl,rfl⟩;have hq63:n/10^k<9223372036854775808:=by
   have:=HNN.out;unfold negN at this;split at this<;>omega
  have hng:negN n k=if n%10^k=0 then n/10^k else n/10^k+1:=rfl
  generalize n/10^k=q at *;generalize n%10^k=m at *;have HI:=hiD (aF9 (z+1+1) q bR [] 109 w7 HRR.out hq63);have HNG:=hiD hng;have HQ:=hiD hq63;clear hng hq63;by_cases hm0:m=0
  ·have hs:sgn (m:Int)=0:=by unfold sgn;rw[hm0];rfl
   have HR:Hid (negN n k=q):=by show _=_;rw[HNG.out,if_pos hm0]
   rw[hs];clear hm0;go_wp2_with fail;refine HI.out.mono ?_;rintro e w9 ⟨rfl,rfl⟩;go_wp2_with fail;go_ret;refine⟨?_,K7.out⟩;rw[HR.out];rfl
  ·have hs:sgn (m:Int)=1:=by unfold sgn;rw[if_neg (by omega),if_neg (by omega)]
   have HR:Hid (negN n k=q+1):=by show _=_;rw[HNG.out,if_neg hm0]
   rw[hs];clear hm0;go_wp2_with fail;refine HI.out.mono ?_;rintro e w9 ⟨rfl,rfl⟩;go_wp2_with fail;go_ret;refine⟨?_,K7.out⟩;have h9:=HNN.out;rw[HR.out]at h9 ⊢;show Ending.returned (.int .i64 (wrap64 ((q:Int)+1)))=_;rw[show wrap64 ((q:Int)+1)=((q+1:Nat):Int)by unfold wrap64;omega]
 ·clear hcond;go_wp2_with fail;change Calls _ _ _ (((w2.alloc zInt).alloc zInt).alloc zInt) _;have S0:=bX9 HX.out HT.out K2.out;obtain⟨W3,hW3⟩:∃ W3,W3=(((w2.alloc zInt).alloc zInt).alloc zInt):=⟨_,rfl⟩;rw[<- hW3]at S0;rw[<- hW3];obtain⟨z,hz⟩:∃ z,z=w2.heap.size:=⟨_,rfl⟩;rw[<- hz]at S0;rw[<- hz];have S0:=hiD S0;clear hcb hz hW3;refine(aD4 10 (by omega) W3).mono ?_;rintro e w4 ⟨p10,b10,rfl,hp,ha,hk,hb10⟩;have A10:=hiD ha;have P10:Hid (z+3<=p10/\∀ k,b10=some k->z+3<=k):=⟨by have:=S0.out.size;omega,fun k hk=>by have:=S0.out.size;have:=hb10 k hk;omega⟩;have S1:=hiD (S0.out.old hk);clear ha hk hp hb10 S0;go_wp2_with fail;have HE:=aG1 (z+1) k 0 none [] 109 w4 S1.out.E (by have:=HK.out;omega);refine HE.mono ?_;rintro e w5 ⟨rfl,bE,hE,hk,hO⟩;have S2:=hiD (S1.out.setE hE hk hO);have A11:Hid (IntAt w5 p10 10 b10 [] 109):=A10.out.kept hk (fun e=>by have:=P10.out;rcases e with e|e;omega;cases e) (fun i hi e=>by have:=P10.out.2 i hi;rcases e with e|e;omega;cases e)
  clear hE hk hO HE S1 A10;go_wp2_with fail;refine(aW8 z p10 (z+1) 10 k b10 bE [] [] [] 109 109 109 w5 S2.out.D A11.out S2.out.E (by omega) (by unfold B64;omega) HK.out.1 (by have:=HK.out;omega) (aW9 k HK.out.2) S2.out.t.ks).mono ?_;rintro e w6 ⟨rfl,bD,hD,hk,hO⟩;have S3:=hiD (S2.out.setD hD hk hO);clear hD hk hO S2 A11;go_wp2_with fail;refine(S3.out.divMod HN.out HK.out.2).mono ?_;rintro e w7 ⟨⟨u,rfl⟩,hq⟩;obtain⟨bR,hR⟩:=hq.R;obtain⟨bM,hM⟩:=hq.E;have HRR:=hiD hR;have HM:=hiD hM;have K7:=hiD hq.k;clear hR hM hq S3;go_wp2_with fail;refine(bE2 (z+1) _ bM [] 109 w7 HM.out).mono ?_;rintro e w8 ⟨rfl,rfl⟩;have hq63:n/10^k<9223372036854775808:=by
   have:=HNN.out;unfold negN at this;split at this<;>omega
  have hng:negN n k=if n%10^k=0 then n/10^k else n/10^k+1:=rfl
  generalize n/10^k=q at *;generalize n%10^k=m at *;have HI:=hiD (aF9 (z+1+1) q bR [] 109 w7 HRR.out hq63);have HNG:=hiD hng;have HQ:=hiD hq63;clear hng hq63;by_cases hm0:m=0
  ·have hs:sgn (m:Int)=0:=by unfold sgn;rw[hm0];rfl
   have HR:Hid (negN n k=q):=by show _=_;rw[HNG.out,if_pos hm0]
   rw[hs];clear hm0;go_wp2_with fail;refine HI.out.mono ?_;rintro e w9 ⟨rfl,rfl⟩;go_wp2_with fail;go_ret;refine⟨?_,K7.out⟩;rw[HR.out];rfl
  ·have hs:sgn (m:Int)=1:=by unfold sgn;rw[if_neg (by omega),if_neg (by omega)]
   have HR:Hid (negN n k=q+1):=by show _=_;rw[HNG.out,if_neg hm0]
   rw[hs];clear hm0;go_wp2_with fail;refine HI.out.mono ?_;rintro e w9 ⟨rfl,rfl⟩;go_wp2_with fail;go_ret;refine⟨?_,K7.out⟩;have h9:=HNN.out;rw[HR.out]at h9 ⊢;show Ending.returned (.int .i64 (wrap64 ((q:Int)+1)))=_;rw[show wrap64 ((q:Int)+1)=((q+1:Nat):Int)by unfold wrap64;omega]
theorem eA0(w:World):(binOp .eql 61 (.pointer none) (.pointer none)).run prog w=.ok (.bool true) w:=by kernel_rfl
theorem dV3(a:Addr)(w:World):(binOp .eql 61 (.pointer (some a)) (.pointer none)).run prog w=.ok (.bool false) w:=by kernel_rfl
theorem dV4(a:Addr)(w:World):(binOp .neq 61 (.pointer (some a)) (.pointer none)).run prog w=.ok (.bool true) w:=by kernel_rfl
theorem dV5(w:World):(binOp .neq 61 (.pointer none) (.pointer none)).run prog w=.ok (.bool false) w:=by kernel_rfl
def QvAt(w:World)(p:Nat)(n s:Int)(d:Option Addr)(st f:ByteArray):Prop:=w.heap[p]? = some (.cells #[.int .i64 n,.int .i32 s,.pointer d,.string st,.string f] 66 (0,0))
theorem bQ8(p:Nat)(n s c r:Int)(st f:ByteArray)(w:World)(h:QvAt w p n s none st f)(H:Calls prog 77 #[.agg #[.int .i64 n,.int .i32 s],.int .i32 c] w (bQ7 w r)):
  Calls prog 41 #[.pointer (some ⟨p,0,none⟩),.int .i32 c] w (SvRes w r):=by
 obtain⟨c0,c1,c2,_,_⟩:=aC7 h;have q1:=fun w=>eA0 w
 have H:=hiD H;clear h;go_enter func41,ntmps41;go_wp2_with fail;refine H.out.mono ?_;rintro e w1 ⟨⟨k,rfl⟩,hk⟩;go_wp2_with fail;go_ret;exact⟨rfl,hk⟩
theorem bA1(p d:Nat)(b:Option Nat)(m sc c r:Int)(st f:ByteArray)(w:World)(h:QvAt w p 0 0 (some ⟨d,0,none⟩) st f)(hd:DecAt w d m sc b)(hc:-1000<=c/\c<=1000)(hs:-1000<=sc/\sc<=1000)(H:Calls prog 78 #[.pointer (some ⟨d,0,none⟩),.int .i64 sc,.int .i64 (-c)] w (SvRes w r)):
  Calls prog 41 #[.pointer (some ⟨p,0,none⟩),.int .i32 c] w (SvRes w r):=by
 obtain⟨c0,c1,c2,_,_⟩:=aC7 h;have q1:=fun w=>dV3 ⟨d,0,none⟩ w;have H:=hiD H;have HS:=hiD (aB4 d m sc b w hd);have HU:=hiD (aA4 d m sc b w hd);have HI:=hiD (aC8 c w hc);have e1:IntKind.i64.wrap sc=sc:=by rw[IntKind.wrap_i64];omega
 have e2:IntKind.i64.wrap (-c) = -c:=by rw[IntKind.wrap_i64];omega
 have e3:wrap64 sc=sc:=by unfold wrap64;omega
 have e4:wrap64 (-c) = -c:=by unfold wrap64;omega
 clear h hd hc hs;go_enter func41,ntmps41;go_wp2_with fail;refine HU.out.mono ?_;rintro e w1 ⟨rfl,rfl⟩;go_wp2_with fail;refine HS.out.mono ?_;rintro e w1 ⟨rfl,rfl⟩;go_wp2_with fail;refine HI.out.mono ?_;rintro e w1 ⟨rfl,rfl⟩;go_wp2_with fail;refine H.out.mono ?_;rintro e w1 ⟨rfl,hk⟩;go_wp2_with fail;go_ret;exact⟨rfl,hk⟩
def bQ9(w:World)(P:Int->Prop)(e:Ending)(w':World):Prop:=(∃(c:Int) (k:Bool),e=.returned (.tuple #[.int .i64 c,.bool k])/\(k=true->P c))/\Kept (fun _=>False) w w'
theorem cZ7(p:Nat)(n s:Int)(st f:ByteArray)(w:World)(h:QvAt w p n s none st f)(H:Calls prog 79 #[.agg #[.int .i64 n,.int .i32 s]] w (cK0 w n s)):
  Calls prog 42 #[.pointer (some ⟨p,0,none⟩)] w (bQ9 w fun c=>0<=s/\c=n*10^s.toNat):=by
 obtain⟨c0,c1,c2,_,_⟩:=aC7 h;have q1:=fun w=>dV5 w
 have H:=hiD H;clear h;go_enter func42,ntmps42;go_wp2_with fail;refine H.out.mono ?_;rintro e w1 ⟨⟨c,k,rfl,hc⟩,hk⟩;have HC:=hiD hc;clear hc;go_wp2_with fail;go_ret2;exact⟨⟨c,k,rfl,fun h=>⟨(HC.out h).1,(HC.out h).2.1⟩⟩,hk⟩
theorem cZ8(p:Nat)(a:Addr)(st f:ByteArray)(P:Int->Prop)(w:World)(h:QvAt w p 0 0 (some a) st f):
  Calls prog 42 #[.pointer (some ⟨p,0,none⟩)] w (bQ9 w P):=by
 obtain⟨c0,c1,c2,_,_⟩:=aC7 h;have q1:=fun w=>dV4 a w
 clear h;go_enter func42,ntmps42;go_wp2_with fail;go_ret2;exact⟨⟨0,false,rfl,fun h=>by cases h⟩,Kept.refl _ _⟩
def PqAny(w:World)(R:World->Int->Int->Option Addr->Prop)(e:Ending)(w':World):Prop :=
 (∃ n s d st f,e=.returned (.tuple #[.agg #[.int .i64 n,.int .i32 s,.pointer d,.string st,.string f],.nilIface])/\R w' n s d)/\Kept (fun _=>False) w w'
theorem PqFast.any{w w':World}{v sc:Int}{f:ByteArray}{e:Ending}(h:PqFast w v sc f e w'):PqAny w (fun _ n s d=>n=v/\s=sc/\d=none) e w':=by
 obtain⟨⟨st,rfl⟩,hk⟩:=h;exact⟨⟨v,sc,none,st,f,rfl,rfl,rfl,rfl⟩,hk⟩
def SlowR(w0:World)(m sc:Int)(w:World)(n s:Int)(d:Option Addr):Prop:=n=0/\s=0/\∃ p b,d=some ⟨p,0,none⟩/\w0.heap.size<=p/\DecAt w p m sc b
theorem PqSlow.any{w w':World}{m sc:Int}{f:ByteArray}{e:Ending}(h:PqSlow w m sc f e w'):PqAny w (SlowR w m sc) e w':=by
 obtain⟨⟨p,b,rfl,h1,h2,h3⟩,hk⟩:=h;exact⟨⟨0,0,_,_,f,rfl,rfl,rfl,p,b,rfl,h1,h2⟩,hk⟩
theorem dN0{w wx:World}(hk:Kept (fun _=>False) w wx)(n s:Int)(d:Option Addr)(st f:ByteArray):
  QvAt (wx.alloc (.cells #[.int .i64 n,.int .i32 s,.pointer d,.string st,.string f] 66)) wx.heap.size n s d st f/\Kept (fun _=>False) wx (wx.alloc (.cells #[.int .i64 n,.int .i32 s,.pointer d,.string st,.string f] 66)) :=
 ⟨aA0 wx _,(Kept.refl _ wx).alloc _⟩
def N2(w:World)(r:Int)(e:Ending)(w':World):Prop:=e=.returned (.tuple #[.int .i64 r,.int .i64 0])/\Kept (fun _=>False) w w'
theorem bC0(s:ByteArray)(c r:Int)(w:World)(R:World->Int->Int->Option Addr->Prop)(hc:-1000<=c/\c<=1000)(H:Calls prog 27 #[.string s] w (PqAny w R))(H2:∀ w1 w2 n sc d st f p,Kept (fun _=>False) w w1->R w1 n sc d->Kept (fun _=>False) w1 w2->QvAt w2 p n sc d st f->Calls prog 41 #[.pointer (some ⟨p,0,none⟩),.int .i32 c] w2 (SvRes w2 r)):
  Calls prog 20 #[.string s,.int .i64 c] w (N2 w r):=by
 have q1:=fun w=>e_nn0 w
 have e1:IntKind.i32.wrap c=c:=by rw[IntKind.wrap_i32];omega
 have e2:wrap32 c=c:=by unfold wrap32;omega
 have H:=hiD H;have H2:=hiD H2;clear hc;go_enter func20,ntmps20;go_wp2_with fail;refine H.out.mono ?_;rintro e w1 ⟨⟨n,sc,d,st,f,rfl,hR⟩,hk⟩;have HR:=hiD hR;have HK:=hiD hk;obtain⟨hq,hk2⟩:=dN0 hk n sc d st f;have HQ:=hiD (H2.out w1 _ n sc d st f _ hk hR hk2 hq);have HK2:=hiD (hk.same hk2);clear hR hk hq hk2 H2 H;go_wp2_with fail;refine HQ.out.mono ?_;rintro e w2 ⟨rfl,hk3⟩;have HK3:=hiD (HK2.out.same hk3);clear hk3;go_wp2_with fail;go_ret2;exact⟨rfl,HK3.out⟩
def N3(w:World)(P:Int->Prop)(e:Ending)(w':World):Prop:=(∃(c:Int) (k:Bool),e=.returned (.tuple #[.int .i64 c,.bool k,.int .i64 0])/\(k=true->P c))/\Kept (fun _=>False) w w'
theorem bK3(s:ByteArray)(P:Int->Prop)(w:World)(R:World->Int->Int->Option Addr->Prop)(H:Calls prog 27 #[.string s] w (PqAny w R))(H2:∀ w1 w2 n sc d st f p,Kept (fun _=>False) w w1->R w1 n sc d->Kept (fun _=>False) w1 w2->QvAt w2 p n sc d st f->Calls prog 42 #[.pointer (some ⟨p,0,none⟩)] w2 (bQ9 w2 P)):
  Calls prog 21 #[.string s] w (N3 w P):=by
 have q1:=fun w=>e_nn0 w
 have H:=hiD H;have H2:=hiD H2;go_enter func21,ntmps21;go_wp2_with fail;refine H.out.mono ?_;rintro e w1 ⟨⟨n,sc,d,st,f,rfl,hR⟩,hk⟩;have HR:=hiD hR;have HK:=hiD hk;obtain⟨hq,hk2⟩:=dN0 hk n sc d st f;have HQ:=hiD (H2.out w1 _ n sc d st f _ hk hR hk2 hq);have HK2:=hiD (hk.same hk2);clear hR hk hq hk2 H2 H;go_wp2_with fail;refine HQ.out.mono ?_;rintro e w2 ⟨⟨c,k,rfl,hc⟩,hk3⟩;have HK3:=hiD (HK2.out.same hk3);have HC:=hiD hc;clear hk3 hc;go_wp2_with fail;go_ret3;exact⟨⟨c,k,rfl,HC.out⟩,HK3.out⟩
def PR(neg:Bool)(N:Nat)(E:Int)(w0 w:World)(n s:Int)(d:Option Addr):Prop :=
 (d=none/\n=sgZ neg N/\(N≠0->s=E)/\N<=9223372036854775807 /\ -200<=s/\s<=200) \/
 (n=0/\s=0/\∃ p b m sc,d=some ⟨p,0,none⟩/\w0.heap.size<=p/\DecAt w p m sc b/\(N=0->m=0 /\ -60<=sc/\sc<=160)/\(N≠0->∃ M j,Vq N E M j/\m=sgZ neg (q9 M j E)/\sc=9))
def PqRes(w:World)(neg:Bool)(N:Nat)(E:Int)(e:Ending)(w':World):Prop:=PqAny w (PR neg N E w) e w'
theorem bC1{w w':World}{neg:Bool}{N:Nat}{E s:Int}{f:ByteArray}{e:Ending}(h:PqFast w (sgZ neg N) s f e w')(hs:N≠0->s=E)(hN:N<=9223372036854775807)(hb:-200<=s/\s<=200):PqRes w neg N E e w':=by
 obtain⟨⟨n,s',d,st,f',he,rfl,rfl,rfl⟩,hk⟩:=h.any;exact⟨⟨_,_,_,st,f',he,Or.inl ⟨rfl,rfl,hs,hN,hb.1,hb.2⟩⟩,hk⟩
theorem cE3{w w':World}{neg:Bool}{N:Nat}{E n9 s9:Int}{f:ByteArray}{e:Ending}(h:PqSlow w n9 s9 f e w')(h0:N=0->n9=0 /\ -60<=s9/\s9<=160)(h1:N≠0->∃ M j,Vq N E M j/\n9=sgZ neg (q9 M j E)/\s9=9):PqRes w neg N E e w':=by
 obtain⟨⟨n,s',d,st,f',he,rfl,rfl,p,b,rfl,hp,hd⟩,hk⟩:=h.any;exact⟨⟨_,_,_,st,f',he,Or.inr ⟨rfl,rfl,p,b,n9,s9,rfl,hp,hd,h0,h1⟩⟩,hk⟩
theorem bA2(neg:Bool):sgZ neg 0=0:=by cases neg<;>rfl
theorem dN1{neg:Bool}{N:Nat}(h:N≠0):sgZ neg N≠0:=by unfold sgZ;cases neg<;>simp<;>omega
theorem bY0(neg:Bool)(N:Nat)(E:Int)(hv:N≠0->∃ M j,Vq N E M j)(hE:-160<=E/\E<=60):
  ∃ Q n9 s9,Sm Q/\(sgZ neg N≠0->R9 (sgZ neg N).natAbs (-E) Q)/\PqNum (sgZ neg N) (-E) Q n9 s9/\(N=0->n9=0 /\ -60<=s9/\s9<=160)/\(N≠0->∃ M j,Vq N E M j/\n9=sgZ neg (q9 M j E)/\s9=9)/\(N≠0->Q<=9223372036854775807*10^9):=by
 by_cases hN:N=0
 ·subst hN;rw[bA2];exact⟨0,0,-E,Sm.one (by unfold B64;omega),fun h=>absurd rfl h,⟨fun _=>⟨rfl,rfl⟩,fun h=>by omega,fun h=>by omega⟩,fun _=>⟨rfl,by omega,by omega⟩,fun h=>absurd rfl h,fun h=>absurd rfl h⟩
 ·obtain⟨M,j,hq⟩:=hv hN;refine⟨q9 M j E,sgZ neg (q9 M j E),9,?_,fun _=>?_,⟨fun h=>absurd h (dN1 hN),fun h=>?_,fun h=>?_⟩,fun h=>absurd h hN,fun _=>⟨M,j,hq,rfl,rfl⟩,fun _=>hq.q9_le⟩
  ·refine Sm.of 2 (Nat.lt_of_le_of_lt hq.q9_le ?_) (by omega);unfold B64;decide
  ·rw[bG0];exact hq.r9 (by omega)
  ·have hn:neg=true:=by
    cases neg
    ·unfold sgZ at h;simp at h;omega
    ·rfl
   rw[hn];exact⟨rfl,rfl⟩
  ·have hn:neg=false:=by
    cases neg
    ·rfl
    ·unfold sgZ at h;simp at h;omega
   rw[hn];exact⟨rfl,rfl⟩
theorem qM_lt{q:QW}(h:q.num.size+q.denom.size<=100):qM q<10^100:=bF0 _ 100 (by rw[ByteArray.size_append];exact h)
theorem cZ9{N:Nat}(h:N<10^100*1024^6):(dig N).length<=900:=by
 have:(10:Nat)^100*1024^6<B64^10:=by unfold B64;decide
 have:=aD3 (Nat.lt_trans h this);omega
theorem dA0{q:QW}{neg:Bool}{value nm dm sf:ByteArray}(h:PWd q neg value nm dm sf)(hl:nm.size+dm.size<=18):Lib.parseIntB 64 (nm++dm).data.toList=.ok ((qM q:Nat):Int)/\qM q<10^(nm.size+dm.size)/\qM q<1000000000000000000:=by
 have hz:(nm++dm).data.toList.length=nm.size+dm.size:=by rw[aD5,List.length_append];rfl
 have h1:=h.l1;obtain⟨a,b⟩:=aZ8 (nm++dm).data.toList h.dg (by intro e;rw[e]at hz;simp at hz;omega) (by omega);have c:=bv_lt (nm++dm).data.toList;rw[h.val]at a b c;rw[hz]at c;exact⟨a,c,b⟩
theorem pow60{pw:ByteArray}(h1:allDg pw=true)(h0:0<pw.size)(h2:pw.size<=2)(h:P60 pw):dv (rd pw)<=60:=by
 obtain⟨⟨l⟩⟩:=pw;have hd:=aF4 h1;have z:(⟨⟨l⟩⟩:ByteArray).size=l.length:=rfl;rw[z]at h0 h2;have hd:∀ x∈l,isDg x.toNat=true:=hd;show dv (l.map fun c=>dgOf c.toNat)<=60
 match l,h0,h2,hd with
 | [a],_,_,hd =>
  have:=cB1 a.toNat
  simp[dv];omega
 | [a,b],_,_,hd =>
  have ha:=bW8 (hd a (by simp));have hb:=bW8 (hd b (by simp));have ea:=bP9 (hd a (by simp));have eb:=bP9 (hd b (by simp));simp only[List.map,dv,ea,eb,List.length_cons,List.length_nil];unfold P60 at h;rw[ByteArray.toList_eq]at h;have z2:(⟨⟨[a,b]⟩⟩:ByteArray).size=2:=rfl;rcases h with h|h|h
  ·have h:((decide (a<54))||(a==54&&((decide (b<48))||(b==48&&false))))=true:=h;simp only[Bool.or_eq_true,Bool.and_eq_true,decide_eq_true_eq,beq_iff_eq,Bool.and_false,Bool.or_false]at h;rcases h with h|⟨h,h'⟩
   ·have:a.toNat<54:=h;omega
   ·have:b.toNat<48:=h';omega
  ·have h:[a,b]=[54,48]:=by simpa using h
   injection h with h1 h2;injection h2 with h2 _;subst h1 h2;decide
  ·exact absurd z2 h
theorem dA1{q:QW}(hq:QRight q):(aF0 q).size<=q.num.size+q.denom.size+10/\(aF0 q).size≠0:=by
 have hb:=aD1 (bB8 q);have hsg:=aP5 q.sign;have hsp:=aP5 q.psign;have hdn:=dn_ds hq;have hdl:q.denom.size<=(dnL q).length/\(dnL q).length<=1+q.denom.size:=by
  rcases hdn with⟨e1,e2⟩|e1
  ·have:q.denom.size=0:=aD1 e2;rw[e1,this];simp
  ·have:(dsL q).length=q.denom.size:=rfl;rw[e1,List.length_cons];omega
 have z1:(sgStr q.sign).data.toList.length=(sgStr q.sign).size:=rfl;have z2:q.num.data.toList.length=q.num.size:=rfl;rw[List.length_append,List.length_append,z1,z2]at hb;have hs:=hq.some;unfold aF0;rcases hq.kinds with⟨hk,h1,h2⟩|⟨hk,h1,h2⟩|⟨hk,h1,h2,h3,h4,h5⟩
 ·rw[if_pos hk,ByteArray.size_append];have:(aT6 (q.place+1).toNat).size<=1:=by unfold aT6;split<;>decide
  omega
 ·rw[if_neg (by omega),if_pos hk,ByteArray.size_append];have:(aV6 (q.place-1).toNat).size<=2:=by unfold aV6;split<;>decide
  omega
 ·rw[if_neg (by omega),if_neg (by omega)];split
  ·rw[ByteArray.size_append,ByteArray.size_append,ByteArray.size_append];have:(⟨#[69]⟩:ByteArray).size=1:=rfl;omega
  ·rw[ByteArray.size_append,ByteArray.size_append,ByteArray.size_append];have:(⟨#[101]⟩:ByteArray).size=1:=rfl;omega
theorem dA2{q:QW}{neg:Bool}{value nm dm sf:ByteArray}(hq:QRight q)(hl:q.num.size+q.denom.size<=100)(h:PWd q neg value nm dm sf)(h0:((aF0 q).toList==[48])=false){b x:Int}{f:ByteArray}(hx:-60<=x/\x<=60)(hi:∀ d w,Suffixer w d->Calls prog 331 #[.agg #[.pointer (some ⟨d,0,none⟩)],.string sf] w (aK4 w b x (.string f) true)):PIn (aF0 q) neg value nm dm sf b x f:=by
 have hz:=dA1 hq;exact⟨hz.2,h0,by omega,h.pq,hi,h.l1,h.l2,hx⟩
theorem dA3{q:QW}{neg:Bool}{value nm dm sf:ByteArray}(hl:q.num.size+q.denom.size<=100)(h:PWd q neg value nm dm sf){x:Int}(hx:-60<=x/\x<=60)(hpv:nm.size=1->dm.size=0->sufL q=[] -> -9<=x)(hN:qN q=qM q)(hE:qE q=x-(dm.size:Int))(hv:qN q≠0->∃ M j,Vq (qN q) (qE q) M j)(w:World)(f:ByteArray)(Hf:Lib.parseIntB 64 (nm++dm).data.toList=.ok ((qM q:Nat):Int)->qM q<1000000000000000000->nm.size+dm.size<=18 -> -9<=x-(dm.size:Int)->Calls prog 27 #[.string (aF0 q)] w (PqFast w (sgZ neg (qM q)) (x-(dm.size:Int)) f))(Hs:∀(U:Int) (Q:Nat) (n9 s9:Int),(18<nm.size+dm.size\/x-(dm.size:Int) < -9)->PVal value neg U dm.size->(dig U.natAbs).length<=900->Sm Q->(U≠0->R9 U.natAbs ((dm.size:Int)-x) Q)->PqNum U ((dm.size:Int)-x) Q n9 s9->Calls prog 27 #[.string (aF0 q)] w (PqSlow w n9 s9 f)):
  Calls prog 27 #[.string (aF0 q)] w (PqRes w neg (qN q) (qE q)):=by
 have hds:=h.ds;have h2:=h.l2;have h1:=h.l1;by_cases hc:nm.size+dm.size<=18 /\ -9<=x-(dm.size:Int)
 ·obtain⟨a,b,c⟩:=dA0 h hc.1;refine(Hf a c hc.1 hc.2).mono (fun e w' hp=>?_);rw[hN];rw[<- hE]at hp;exact bC1 hp (fun _=>rfl) (by omega) (by omega)
 ·have hpv2:PVal value neg (sgZ neg (qM q)) dm.size:=by
   rcases h.pv with h5|⟨h5,h6,h7⟩
   ·exact h5
   ·exact absurd ⟨by omega,by have:=hpv h5 h6 h7;omega⟩ hc
  have hneg:-(qE q)=(dm.size:Int)-x:=by omega
  have hc2:18<nm.size+dm.size\/x-(dm.size:Int) < -9:=by omega
  have hM:qM q<10^100*1024^6:=by have:=qM_lt hl;omega
  obtain⟨Q,n9,s9,p1,p2,p3,p4,p5,p6⟩:=bY0 neg (qN q) (qE q) hv (by omega);rw[hneg,hN]at p2 p3;refine(Hs _ Q n9 s9 hc2 hpv2 (by rw[bG0];exact cZ9 hM) p1 p2 p3).mono (fun e w' hp=>?_);exact cE3 hp p4 p5
theorem eA1(N Q:Nat):∃ f9:ByteArray,(N=0->f9=⟨#[66,105,110,97,114,121,83,73]⟩)/\(N≠0->PqFmt Q 9 f9):=by
 by_cases hN:N=0
 ·exact⟨_,fun _=>rfl,fun h=>absurd hN h⟩
 ·by_cases hQ:0<Q/\Q<10^9
  ·exact⟨_,fun h=>absurd h hN,fun _=>⟨fun _=>rfl,fun h=>absurd hQ h⟩⟩
  ·exact⟨_,fun h=>absurd h hN,fun _=>⟨fun h=>absurd h hQ,fun _=>rfl⟩⟩
theorem dA4(neg:Bool)(a b:Nat):sgZ neg (a*b)=sgZ neg a*(b:Int):=by unfold sgZ;cases neg<;>simp[Int.neg_mul]
theorem eA2(pl:Nat):2^(10*pl)=1024^pl:=by rw[Nat.pow_mul]
theorem eA3{pl:Nat}(h1:1<=pl)(h6:pl<=6):FltK ((10*pl:Nat):Int) (3*(pl:Int)):=by
 have:pl=1\/pl=2\/pl=3\/pl=4\/pl=5\/pl=6:=by omega
 rcases this with rfl|rfl|rfl|rfl|rfl|rfl
 ·exact dU7
 ·exact dU8
 ·exact dU9
 ·exact dV0
 ·exact dV1
 ·exact dV2
theorem eA4{q:QW}{neg:Bool}{value nm dm sf:ByteArray}{pl:Nat}(hl:q.num.size+q.denom.size<=100)(h:PWd q neg value nm dm sf)(h1:1<=pl)(h6:pl<=6)(hk:q.kind=1)(hpl:q.place=(pl:Int))(hsuf:sufL q≠[])(hp:PIn (aF0 q) neg value nm dm sf 2 ((10*pl:Nat):Int) ⟨#[66,105,110,97,114,121,83,73]⟩)(hv:qN q≠0->∃ M j,Vq (qN q) (qE q) M j)(w:World)(ev:Value)(a:Addr)(hev0:w.cell? ⟨0,0,none⟩=some ev)(heof:Eof w a)(ht:Thr w):
  Calls prog 27 #[.string (aF0 q)] w (PqRes w neg (qN q) (qE q)):=by
 have hds:=h.ds;have hE:qE q = -(dm.size:Int):=by unfold qE;rw[if_neg (by omega),if_pos hk,hds]
 have hN:qN q=qM q*1024^pl:=by unfold qN;rw[if_pos hk,hpl,Int.toNat_natCast]
 have hpv:PVal value neg (sgZ neg (qM q)) dm.size:=by
  rcases h.pv with h5|⟨_,_,h7⟩
  ·exact h5
  ·exact absurd h7 hsuf
 have hM:=qM_lt hl;have hp6:(1024:Nat)^pl<=1024^6:=Nat.pow_le_pow_right (by omega) h6;have hNb:qN q<10^100*1024^6:=by
  rw[hN];exact Nat.lt_of_lt_of_le (Nat.mul_lt_mul_of_pos_right hM (Nat.pow_pos (by omega))) (Nat.mul_le_mul_left _ hp6)
 have hUs:(dig (sgZ neg (qM q)).natAbs).length<=900:=by rw[bG0];exact cZ9 (by omega)
 have hUS:Sm (sgZ neg (qM q)).natAbs:=Nat.le_trans hUs (by omega);have hVs:(dig (sgZ neg (qN q)).natAbs).length<=900:=by rw[bG0];exact cZ9 hNb
 have hV:sgZ neg (qN q)=sgZ neg (qM q)*((2^(10*pl):Nat):Int):=by rw[hN,eA2,dA4]
 have hEb:-160<=qE q/\qE q<=60:=by have:=h.l2;have:=h.l1;omega
 have hx2:10*pl<64:=by omega
 have hx1:1<=10*pl:=by omega
 have hneg:-(qE q)=(dm.size:Int):=by omega
 obtain⟨Q,n9,s9,p1,p2,p3,p4,p5,p6⟩:=bY0 neg (qN q) (qE q) hv hEb;obtain⟨f9,hf0,hf1⟩:=eA1 (qN q) Q;rw[hneg]at p2 p3;have hfm:(sgZ neg (qN q)=0->f9=⟨#[66,105,110,97,114,121,83,73]⟩)/\(sgZ neg (qN q)≠0->Q<=9223372036854775807*10^9/\PqFmt Q 9 f9):=by
  refine⟨fun h0=>hf0 ?_,fun h0=>?_⟩
  ·by_cases hz:qN q=0
   ·exact hz
   ·exact absurd h0 (dN1 hz)
  ·have hz:qN q≠0:=fun hz=>by rw[hz,bA2]at h0;exact h0 rfl
   exact⟨p6 hz,hf1 hz⟩
 by_cases hd0:dm.size=0
 ·by_cases hf:nm.size+3*pl<=14
  ·obtain⟨a1,a2,_⟩:=dA0 h (by omega);rw[hd0,Nat.add_zero]at a2;have hle:qM q<10^(14-3*pl):=Nat.lt_of_lt_of_le a2 (Nat.pow_le_pow_right (by omega) (by omega));have hE0:qE q=0:=by omega
   have:pl=1\/pl=2\/pl=3\/pl=4:=by have:=h.l1;omega
   rcases this with rfl|rfl|rfl|rfl
   ·have e1:(10:Nat)^(14-3*1)=100000000000:=by decide
    rw[e1]at hle;refine(cD7 _ neg value nm dm sf (qM q) hp a1 hle hd0 (by omega) w ev hev0).mono (fun e w' hr=>?_);rw[hN];exact bC1 hr (fun _=>hE0.symm) (by omega) (by omega)
   ·have e1:(10:Nat)^(14-3*2)=100000000:=by decide
    rw[e1]at hle;refine(cD8 _ neg value nm dm sf (qM q) hp a1 hle hd0 (by omega) w ev hev0).mono (fun e w' hr=>?_);rw[hN];exact bC1 hr (fun _=>hE0.symm) (by omega) (by omega)
   ·have e1:(10:Nat)^(14-3*3)=100000:=by decide
    rw[e1]at hle;refine(cD9 _ neg value nm dm sf (qM q) hp a1 hle hd0 (by omega) w ev hev0).mono (fun e w' hr=>?_);rw[hN];exact bC1 hr (fun _=>hE0.symm) (by omega) (by omega)
   ·have e1:(10:Nat)^(14-3*4)=100:=by decide
    rw[e1]at hle;refine(cE0 _ neg value nm dm sf (qM q) hp a1 hle hd0 (by omega) w ev hev0).mono (fun e w' hr=>?_);rw[hN];exact bC1 hr (fun _=>hE0.symm) (by omega) (by omega)
  ·have hpr:14-3*(pl:Int)-(nm.size:Int)<0/\0<=3*(pl:Int)/\3*(pl:Int)<=100:=by omega
   exact(cP1 _ neg value nm dm sf (10*pl) _ _ Q hp hx1 hx2 hd0 (3*(pl:Int)) (eA3 h1 h6) hpr hpv hUS hV hVs p1 p2 n9 s9 p3 f9 hfm w ev a hev0 heof ht).mono (fun e w' hr=>cE3 hr p4 p5)
 ·exact(cP2 _ neg value nm dm sf (10*pl) _ _ Q hp hx1 hx2 hd0 hpv hUS hV hVs p1 p2 n9 s9 p3 f9 hfm w ev a hev0 heof ht).mono (fun e w' hr=>cE3 hr p4 p5)
theorem dA5{d:Dm}{f:Int}{c:ByteArray}(h:CanOk d f c):mayD d maxD=true:=by
 rcases h with⟨h,_⟩|⟨h,_⟩|⟨h,_⟩<;>exact h
theorem bL5{q:QW}{t:ByteArray}{d:Dm}(h:OfOk2 q t d)(w:World)(ev:Value)(a:Addr)(hev0:w.cell? ⟨0,0,none⟩=some ev)(heof:Eof w a)(ht:Thr w):
  Calls prog 27 #[.string t] w (PqRes w (q.sign==2) (qN q) (qE q)):=by
 obtain⟨htx,hq,hl,hpw,_,h60,c,hcan⟩:=h;subst htx;have hv:qN q≠0->∃ M j,Vq (qN q) (qE q) M j:=fun hN=>vq_of hN (dA5 hcan);obtain⟨value,nm,dm,sf,hp⟩:=dZ3 hq hl;rcases Bool.eq_false_or_eq_true ((aF0 q).toList==[48])with h0|h0
 ·-- the text 0
  have hN0:qN q=0:=by
   have h1:(aF0 q).toList=[48]:=by simpa using h0
   rw[ByteArray.toList_eq]at h1;have e1:aF0 q=⟨#[48]⟩:=aS3 h1;have e2:=hp.pq;have e3:pq ⟨#[48]⟩=⟨true,⟨#[48]⟩,⟨#[48]⟩,⟨#[]⟩,⟨#[]⟩,true⟩:=by kernel_rfl
   rw[e1,e3]at e2;injection e2 with _ _ e4 e5 _ _;have e6:=hp.val;rw[<- e4,<- e5]at e6;have e7:bv ((⟨#[48]⟩:ByteArray)++⟨#[]⟩).data.toList=0:=by rw[aD5];rfl
   rw[e7]at e6;unfold qN;rw[<- e6];split
   ·exact Nat.zero_mul _
   ·rfl
  rw[hN0];refine(dU6 _ h0 w).mono (fun e w' hr=>bC1 (N:=0) (by rw[bA2];exact hr) (fun hh=>absurd rfl hh) (by omega) (by omega))
 ·rcases hq.kinds with⟨hk,h1,h2⟩|⟨hk,h1,h2⟩|⟨hk,h1,h2,h3,h4,h5⟩
  ·have hsf:sf=aT6 (q.place+1).toNat:=aS3 (by rw[hp.sf];unfold sufL;rw[if_pos hk]);have hpi:PIn (aF0 q) (q.sign==2) value nm dm sf 10 (3*q.place) ⟨#[68,101,99,105,109,97,108,83,73]⟩:=dA2 hq hl hp h0 (by omega) (fun d w hs=>by rw[hsf];exact dJ1 q.place h1 h2 d w hs);refine dA3 hl hp (x:=3*q.place) (by omega) (fun _ _ _=>by omega) (by unfold qN;rw[if_neg (by omega)]) (by unfold qE;rw[if_pos hk,hp.ds];omega) hv w _ (fun b1 b2 b3 b4=>cU0 _ _ value nm dm sf _ _ hpi b1 b2 b3 b4 w ev hev0) (fun U Q n9 s9 b1 b2 b3 b4 b5 b6=>cZ3 _ _ value nm dm sf _ U Q hpi b1 b2 b3 b4 b5 n9 s9 b6 w ev a hev0 heof ht)
  ·obtain⟨pl,hpl⟩:∃ pl:Nat,q.place=(pl:Int):=⟨q.place.toNat,by omega⟩;have hsf:sf=aV6 (q.place-1).toNat:=aS3 (by rw[hp.sf];unfold sufL;rw[if_neg (by omega),if_pos hk]);have hsu:sufL q≠[]:=by
    unfold sufL;rw[if_neg (by omega),if_pos hk];have:q.place=1\/q.place=2\/q.place=3\/q.place=4\/q.place=5\/q.place=6:=by omega
    rcases this with h|h|h|h|h|h<;>rw[h]<;>decide
   have hpi:PIn (aF0 q) (q.sign==2) value nm dm sf 2 ((10*pl:Nat):Int) ⟨#[66,105,110,97,114,121,83,73]⟩:=dA2 hq hl hp h0 (by omega) (fun d w hs=>by
    rw[hsf,show((10*pl:Nat):Int)=10*q.place by omega];exact dJ2 q.place h1 h2 d w hs)
   exact eA4 hl hp (by omega) (by omega) hk hpl hsu hpi hv w ev a hev0 heof ht
  ·have hb:=pow60 h1 h2 hpw h60;have hsl:sufL q=(if q.upper=true then(69:UInt8)else 101)::((sgStr q.psign).data.toList++q.power.data.toList):=by unfold sufL;rw[if_neg (by omega),if_neg (by omega)]
   have hpwr:-60<=pwr q/\pwr q<=60:=by unfold pwr;split<;>omega
   have hsg:(sgStr q.psign).data.toList=[45]↔q.psign=2:=by
    have:q.psign=0\/q.psign=1\/q.psign=2:=by omega
    rcases this with h|h|h<;>rw[h]<;>decide
   have hpi:PIn (aF0 q) (q.sign==2) value nm dm sf 10 (pwr q) ⟨#[68,101,99,105,109,97,108,69,120,112,111,110,101,110,116]⟩:=dA2 hq hl hp h0 hpwr (fun d w hs =>
    dJ0 sf (if q.upper=true then(69:UInt8)else 101) (sgStr q.psign).data.toList q.power.data.toList (by rw[hp.sf,hsl]) (by cases q.upper<;>simp) (aP6 _) (aF4 h1) (by intro e;have:q.power.size=0:=aD1 e;omega) (by show q.power.size<=3;omega) (pwr q)
     (by
      unfold pwr;by_cases hp2:q.psign=2
      ·rw[if_pos hp2,if_pos (hsg.2 hp2)];rfl
      ·rw[if_neg hp2,if_neg (fun e=>hp2 (hsg.1 e))];rfl) d w hs)
   refine dA3 hl hp (x:=pwr q) hpwr (fun _ _ e=>by rw[hsl]at e;cases e) (by unfold qN;rw[if_neg (by omega)]) (by unfold qE;rw[if_neg (by omega),if_neg (by omega),hp.ds];omega) hv w _ (fun b1 b2 b3 b4=>cU1 _ _ value nm dm sf _ _ hpi b1 b2 b3 b4 w ev hev0) (fun U Q n9 s9 b1 b2 b3 b4 b5 b6=>cZ4 _ _ value nm dm sf _ U Q hpi b1 b2 b3 b4 b5 n9 s9 b6 w ev a hev0 heof ht)
end Go.Proofs.YtjebnpkebccffaaGreatDoor
