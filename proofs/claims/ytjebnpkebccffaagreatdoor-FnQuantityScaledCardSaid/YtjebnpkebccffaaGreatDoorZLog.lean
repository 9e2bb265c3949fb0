import Derived.Test.YtjebnpkebccffaaGreatDoorZExpn
import Derived.Laws.BytesArg
set_option linter.unusedSimpArgs false
set_option linter.unusedVariables false
set_option linter.unusedSectionVars false
set_option maxRecDepth 100000
set_option maxHeartbeats 8000000
namespace Go.Proofs.YtjebnpkebccffaaGreatDoor
open Go.RowKit Go.Proofs.Tryz
theorem alog(w:World):(Extern.MathLog.archLog #[.float .f64 4603804719079489536]).run prog w=.ok (.float .f64 13825510489450817230) w:=by kernel_rfl
theorem x294(w:World):(callFunc 294 #[.float .f64 4603804719079489536]).run prog w=.ok (.value (.float .f64 13825510489450817230)) w:=by
 rw[run_callFunc_extern func294 (by kernel_rfl) (by kernel_rfl) (by kernel_rfl) (show Extern.find Tryz.f294=some Extern.MathLog.archLog by kernel_rfl),alog];rfl
theorem Log_c(w:World):Calls prog 290 #[.float .f64 4603804719079489536] w fun e w'=>e=.returned (.float .f64 13825510489450817230)/\w=w':=by
 have h:=fun w=>x294 w
 go_enter func290,ntmps290;go_wp2_with fail;go_ret;exact⟨rfl,rfl⟩
theorem x299(w:World):(callFunc 299 #[.float .f64 4621819117588971520]).run prog w=.ok (.value (.int .u64 4621819117588971520)) w:=by
 rw[run_callFunc_extern func299 (by kernel_rfl) (by kernel_rfl) (by kernel_rfl) (show Extern.find Tryz.f299=some Extern.MathFloatBits.float64bits by kernel_rfl)];rfl
theorem x193a(w:World):(callFunc 193 #[.int .u64 4621819117588971520]).run prog w=.ok (.value (.float .f64 4621819117588971520)) w:=by
 rw[run_callFunc_extern func193 (by kernel_rfl) (by kernel_rfl) (by kernel_rfl) (show Extern.find Tryz.f193=some Extern.MathFloatBits.float64frombits by kernel_rfl)];rfl
theorem x193b(w:World):(callFunc 193 #[.int .u64 4603804719079489536]).run prog w=.ok (.value (.float .f64 4603804719079489536)) w:=by
 rw[run_callFunc_extern func193 (by kernel_rfl) (by kernel_rfl) (by kernel_rfl) (show Extern.find Tryz.f193=some Extern.MathFloatBits.float64frombits by kernel_rfl)];rfl
theorem Abs_c(w:World):Calls prog 301 #[.float .f64 4621819117588971520] w fun e w'=>e=.returned (.float .f64 4621819117588971520)/\w=w':=by
 have h:=fun w=>x299 w
 have h2:=fun w=>x193a w
 have h3:bits .andNot .u64 4621819117588971520 9223372036854775808=4621819117588971520:=by decide +kernel
 go_enter func301,ntmps301;go_wp2_with fail;go_ret;exact⟨rfl,rfl⟩
theorem fgtr(w:World):(binOp .gtr 193 (.float .f64 4621819117588971520) (.float .f64 9218868437227405311)).run prog w=.ok (.bool false) w:=by kernel_rfl
theorem flss(w:World):(binOp .lss 193 (.float .f64 4621819117588971520) (.float .f64 4503599627370496)).run prog w=.ok (.bool false) w:=by kernel_rfl
theorem fneq(w:World):(binOp .neq 193 (.float .f64 4621819117588971520) (.float .f64 4621819117588971520)).run prog w=.ok (.bool false) w:=by kernel_rfl
theorem feq0(w:World):(binOp .eql 193 (.float .f64 4621819117588971520) (.float .f64 0)).run prog w=.ok (.bool false) w:=by kernel_rfl
theorem feqh(w:World):(binOp .eql 193 (.float .f64 4603804719079489536) (.float .f64 4602678819172646912)).run prog w=.ok (.bool false) w:=by kernel_rfl
theorem dO5(w:World):Calls prog 296 #[.float .f64 4621819117588971520,.int .i64 0] w fun e w'=>e=.returned (.bool false)/\w=w':=by
 have h:=fun w=>fgtr w
 go_enter func296,ntmps296;go_wp2_with fail;refine(Abs_c _).mono ?_;rintro e w' ⟨rfl,rfl⟩;go_wp2_with fail;go_ret;exact⟨rfl,rfl⟩
theorem dO6(w:World):Calls prog 297 #[.float .f64 4621819117588971520] w fun e w'=>e=.returned (.bool false)/\w=w':=by
 have h:=fun w=>fneq w
 go_enter func297,ntmps297;go_wp2_with fail;go_ret;exact⟨rfl,rfl⟩
theorem bZ9(w:World):Calls prog 298 #[.float .f64 4621819117588971520] w fun e w'=>e=.returned (.tuple #[.float .f64 4621819117588971520,.int .i64 0])/\w=w':=by
 have h:=fun w=>flss w
 go_enter func298,ntmps298;go_wp2_with fail;refine(Abs_c _).mono ?_;rintro e w' ⟨rfl,rfl⟩;go_wp2_with fail;go_ret2;exact⟨rfl,rfl⟩
theorem dO7(w:World):Calls prog 293 #[.float .f64 4621819117588971520] w fun e w'=>e=.returned (.tuple #[.float .f64 4603804719079489536,.int .i64 4])/\w=w':=by
 have h:=fun w=>feq0 w
 have h1:=fun w=>x299 w
 have h2:=fun w=>x193b w
 have h3:bits .and .u64 1026 2047=1026:=by decide +kernel
 have h4:bits .andNot .u64 4621819117588971520 9218868437227405312=1125899906842624:=by decide +kernel
 have h5:bits .or .u64 1125899906842624 4602678819172646912=4603804719079489536:=by decide +kernel
 go_enter func293,ntmps293;go_wp2_with fail;refine(dO5 _).mono ?_;rintro e w' ⟨rfl,rfl⟩;go_wp2_with fail;refine(dO6 _).mono ?_;rintro e w' ⟨rfl,rfl⟩;go_wp2_with fail;refine(bZ9 _).mono ?_;rintro e w' ⟨rfl,rfl⟩;go_wp2_with fail;go_ret2;exact⟨rfl,rfl⟩
theorem dO8(w:World):Calls prog 289 #[.float .f64 4621819117588971520] w fun e w'=>e=.returned (.tuple #[.float .f64 4603804719079489536,.int .i64 4])/\w=w':=by
 go_enter func289,ntmps289;go_wp2_with fail;refine(dO7 _).mono ?_;rintro e w' ⟨rfl,rfl⟩;go_wp2_with fail;go_ret2;exact⟨rfl,rfl⟩
theorem fmul(w:World):(binOp .mul 193 (.float .f64 13825510489450817230) (.float .f64 4609176140021203710)).run prog w=.ok (.float .f64 13827654785158443579) w:=by kernel_rfl
theorem fadd(w:World):(binOp .add 193 (.float .f64 13827654785158443579) (.float .f64 4616189618054758400)).run prog w=.ok (.float .f64 4614662735865160561) w:=by kernel_rfl
theorem fcv4(w:World):(convert 3 193 (.int .i64 4)).run prog w=.ok (.float .f64 4616189618054758400) w:=by kernel_rfl
theorem fcv10(w:World):(convert 3 193 (.int .i64 10)).run prog w=.ok (.float .f64 4621819117588971520) w:=by kernel_rfl
theorem dW7(w:World):Calls prog 285 #[.float .f64 4621819117588971520] w fun e w'=>e=.returned (.float .f64 4614662735865160561)/\w=w':=by
 have h:=fun w=>feqh w
 have h2:=fun w=>fmul w
 have h3:=fun w=>fadd w
 have h4:=fun w=>fcv4 w
 go_enter func285,ntmps285;go_wp2_with fail;refine(dO8 _).mono ?_;rintro e w' ⟨rfl,rfl⟩;go_wp2_with fail;refine(Log_c _).mono ?_;rintro e w' ⟨rfl,rfl⟩;go_wp2_with fail;go_ret;exact⟨rfl,rfl⟩
theorem dW8(w:World):Calls prog 262 #[.float .f64 4621819117588971520] w fun e w'=>e=.returned (.float .f64 4614662735865160561)/\w=w':=by
 go_enter func262,ntmps262;go_wp2_with fail;refine(dW7 _).mono ?_;rintro e w' ⟨rfl,rfl⟩;go_wp2_with fail;go_ret;exact⟨rfl,rfl⟩
theorem dO9(a b:Nat)(ha:a<18446744073709551616)(hb:b<18446744073709551616):bits .or .u64 (a:Int) (b:Int)=((a ||| b:Nat):Int):=by
 have h1:(BitVec.ofInt 64 (a:Int)).toNat=a:=by rw[BitVec.ofInt_natCast,BitVec.toNat_ofNat];exact Nat.mod_eq_of_lt (by omega)
 have h2:(BitVec.ofInt 64 (b:Int)).toNat=b:=by rw[BitVec.ofInt_natCast,BitVec.toNat_ofNat];exact Nat.mod_eq_of_lt (by omega)
 show IntKind.u64.wrap ((BitVec.ofInt 64 (a:Int) ||| BitVec.ofInt 64 (b:Int)).toNat:Int)=_;have h3:a ||| b<2^64:=Nat.or_lt_two_pow (by omega) (by omega);rw[BitVec.toNat_or,h1,h2,IntKind.wrap_u64];omega
theorem cG4:∀ f n,n<2^f->n<2^Lib.bitLenAux f n:=by
 intro f
 induction f with
 | zero=>intro n h;simpa[Lib.bitLenAux]using h
 | succ f ih =>
  intro n h;unfold Lib.bitLenAux;split
  ·omega
  ·have:=ih (n/2) (by rw[Nat.pow_succ]at h;omega);rw[Nat.pow_add,Nat.pow_one];omega
theorem cG5:∀ f n L,n<2^L->Lib.bitLenAux f n<=L:=by
 intro f
 induction f with
 | zero=>intro n L h;exact Nat.zero_le _
 | succ f ih =>
  intro n L h;unfold Lib.bitLenAux;split
  ·omega
  ·cases L with
   | zero=>simp at h;omega
   | succ L=>have:=ih (n/2) L (by rw[Nat.pow_succ]at h;omega);omega
theorem bl_or{x:Nat}(s:Nat)(S:Int)(hS:(s:Int)=S)(h:x<18446744073709551616):∃ y,y<18446744073709551616/\Lib.bitLen y=Lib.bitLen x/\bits .or .u64 (x:Int) ((x:Int)/S)=(y:Int):=by
 rw[<- hS,<- Int.natCast_ediv];have h1:x/s<=x:=Nat.div_le_self _ _;have h2:x ||| x/s<2^Lib.bitLen x:=Nat.or_lt_two_pow (cG4 64 x (by omega)) (Nat.lt_of_le_of_lt h1 (cG4 64 x (by omega)));have h3:x ||| x/s<2^64:=Nat.or_lt_two_pow (by omega) (by omega);refine⟨x ||| x/s,by omega,Nat.le_antisymm (cG5 64 _ _ h2) (cG5 64 _ _ (Nat.lt_of_le_of_lt Nat.left_le_or (cG4 64 _ (by omega)))),dO9 _ _ h (by omega)⟩
def nbits(n:Nat):Nat:=if n=0 then 0 else((dig n).length-1)*64+Lib.bitLen ((dig n).getD ((dig n).length-1) 0)
theorem cL7(v:Value)(b:Option Nat)(n:Nat)(w:World)(hv:NatAt w v n b)(h0:n≠0)(hn:Sm n):
  Calls prog 261 #[v] w fun e w'=>e=.returned (.int .i64 ((nbits n:Nat):Int))/\w=w':=by
 obtain⟨k,cs,rfl,rfl,hk,hl,hp,hs,hh⟩:=aF2 hv h0;have hpos:=aB3 h0;have hlen:(dig n).length<=100000:=hn;have hnb:nbits n=((dig n).length-1)*64+Lib.bitLen ((dig n).getD ((dig n).length-1) 0):=by unfold nbits;rw[if_neg h0]
 have c1:w.cell? ⟨k,(dig n).length-1,none⟩=some (.int .u64 (((dig n).getD ((dig n).length-1) 0:Nat):Int)):=by
  rw[aA2 hk];have:=hh ((dig n).length-1) (by omega);rwa[Nat.zero_add]at this
 have hx:(dig n).getD ((dig n).length-1) 0<B64:=bF3 (aN9 n) _;rw[hnb];generalize(dig n).getD ((dig n).length-1) 0=x at *;generalize(dig n).length=L at *;obtain⟨m,rfl⟩:∃ m,L=m+1:=⟨L-1,by omega⟩;simp only[Nat.add_sub_cancel]at *;have hx:x<18446744073709551616:=hx;obtain⟨y1,l1,b1,e1⟩:=bl_or 2 2 rfl hx;obtain⟨y2,l2,b2,e2⟩:=bl_or 4 4 rfl l1;obtain⟨y3,l3,b3,e3⟩:=bl_or 16 16 rfl l2;obtain⟨y4,l4,b4,e4⟩:=bl_or 256 256 rfl l3;obtain⟨y5,l5,b5,e5⟩:=bl_or 65536 65536 rfl l4;obtain⟨y6,l6,b6,e6⟩:=bl_or 4294967296 4294967296 rfl l5;have hb:Lib.bitLen y6=Lib.bitLen x:=by rw[b6,b5,b4,b3,b2,b1]
 have hl6:=(Tryz.bits_Len (y6:Int) w (by omega) (by omega));rw[Int.toNat_natCast,hb]at hl6;have HL:=hiD hl6;have e6':bits .or .u64 (y5:Int) ((y5:Int)/65536/65536)=(y6:Int):=by rw[<- e6];congr 1;omega
 clear e6;clear hl6 hb;clear b1 b2 b3 b4 b5 b6 hk hh hv hnb;have hq:Lib.bitLen x<=64:=cG5 64 x 64 (by omega);generalize Lib.bitLen x=q at *;go_enter func261,ntmps261;go_wp2_with fail;refine HL.out.mono ?_;rintro e w1 ⟨rfl,rfl⟩;go_wp2_with fail;go_ret;exact⟨by simp,rfl⟩
def tabOK(nb:Nat):Bool :=
 match FloatKind.f64.format.div (FloatKind.f64.nearest (nb:Int)) 4614662735865160561 with
 | some q=>match(FloatKind.f64.decode q).toInt .zero with
  | some k=>decide (0<=k)&&decide (k<=200)&&decide (2^nb<=10^(k.toNat+1))
  | none=>false
 | none=>false
theorem cT1:(List.range 513).all tabOK=true:=by decide +kernel
theorem cT2(nb:Nat)(h:nb<=512):∃ q k,FloatKind.f64.format.div (FloatKind.f64.nearest (nb:Int)) 4614662735865160561=some q/\(FloatKind.f64.decode q).toInt .zero=some ((k:Nat):Int)/\k<=200/\2^nb<=10^(k+1):=by
 have h0:=List.all_eq_true.1 cT1 nb (List.mem_range.2 (by omega));unfold tabOK at h0;split at h0
 ·rename_i q hq;split at h0
  ·rename_i k hk;simp only[Bool.and_eq_true,decide_eq_true_eq]at h0;obtain⟨⟨h1,h2⟩,h3⟩:=h0;exact⟨q,k.toNat,hq,by rw[hk];congr 1;omega,by omega,h3⟩
  ·cases h0
 ·cases h0
theorem dD2(n:Int)(w:World):(convert 3 193 (.int .i64 n)).run prog w=.ok (.float .f64 (FloatKind.f64.nearest n)) w:=by kernel_rfl
theorem cT3(a b q:Nat)(h:FloatKind.f64.format.div a b=some q)(w:World):(binOp .quo 193 (.float .f64 a) (.float .f64 b)).run prog w=.ok (.float .f64 q) w:=by
 have e:(binOp .quo 193 (.float .f64 a) (.float .f64 b)).run prog w=(Op.floatArith .quo .f64 a b).run prog w:=by kernel_rfl
 rw[e];simp[Op.floatArith,h]
theorem dW9(q k:Nat)(h:(FloatKind.f64.decode q).toInt .zero=some (k:Int))(hk:k<=200)(w:World):(convert 193 3 (.float .f64 q)).run prog w=.ok (.int .i64 (k:Int)) w:=by
 have e:(convert 193 3 (.float .f64 q)).run prog w=(Conv.floatToInt .f64 q .i64).run prog w:=by kernel_rfl
 rw[e];unfold Conv.floatToInt;rw[h];have h1:IntKind.i64.min<=(k:Int)/\(k:Int)<=IntKind.i64.max:=by
  have a:IntKind.i64.min = -9223372036854775808:=by decide
  have b:IntKind.i64.max=9223372036854775807:=by decide
  rw[a,b];omega
 simp only[h1,and_self,if_true];rfl
theorem dD3(n:Nat):n<2^nbits n:=by
 by_cases h0:n=0
 ·subst h0;simp[nbits]
 ·unfold nbits;rw[if_neg h0];have hl:=aB3 h0;obtain⟨l,x,e⟩:∃ l x,dig n=l++[x]:=⟨(dig n).dropLast,(dig n).getLast (cE6 h0),(List.dropLast_concat_getLast (cE6 h0)).symm⟩;have hv:=aJ4 n;have hlt:=aN9 n;rw[e]at hv hlt ⊢;have e2:(l++[x]).getD ((l++[x]).length-1) 0=x:=by simp
  rw[e2];simp only[List.length_append,List.length_cons,List.length_nil,Nat.zero_add,Nat.add_sub_cancel];have hx:x<2^Lib.bitLen x:=cG4 64 x (by have:=hlt x (by simp);unfold B64 at this;omega);have h1:val l<B64^l.length:=bF1 (fun y hy=>hlt y (by simp[hy]));rw[aT8,aG8,dN2,Nat.mul_zero,Nat.add_zero]at hv;have h2:(x+1)*B64^l.length<=2^Lib.bitLen x*B64^l.length:=Nat.mul_le_mul_right _ hx;have h3:B64^l.length=2^(l.length*64):=by rw[Nat.mul_comm,Nat.pow_mul];rfl
  rw[Nat.pow_add,<- h3,Nat.mul_comm (B64^l.length)];rw[Nat.add_mul,Nat.one_mul]at h2;have h4:B64^l.length*x=x*B64^l.length:=Nat.mul_comm _ _;generalize B64^l.length=P at *;omega
theorem dD4(n:Nat):nbits n<=(dig n).length*64:=by
 unfold nbits;split
 ·omega
 ·rename_i h0;have hl:=aB3 h0;have:Lib.bitLen ((dig n).getD ((dig n).length-1) 0)<=64:=cG5 64 _ 64 (by have:=bF3 (aN9 n) ((dig n).length-1);unfold B64 at this;omega);omega
def mpOK(i:Nat):Bool:=decide (decide (((10^(i+1):Nat):Int)<=1844674407370955161)=true)&&decide (IntKind.u64.wrap (((10^(i+1):Nat):Int)*10)=((10^(i+2):Nat):Int))
theorem dD5:(List.range 18).all mpOK=true:=by decide +kernel
theorem bA9(w:World):Calls prog 257 #[.int .u64 10] w fun e w'=>e=.returned (.tuple #[.int .u64 10000000000000000000,.int .i64 19])/\w=w':=by
 go_enter func257,ntmps257;go_wp2_with fail
 go_loop [2,3] (fun p n=>∃ i:Nat,i<=18/\p=.int .u64 ((10^(i+1):Nat):Int)/\n=.int .i64 ((i:Int)+1)) (fun _ n=>19-(intOf n).toNat)
 case atStart=>exact⟨0,by omega,rfl,rfl⟩
 case round =>
  obtain⟨i,hi,rfl,rfl⟩:=hrel;by_cases h:i<18
  ·have h0:=List.all_eq_true.1 dD5 i (List.mem_range.2 h);unfold mpOK at h0;simp only[Bool.and_eq_true]at h0;obtain⟨h1,h2⟩:=h0;have h1:=of_decide_eq_true h1;have h2:=of_decide_eq_true h2;have hp:∃ P:Nat,10^(i+1)=P:=⟨_,rfl⟩;have hq:∃ Q:Nat,10^(i+2)=Q:=⟨_,rfl⟩;obtain⟨P,hP⟩:=hp;obtain⟨Q,hQ⟩:=hq;rw[hP]at h1 h2 ⊢;rw[hQ]at h2;have HQ:=hiD hQ;clear hP hQ;go_wp2_with fail;go_round
   case rel=>exact⟨i+1,by omega,by rw[HQ.out],by go_num⟩
   case measure=>simp[intOf];omega
  ·have:i=18:=by omega
   subst this;go_wp2_with fail;go_ret2;exact⟨rfl,rfl⟩
def Leaf(w:World):Prop:=w.cell? ⟨19,0,none⟩=some (.int .i64 8)
theorem bJ7(s:Value)(m:Nat)(b n bb:Value)(w:World)(hm:m<=8)(hL:Leaf w):
  Calls prog 263 #[s,.int .i64 (m:Int),b,n,bb] w fun e w'=>e=.returned (.slice none 0 0)/\w=w':=by
 have c:w.cell? ⟨19,0,none⟩=some (.int .i64 8):=hL;have g:decide ((m:Int)<=8)=true:=decT (by omega);go_enter func263,ntmps263;go_wp2_with fail;go_ret;exact⟨rfl,rfl⟩
def dgt(n L p:Nat):Nat:=n/10^(L-1-p)%10
def Digs(w:World)(s n L i:Nat):Prop :=
 ∃ cs,w.heap[s]? = some (.cells cs 5 (0,0))/\cs.size=L/\∀ p,i<=p->p<L->cs[p]? = some (.int .u8 ((48+dgt n L p:Nat):Int))
theorem Digs.move{w w':World}{s n L i:Nat}(h:Digs w s n L i)(hk:w'.heap[s]? = w.heap[s]?):Digs w' s n L i:=by
 obtain⟨cs,h1,h2,h3⟩:=h;exact⟨cs,hk.trans h1,h2,h3⟩
theorem Digs.put{w:World}{s n L i:Nat}(h:Digs w s n L (i+1))(hi:i<L)(d:Nat)(hd:d=dgt n L i):Digs (w.setCell ⟨s,i,none⟩ (.int .u8 ((48+d:Nat):Int))) s n L i:=by
 obtain⟨cs,h1,h2,h3⟩:=h;refine⟨_,aA3 h1 i _,by simp[h2],fun p hp hl=>?_⟩;rw[Array.getElem?_setIfInBounds];by_cases e:i=p
 ·subst e;simp[h2,hi,hd]
 ·rw[if_neg e];exact h3 p (by omega) hl
theorem Digs.cell{w:World}{s n L i:Nat}(h:Digs w s n L i)(p:Nat)(hp:p<L):(∃ v,w.cell? ⟨s,p,none⟩=some v)/\w.frozen? ⟨s,p,none⟩=false:=by
 obtain⟨cs,h1,h2,h3⟩:=h;exact⟨⟨cs[p],by rw[aA2 h1];exact Array.getElem?_eq_getElem (by omega)⟩,aA1 h1 p⟩
theorem Digs.cell_lt{w:World}{s n L i:Nat}(h:Digs w s n L i)(p:Nat)(hp:p<L):(∃ v,w.cell? ⟨s,p,none⟩=some v)/\w.frozen? ⟨s,p,none⟩=false:=h.cell p hp
theorem cT4(m j:Nat)(hj:j<19):m%10000000000000000000/10^j%10=m/10^j%10:=by
 have e:(10000000000000000000:Nat)=10^j*10^(19-j):=by rw[<- Nat.pow_add,show j+(19-j)=19 by omega]
 rw[e,Nat.mod_mul_right_div_self];exact Nat.mod_mod_of_dvd _ ⟨10^(18-j),by rw[<- Nat.pow_succ'];congr 1;omega⟩
theorem dL0(n L i j:Nat)(hij:j<i)(hi:i<=L):dgt n L (i-j-1)=n/10^(L-i)/10^j%10:=by
 unfold dgt;rw[Nat.div_div_eq_div_mul,<- Nat.pow_add,show L-1-(i-j-1)=L-i+j by omega]
def CState(w0:World)(n L s:Nat)(b0:Option Nat)(i:Nat)(q:Nat)(v:Value)(wr:World):Prop :=
 ∃ b',NatAt wr v q b'/\Digs wr s n L i/\Kept (fun k=>k=s\/b0=some k) w0 wr/\Own w0 b0 b'/\b'≠some s
theorem aF3{w w1:World}{b b1 b2:Option Nat}(h:Own w b b1)(k:Own w1 b1 b2)(hs:w.heap.size<=w1.heap.size):Own w b b2:=by
 rcases k with k|⟨j,hj,hjs⟩
 ·rw[k];exact h
 ·exact Or.inr ⟨j,hj,by omega⟩
theorem cL8{w0 wr w1:World}{n L s i q q':Nat}{b0 b' b1:Option Nat}{v v':Value}(h:NatAt wr v q b'/\Digs wr s n L i/\Kept (fun k=>k=s\/b0=some k) w0 wr/\Own w0 b0 b'/\b'≠some s)(hs:s<w0.heap.size)(hd:NatAt w1 v' q' b1/\Kept (fun k=>b'=some k) wr w1/\Own wr b' b1):CState w0 n L s b0 i q' v' w1:=by
 obtain⟨h1,h2,h3,h4,h5⟩:=h;obtain⟨d1,d2,d3⟩:=hd;refine⟨b1,d1,h2.move (d2.block s (by have:=h3.size;omega) h5),h3.trans d2 (fun _ _ h=>h) (fun k hk hb=>?_),aF3 h4 d3 h3.size,aK3 d3 (by have:=h3.size;omega) h5⟩;rcases h4 with h4|⟨j,hj,hjs⟩
 ·exact Or.inr (by rw[<- h4,hb])
 ·rw[hj]at hb;injection hb with hb;omega
theorem CState.put{w0 wr:World}{n L s i q:Nat}{b0:Option Nat}{v:Value}(h:CState w0 n L s b0 (i+1) q v wr)(hi:i<L)(d:Nat)(hd:d=dgt n L i):CState w0 n L s b0 i q v (wr.setCell ⟨s,i,none⟩ (.int .u8 ((48+d:Nat):Int))):=by
 obtain⟨b',h1,h2,h3,h4,h5⟩:=h;refine⟨b',h1.move (fun k hk=>aA7 (by intro e;subst e;exact h5 hk)),h2.put hi d hd,h3.setCell ⟨s,i,none⟩ _ (fun _=>Or.inl rfl),h4,h5⟩
theorem bD6(vq stk:Value)(bq:Option Nat)(n L sb sz:Nat)(w:World)(hq:NatAt w vq n bq)(hd0:Digs w sb n L L)(hbs:bq≠some sb)(hL1:L<=1000000)(hn:n<10^L)(hdiv:∀(W:World) (v:Value) (b:Option Nat) (m:Nat),m<=n->NatAt W v m b->Calls prog 223 #[v,v,.int .u64 10000000000000000000] W (DivW W b (quoN m 10000000000000000000) (remN m 10000000000000000000))):
  Calls prog 264 #[vq,stk,.slice (some ⟨sb,0,none⟩) L sz,.int .u64 10,.int .i64 19,.int .u64 10000000000000000000,.slice none 0 0] w fun e w' =>
   e=.returned (.tuple #[])/\Digs w' sb n L 0/\Kept (fun k=>k=sb\/bq=some k) w w':=by
 have hs:sb<w.heap.size:=by obtain⟨cs,h,_⟩:=hd0;exact aB5 h
 have H0:Hid (CState w n L sb bq L n vq w):=⟨bq,hq,hd0,Kept.refl _ _,Or.inl rfl,hbs⟩;have HD:=hiD hdiv;have HN:=hiD hn;clear hq hd0 hbs hdiv hn;go_enter func264,ntmps264;go_wp2_with fail
 go_loopw [0,19,20,21] (fun v i _ _ wr=>∃ i':Nat,i'<=L/\i=.int .i64 (i':Int)/\CState w n L sb bq i' (n/10^(L-i')) v wr) (fun _ i _ _ _=>(intOf i).toNat)
 case atStart=>exact⟨L,Nat.le_refl _,rfl,by rw[Nat.sub_self,Nat.pow_zero,Nat.div_one];exact H0.out⟩
 case round =>
  obtain⟨i,hi,rfl,hc⟩:=hrel;have HC:=hiD hc;have hc':=hc;obtain⟨b1,hnat,hrest⟩:=hc';obtain⟨aq,cq,rfl⟩:=aB6 hnat
  generalize hm:n/10^(L-i)=m at *;have HM:=hiD hm;have HNAT:=hiD hnat
  have HREST:=hiD hrest;clear hc hm hnat hrest;by_cases hm0:m=0
  ·have e0:(dig m).length=0:=by rw[hm0,aC4];rfl
   rw[e0];go_wp2_with fail;clear e0
   go_loopw [19] (fun i _wr=>∃ i':Nat,i'<=L/\i=.int .i64 (i':Int)/\n/10^(L-i')=0/\∃ v,CState w n L sb bq i' 0 v _wr) (fun i _=>(intOf i).toNat)
   case atStart=>exact⟨i,hi,rfl,by rw[HM.out];exact hm0,_,by rw[<- hm0];exact HC.out⟩
   case round =>
    obtain⟨i2,hi2,rfl,hz,v2,hc2⟩:=hrel;by_cases hp:i2=0
    ·subst hp;go_wp2_with fail
     go_end0
     exact⟨rfl,hc2.choose_spec.2.1,hc2.choose_spec.2.2.1⟩
    ·obtain⟨i3,rfl⟩:∃ i3,i2=i3+1:=⟨i2-1,by omega⟩;obtain⟨⟨cv,c1⟩,f1⟩:=hc2.choose_spec.2.1.cell_lt i3 (by omega);have HC2:=hiD hc2;have HZ:=hiD hz;clear hc2 hz;go_wp2_with fail;go_roundw
     case rel =>
      have hz':n/10^(L-i3)=0:=by
       rw[show L-i3=(L-(i3+1))+1 by omega,Nat.pow_succ,<- Nat.div_div_eq_div_mul,HZ.out]
      refine⟨i3,by omega,rfl,hz',v2,HC2.out.put (by omega) 0 ?_⟩;have:=dL0 n L (i3+1) 0 (by omega) (by omega);rw[HZ.out]at this;simp at this;rw[this]
     case measure=>simp[intOf]<;>omega
  ·have hpos:=aB3 hm0;have hi0:0<i:=by
    rcases Nat.eq_zero_or_pos i with h|h
    ·subst h
     exfalso
     rw[Nat.sub_zero,Nat.div_eq_of_lt HN.out]at HM;exact hm0 HM.out.symm
    ·exact h
   generalize hL:(dig m).length=ℓ at *;have HL:=hiD hL;clear hL;go_wp2_with fail;refine(HD.out wr _ b1 m (by rw[<- HM.out];exact Nat.div_le_self _ _) HNAT.out).mono ?_;rintro e w1 ⟨v1,b2,rfl,h1,h2,h3⟩;have HC1:Hid (CState w n L sb bq i (quoN m 10000000000000000000) v1 w1):=cL8 ⟨HNAT.out,HREST.out⟩ hs ⟨h1,h2,h3⟩;clear h1 h2 h3;go_wp2_with fail
   go_loopw [19,20,21] (fun i' r j wr=>∃ j':Nat,j'<=19/\j'<=i/\i'=.int .i64 ((i-j':Nat):Int)/\r=.int .u64 ((remN m 10000000000000000000/10^j':Nat):Int)/\j=.int .i64 (j':Int)/\CState w n L sb bq (i-j') (quoN m 10000000000000000000) v1 wr) (fun i' _ _ _=>(intOf i').toNat)
   case atStart=>exact⟨0,by omega,by omega,rfl,by rw[Nat.pow_zero,Nat.div_one],rfl,HC1.out⟩
   case round =>
    obtain⟨j,hj,hji,rfl,rfl,rfl,hc⟩:=hrel;by_cases hgo:j<19/\j<i
    ·obtain⟨hj1,hj2⟩:=hgo;obtain⟨k,hk⟩:∃ k,i-j=k+1:=⟨i-j-1,by omega⟩;rw[hk]at hc ⊢;have hdg:∀ wr,CState w n L sb bq (k+1) (quoN m 10000000000000000000) v1 wr->(∃ v,wr.cell? ⟨sb,k,none⟩=some v)/\wr.frozen? ⟨sb,k,none⟩=false:=fun wr h=>h.choose_spec.2.1.cell_lt k (by omega);obtain⟨⟨cv,c1⟩,f1⟩:=hdg _ hc;have hr:remN m 10000000000000000000/10^j<10000000000000000000:=Nat.lt_of_le_of_lt (Nat.div_le_self _ _) (Nat.mod_lt _ (by decide));have hdig:remN m 10000000000000000000/10^j%10=dgt n L k:=by
      have e1:=cT4 m j hj1;have e2:=dL0 n L i j hj2 hi;rw[HM.out,show i-j-1=k by omega,<- e1]at e2;exact e2.symm
     have hnx:remN m 10000000000000000000/10^j/10=remN m 10000000000000000000/10^(j+1):=by rw[Nat.div_div_eq_div_mul,Nat.pow_succ]
     generalize remN m 10000000000000000000/10^j=r at *;have HC2:=hiD hc;have HDIG:=hiD hdig;have HNX:=hiD hnx;have g1:decide ((0:Int)<((k:Int)+1))=true:=decT (by omega);have q1:IntKind.u64.wrap ((r:Int)/10*10)=((r/10*10:Nat):Int):=by rw[IntKind.wrap_u64];omega
     have q2:IntKind.u64.wrap ((r:Int)-((r/10*10:Nat):Int))=((r%10:Nat):Int):=by rw[IntKind.wrap_u64];omega
     have q3:IntKind.u8.wrap (((r%10:Nat):Int))=((r%10:Nat):Int):=by rw[IntKind.wrap_u8];omega
     have q4:IntKind.u8.wrap (48+((r%10:Nat):Int))=((48+r%10:Nat):Int):=by rw[IntKind.wrap_u8];omega
     clear hc hdig hnx hdg hji;go_wp2_with fail;have e:(48+((r:Int)-(r:Int)/10*10))=((48+r%10:Nat):Int):=by omega
     rw[e];refine⟨⟨j+1,by omega,by omega,by rw[show i-(j+1)=k by omega],by rw[<- HNX.out,Int.natCast_ediv];rfl,by rw[Int.natCast_add];rfl,?_⟩,by simp[intOf]⟩;rw[show i-(j+1)=k by omega];exact HC2.out.put (by omega) _ HDIG.out
    ·have hfin:(quoN m 10000000000000000000=n/10^(L-(i-j)))/\0<j:=by
      unfold quoN;rcases Nat.lt_or_ge j 19 with h|h
      ·have hji2:j=i:=by omega
       subst hji2;refine⟨?_,hi0⟩;rw[Nat.sub_self,Nat.sub_zero,Nat.div_eq_of_lt HN.out,<- HM.out,Nat.div_div_eq_div_mul];refine Nat.div_eq_of_lt (Nat.lt_of_lt_of_le HN.out ?_);rw[show(10000000000000000000:Nat)=10^19 from by decide,<- Nat.pow_add];exact Nat.pow_le_pow_right (by omega) (by omega)
      ·have:j=19:=by omega
       subst this;refine⟨?_,by omega⟩;rw[<- HM.out,Nat.div_div_eq_div_mul,show(10000000000000000000:Nat)=10^19 from by decide,<- Nat.pow_add,show L-(i-19)=L-i+19 by omega]
     have HF:=hiD hfin;have HC2:=hiD hc;have HJI:=hiD hji;have fin:∀ wr',wr'=wr->(∃ i':Nat,i'<=L/\Value.int .i64 ((i-j:Nat):Int)=.int .i64 (i':Int)/\CState w n L sb bq i' (n/10^(L-i')) v1 wr')/\(intOf (.int .i64 ((i-j:Nat):Int))).toNat<(intOf (.int .i64 (i:Int))).toNat:=by
      intro wr' e;subst e;exact⟨⟨i-j,by omega,rfl,by rw[<- hfin.1];exact hc⟩,by simp[intOf];omega⟩
     have FIN:=hiD fin;clear fin hfin hc hji;by_cases hj19:j=19
     ·subst hj19;generalize remN m 10000000000000000000/10^19=r at *;generalize i-19=k at *;go_wp2_with fail;exact FIN.out _ rfl
     ·have hk:i-j=0:=by have:=HJI.out;omega
      rw[hk]at FIN ⊢;have g1:decide ((j:Int)<19)=true:=decT (by omega);generalize remN m 10000000000000000000/10^j=r at *;go_wp2_with fail;exact FIN.out _ rfl
def decs(n:Nat):List Nat:=if h:n<10 then [48+n]else decs (n/10)++[48+n%10]
termination_by n
decreasing_by omega
theorem aT9{n:Nat}(h:n<10):decs n=[48+n]:=by unfold decs;rw[dif_pos h]
theorem aX8{n:Nat}(h:10<=n):decs n=decs (n/10)++[48+n%10]:=by rw[decs];rw[dif_neg (by omega)]
theorem cT5:∀(k n:Nat),(k=0\/10^k<=n)->n<10^(k+1)->(decs n).length=k+1/\∀ p,p<=k->(decs n)[p]? = some (48+n/10^(k-p)%10):=by
 intro k
 induction k with
 | zero =>
  intro n _ h;have h:n<10:=by simpa using h
  rw[aT9 h];refine⟨rfl,fun p hp=>?_⟩;have:p=0:=by omega
  subst this;simp;omega
 | succ k ih =>
  intro n h1 h2;have h1:10^(k+1)<=n:=by rcases h1 with h|h;omega;exact h
  have hge:10<=n:=Nat.le_trans (by have:=Nat.pow_le_pow_right (n:=10) (by omega) (show 1<=k+1 by omega);simpa using this) h1;rw[aX8 hge];have a1:k=0\/10^k<=n/10:=Or.inr (by rw[Nat.le_div_iff_mul_le (by omega),<- Nat.pow_succ];exact h1);have a2:n/10<10^(k+1):=by rw[Nat.div_lt_iff_lt_mul (by omega),<- Nat.pow_succ];exact h2
  obtain⟨b1,b2⟩:=ih (n/10) a1 a2;refine⟨by simp[b1],fun p hp=>?_⟩;by_cases e:p<=k
  ·rw[List.getElem?_append_left (by omega),b2 p e,Nat.div_div_eq_div_mul,<- Nat.pow_succ',show(k-p).succ=k+1-p by omega]
  ·have:p=k+1:=by omega
   subst this;rw[List.getElem?_append_right (by omega)];simp[b1]
def HasB(cs:Array Value)(o:Nat)(l:List Nat):Prop:=∀ i,i<l.length->cs[o+i]? = some (.int .u8 (l.getD i 0:Nat))
theorem Tryz.info5:(prog.info? 5).map (fun i=>(i.zero,i.size,i.bytes))=some (some (.int .u8 0),1,1):=by kernel_rfl
def zb(n:Nat):Array Value:=madeCells #[.int .u8 0] n
theorem cT6(n:Nat)(h2:n<=1000000)(w:World):
  (Instr.makeSlice 57 (.int .i64 (n:Int)) (.int .i64 (n:Int))).run prog w=.ok (.slice (some ⟨w.heap.size,0,none⟩) n n) (w.alloc (.cells (zb n) 5)):=by
 obtain⟨i0,hi,hz0,hz1,hz2⟩:=info_parts Tryz.info5;have:=run_make (P:=prog) w 57 5 i0 _ underlying57 hi hz0 .i64 .i64 n n (by omega) (by omega) (by rw[hz2];omega) (by omega);rw[this];simp only[Int.toNat_natCast,hz1,Nat.mul_one];rfl
theorem dD6(w:World)(n L:Nat):Digs (w.alloc (.cells (zb L) 5)) w.heap.size n L L :=
 ⟨zb L,aA0 _ _,size_madeCells _ _,fun p h1 h2=>by omega⟩
def dP0(w:World)(t:List Nat)(e:Ending)(w':World):Prop :=
 ∃ s off cap cs,e=.returned (.slice (some ⟨s,off,none⟩) t.length cap)/\w'.heap[s]? = some (.cells cs 5 (0,0))/\w.heap.size<=s/\HasB cs off t/\off+t.length<=cs.size/\cs.size<=1000000/\Kept (fun _=>False) w w'
theorem cA0{w:World}{s n L i:Nat}(h:Digs w s n L 0)(hi:i<L)(hn:n<10^(L-i))(hd:dgt n L i≠0):(decs n).length=L-i/\∃ cs,w.heap[s]? = some (.cells cs 5 (0,0))/\cs.size=L/\HasB cs i (decs n):=by
 obtain⟨cs,h1,h2,h3⟩:=h;obtain⟨k,hk⟩:∃ k,L-i=k+1:=⟨L-i-1,by omega⟩;have hge:10^k<=n:=by
  rcases Nat.lt_or_ge n (10^k)with h|h
  ·exfalso;apply hd;unfold dgt;rw[show L-1-i=k by omega,Nat.div_eq_of_lt h]
  ·exact h
 obtain⟨a1,a2⟩:=cT5 k n (Or.inr hge) (by rw[<- hk];exact hn);refine⟨by omega,cs,h1,h2,fun p hp=>?_⟩;rw[h3 (i+p) (by omega) (by omega)];have:=a2 p (by omega);rw[List.getD_eq_getElem?_getD,this];unfold dgt;rw[show L-1-(i+p)=k-p by omega];rfl
theorem bC6{w:World}{b i:Nat}{v:Value}(h:w.cell? ⟨b,i,none⟩=some v):b<w.heap.size:=by
 rcases Nat.lt_or_ge b w.heap.size with h'|h'
 ·exact h'
 ·unfold World.cell? at h;rw[Array.getElem?_eq_none h']at h;cases h
theorem Leaf.kept{S:Nat->Prop}{w w':World}(h:Leaf w)(hk:Kept S w w')(hs:¬ S 19):Leaf w':=by
 have hlt:19<w.heap.size:=by
  rcases Nat.lt_or_ge 19 w.heap.size with h'|h'
  ·exact h'
  ·unfold Leaf World.cell? at h;rw[Array.getElem?_eq_none h']at h;cases h
 unfold Leaf World.cell? at *;rw[hk.block 19 hlt hs];exact h
theorem dD7(x:Value)(bx:Option Nat)(n:Nat)(w:World)(hx:NatAt w x n bx)(h0:n≠0)(hn:(dig n).length<=8)(hleaf:Leaf w)(hdiv:∀(W:World) (v:Value) (b:Option Nat) (m:Nat),m<=n->NatAt W v m b->Calls prog 223 #[v,v,.int .u64 10000000000000000000] W (DivW W b (quoN m 10000000000000000000) (remN m 10000000000000000000))):
  Calls prog 237 #[x,.bool false,.int .i64 10] w (dP0 w (decs n)):=by
 have hsm:Sm n:=by unfold Sm;omega
 obtain⟨q,k,t1,t2,t3,t4⟩:=cT2 (nbits n) (by have:=dD4 n;omega);have hlt:n<10^(k+1):=Nat.lt_of_lt_of_le (dD3 n) t4;have HB:=hiD (cL7 x bx n w hx h0 hsm);have HX:=hiD hx;have HSM:=hiD hsm;have HD:=hiD hdiv;have HLEAF:=hiD hleaf;have HLT:=hiD hlt;have HN0:=hiD h0;have hpos:=aB3 h0;obtain⟨ax,cx,rfl⟩:=aB6 hx;generalize hL:(dig n).length=ℓ at *;have f1:=fun w=>dD2 ((nbits n:Nat):Int) w;generalize nbits n=nb at *;generalize FloatKind.f64.nearest ((nb:Nat):Int)=fb at *;have f2:=fun w=>cT3 fb _ q t1 w
 have f3:=fun w=>dW9 q k t2 t3 w
 have f4:=fun w=>fcv10 w
 have b1:bits .and .u64 10 18446744073709551606=2:=by decide +kernel
 have mk:∀ w:World,(Instr.makeSlice 57 (.int .i64 ((k:Int)+1)) (.int .i64 ((k:Int)+1))).run prog w=.ok (.slice (some ⟨w.heap.size,0,none⟩) (k+1) (k+1)) (w.alloc (.cells (zb (k+1)) 5)):=fun w=>cT6 (k+1) (by omega) w;clear hx hsm hdiv hleaf hlt h0 t1 t2 t4 hL
 go_enter_defers func237,ntmps237
 go_wp2_with fail;refine HB.out.mono ?_;rintro e w1 ⟨rfl,rfl⟩;go_wp2_with fail;refine(dW8 _).mono ?_;rintro e w1 ⟨rfl,rfl⟩;go_wp2_with fail;refine(aM7 _).mono ?_;rintro e w1 ⟨rfl,hw1⟩;have hst:w1.cell? ⟨w.heap.size+1,0,none⟩=some (.pointer none):=by
  have:w1.heap[w.heap.size+1]? = some (.cells #[.pointer none] 309):=by rw[hw1];simpa using aA0 (w.alloc (.cells (zb (k+1)) 5)) (.cells #[.pointer none] 309)
  rw[aA2 this];rfl
 have hk1:Kept (fun _=>False) w w1:=by rw[hw1];exact((Kept.refl _ _).alloc _).alloc _
 have hd1:Digs w1 w.heap.size n (k+1) (k+1):=by rw[hw1];exact(dD6 w n (k+1)).move (Below.heap_alloc _ _ _ (by simp))
 have hsz:w1.heap.size=w.heap.size+2:=by rw[hw1];simp
 have hl1:Leaf w1:=HLEAF.out.kept hk1 (fun f=>f);have HST:=hiD hst;have HK1:=hiD hk1;have HD1:=hiD hd1;have HSZ:=hiD hsz;have HL1:=hiD hl1;have HX1:=hiD (HX.out.kept hk1 (fun _ _ f=>f));have esz:(w.alloc (.cells (zb (k+1)) 5)).heap.size=w.heap.size+1:=by simp
 clear hst hk1 hd1 hsz hl1 hw1 esz;go_wp2_with fail;refine(bA9 _).mono ?_;rintro e w2 ⟨rfl,rfl⟩;go_wp2_with fail;refine(bJ7 _ ℓ _ _ _ _ hn HL1.out).mono ?_;rintro e w2 ⟨rfl,rfl⟩;go_wp2_with fail;refine(cS7 _ bx n _ HX1.out HSM.out).mono ?_;rintro e w2 ⟨v2,b2,rfl,h1,h2,h3⟩;have hb2:b2≠some w.heap.size:=by
  rcases h3 with h3|⟨j,hj,hjs⟩
  ·rw[h3];simp
  ·rw[hj];intro e;injection e with e;have:=HSZ.out;omega
 have hd2:Digs w2 w.heap.size n (k+1) (k+1):=HD1.out.move (h2.block _ (by have:=HSZ.out;omega) (by simp));have hk2:Kept (fun _=>False) w w2:=HK1.out.trans h2 (fun _ _ f=>f) (fun _ _ f=>by cases f);have hst2:w2.cell? ⟨w.heap.size+1,0,none⟩=some (.pointer none):=by
  unfold World.cell?;rw[h2.block _ (by have:=HSZ.out;show w.heap.size+1<_;omega) (by simp)];exact HST.out
 have hb2':∀ j,b2=some j->w1.heap.size<=j:=by
  intro j hj;rcases h3 with h3|⟨i,hi,his⟩
  ·rw[h3]at hj;cases hj
  ·rw[hi]at hj;injection hj with hj;omega
 have HN2:=hiD h1;have HB2:=hiD hb2;have HD2:=hiD hd2;have HK2:=hiD hk2;have HST2:=hiD hst2;have HB2':=hiD hb2';clear h1 h2 h3 hb2 hd2 hk2 hst2 hb2' HK1 HD1 HL1 HX1 HST HB HX HSM HLEAF;go_wp2_with fail;refine(bD6 v2 _ b2 n (k+1) w.heap.size (k+1) w2 HN2.out HD2.out HB2.out (by omega) HLT.out HD.out).mono ?_;rintro e w3 ⟨rfl,hdg,hkp⟩;have hk3:Kept (fun _=>False) w w3:=HK2.out.trans hkp (fun _ _ f=>f) (fun i hi f=>by
  rcases f with f|f
  ·omega
  ·have:=HB2'.out i f;have:=HSZ.out;omega)
 have hst3:w3.cell? ⟨w.heap.size+1,0,none⟩=some (.pointer none):=by
  unfold World.cell?;rw[hkp.block (w.heap.size+1) (bC6 HST2.out) (by
   intro f;rcases f with f|f
   ·omega
   ·have:=HB2'.out _ f;have:=HSZ.out;omega)]
  exact HST2.out
 have HDG:=hiD hdg;have HK3:=hiD hk3;have HST3:=hiD hst3;clear hdg hkp hk3 hst3 HN2 HB2 HD2 HK2 HST2 HB2' HD HSZ;generalize hS:w.heap.size=S at *;have HS:=hiD hS;clear hS mk f1 f2 f3 f4 b1;go_wp2_with fail
 go_loop [7] (fun i=>∃ i':Nat,i'<k+1/\i=.int .i64 (i':Int)/\n<10^(k+1-i')) (fun i=>k+1-(intOf i).toNat)
 case atStart=>exact⟨0,by omega,rfl,HLT.out⟩
 case round =>
  obtain⟨i,hi,rfl,hnn⟩:=hrel;have c1:w3.cell? ⟨S,i,none⟩=some (.int .u8 ((48+dgt n (k+1) i:Nat):Int)):=by
   obtain⟨cs,h1,h2,h3⟩:=HDG.out;rw[aA2 h1];exact h3 i (by omega) hi
  have HNN:=hiD hnn;clear hnn;by_cases hz:dgt n (k+1) i=0
  ·rw[hz]at c1;have HZ:=hiD hz;clear hz;go_wp2_with fail;go_round
   case rel =>
    have h1:n<10^(k+1-(i+1)):=by
     have hz:=HZ.out;unfold dgt at hz;rw[show k+1-1-i=k+1-(i+1)by omega]at hz;have h2:n/10^(k+1-(i+1))<10:=by
      rw[Nat.div_lt_iff_lt_mul (Nat.pow_pos (by omega)),<- Nat.pow_succ',show(k+1-(i+1)).succ=k+1-i by omega];exact HNN.out
     have h3:n/10^(k+1-(i+1))=0:=by
      generalize n/10^(k+1-(i+1))=t at *;omega
     exact(Nat.div_eq_zero_iff.1 h3).resolve_left (Nat.pos_iff_ne_zero.1 (Nat.pow_pos (by omega)))
    refine⟨i+1,?_,by go_num,h1⟩;rcases Nat.lt_or_ge (i+1) (k+1)with h|h
    ·exact h
    ·rw[show k+1-(i+1)=0 by omega,Nat.pow_zero]at h1;have:=HN0.out;omega
   case measure=>simp[intOf];omega
  ·have g1:(((48+dgt n (k+1) i:Nat):Int)==48)=false:=beqF (by omega);have HFIN:=hiD (cA0 HDG.out hi HNN.out hz);clear hz;generalize dgt n (k+1) i=dd at *;go_wp2_with fail;refine leaves_cons (f:=170) (args:=#[.pointer (some ⟨S+1,0,none⟩)]) (by simp) (by simp[go_sem]) ?_;refine(aM8 (S+1) .returning w3 HST3.out).mono ?_;rintro e u' w4 ⟨rfl,rfl,rfl⟩;refine⟨_,results_tmp rfl _ _ _,?_⟩;obtain⟨e1,cs,e2,e3,e4⟩:=HFIN.out;exact⟨S,i,k+1-i,cs,by rw[e1];rfl,e2,by have:=HS.out;omega,e4,by omega,by omega,HK3.out⟩
def strN(l:List Nat):ByteArray:=strOfNums (l.map fun(x:Nat)=>(x:Int))
theorem bF7{w:World}{s off cap:Nat}{cs:Array Value}{l:List Nat}(h:w.heap[s]? = some (.cells cs 5 (0,0)))(hb:HasB cs off l):
  (convert 57 9 (.slice (some ⟨s,off,none⟩) l.length cap)).run prog w=.ok (.string (strN l)) w:=by
 refine run_convert_bytes_arg w 57 5 underlying57 underlying5 s off l.length cap _ (by simp) (fun i hi=>?_) 9 underlying9;rw[aA2 h,hb i hi];simp[List.getD,List.getElem?_map];cases l[i]?<;>simp
theorem cA1(x:Nat)(n:Nat)(bx:Option Nat)(rx:List Value)(Tx:TypeId)(w:World)(hx:IntAt w x (n:Int) bx rx Tx)(h0:n≠0)(hn:(dig n).length<=8)(hleaf:Leaf w)(hdiv:∀(W:World) (v:Value) (b:Option Nat) (m:Nat),m<=n->NatAt W v m b->Calls prog 223 #[v,v,.int .u64 10000000000000000000] W (DivW W b (quoN m 10000000000000000000) (remN m 10000000000000000000))):
  Calls prog 213 #[.pointer (some ⟨x,0,none⟩),.int .i64 10] w fun e w'=>e=.returned (.string (strN (decs n)))/\Kept (fun _=>False) w w':=by
 obtain⟨vx,hx1,hx2,hx3⟩:=hx;obtain⟨cx0,cx1,_,_⟩:=aA5 hx1;rw[decF (Int.not_lt.2 (Int.natCast_nonneg n))]at cx0;rw[Int.natAbs_natCast]at hx2;have HC:=hiD (dD7 vx bx n w.drew (by exact hx2) h0 hn (by exact hleaf) hdiv);clear hx1 hx2 hleaf hdiv;go_enter func213,ntmps213;go_wp2_with fail
 go_region_with (go_at_call 237;refine HC.out.mono ?_;rintro e w1 ⟨s,off,cap,cs,rfl,h1,h2,h3,h4,h5,h6⟩;have hcv:=bF7 (cap:=cap) h1 h3;have H:=hiD h6.undrew;clear h1 h2 h3 h4 h5 h6)
 all_goals
  go_wp2_with fail;go_ret;exact⟨rfl,H.out⟩
theorem bN0(x:Nat)(n:Nat)(bx:Option Nat)(rx:List Value)(Tx:TypeId)(w:World)(hx:IntAt w x (n:Int) bx rx Tx)(h0:n≠0)(hn:(dig n).length<=8)(hleaf:Leaf w)(hdiv:∀(W:World) (v:Value) (b:Option Nat) (m:Nat),m<=n->NatAt W v m b->Calls prog 223 #[v,v,.int .u64 10000000000000000000] W (DivW W b (quoN m 10000000000000000000) (remN m 10000000000000000000))):
  Calls prog 190 #[.pointer (some ⟨x,0,none⟩)] w fun e w'=>e=.returned (.string (strN (decs n)))/\Kept (fun _=>False) w w':=by
 have H:=hiD (cA1 x n bx rx Tx w hx h0 hn hleaf hdiv);clear hx h0 hn hleaf hdiv;go_enter func190,ntmps190;go_wp2_with fail;refine H.out.mono ?_;rintro e w1 ⟨rfl,h⟩;have H:=hiD h;clear h;go_wp2_with fail;go_ret;exact⟨rfl,H.out⟩
theorem dD8(n:Nat)(hn:n<B64):∀(W:World) (v:Value) (b:Option Nat) (m:Nat),m<=n->NatAt W v m b->Calls prog 223 #[v,v,.int .u64 10000000000000000000] W (DivW W b (quoN m 10000000000000000000) (remN m 10000000000000000000)) :=
 fun W v b m hm h=>bA6 v v b b m 10000000000000000000 W h.buf h (by omega) (by unfold B64;omega) (by omega)
end Go.Proofs.YtjebnpkebccffaaGreatDoor
