import Derived.Test.YtjebnpkebccffaaGreatDoorZLog
import Derived.OwnWalk
import Derived.Laws.Closers25b
set_option linter.unusedSimpArgs false
set_option linter.unusedVariables false
set_option linter.unusedSectionVars false
set_option maxRecDepth 100000
set_option maxHeartbeats 8000000
namespace Go.Proofs.YtjebnpkebccffaaGreatDoor
open Go.RowKit Go.Proofs.Tryz
def RdAt(w:World)(p:Nat)(s:ByteArray)(i:Nat):Prop:=∃ j:Int,w.heap[p]? = some (.cells #[.string s,.int .i64 (i:Int),.int .i64 j] 208 (0,0))
theorem aQ4{w:World}{p:Nat}{a b c:Value}(h:w.heap[p]? = some (.cells #[a,b,c] 208 (0,0))):w.cell? ⟨p,0,none⟩=some a/\w.cell? ⟨p,1,none⟩=some b/\w.cell? ⟨p,2,none⟩=some c/\w.frozen? ⟨p,1,none⟩=false/\w.frozen? ⟨p,2,none⟩=false :=
 ⟨by rw[aA2 h];rfl,by rw[aA2 h];rfl,by rw[aA2 h];rfl,aA1 h 1,aA1 h 2⟩
def Eof(w:World)(a:Addr):Prop:=w.cell? ⟨3,0,none⟩=some (.iface 257 (.pointer (some a)))
theorem cA2{w:World}{p n:Nat}{a b c:Value}(h:w.heap[p]? = some (.cells #[a,b,c] 208 (0,0)))(v:Value):((w.drewN n).setCell ⟨p,1,none⟩ v).heap[p]? = some (.cells #[a,v,c] 208 (0,0)):=by
 rw[aA3 (w:=w.drewN n) h 1 v];simp
theorem bN1{w:World}{p n:Nat}{a b c:Value}(h:w.heap[p]? = some (.cells #[a,b,c] 208 (0,0)))(v:Value):((w.drewN n).setCell ⟨p,2,none⟩ v).heap[p]? = some (.cells #[a,b,v] 208 (0,0)):=by
 rw[aA3 (w:=w.drewN n) h 2 v];simp
theorem aX9{w w1:World}{p n i:Nat}(h:Kept (fun k=>k=p) w w1)(v:Value):Kept (fun k=>k=p) w ((w1.drewN n).setCell ⟨p,i,none⟩ v):=(h.drewN n).setCell ⟨p,i,none⟩ v (fun _=>rfl)
theorem rd_p1{w:World}{p:Nat}{a b c:Value}(h:w.heap[p]? = some (.cells #[a,b,c] 208 (0,0)))(v:Value):(w.setCell ⟨p,1,none⟩ v).heap[p]? = some (.cells #[a,v,c] 208 (0,0)):=cA2 (n:=0) h v
theorem rd_p2{w:World}{p:Nat}{a b c:Value}(h:w.heap[p]? = some (.cells #[a,b,c] 208 (0,0)))(v:Value):(w.setCell ⟨p,2,none⟩ v).heap[p]? = some (.cells #[a,b,v] 208 (0,0)):=bN1 (n:=0) h v
theorem aW6(p:Nat)(s:ByteArray)(i:Nat)(w:World)(h:RdAt w p s i)(hi:i<s.size)(hs:s.size<=1000000):
  Calls prog 333 #[.pointer (some ⟨p,0,none⟩)] w fun e w'=>e=.returned (.tuple #[.int .u8 (s[i].toNat:Int),.nilIface])/\RdAt w' p s (i+1)/\Kept (fun k=>k=p) w w':=by
 obtain⟨j,h1⟩:=h;obtain⟨c0,c1,c2,f1,f2⟩:=aQ4 h1;have H1:=hiD h1;clear h1;go_enter func333,ntmps333;go_wp2_with fail
 go_quiet (fail)
 go_wp2_with fail
 go_quiet (fail)
 go_wp2_with fail;go_ret2;exact⟨rfl,⟨_,cA2 (bN1 (n:=0) H1.out _) _⟩,aX9 (aX9 (n:=0) (Kept.refl _ _) _) _⟩
theorem aS7(p:Nat)(s:ByteArray)(a:Addr)(w:World)(h:RdAt w p s s.size)(he:Eof w a)(hs:s.size<=1000000):
  Calls prog 333 #[.pointer (some ⟨p,0,none⟩)] w fun e w'=>e=.returned (.tuple #[.int .u8 0,.iface 257 (.pointer (some a))])/\RdAt w' p s s.size/\Kept (fun k=>k=p) w w':=by
 obtain⟨j,h1⟩:=h;obtain⟨c0,c1,c2,f1,f2⟩:=aQ4 h1;have hp3:p≠3:=by intro e;subst e;unfold Eof at he;rw[c0]at he;injection he with he;cases he
 have c3:w.cell? ⟨3,0,none⟩=some (.iface 257 (.pointer (some a))):=he;have H1:=hiD h1;clear h1 he;have c3':(w.setCell ⟨p,2,none⟩ (.int .i64 (-1))).cell? ⟨3,0,none⟩=some (.iface 257 (.pointer (some a))):=by
  rw[<- c3];unfold World.cell?;rw[aA7 (Ne.symm hp3)]
 go_enter func333,ntmps333;go_wp2_with fail
 go_quiet (fail)
 go_wp2_with fail
 go_quiet (fail)
 go_wp2_with fail;go_ret2;exact⟨rfl,⟨_,rd_p2 H1.out _⟩,(((Kept.refl (fun k=>k=p) w).setCell ⟨p,2,none⟩ _ (fun _=>rfl)).drewN _).drewN _⟩
theorem bN2(p:Nat)(s:ByteArray)(i:Nat)(w:World)(h:RdAt w p s (i+1))(hi:i<=1000000):
  Calls prog 334 #[.pointer (some ⟨p,0,none⟩)] w fun e w'=>e=.returned .nilIface/\RdAt w' p s i/\Kept (fun k=>k=p) w w':=by
 obtain⟨j,h1⟩:=h;obtain⟨c0,c1,c2,f1,f2⟩:=aQ4 h1;have H1:=hiD h1;rw[Int.natCast_add]at c1;clear h1;go_enter func334,ntmps334;go_wp2_with fail;go_ret;exact⟨rfl,⟨_,rd_p1 (rd_p2 H1.out _) _⟩,((Kept.refl (fun k=>k=p) w).setCell ⟨p,2,none⟩ _ (fun _=>rfl)).setCell ⟨p,1,none⟩ _ (fun _=>rfl)⟩
theorem bC4(s:ByteArray)(w:World)(h0:0<s.size)(h1:s[0].toNat<128):
  Calls prog 131 #[.string s] w fun e w'=>e=.returned (.tuple #[.int .i32 (s[0].toNat:Int),.int .i64 1])/\Drew w w':=by
 go_enter func131,ntmps131;go_wp2_with fail;all_goals first
  | (go_ret2;exact⟨rfl,0,rfl⟩)
  | (
   exfalso
   have hx:¬ s.toList=[]/\((!s.toList.isEmpty)=false\/128<=(s[0].toNat:Int)):=⟨by assumption,by assumption⟩;obtain⟨h2,h3⟩:=hx;rcases h3 with h3|h3
   ·rcases hl:s.toList with _|⟨a,b⟩
    ·exact h2 hl
    ·rw[hl]at h3;simp at h3
   ·omega)
  | (
   exfalso
   have hx:s.toList=[]:=by assumption
   rw[toList_nil_iff_emptyBytes]at hx;subst hx;simp at h0)
theorem dD9(s:ByteArray)(i:Nat)(hi:i<s.size):∃ h:0<(s.extract i s.size).size,(s.extract i s.size)[0]=s[i]:=by
 have h:0<(s.extract i s.size).size:=by simp;omega
 exact⟨h,by simp[ByteArray.getElem_extract]⟩
theorem aQ5(p:Nat)(s:ByteArray)(i:Nat)(w:World)(h:RdAt w p s i)(hi:i<s.size)(hs:s.size<=1000000)(ha:s[i].toNat<128):
  Calls prog 95 #[.pointer (some ⟨p,0,none⟩)] w fun e w'=>e=.returned (.tuple #[.int .i32 (s[i].toNat:Int),.int .i64 1,.nilIface])/\RdAt w' p s (i+1)/\Kept (fun k=>k=p) w w':=by
 obtain⟨j,h1⟩:=h;obtain⟨c0,c1,c2,f1,f2⟩:=aQ4 h1;have H1:=hiD h1;clear h1;go_enter func95,ntmps95;go_wp2_with fail
 go_quiet (fail)
 go_wp2_with fail;obtain⟨q0,q1⟩:=dD9 s i hi;have HC:Hid (∀ w,Calls prog 131 #[.string (s.extract i s.size)] w fun e w'=>e=.returned (.tuple #[.int .i32 (s[i].toNat:Int),.int .i64 1])/\Drew w w'):=by
  intro w;have:=bC4 (s.extract i s.size) w q0 (by rw[q1];exact ha);rwa[q1]at this
 clear q0 q1
 go_quiet ((go_at_call 131;first|exact aO7 (HC.out _)|exact aX5 (HC.out _)))
 go_wp2_with fail;go_ret3;exact⟨rfl,⟨_,cA2 (bN1 H1.out _) _⟩,aX9 (aX9 (Kept.refl _ _) _) _⟩
theorem aM9(p:Nat)(s:ByteArray)(a:Addr)(w:World)(h:RdAt w p s s.size)(he:Eof w a)(hs:s.size<=1000000):
  Calls prog 95 #[.pointer (some ⟨p,0,none⟩)] w fun e w'=>e=.returned (.tuple #[.int .i32 0,.int .i64 0,.iface 257 (.pointer (some a))])/\RdAt w' p s s.size/\Kept (fun k=>k=p) w w':=by
 obtain⟨j,h1⟩:=h;obtain⟨c0,c1,c2,f1,f2⟩:=aQ4 h1;have hp3:p≠3:=by intro e;subst e;unfold Eof at he;rw[c0]at he;injection he with he;cases he
 have c3:∀ n,((w.drewN n).setCell ⟨p,2,none⟩ (.int .i64 (-1))).cell? ⟨3,0,none⟩=some (.iface 257 (.pointer (some a))):=by
  intro n;have c3:(w.drewN n).cell? ⟨3,0,none⟩=some (.iface 257 (.pointer (some a))):=he;rw[<- c3];unfold World.cell?;rw[aA7 (Ne.symm hp3)]
 have H1:=hiD h1;clear h1 he;go_enter func95,ntmps95;go_wp2_with fail
 go_quiet (fail)
 have c3:=c3 nq;go_wp2_with fail
 go_quiet (fail)
 go_wp2_with fail;go_ret3;exact⟨rfl,⟨_,bN1 H1.out _⟩,(aX9 (Kept.refl _ _) _).drewN _⟩
theorem aK9(s:ByteArray)(w:World):
  Calls prog 93 #[.string s] w fun e w'=>e=.returned (.pointer (some ⟨w.heap.size,0,none⟩))/\w'=w.alloc (.cells #[.string s,.int .i64 0,.int .i64 (-1)] 208):=by
 go_enter func93,ntmps93;go_wp2_with fail;go_ret;exact⟨rfl,rfl⟩
theorem m_rb(a:Addr)(w:World):(method 525 159 (.pointer (some a)) "ReadByte").run prog w=.ok (333,.pointer (some a)) w:=by kernel_rfl
theorem m_ub(a:Addr)(w:World):(method 525 159 (.pointer (some a)) "UnreadByte").run prog w=.ok (334,.pointer (some a)) w:=by kernel_rfl
theorem m_rr(a:Addr)(w:World):(method 525 159 (.pointer (some a)) "ReadRune").run prog w=.ok (95,.pointer (some a)) w:=by kernel_rfl
theorem e_nn(w:World):(binOp .neq 68 .nilIface .nilIface).run prog w=.ok (.bool false) w:=by kernel_rfl
theorem e_ee(w:World):(binOp .eql 68 .nilIface .nilIface).run prog w=.ok (.bool true) w:=by kernel_rfl
theorem e_xe(a:Addr)(w:World):(binOp .eql 68 (.iface 257 (.pointer (some a))) .nilIface).run prog w=.ok (.bool false) w:=by kernel_rfl
theorem e_ex(a:Addr)(w:World):(binOp .eql 68 .nilIface (.iface 257 (.pointer (some a)))).run prog w=.ok (.bool false) w:=by kernel_rfl
theorem Tryz.und257:prog.underlying 257=some (.pointer 259):=by kernel_rfl
theorem Tryz.und68:∃ ms,prog.underlying 68=some (.interface ms):=⟨_,underlying68⟩
theorem Tryz.inf257:(prog.info? 257).map (fun i=>i.comparable)=some true:=by kernel_rfl
theorem Tryz.inf259:(prog.info? 259).map (fun i=>i.size)=some 1:=by kernel_rfl
theorem dL1(d:Nat)(a:Addr)(w:World):(Op.equalIn (d+2) 68 (.iface 257 (.pointer (some a))) (.iface 257 (.pointer (some a)))).run prog w=.ok true w:=by
 obtain⟨ms,h1⟩:=Tryz.und68;obtain⟨i,h2,h3⟩:=Option.map_eq_some_iff.1 Tryz.inf257;obtain⟨j,h4,h5⟩:=Option.map_eq_some_iff.1 Tryz.inf259;exact run_equalIn_iface_ptr_same w d a h1 Tryz.und257 h2 h3 h4
theorem e_xx(a:Addr)(w:World):(binOp .eql 68 (.iface 257 (.pointer (some a))) (.iface 257 (.pointer (some a)))).run prog w=.ok (.bool true) w:=by
 simp only[binOp];simp[Op.equal,Op.maxDepth,dL1 9998]
theorem e_xxn(a:Addr)(w:World):(binOp .neq 68 (.iface 257 (.pointer (some a))) (.iface 257 (.pointer (some a)))).run prog w=.ok (.bool false) w:=by
 simp only[binOp];simp[Op.equal,Op.maxDepth,dL1 9998]
theorem aV2(p:Nat)(s:ByteArray)(w:World)(h:RdAt w p s 0)(h0:0<s.size)(hs:s.size<=1000000)(h1:48<=s[0].toNat):
  Calls prog 226 #[.iface 159 (.pointer (some ⟨p,0,none⟩))] w fun e w'=>e=.returned (.tuple #[.bool false,.nilIface])/\RdAt w' p s 0/\Kept (fun k=>k=p) w w':=by
 have H:=hiD h;have a1:(((s[0].toNat:Nat):Int)==45)=false:=beqF (by omega);have a2:(((s[0].toNat:Nat):Int)==43)=false:=beqF (by omega);have q1:=fun a w=>m_rb a w
 have q2:=fun a w=>m_ub a w
 have q3:=fun w=>e_nn w
 clear h;go_enter func226,ntmps226;go_wp2_with fail;refine(aW6 p s 0 _ H.out h0 hs).mono ?_;rintro e w1 ⟨rfl,h1,h2⟩;have H1:=hiD h1;have H2:=hiD h2;clear h1 h2 H;go_wp2_with fail;refine(bN2 p s 0 _ H1.out (by omega)).mono ?_;rintro e w2 ⟨rfl,h1,h2⟩;have H3:=hiD h1;have H4:=hiD (H2.out.same h2);clear h1 h2 H1 H2;go_wp2_with fail;go_ret2;exact⟨rfl,H3.out,H4.out⟩
def pst(N:Nat):Nat->Nat×Nat×Nat
 | 0=>(1,10,N)
 | k+1=>(if(pst N k).2.2%2=1 then(pst N k).1*(pst N k).2.1%18446744073709551616 else(pst N k).1,(pst N k).2.1*(pst N k).2.1%18446744073709551616,(pst N k).2.2/2)
def powOK(N:Nat):Bool:=(List.range 7).all fun k=>decide ((pst N k).2.2≠0\/(pst N k).1=10^N)&&decide (k<6\/(pst N k).2.2=0)&&decide ((pst N k).2.2<32)
theorem cT7:(List.range 19).all powOK=true:=by decide +kernel
theorem cT8(N k:Nat)(hN:N<19)(hk:k<=6):((pst N k).2.2≠0\/(pst N k).1=10^N)/\(k<6\/(pst N k).2.2=0)/\(pst N k).2.2<32:=by
 have h:=List.all_eq_true.1 cT7 N (List.mem_range.2 hN);unfold powOK at h;have h:=List.all_eq_true.1 h k (List.mem_range.2 (by omega));simp only[Bool.and_eq_true]at h;obtain⟨⟨h1,h2⟩,h3⟩:=h;exact⟨of_decide_eq_true h1,of_decide_eq_true h2,of_decide_eq_true h3⟩
theorem dE0:(List.range 32).all (fun s=>decide (bits .and .i64 (s:Int) 1=((s%2:Nat):Int)))=true:=by decide +kernel
theorem and1(s:Nat)(h:s<32):bits .and .i64 (s:Int) 1=((s%2:Nat):Int):=of_decide_eq_true (List.all_eq_true.1 dE0 s (List.mem_range.2 h))
theorem cT9(N:Nat)(hN:N<19)(w:World):Calls prog 258 #[.int .u64 10,.int .i64 (N:Int)] w fun e w'=>e=.returned (.int .u64 ((10^N:Nat):Int))/\w=w':=by
 go_enter func258,ntmps258;go_wp2_with fail
 go_loop [0,1,4] (fun x n p=>∃ k:Nat,k<=6/\x=.int .u64 (((pst N k).2.1:Nat):Int)/\n=.int .i64 (((pst N k).2.2:Nat):Int)/\p=.int .u64 (((pst N k).1:Nat):Int)) (fun _ n _=>(intOf n).toNat)
 case atStart=>exact⟨0,by omega,rfl,rfl,rfl⟩
 case round =>
  obtain⟨k,hk,rfl,rfl,rfl⟩:=hrel;obtain⟨f1,f2,f3⟩:=cT8 N k hN hk;have hnx:(pst N (k+1)).1=(if(pst N k).2.2%2=1 then(pst N k).1*(pst N k).2.1%18446744073709551616 else(pst N k).1)/\(pst N (k+1)).2.1=(pst N k).2.1*(pst N k).2.1%18446744073709551616/\(pst N (k+1)).2.2=(pst N k).2.2/2:=⟨rfl,rfl,rfl⟩
  have HNX:=hiD hnx;clear hnx;generalize(pst N k).1=p at *;generalize(pst N k).2.1=x at *;generalize(pst N k).2.2=n at *;have HF:=hiD f2;have HF1:=hiD f1;clear f1 f2;have e1:=and1 n f3;have q1:IntKind.u64.wrap ((x:Int)*(x:Int))=((x*x%18446744073709551616:Nat):Int):=by
   rw[IntKind.wrap_u64,<- Int.natCast_mul];omega
  have q2:IntKind.u64.wrap ((p:Int)*(x:Int))=((p*x%18446744073709551616:Nat):Int):=by
   rw[IntKind.wrap_u64,<- Int.natCast_mul];omega
  by_cases h0:n=0
  ·subst h0;clear e1 q1 q2;go_wp2_with fail;go_ret;have:p=10^N:=by rcases HF1.out with h|h;exact absurd rfl h;exact h
   exact⟨by rw[this];simp,rfl⟩
  ·have g0:decide ((0:Int)<(n:Int))=true:=decT (by omega);by_cases hb:n%2=1
   ·rw[hb]at e1;generalize x*x%18446744073709551616=X at *;generalize p*x%18446744073709551616=P at *;go_wp2_with fail;go_round
    case rel =>
     obtain⟨a1,a2,a3⟩:=HNX.out;rw[if_pos hb]at a1;refine⟨k+1,?_,by rw[a2],by rw[a3,Int.natCast_ediv];rfl,by rw[a1]⟩;rcases HF.out with h|h
     ·omega
     ·exact absurd h h0
    case measure=>simp[intOf];omega
   ·have hb0:n%2=0:=by omega
    rw[hb0]at e1;generalize x*x%18446744073709551616=X at *;clear q2;go_wp2_with fail;go_round
    case rel =>
     obtain⟨a1,a2,a3⟩:=HNX.out;rw[if_neg hb]at a1;refine⟨k+1,?_,by rw[a2],by rw[a3,Int.natCast_ediv];rfl,by rw[a1]⟩;rcases HF.out with h|h
     ·omega
     ·exact absurd h h0
    case measure=>simp[intOf];omega
def dval(d:Nat->Nat):Nat->Nat
 | 0=>0
 | k+1=>dval d k*10+d k
theorem dP1(d:Nat->Nat)(k m:Nat)(h:∀ j,j<m->d j<=9)(hk:k<=m):dval d k<10^k:=by
 induction k with
 | zero=>simp[dval]
 | succ k ih =>
  have:=ih (by omega);have h9:=h k (by omega);rw[Nat.pow_succ];show dval d k*10+d k<_;omega
theorem dP2(d:Nat->Nat)(k m:Nat)(h:∀ j,j<m->d j<=9)(hk:k<=m)(hm:m<=100000):Sm (dval d k):=by
 refine Sm.of m ?_ hm;have h1:=dP1 d k m h hk;have h2:(10:Nat)^k<=10^m:=Nat.pow_le_pow_right (by omega) hk;have h3:(10:Nat)^m<=B64^m:=Nat.pow_le_pow_left (by unfold B64;omega) m;omega
structure SSt (w:World) (p:Nat) (s:ByteArray) (b:Option Nat) (a:Addr) (d:Nat->Nat) (k V1 V2 i:Nat) (z:Value) (wr:World):Prop where
 num:V1*10^i+V2=dval d k
 low:V2<10^i
 fit:i<19
 ex:∃ bz,NatAt wr z V1 bz/\Own w b bz
 kept:Kept (fun x=>x=p\/b=some x) w wr
theorem SSt.sm{w:World}{p:Nat}{s:ByteArray}{b:Option Nat}{a:Addr}{d:Nat->Nat}{k V1 V2 i:Nat}{z:Value}{wr:World}(h:SSt w p s b a d k V1 V2 i z wr)(m:Nat)(hd:∀ j,j<m->d j<=9)(hk:k<=m)(hm:m<=100000):Sm V1:=by
 refine(dP2 d k m hd hk hm).mono ?_;have h1:=h.num;have h2:V1*1<=V1*10^i:=Nat.mul_le_mul_left _ (Nat.pow_pos (by omega));omega
theorem SSt.rd{w:World}{p:Nat}{s:ByteArray}{b:Option Nat}{a:Addr}{d:Nat->Nat}{k V1 V2 i:Nat}{z:Value}{wr wr':World}(h:SSt w p s b a d k V1 V2 i z wr)(hb:b≠some p)(hp:p<w.heap.size)(hk:Kept (fun x=>x=p) wr wr'):SSt w p s b a d k V1 V2 i z wr':=by
 obtain⟨h1,h2,h3,⟨bz,h4,h5⟩,h6⟩:=h;have hbz:=aK3 h5 hp hb;refine⟨h1,h2,h3,⟨bz,h4.kept hk (fun k hk' e=>by subst e;exact hbz hk'),h5⟩,h6.trans hk (fun _ _ h=>h) (fun _ _ h=>Or.inl h)⟩
theorem SSt.more{w:World}{p:Nat}{s:ByteArray}{b:Option Nat}{a:Addr}{d:Nat->Nat}{k V1 V2 i:Nat}{z:Value}{wr:World}(h:SSt w p s b a d k V1 V2 i z wr)(hd:d k<=9)(hi:i+1<19):SSt w p s b a d (k+1) V1 (V2*10+d k) (i+1) z wr:=by
 obtain⟨h1,h2,h3,h4,h6⟩:=h;refine⟨?_,?_,hi,h4,h6⟩
 ·show _=dval d k*10+d k;rw[<- h1,Nat.pow_succ,Nat.add_mul,Nat.mul_assoc];omega
 ·rw[Nat.pow_succ];omega
theorem SSt.full{w:World}{p:Nat}{s:ByteArray}{b:Option Nat}{a:Addr}{d:Nat->Nat}{k V1 V2 i:Nat}{z:Value}{wr:World}(h:SSt w p s b a d k V1 V2 i z wr)(hd:d k<=9)(hi:i+1=19)(hp:p<w.heap.size)(hb:b≠some p)(hs:Sm V1):
  Calls prog 173 #[z,z,.int .u64 10000000000000000000,.int .u64 ((V2*10+d k:Nat):Int)] wr fun e w'=>∃ v',e=.returned v'/\SSt w p s b a d (k+1) (V1*10000000000000000000+(V2*10+d k)) 0 0 v' w'/\∀ i,RdAt wr p s i->RdAt w' p s i:=by
 obtain⟨h1,h2,h3,⟨bz,h4,h5⟩,h6⟩:=h;have e18:i=18:=by omega
 subst e18;have hlt:V2*10+d k<10000000000000000000:=by
  have:(10:Nat)^18=1000000000000000000:=by decide
  omega
 refine(aS6 z z bz bz V1 10000000000000000000 (V2*10+d k) wr h4.buf h4 (by unfold B64;omega) (by unfold B64;omega) hs).mono ?_;rintro e w' ⟨v',b',rfl,g1,g2,g3⟩;have hbz:=aK3 h5 hp hb;refine⟨v',rfl,⟨?_,by simp,by omega,⟨b',g1,aF3 h5 g3 h6.size⟩,h6.trans g2 (fun _ _ h=>h) (fun j hj hb'=>?_)⟩,?_⟩
 ·show _=dval d k*10+d k;rw[<- h1];have:(10:Nat)^18=1000000000000000000:=by decide
  rw[this];omega
 ·rcases h5 with h5|⟨q,hq,hqs⟩
  ·exact Or.inr (by rw[<- h5,hb'])
  ·rw[hq]at hb';injection hb' with hb';omega
 ·rintro j ⟨q,hq⟩;exact⟨q,by rw[g2.block p (aB5 hq) hbz];exact hq⟩
theorem SSt.last{w:World}{p:Nat}{s:ByteArray}{b:Option Nat}{a:Addr}{d:Nat->Nat}{k V1 V2 i:Nat}{z:Value}{wr:World}(h:SSt w p s b a d k V1 V2 i z wr)(hp:p<w.heap.size)(hb:b≠some p)(hs:Sm V1):
  Calls prog 173 #[z,z,.int .u64 ((10^i:Nat):Int),.int .u64 (V2:Int)] wr fun e w'=>∃ v',e=.returned v'/\(∃ b',NatAt w' v' (dval d k) b'/\Own w b b')/\Kept (fun x=>x=p\/b=some x) w w'/\∀ i,RdAt wr p s i->RdAt w' p s i:=by
 obtain⟨h1,h2,h3,⟨bz,h4,h5⟩,h6⟩:=h;have hpw:10^i<B64:=by
  have h':(10:Nat)^i<=10^18:=Nat.pow_le_pow_right (by omega) (by omega);have:(10:Nat)^18=1000000000000000000:=by decide
  unfold B64;omega
 refine(aS6 z z bz bz V1 (10^i) V2 wr h4.buf h4 hpw (by omega) hs).mono ?_;rintro e w' ⟨v',b',rfl,g1,g2,g3⟩;have hbz:=aK3 h5 hp hb;rw[h1]at g1;refine⟨v',rfl,⟨b',g1,aF3 h5 g3 h6.size⟩,h6.trans g2 (fun _ _ h=>h) (fun j hj hb'=>?_),?_⟩
 ·rcases h5 with h5|⟨q,hq,hqs⟩
  ·exact Or.inr (by rw[<- h5,hb'])
  ·rw[hq]at hb';injection hb' with hb';omega
 ·rintro j ⟨q,hq⟩;exact⟨q,by rw[g2.block p (aB5 hq) hbz];exact hq⟩
def Look(p:Nat)(s:ByteArray)(a:Addr)(k:Nat)(ch err:Value)(wr:World):Prop :=
 (∃ h:k<s.size,err=.nilIface/\ch=.int .u8 (s[k].toNat:Int)/\RdAt wr p s (k+1))\/(k=s.size/\err=.iface 257 (.pointer (some a))/\(∃ c,ch=.int .u8 c)/\RdAt wr p s s.size)
theorem aO9(p:Nat)(s:ByteArray)(a:Addr)(k:Nat)(wr:World)(h:RdAt wr p s k)(hk:k<=s.size)(hs:s.size<=1000000)(he:Eof wr a):
  Calls prog 333 #[.pointer (some ⟨p,0,none⟩)] wr fun e w'=>∃ ch err,e=.returned (.tuple #[ch,err])/\Look p s a k ch err w'/\Kept (fun x=>x=p) wr w':=by
 rcases Nat.lt_or_ge k s.size with hlt|hge
 ·refine(aW6 p s k wr h hlt hs).mono ?_;rintro e w' ⟨rfl,h1,h2⟩;exact⟨_,_,rfl,Or.inl ⟨hlt,rfl,rfl,h1⟩,h2⟩
 ·have:k=s.size:=by omega
  subst this;refine(aS7 p s a wr h he hs).mono ?_;rintro e w' ⟨rfl,h1,h2⟩;exact⟨_,_,rfl,Or.inr ⟨rfl,rfl,⟨_,rfl⟩,h1⟩,h2⟩
theorem Eof.kept{S:Nat->Prop}{w w':World}{a:Addr}(h:Eof w a)(hk:Kept S w w')(hs:¬ S 3):Eof w' a:=by
 have hlt:=bC6 h;unfold Eof World.cell? at *;rw[hk.block 3 hlt hs];exact h
theorem aR8{w:World}{p:Nat}{s:ByteArray}{i:Nat}{a:Addr}(h:RdAt w p s i)(he:Eof w a):p≠3:=by
 obtain⟨j,h1⟩:=h;obtain⟨c0,_⟩:=aQ4 h1;intro e;subst e;unfold Eof at he;rw[c0]at he;injection he with he;cases he
def dP3(w:World)(p:Nat)(s:ByteArray)(b:Option Nat)(n:Nat)(e:Ending)(w':World):Prop :=
 ∃ v' b',e=.returned (.tuple #[v',.int .i64 10,.int .i64 (s.size:Int),.nilIface])/\NatAt w' v' n b'/\Own w b b'/\Kept (fun x=>x=p\/b=some x) w w'/\RdAt w' p s s.size
theorem aU0{fn:Func}{t u v x:Tmp}(h:fn.results=#[.tmp t,.tmp u,.tmp v,.tmp x])(tmps:Array Value)(P:Program)(w:World):
  (results fn tmps).run P w=.ok (.tuple #[tmps.getD t undef,tmps.getD u undef,tmps.getD v undef,tmps.getD x undef]) w:=by
 simp[results,h]
theorem bF8(vz:Value)(b:Option Nat)(p:Nat)(s:ByteArray)(a:Addr)(d:Nat->Nat)(w:World)(hz:BufAt w vz b)(h:RdAt w p s 0)(hs0:0<s.size)(hs:s.size<=100000)(he:Eof w a)(hb:b≠some p)(hb3:b≠some 3)(hd:∀ k (h:k<s.size),s[k].toNat=48+d k/\d k<=9):
  Calls prog 227 #[vz,.iface 159 (.pointer (some ⟨p,0,none⟩)),.int .i64 10,.bool false] w (dP3 w p s b (dval d s.size)):=by
 have hp:p<w.heap.size:=by obtain⟨j,h⟩:=h;exact aB5 h
 have hp3:=aR8 h he;have hd9:∀ j,j<s.size->d j<=9:=fun j h=>(hd j h).2
 obtain⟨az,lz,cz,rfl,hz0⟩:=aH7 hz;have HR:=hiD h;have HE:=hiD he;have HD:=hiD hd;have HD9:=hiD hd9;have HZ0:=hiD hz0;have q1:=fun a w=>m_rb a w
 have q3:=fun w=>e_nn w
 have q4:=fun w=>e_ee w
 have q5:=fun a w=>e_xe a w
 have q6:=fun a w=>e_xx a w
 clear h he hd hz hz0 hd9;go_enter func227,ntmps227;go_wp2_with fail;refine(aO9 p s a 0 w HR.out (by omega) (by omega) HE.out).mono ?_;rintro e w1 ⟨ch,err,rfl,hl,hk⟩;have HL:=hiD hl;have HK:=hiD hk;have HZ1:Hid (NatAt w1 (.slice az 0 cz) 0 b):=HZ0.out.kept hk (fun k hk' e=>by subst e;exact hb hk');clear hl hk HZ0 HR;go_wp2_with fail;refine(bA9 _).mono ?_;rintro e w2 ⟨rfl,rfl⟩;have HS0:Hid (SSt w p s b a d 0 0 0 0 (.slice az 0 cz) w1):=⟨by simp[dval],by simp,by omega,⟨b,HZ1.out,Or.inl rfl⟩,HK.out.mono (fun _ _ h=>Or.inl h)⟩;clear HZ1 HK;go_wp2_with fail
 go_loopw [0,3,10,11,13,14,15,20,21,22] (fun z fo cnt err prev inv ch di i dp wr=>∃ k V1 V2 i':Nat,k<=s.size/\fo=.bool false/\cnt=.int .i64 (k:Int)/\(prev=.int .i32 46\/prev=.int .i32 48)/\inv=.bool false/\di=.int .u64 (V2:Int)/\i=.int .i64 (i':Int)/\dp=.int .i64 (-1)/\SSt w p s b a d k V1 V2 i' z wr/\Look p s a k ch err wr) (fun _ _ cnt _ _ _ _ _ _ _ _=>s.size-(intOf cnt).toNat)
 case atStart=>exact⟨0,0,0,0,by omega,rfl,rfl,Or.inl rfl,rfl,rfl,rfl,rfl,HS0.out,HL.out⟩
 case round =>
  obtain⟨k,V1,V2,i,hk,rfl,rfl,hprev,rfl,rfl,rfl,rfl,hst,hlook⟩:=hrel;have HST:=hiD hst;clear hst HS0 HL;rcases hlook with⟨hlt,rfl,rfl,hrd⟩|⟨hke,rfl,⟨c,rfl⟩,hrd⟩
  ·obtain⟨hc,hd9⟩:=HD.out k hlt;have HRD:=hiD hrd;have HHD:=hiD hd9;clear hrd;generalize hdk:d k=dk at *;have HDK:=hiD hdk;generalize s[k].toNat=c at *;have HC:=hiD hc;have l1:48<=c:=by omega
   have l2:c<=57:=by omega
   have g1:((c:Int)==46)=false:=beqF (by omega);have g2:((c:Int)==95)=false:=beqF (by omega);have g3:decide ((48:Int)<=(c:Int))=true:=decT (by omega);have g4:decide ((c:Int)<=57)=true:=decT (by omega);have g7:decide ((10:Int)<=(c:Int)-48)=false:=decF (by omega);have eD:((V2:Int)*10+((c:Int)-48))=((V2*10+dk:Nat):Int):=by omega
   have ED:=hiD eD;have hV2:V2<1000000000000000000:=by
    have h1:=HST.out.low;have h2:=HST.out.fit;have h3:(10:Nat)^i<=10^18:=Nat.pow_le_pow_right (by omega) (by omega);have:(10:Nat)^18=1000000000000000000:=by decide
    omega
   have hfit:=HST.out.fit;clear hc hdk hd9 eD;have EOFW:Hid (∀ w',Kept (fun x=>x=p\/b=some x) w w'->Eof w' a):=fun w' hk=>HE.out.kept hk (by intro h;rcases h with h|h;exact hp3 h.symm;exact hb3 h);by_cases hi:i+1=19
   ·go_wp2_with fail;rw[ED.out];have hf:=HST.out.full (by rw[HDK.out];exact HHD.out) hi hp hb (HST.out.sm s.size HD9.out hk hs);rw[HDK.out]at hf;refine hf.mono ?_;rintro e w3 ⟨v',rfl,h1,h2⟩;have H1:=hiD h1;have H2:=hiD (h2 _ HRD.out);clear hf h1 h2;go_wp2_with fail;refine(aO9 p s a (k+1) w3 H2.out (by omega) (by omega) (EOFW.out _ H1.out.kept)).mono ?_;rintro e w4 ⟨ch',err',rfl,hl,hkp⟩;have HL:=hiD hl;have H3:=hiD (H1.out.rd hb hp hkp);clear hl hkp;go_wp2_with fail;go_roundw
    case rel=>exact⟨k+1,_,0,0,by omega,rfl,by go_num,Or.inr rfl,rfl,rfl,rfl,rfl,H3.out,HL.out⟩
    case measure=>simp[intOf];omega
   ·have g10:((i:Int)+1==19)=false:=beqF (by omega);go_wp2_with fail;have hm:=HST.out.more (by rw[HDK.out];exact HHD.out) (by omega);rw[HDK.out]at hm;have HM:=hiD hm;clear hm;refine(aO9 p s a (k+1) wr HRD.out (by omega) (by omega) (EOFW.out _ HST.out.kept)).mono ?_;rintro e w4 ⟨ch',err',rfl,hl,hkp⟩;have HL:=hiD hl;have H3:=hiD (HM.out.rd hb hp hkp);clear hl hkp;go_wp2_with fail;rw[ED.out];go_roundw
    case rel=>exact⟨k+1,V1,_,i+1,by omega,rfl,by go_num,Or.inr rfl,rfl,rfl,by go_num,rfl,H3.out,HL.out⟩
    case measure=>simp[intOf];omega
  ·subst hke;have c3:wr.cell? ⟨3,0,none⟩=some (.iface 257 (.pointer (some a))):=HE.out.kept HST.out.kept (by intro h;rcases h with h|h;exact hp3 h.symm;exact hb3 h);have g0:((s.size:Int)==0)=false:=beqF (by omega);have HRD:=hiD hrd;have hfit:=HST.out.fit;clear hrd;obtain⟨pc,hpc,rfl⟩:∃ pc:Int,((pc==95)=false)/\u13=.int .i32 pc:=by
    rcases hprev with h|h
    ·exact⟨46,by decide,h⟩
    ·exact⟨48,by decide,h⟩
   by_cases hi0:i=0
   ·subst hi0;have hfin:V1=dval d s.size:=by
     have h1:=HST.out.num;have h2:=HST.out.low;simp at h1 h2;omega
    have HFIN:=hiD hfin;clear hfin;go_wp2_with fail;refine bodyPost_ret (aU0 rfl _ _ _) rfl ?_;obtain⟨bz,h1,h2⟩:=HST.out.ex;rw[HFIN.out]at h1;exact⟨_,bz,rfl,h1,h2,HST.out.kept,HRD.out⟩
   ·have g1:decide ((0:Int)<(i:Int))=true:=decT (by omega);go_wp2_with fail;refine(cT9 i (by omega) _).mono ?_;rintro e w3 ⟨rfl,rfl⟩;go_wp2_with fail;refine(HST.out.last hp hb (HST.out.sm s.size HD9.out (Nat.le_refl _) hs)).mono ?_;rintro e w3 ⟨v',rfl,h1,h2,h3⟩;have H1:=hiD h1;have H2:=hiD h2;have H3:=hiD (h3 _ HRD.out);clear h1 h2 h3;go_wp2_with fail;refine bodyPost_ret (aU0 rfl _ _ _) rfl ?_;obtain⟨bz,h1,h2⟩:=H1.out;exact⟨_,bz,rfl,h1,h2,H2.out,H3.out⟩
def ScanInt(w:World)(z p:Nat)(s:ByteArray)(bz:Option Nat)(n:Int)(rz:List Value)(Tz:TypeId)(w':World):Prop :=
 ∃ b',IntAt w' z n b' rz Tz/\Own w bz b'/\Kept (fun k=>k=z\/k=p\/bz=some k) w w'/\RdAt w' p s s.size
theorem dE1{w w1:World}{z p:Nat}{s:ByteArray}{a v:Value}{rest:List Value}{T:TypeId}{bz b':Option Nat}{n:Nat}{v':Value}(hz1:w.heap[z]? = some (.cells (a::v::rest).toArray T (0,0)))(hbz:bz≠some z)(hzp:z≠p)(hN:NatAt w1 v' n b')(hK:Kept (fun k=>k=p\/bz=some k) w w1)(hO:Own w bz b')(hR:RdAt w1 p s s.size):
  ScanInt w z p s bz (n:Int) rest T ((w1.setCell ⟨z,1,none⟩ v').setCell ⟨z,0,none⟩ (.bool false)):=by
 have hne:=aK3 hO (aB5 hz1) hbz;have e0:=hK.at hz1 (by intro h;rcases h with h|h;exact hzp h;exact hbz h);refine⟨b',⟨v',?_,hN.move ?_,hne⟩,hO,?_,?_⟩
 ·rw[decF (Int.not_lt.2 (Int.natCast_nonneg n))];exact bM4 e0 _ _
 ·intro k hk;have:k≠z:=by intro e;subst e;exact hne hk
  rw[aA7 this,aA7 this]
 ·have h1:Kept (fun k=>k=z\/k=p\/bz=some k) w w1:=hK.mono (fun _ _ h=>Or.inr h);exact(h1.setCell ⟨z,1,none⟩ _ (fun _=>Or.inl rfl)).setCell ⟨z,0,none⟩ _ (fun _=>Or.inl rfl)
 ·obtain⟨j,hj⟩:=hR;exact⟨j,by rw[aA7 (Ne.symm hzp),aA7 (Ne.symm hzp)];exact hj⟩
theorem aY0{w:World}{z p:Nat}{s:ByteArray}{i:Nat}{a v:Value}{rest:List Value}{T:TypeId}{f:Bool}(hz:w.heap[z]? = some (.cells (Value.bool f::v::rest).toArray T (0,0)))(hr:RdAt w p s i):z≠p:=by
 obtain⟨j,hj⟩:=hr;intro e;subst e;rw[hz]at hj;injection hj with hj;injection hj with hj;simp at hj
theorem bF9(z p:Nat)(nz:Int)(bz:Option Nat)(rz:List Value)(Tz:TypeId)(s:ByteArray)(a:Addr)(d:Nat->Nat)(w:World)(hz:IntAt w z nz bz rz Tz)(h:RdAt w p s 0)(hs0:0<s.size)(hs:s.size<=100000)(he:Eof w a)(hb:bz≠some p)(hb3:bz≠some 3)(hd:∀ k (h:k<s.size),s[k].toNat=48+d k/\d k<=9):
  Calls prog 199 #[.pointer (some ⟨z,0,none⟩),.iface 159 (.pointer (some ⟨p,0,none⟩)),.int .i64 10] w fun e w'=>e=.returned (.tuple #[.pointer (some ⟨z,0,none⟩),.int .i64 10,.nilIface])/\ScanInt w z p s bz (dval d s.size:Nat) rz Tz w':=by
 obtain⟨vz,hz1,hz2,hz3⟩:=hz;have hzp:z≠p:=by
  obtain⟨j,hj⟩:=h;intro e;subst e;rw[hz1]at hj;injection hj with hj;injection hj with hj;simp at hj
 have hp3:=aR8 h he;have hz3':z≠3:=by
  intro e;subst e;unfold Eof at he;rw[aA2 hz1]at he;simp at he
 have c48:48<=s[0].toNat:=by have:=(hd 0 hs0).1;omega
 have H:=hiD h;have HE:=hiD he;have HD:=hiD hd;have HZ1:=hiD hz1;have HZ2:=hiD hz2;have q3:=fun w=>e_nn w
 clear h he hd hz1 hz2;go_enter func199,ntmps199;go_wp2_with fail;refine(aV2 p s w H.out hs0 (by omega) c48).mono ?_;rintro e w1 ⟨rfl,h1,hk⟩;have hb1:BufAt w1 vz bz:=HZ2.out.buf.kept hk (fun k hk' e=>by subst e;exact hb hk');have hz1':=hk.at HZ1.out hzp;obtain⟨cz0,cz1,fz0,fz1⟩:=aA5 hz1';have H1:=hiD h1;have HK:=hiD hk;have HB1:=hiD hb1;have HZ1':=hiD hz1';have HE1:=hiD (HE.out.kept hk (Ne.symm hp3));clear h1 hk hb1 hz1' H HZ2;go_wp2_with fail;refine(bF8 vz bz p s a d w1 HB1.out H1.out hs0 hs HE1.out hb hb3 HD.out).mono ?_;rintro e w2 ⟨v',b',rfl,h1,h2,h3,h4⟩;obtain⟨av,cv,rfl⟩:=aB6 h1;have hz2':=h3.at HZ1'.out (by intro h;rcases h with h|h;exact hzp h;exact hz3 h);obtain⟨dz0,dz1,ez0,ez1⟩:=aA5 hz2';have HK2:Hid (Kept (fun k=>k=p\/bz=some k) w w2):=HK.out.trans h3 (fun _ _ h=>Or.inl h) (fun _ _ h=>h);have HO:Hid (Own w bz b'):=aF3 (Or.inl rfl) h2 HK.out.size;have HN:=hiD h1;have HR:=hiD h4;clear h1 h2 h3 h4 hz2' cz0 cz1 fz0 fz1;have hcase:(dig (dval d s.size)).length=0\/0<(dig (dval d s.size)).length:=by omega
 have HFIN:=hiD (dE1 HZ1.out hz3 hzp HN.out HK2.out HO.out HR.out);generalize(dig (dval d s.size)).length=L at *;rcases hcase with e|e
 ·subst e;go_wp2_with fail;go_ret3;exact⟨rfl,HFIN.out⟩
 ·have g1:decide ((0:Int)<(L:Int))=true:=decT (by omega);go_wp2_with fail;go_ret3;exact⟨rfl,HFIN.out⟩
theorem ScanInt.rd{w w1 w2:World}{z p:Nat}{s:ByteArray}{bz:Option Nat}{n:Int}{rz:List Value}{Tz:TypeId}(h:ScanInt w z p s bz n rz Tz w1)(hk:Kept (fun k=>k=p) w1 w2)(hr:RdAt w2 p s s.size)(hzp:z≠p)(hb:bz≠some p)(hp:p<w.heap.size):ScanInt w z p s bz n rz Tz w2:=by
 obtain⟨b',h1,h2,h3,h4⟩:=h;have hne:=aK3 h2 hp hb;exact⟨b',h1.kept hk hzp (fun k hk' e=>by subst e;exact hne hk'),h2,h3.trans hk (fun _ _ h=>h) (fun _ _ h=>Or.inr (Or.inl h)),hr⟩
theorem ScanInt.eof{w w1:World}{z p:Nat}{s:ByteArray}{bz:Option Nat}{n:Int}{rz:List Value}{Tz:TypeId}{a:Addr}(h:ScanInt w z p s bz n rz Tz w1)(he:Eof w a)(hz3:z≠3)(hp3:p≠3)(hb3:bz≠some 3):Eof w1 a:=by
 obtain⟨b',h1,h2,h3,h4⟩:=h;exact he.kept h3 (by intro h;rcases h with h|h|h;exact hz3 h.symm;exact hp3 h.symm;exact hb3 h)
theorem aS8{w:World}{z:Nat}{n:Int}{b:Option Nat}{rest:List Value}{T:TypeId}{a:Addr}(h:IntAt w z n b rest T)(he:Eof w a):z≠3:=by
 obtain⟨v,h1,_⟩:=h;intro e;subst e;unfold Eof at he;rw[aA2 h1]at he;simp at he
theorem aS9(z p:Nat)(nz:Int)(bz:Option Nat)(rz:List Value)(Tz:TypeId)(s:ByteArray)(a:Addr)(d:Nat->Nat)(w:World)(hz:IntAt w z nz bz rz Tz)(h:RdAt w p s 0)(hs0:0<s.size)(hs:s.size<=100000)(he:Eof w a)(hb:bz≠some p)(hb3:bz≠some 3)(hd:∀ k (h:k<s.size),s[k].toNat=48+d k/\d k<=9):
  Calls prog 164 #[.pointer (some ⟨z,0,none⟩),.iface 159 (.pointer (some ⟨p,0,none⟩)),.int .i64 10] w fun e w'=>e=.returned (.tuple #[.pointer (some ⟨z,0,none⟩),.bool true])/\ScanInt w z p s bz (dval d s.size:Nat) rz Tz w':=by
 have hp:p<w.heap.size:=by obtain⟨j,h⟩:=h;exact aB5 h
 have hzp:z≠p:=by obtain⟨v,h1,_⟩:=hz;exact aY0 (a:=Value.nilIface) h1 h
 have hz3:=aS8 hz he;have hp3:=aR8 h he;have HC:=hiD (bF9 z p nz bz rz Tz s a d w hz h hs0 hs he hb hb3 hd);have HE:=hiD he;have q3:=fun w=>e_nn w
 have q1:=fun a w=>m_rb a w
 have q4:=fun a w=>e_xxn a w
 clear hz h he hd;go_enter func164,ntmps164;go_wp2_with fail;refine HC.out.mono ?_;rintro e w1 ⟨rfl,h1⟩;have HS:=hiD h1;clear h1 HC;go_wp2_with fail;refine(aS7 p s a w1 HS.out.choose_spec.2.2.2 (HS.out.eof HE.out hz3 hp3 hb3) (by omega)).mono ?_;rintro e w2 ⟨rfl,h1,h2⟩;have c3:w2.cell? ⟨3,0,none⟩=some (.iface 257 (.pointer (some a))):=(HS.out.eof HE.out hz3 hp3 hb3).kept h2 (Ne.symm hp3);have HF:=hiD (HS.out.rd h2 h1 hzp hb hp);clear h1 h2 HS;go_wp2_with fail;go_ret2;exact⟨rfl,HF.out⟩
def cG6(w:World)(z:Nat)(bz:Option Nat)(n:Int)(rz:List Value)(Tz:TypeId)(e:Ending)(w':World):Prop :=
 e=.returned (.tuple #[.pointer (some ⟨z,0,none⟩),.bool true])/\∃ b',IntAt w' z n b' rz Tz/\Own w bz b'/\Kept (fun k=>k=z\/bz=some k) w w'
theorem aK7(z:Nat)(nz:Int)(bz:Option Nat)(rz:List Value)(Tz:TypeId)(s:ByteArray)(a:Addr)(d:Nat->Nat)(w:World)(hz:IntAt w z nz bz rz Tz)(hs0:0<s.size)(hs:s.size<=100000)(he:Eof w a)(hb3:bz≠some 3)(hd:∀ k (h:k<s.size),s[k].toNat=48+d k/\d k<=9):
  Calls prog 130 #[.pointer (some ⟨z,0,none⟩),.string s,.int .i64 10] w (cG6 w z bz (dval d s.size:Nat) rz Tz):=by
 have HZ:=hiD hz;have HE:=hiD he;have HD:=hiD hd;clear hz he hd;go_enter func130,ntmps130;go_wp2_with fail;refine(aK9 s _).mono ?_;rintro e w1 ⟨rfl,hw1⟩;have hk:Kept (fun _=>False) w w1:=by rw[hw1];exact(Kept.refl _ _).alloc _
 have hr:RdAt w1 w.heap.size s 0:=⟨-1,by rw[hw1];exact aA0 _ _⟩;have HK:=hiD hk;have HR:=hiD hr;clear hw1 hk hr;go_wp2_with fail;have hbn:bz≠some w.heap.size:=by intro e;have:=HZ.out.lts _ e;omega
 refine(aS9 z w.heap.size nz bz rz Tz s a d w1 (HZ.out.old HK.out) HR.out hs0 hs (HE.out.kept HK.out (fun f=>f)) hbn hb3 HD.out).mono ?_;rintro e w2 ⟨rfl,b',h1,h2,h3,h4⟩;have HF:Hid (cG6 w z bz (dval d s.size:Nat) rz Tz (.returned (.tuple #[.pointer (some ⟨z,0,none⟩),.bool true])) w2) :=
  ⟨rfl,b',h1,aF3 (Or.inl rfl) h2 HK.out.size,HK.out.trans h3 (fun _ _ f=>f.elim) (fun i hi h=>by
   rcases h with h|h|h
   ·exact Or.inl h
   ·omega
   ·exact Or.inr h)⟩
 clear h1 h2 h3 h4;go_wp2_with fail;go_ret2;exact HF.out
def SgAt(s:ByteArray)(o:Nat)(neg:Bool):Prop :=
 (o=0/\neg=false/\∃ h:0<s.size,48<=s[0].toNat)\/(o=1/\∃ h:0<s.size,(s[0].toNat=45/\neg=true\/s[0].toNat=43/\neg=false))
def sgZ(neg:Bool)(n:Nat):Int:=if neg then -(n:Int)else(n:Int)
theorem bG0(neg:Bool)(n:Nat):(sgZ neg n).natAbs=n:=by unfold sgZ;cases neg<;>simp
theorem dP4(neg:Bool)(n:Nat):decide (sgZ neg n<0)=true↔neg=true/\0<n:=by
 unfold sgZ;cases neg<;>simp
theorem bN3(p:Nat)(s:ByteArray)(neg:Bool)(w:World)(h:RdAt w p s 0)(h0:0<s.size)(hs:s.size<=1000000)(h1:s[0].toNat=45/\neg=true\/s[0].toNat=43/\neg=false):
  Calls prog 226 #[.iface 159 (.pointer (some ⟨p,0,none⟩))] w fun e w'=>e=.returned (.tuple #[.bool neg,.nilIface])/\RdAt w' p s 1/\Kept (fun k=>k=p) w w':=by
 have H:=hiD (aW6 p s 0 _ h h0 hs);have q1:=fun a w=>m_rb a w
 have q3:=fun w=>e_nn w
 clear h;rcases h1 with⟨hc,rfl⟩|⟨hc,rfl⟩
 ·rw[hc]at H;clear hc;go_enter func226,ntmps226;go_wp2_with fail;refine H.out.mono ?_;rintro e w1 ⟨rfl,h1,h2⟩;have H1:=hiD h1;have H2:=hiD h2;clear h1 h2 H;go_wp2_with fail;go_ret2;exact⟨rfl,H1.out,H2.out⟩
 ·rw[hc]at H;clear hc;go_enter func226,ntmps226;go_wp2_with fail;refine H.out.mono ?_;rintro e w1 ⟨rfl,h1,h2⟩;have H1:=hiD h1;have H2:=hiD h2;clear h1 h2 H;go_wp2_with fail;go_ret2;exact⟨rfl,H1.out,H2.out⟩
theorem bT0(p:Nat)(s:ByteArray)(o:Nat)(neg:Bool)(w:World)(h:RdAt w p s 0)(hsg:SgAt s o neg)(hs:s.size<=1000000):
  Calls prog 226 #[.iface 159 (.pointer (some ⟨p,0,none⟩))] w fun e w'=>e=.returned (.tuple #[.bool neg,.nilIface])/\RdAt w' p s o/\Kept (fun k=>k=p) w w':=by
 rcases hsg with⟨rfl,rfl,h0,h1⟩|⟨rfl,h0,h1⟩
 ·exact aV2 p s w h h0 hs h1
 ·exact bN3 p s neg w h h0 hs h1
def dP5(w:World)(p:Nat)(s:ByteArray)(b:Option Nat)(m n:Nat)(e:Ending)(w':World):Prop :=
 ∃ v' b',e=.returned (.tuple #[v',.int .i64 10,.int .i64 (m:Int),.nilIface])/\NatAt w' v' n b'/\Own w b b'/\Kept (fun x=>x=p\/b=some x) w w'/\RdAt w' p s s.size
theorem bT1{w w1:World}{z p:Nat}{s:ByteArray}{a v:Value}{rest:List Value}{T:TypeId}{bz b':Option Nat}{n:Nat}{neg f:Bool}{v':Value}(hz1:w.heap[z]? = some (.cells (a::v::rest).toArray T (0,0)))(hbz:bz≠some z)(hzp:z≠p)(hN:NatAt w1 v' n b')(hK:Kept (fun k=>k=p\/bz=some k) w w1)(hO:Own w bz b')(hR:RdAt w1 p s s.size)(hf:f=true↔neg=true/\0<(dig n).length):
  ScanInt w z p s bz (sgZ neg n) rest T ((w1.setCell ⟨z,1,none⟩ v').setCell ⟨z,0,none⟩ (.bool f)):=by
 have hne:=aK3 hO (aB5 hz1) hbz;have e0:=hK.at hz1 (by intro h;rcases h with h|h;exact hzp h;exact hbz h);have hfd:f=decide (sgZ neg n<0):=by
  have h1:=dP4 neg n;have h2:0<(dig n).length↔0<n:=by
   constructor
   ·intro h;rcases Nat.eq_zero_or_pos n with e|e
    ·rw[e,aC4]at h;exact absurd h (by simp)
    ·exact e
   ·intro h;exact aB3 (by omega)
  rw[h2,<- h1]at hf;exact Bool.eq_iff_iff.2 hf
 have hmv:∀ k,b'=some k->((w1.setCell ⟨z,1,none⟩ v').setCell ⟨z,0,none⟩ (.bool f)).heap[k]? = w1.heap[k]?:=by
  intro k hk;have:k≠z:=by intro e;subst e;exact hne hk
  rw[aA7 this,aA7 this]
 refine⟨b',⟨v',?_,by rw[bG0];exact hN.move hmv,hne⟩,hO,?_,?_⟩
 ·rw[<- hfd];exact bM4 e0 _ _
 ·have h1:Kept (fun k=>k=z\/k=p\/bz=some k) w w1:=hK.mono (fun _ _ h=>Or.inr h);exact(h1.setCell ⟨z,1,none⟩ _ (fun _=>Or.inl rfl)).setCell ⟨z,0,none⟩ _ (fun _=>Or.inl rfl)
 ·obtain⟨j,hj⟩:=hR;exact⟨j,by rw[aA7 (Ne.symm hzp),aA7 (Ne.symm hzp)];exact hj⟩
theorem bT2(vz:Value)(b:Option Nat)(p:Nat)(s:ByteArray)(a:Addr)(d:Nat->Nat)(w:World)(hz:BufAt w vz b)(o m:Nat)(hm:s.size=o+m)(h:RdAt w p s o)(hs0:0<m)(hs:s.size<=100000)(he:Eof w a)(hb:b≠some p)(hb3:b≠some 3)(hd:∀ k (h:o+k<s.size),s[o+k].toNat=48+d k/\d k<=9):
  Calls prog 227 #[vz,.iface 159 (.pointer (some ⟨p,0,none⟩)),.int .i64 10,.bool false] w (dP5 w p s b m (dval d m)):=by
 have hp:p<w.heap.size:=by obtain⟨j,h⟩:=h;exact aB5 h
 have hp3:=aR8 h he;have hd9:∀ j,j<m->d j<=9:=fun j h=>(hd j (by omega)).2
 obtain⟨az,lz,cz,rfl,hz0⟩:=aH7 hz;have HR:=hiD h;have HE:=hiD he;have HD:=hiD hd;have HD9:=hiD hd9;have HZ0:=hiD hz0;have q1:=fun a w=>m_rb a w
 have q3:=fun w=>e_nn w
 have q4:=fun w=>e_ee w
 have q5:=fun a w=>e_xe a w
 have q6:=fun a w=>e_xx a w
 clear h he hd hz hz0 hd9;go_enter func227,ntmps227;go_wp2_with fail;refine(aO9 p s a o w HR.out (by omega) (by omega) HE.out).mono ?_;rintro e w1 ⟨ch,err,rfl,hl,hk⟩;have HL:=hiD hl;have HK:=hiD hk;have HZ1:Hid (NatAt w1 (.slice az 0 cz) 0 b):=HZ0.out.kept hk (fun k hk' e=>by subst e;exact hb hk');clear hl hk HZ0 HR;go_wp2_with fail;refine(bA9 _).mono ?_;rintro e w2 ⟨rfl,rfl⟩;have HS0:Hid (SSt w p s b a d 0 0 0 0 (.slice az 0 cz) w1):=⟨by simp[dval],by simp,by omega,⟨b,HZ1.out,Or.inl rfl⟩,HK.out.mono (fun _ _ h=>Or.inl h)⟩;clear HZ1 HK;go_wp2_with fail
 go_loopw [0,3,10,11,13,14,15,20,21,22] (fun z fo cnt err prev inv ch di i dp wr=>∃ k V1 V2 i':Nat,k<=m/\fo=.bool false/\cnt=.int .i64 (k:Int)/\(prev=.int .i32 46\/prev=.int .i32 48)/\inv=.bool false/\di=.int .u64 (V2:Int)/\i=.int .i64 (i':Int)/\dp=.int .i64 (-1)/\SSt w p s b a d k V1 V2 i' z wr/\Look p s a (o+k) ch err wr) (fun _ _ cnt _ _ _ _ _ _ _ _=>m-(intOf cnt).toNat)
 case atStart=>exact⟨0,0,0,0,by omega,rfl,rfl,Or.inl rfl,rfl,rfl,rfl,rfl,HS0.out,HL.out⟩
 case round =>
  obtain⟨k,V1,V2,i,hk,rfl,rfl,hprev,rfl,rfl,rfl,rfl,hst,hlook⟩:=hrel;have hkm2:k<1000000:=by omega
  have HST:=hiD hst;clear hst HS0 HL;rcases hlook with⟨hlt,rfl,rfl,hrd⟩|⟨hke,rfl,⟨c,rfl⟩,hrd⟩
  ·obtain⟨hc,hd9⟩:=HD.out k hlt;have HRD:=hiD hrd;have HHD:=hiD hd9;clear hrd;generalize hdk:d k=dk at *;have HDK:=hiD hdk;generalize s[o+k].toNat=c at *;have HC:=hiD hc;have l1:48<=c:=by omega
   have l2:c<=57:=by omega
   have g1:((c:Int)==46)=false:=beqF (by omega);have g2:((c:Int)==95)=false:=beqF (by omega);have g3:decide ((48:Int)<=(c:Int))=true:=decT (by omega);have g4:decide ((c:Int)<=57)=true:=decT (by omega);have g7:decide ((10:Int)<=(c:Int)-48)=false:=decF (by omega);have eD:((V2:Int)*10+((c:Int)-48))=((V2*10+dk:Nat):Int):=by omega
   have ED:=hiD eD;have hV2:V2<1000000000000000000:=by
    have h1:=HST.out.low;have h2:=HST.out.fit;have h3:(10:Nat)^i<=10^18:=Nat.pow_le_pow_right (by omega) (by omega);have:(10:Nat)^18=1000000000000000000:=by decide
    omega
   have hfit:=HST.out.fit;clear hc hdk hd9 eD;have EOFW:Hid (∀ w',Kept (fun x=>x=p\/b=some x) w w'->Eof w' a):=fun w' hk=>HE.out.kept hk (by intro h;rcases h with h|h;exact hp3 h.symm;exact hb3 h);by_cases hi:i+1=19
   ·go_wp2_with fail;rw[ED.out];have hf:=HST.out.full (by rw[HDK.out];exact HHD.out) hi hp hb (HST.out.sm m HD9.out hk (by omega));rw[HDK.out]at hf;refine hf.mono ?_;rintro e w3 ⟨v',rfl,h1,h2⟩;have H1:=hiD h1;have H2:=hiD (h2 _ HRD.out);clear hf h1 h2;go_wp2_with fail;refine(aO9 p s a (o+(k+1)) w3 H2.out (by omega) (by omega) (EOFW.out _ H1.out.kept)).mono ?_;rintro e w4 ⟨ch',err',rfl,hl,hkp⟩;have HL:=hiD hl;have H3:=hiD (H1.out.rd hb hp hkp);clear hl hkp;go_wp2_with fail;go_roundw
    case rel=>exact⟨k+1,_,0,0,by omega,rfl,by go_num,Or.inr rfl,rfl,rfl,rfl,rfl,H3.out,HL.out⟩
    case measure=>simp[intOf];omega
   ·have g10:((i:Int)+1==19)=false:=beqF (by omega);go_wp2_with fail;have hm:=HST.out.more (by rw[HDK.out];exact HHD.out) (by omega);rw[HDK.out]at hm;have HM:=hiD hm;clear hm;refine(aO9 p s a (o+(k+1)) wr HRD.out (by omega) (by omega) (EOFW.out _ HST.out.kept)).mono ?_;rintro e w4 ⟨ch',err',rfl,hl,hkp⟩;have HL:=hiD hl;have H3:=hiD (HM.out.rd hb hp hkp);clear hl hkp;go_wp2_with fail;rw[ED.out];go_roundw
    case rel=>exact⟨k+1,V1,_,i+1,by omega,rfl,by go_num,Or.inr rfl,rfl,rfl,by go_num,rfl,H3.out,HL.out⟩
    case measure=>simp[intOf];omega
  ·have hkm:k=m:=by omega
   subst hkm;have c3:wr.cell? ⟨3,0,none⟩=some (.iface 257 (.pointer (some a))):=HE.out.kept HST.out.kept (by intro h;rcases h with h|h;exact hp3 h.symm;exact hb3 h);have g0:((k:Int)==0)=false:=beqF (by omega);have HRD:=hiD hrd;have hfit:=HST.out.fit;clear hrd;obtain⟨pc,hpc,rfl⟩:∃ pc:Int,((pc==95)=false)/\u13=.int .i32 pc:=by
    rcases hprev with h|h
    ·exact⟨46,by decide,h⟩
    ·exact⟨48,by decide,h⟩
   by_cases hi0:i=0
   ·subst hi0;have hfin:V1=dval d k:=by
     have h1:=HST.out.num;have h2:=HST.out.low;simp at h1 h2;omega
    have HFIN:=hiD hfin;clear hfin;go_wp2_with fail;refine bodyPost_ret (aU0 rfl _ _ _) rfl ?_;obtain⟨bz,h1,h2⟩:=HST.out.ex;rw[HFIN.out]at h1;exact⟨_,bz,rfl,h1,h2,HST.out.kept,HRD.out⟩
   ·have g1:decide ((0:Int)<(i:Int))=true:=decT (by omega);go_wp2_with fail;refine(cT9 i (by omega) _).mono ?_;rintro e w3 ⟨rfl,rfl⟩;go_wp2_with fail;refine(HST.out.last hp hb (HST.out.sm k HD9.out (Nat.le_refl _) (by omega))).mono ?_;rintro e w3 ⟨v',rfl,h1,h2,h3⟩;have H1:=hiD h1;have H2:=hiD h2;have H3:=hiD (h3 _ HRD.out);clear h1 h2 h3;go_wp2_with fail;refine bodyPost_ret (aU0 rfl _ _ _) rfl ?_;obtain⟨bz,h1,h2⟩:=H1.out;exact⟨_,bz,rfl,h1,h2,H2.out,H3.out⟩
theorem bT3(z p:Nat)(nz:Int)(bz:Option Nat)(rz:List Value)(Tz:TypeId)(s:ByteArray)(a:Addr)(d:Nat->Nat)(w:World)(hz:IntAt w z nz bz rz Tz)(o m:Nat)(neg:Bool)(hsg:SgAt s o neg)(hm:s.size=o+m)(h:RdAt w p s 0)(hs0:0<m)(hs:s.size<=100000)(he:Eof w a)(hb:bz≠some p)(hb3:bz≠some 3)(hd:∀ k (h:o+k<s.size),s[o+k].toNat=48+d k/\d k<=9):
  Calls prog 199 #[.pointer (some ⟨z,0,none⟩),.iface 159 (.pointer (some ⟨p,0,none⟩)),.int .i64 10] w fun e w'=>e=.returned (.tuple #[.pointer (some ⟨z,0,none⟩),.int .i64 10,.nilIface])/\ScanInt w z p s bz (sgZ neg (dval d m)) rz Tz w':=by
 obtain⟨vz,hz1,hz2,hz3⟩:=hz;have hzp:z≠p:=by
  obtain⟨j,hj⟩:=h;intro e;subst e;rw[hz1]at hj;injection hj with hj;injection hj with hj;simp at hj
 have hp3:=aR8 h he;have hz3':z≠3:=by
  intro e;subst e;unfold Eof at he;rw[aA2 hz1]at he;simp at he
 have H:=hiD h;have HE:=hiD he;have HD:=hiD hd;have HZ1:=hiD hz1;have HZ2:=hiD hz2;have q3:=fun w=>e_nn w
 clear h he hd hz1 hz2;go_enter func199,ntmps199;go_wp2_with fail;refine(bT0 p s o neg w H.out hsg (by omega)).mono ?_;rintro e w1 ⟨rfl,h1,hk⟩;have hb1:BufAt w1 vz bz:=HZ2.out.buf.kept hk (fun k hk' e=>by subst e;exact hb hk');have hz1':=hk.at HZ1.out hzp;obtain⟨cz0,cz1,fz0,fz1⟩:=aA5 hz1';have H1:=hiD h1;have HK:=hiD hk;have HB1:=hiD hb1;have HZ1':=hiD hz1';have HE1:=hiD (HE.out.kept hk (Ne.symm hp3));clear h1 hk hb1 hz1' H HZ2;go_wp2_with fail;refine(bT2 vz bz p s a d w1 HB1.out o m hm H1.out hs0 hs HE1.out hb hb3 HD.out).mono ?_;rintro e w2 ⟨v',b',rfl,h1,h2,h3,h4⟩;obtain⟨av,cv,rfl⟩:=aB6 h1;have hz2':=h3.at HZ1'.out (by intro h;rcases h with h|h;exact hzp h;exact hz3 h);obtain⟨dz0,dz1,ez0,ez1⟩:=aA5 hz2';have HK2:Hid (Kept (fun k=>k=p\/bz=some k) w w2):=HK.out.trans h3 (fun _ _ h=>Or.inl h) (fun _ _ h=>h);have HO:Hid (Own w bz b'):=aF3 (Or.inl rfl) h2 HK.out.size;have HN:=hiD h1;have HR:=hiD h4;clear h1 h2 h3 h4 hz2' cz0 cz1 fz0 fz1;have hcase:(dig (dval d m)).length=0\/0<(dig (dval d m)).length:=by omega
 have HFIN:Hid (∀ f:Bool,(f=true↔neg=true/\0<(dig (dval d m)).length)->ScanInt w z p s bz (sgZ neg (dval d m)) rz Tz ((w2.setCell ⟨z,1,none⟩ _).setCell ⟨z,0,none⟩ (.bool f))):=fun f hf=>bT1 HZ1.out hz3 hzp HN.out HK2.out HO.out HR.out hf
 generalize(dig (dval d m)).length=L at *;rcases hcase with e|e
 ·subst e;have HFIN2:=hiD (HFIN.out false (by simp));clear HFIN;go_wp2_with fail;go_ret3;exact⟨rfl,HFIN2.out⟩
 ·have g1:decide ((0:Int)<(L:Int))=true:=decT (by omega);have HFIN2:=hiD (HFIN.out neg (by simp[e]));clear HFIN;go_wp2_with fail;go_ret3;exact⟨rfl,HFIN2.out⟩
theorem aY1(z p:Nat)(nz:Int)(bz:Option Nat)(rz:List Value)(Tz:TypeId)(s:ByteArray)(a:Addr)(d:Nat->Nat)(w:World)(hz:IntAt w z nz bz rz Tz)(o m:Nat)(neg:Bool)(hsg:SgAt s o neg)(hm:s.size=o+m)(h:RdAt w p s 0)(hs0:0<m)(hs:s.size<=100000)(he:Eof w a)(hb:bz≠some p)(hb3:bz≠some 3)(hd:∀ k (h:o+k<s.size),s[o+k].toNat=48+d k/\d k<=9):
  Calls prog 164 #[.pointer (some ⟨z,0,none⟩),.iface 159 (.pointer (some ⟨p,0,none⟩)),.int .i64 10] w fun e w'=>e=.returned (.tuple #[.pointer (some ⟨z,0,none⟩),.bool true])/\ScanInt w z p s bz (sgZ neg (dval d m)) rz Tz w':=by
 have hp:p<w.heap.size:=by obtain⟨j,h⟩:=h;exact aB5 h
 have hzp:z≠p:=by obtain⟨v,h1,_⟩:=hz;exact aY0 (a:=Value.nilIface) h1 h
 have hz3:=aS8 hz he;have hp3:=aR8 h he;have HC:=hiD (bT3 z p nz bz rz Tz s a d w hz o m neg hsg hm h hs0 hs he hb hb3 hd);have HE:=hiD he;have q3:=fun w=>e_nn w
 have q1:=fun a w=>m_rb a w
 have q4:=fun a w=>e_xxn a w
 clear hz h he hd;go_enter func164,ntmps164;go_wp2_with fail;refine HC.out.mono ?_;rintro e w1 ⟨rfl,h1⟩;have HS:=hiD h1;clear h1 HC;go_wp2_with fail;refine(aS7 p s a w1 HS.out.choose_spec.2.2.2 (HS.out.eof HE.out hz3 hp3 hb3) (by omega)).mono ?_;rintro e w2 ⟨rfl,h1,h2⟩;have c3:w2.cell? ⟨3,0,none⟩=some (.iface 257 (.pointer (some a))):=(HS.out.eof HE.out hz3 hp3 hb3).kept h2 (Ne.symm hp3);have HF:=hiD (HS.out.rd h2 h1 hzp hb hp);clear h1 h2 HS;go_wp2_with fail;go_ret2;exact⟨rfl,HF.out⟩
theorem aP0(z:Nat)(nz:Int)(bz:Option Nat)(rz:List Value)(Tz:TypeId)(s:ByteArray)(a:Addr)(d:Nat->Nat)(w:World)(hz:IntAt w z nz bz rz Tz)(o m:Nat)(neg:Bool)(hsg:SgAt s o neg)(hm:s.size=o+m)(hs0:0<m)(hs:s.size<=100000)(he:Eof w a)(hb3:bz≠some 3)(hd:∀ k (h:o+k<s.size),s[o+k].toNat=48+d k/\d k<=9):
  Calls prog 130 #[.pointer (some ⟨z,0,none⟩),.string s,.int .i64 10] w (cG6 w z bz (sgZ neg (dval d m)) rz Tz):=by
 have HZ:=hiD hz;have HE:=hiD he;have HD:=hiD hd;clear hz he hd;go_enter func130,ntmps130;go_wp2_with fail;refine(aK9 s _).mono ?_;rintro e w1 ⟨rfl,hw1⟩;have hk:Kept (fun _=>False) w w1:=by rw[hw1];exact(Kept.refl _ _).alloc _
 have hr:RdAt w1 w.heap.size s 0:=⟨-1,by rw[hw1];exact aA0 _ _⟩;have HK:=hiD hk;have HR:=hiD hr;clear hw1 hk hr;go_wp2_with fail;have hbn:bz≠some w.heap.size:=by intro e;have:=HZ.out.lts _ e;omega
 refine(aY1 z w.heap.size nz bz rz Tz s a d w1 (HZ.out.old HK.out) o m neg hsg hm HR.out hs0 hs (HE.out.kept HK.out (fun f=>f)) hbn hb3 HD.out).mono ?_;rintro e w2 ⟨rfl,b',h1,h2,h3,h4⟩;have HF:Hid (cG6 w z bz (sgZ neg (dval d m)) rz Tz (.returned (.tuple #[.pointer (some ⟨z,0,none⟩),.bool true])) w2) :=
  ⟨rfl,b',h1,aF3 (Or.inl rfl) h2 HK.out.size,HK.out.trans h3 (fun _ _ f=>f.elim) (fun i hi h=>by
   rcases h with h|h|h
   ·exact Or.inl h
   ·omega
   ·exact Or.inr h)⟩
 clear h1 h2 h3 h4;go_wp2_with fail;go_ret2;exact HF.out
end Go.Proofs.YtjebnpkebccffaaGreatDoor
