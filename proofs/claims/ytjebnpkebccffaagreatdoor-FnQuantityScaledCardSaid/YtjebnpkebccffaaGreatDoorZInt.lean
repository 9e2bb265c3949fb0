import Derived.Test.YtjebnpkebccffaaGreatDoorZIsw
import Derived.Deep.DeepCutAuto
import Derived.StillTailTactics
set_option linter.unusedSimpArgs false
set_option linter.unusedVariables false
set_option linter.unusedSectionVars false
set_option maxRecDepth 100000
set_option maxHeartbeats 8000000
namespace Go.Proofs.YtjebnpkebccffaaGreatDoor
open Go.RowKit Go.Proofs.Tryz
def IntAt(w:World)(p:Nat)(n:Int)(b:Option Nat)(rest:List Value)(T:TypeId):Prop :=
 ∃ v,w.heap[p]? = some (.cells (Value.bool (decide (n<0))::v::rest).toArray T (0,0))/\NatAt w v n.natAbs b/\b≠some p
def aF5(w:World)(z:Nat)(b:Option Nat)(n:Int)(rest:List Value)(T:TypeId)(e:Ending)(w':World):Prop :=
 e=.returned (.pointer (some ⟨z,0,none⟩))/\∃ b',IntAt w' z n b' rest T/\Kept (fun k=>k=z\/b=some k) w w'/\Own w b b'
theorem IntAt.lt{w:World}{p:Nat}{n:Int}{b:Option Nat}{rest:List Value}{T:TypeId}(h:IntAt w p n b rest T):p<w.heap.size:=by
 obtain⟨v,h1,_⟩:=h;exact aB5 h1
theorem IntAt.lts{w:World}{p:Nat}{n:Int}{b:Option Nat}{rest:List Value}{T:TypeId}(h:IntAt w p n b rest T):∀ k,b=some k->k<w.heap.size:=by
 obtain⟨v,_,h1,_⟩:=h;exact h1.lts
theorem IntAt.move{w w':World}{p:Nat}{n:Int}{b:Option Nat}{rest:List Value}{T:TypeId}(h:IntAt w p n b rest T)(hp:w'.heap[p]? = w.heap[p]?)(hb:∀ k,b=some k->w'.heap[k]? = w.heap[k]?):IntAt w' p n b rest T:=by
 obtain⟨v,h1,h2,h3⟩:=h;exact⟨v,hp.trans h1,h2.move hb,h3⟩
theorem IntAt.kept{S:Nat->Prop}{w w':World}{p:Nat}{n:Int}{b:Option Nat}{rest:List Value}{T:TypeId}(h:IntAt w p n b rest T)(hk:Kept S w w')(hp:¬ S p)(hb:∀ k,b=some k->¬ S k):IntAt w' p n b rest T :=
 h.move (hk.block p h.lt hp) (fun k hk'=>hk.block k (h.lts k hk') (hb k hk'))
theorem IntAt.drew{w w':World}{p:Nat}{n:Int}{b:Option Nat}{rest:List Value}{T:TypeId}(h:IntAt w p n b rest T)(hd:Drew w w'):IntAt w' p n b rest T :=
 h.move (by rw[hd.heap]) (fun k _=>by rw[hd.heap])
theorem bM4{w:World}{z:Nat}{a v:Value}{rest:List Value}{T:TypeId}(h:w.heap[z]? = some (.cells (a::v::rest).toArray T (0,0)))(v' n':Value):
  ((w.setCell ⟨z,1,none⟩ v').setCell ⟨z,0,none⟩ n').heap[z]? = some (.cells (n'::v'::rest).toArray T (0,0)):=by
 rw[aA3 (aA3 h 1 v') 0 n'];simp
theorem bM5{w:World}{z:Nat}{a v:Value}{rest:List Value}{T:TypeId}(h:w.heap[z]? = some (.cells (a::v::rest).toArray T (0,0)))(v':Value):
  (w.setCell ⟨z,1,none⟩ v').heap[z]? = some (.cells (a::v'::rest).toArray T (0,0)):=by
 rw[aA3 h 1 v'];simp
theorem bE1{w:World}{z:Nat}{a v:Value}{rest:List Value}{T:TypeId}(h:w.heap[z]? = some (.cells (a::v::rest).toArray T (0,0)))(n':Value):
  (w.setCell ⟨z,0,none⟩ n').heap[z]? = some (.cells (n'::v::rest).toArray T (0,0)):=by
 rw[aA3 h 0 n'];simp
theorem aA5{w:World}{z:Nat}{a v:Value}{rest:List Value}{T:TypeId}(h:w.heap[z]? = some (.cells (a::v::rest).toArray T (0,0))):
  w.cell? ⟨z,0,none⟩=some a/\w.cell? ⟨z,1,none⟩=some v/\w.frozen? ⟨z,0,none⟩=false/\w.frozen? ⟨z,1,none⟩=false :=
 ⟨by rw[aA2 h];rfl,by rw[aA2 h];rfl,aA1 h 0,aA1 h 1⟩
theorem aK3{w:World}{b b':Option Nat}{z:Nat}(h:Own w b b')(hz:z<w.heap.size)(hb:b≠some z):b'≠some z:=by
 rcases h with h|⟨k,h1,h2⟩
 ·rw[h];exact hb
 ·rw[h1];intro he;injection he with he;omega
theorem Tryz.info109:(prog.info? 109).map (fun i=>(i.size,i.bytes))=some (2,32):=by kernel_rfl
theorem aE8{w:World}{a b:Nat}{ca cb:Array Value}{ta tb:TypeId}(hne:a≠b)(ha:w.heap[a]? = some (.cells ca ta (0,0)))(hb:w.heap[b]? = some (.cells cb tb (0,0))):
  (binOp .eql 117 (.pointer (some ⟨a,0,none⟩)) (.pointer (some ⟨b,0,none⟩))).run prog w=.ok (.bool false) w:=by
 obtain⟨i,hi,hzz⟩:=Option.map_eq_some_iff.1 Tryz.info109;simp only[Prod.mk.injEq]at hzz;exact run_eql_ptr_other w underlying117 hi (by omega) (by intro h;injection h with h;exact hne h) ha hb
theorem bZ5{w:World}{a b:Nat}{ca cb:Array Value}{ta tb:TypeId}(hne:a≠b)(ha:w.heap[a]? = some (.cells ca ta (0,0)))(hb:w.heap[b]? = some (.cells cb tb (0,0))):
  (binOp .neq 117 (.pointer (some ⟨a,0,none⟩)) (.pointer (some ⟨b,0,none⟩))).run prog w=.ok (.bool true) w:=by
 obtain⟨j,hte,hzz⟩:=Option.map_eq_some_iff.1 Tryz.info109;simp only[Prod.mk.injEq]at hzz;have hsz:j.size≠0:=by omega
 have hne':(⟨a,0,none⟩:Addr)≠⟨b,0,none⟩:=by intro h;injection h with h;exact hne h
 have h:∀ d:Nat,(Op.equalIn (d+1) 117 (.pointer (some ⟨a,0,none⟩)) (.pointer (some ⟨b,0,none⟩))).run prog w=.ok false w:=fun d=>by
  simp[Op.equalIn,run_underlying underlying117,sizeOf,typeInfo,hte,hsz,run_sameAddr_other w hne' ha hb]
 simp only[binOp];simp[Op.equal,Op.maxDepth,h 9999]
theorem aW3{w w1:World}{z:Nat}{a v:Value}{rest:List Value}{T:TypeId}{bz b':Option Nat}{n:Int}{v':Value}(hz1:w.heap[z]? = some (.cells (a::v::rest).toArray T (0,0)))(hbz:bz≠some z)(hN:NatAt w1 v' n.natAbs b')(hK:Kept (fun k=>bz=some k) w w1)(hO:Own w bz b'):
  aF5 w z bz n rest T (.returned (.pointer (some ⟨z,0,none⟩))) ((w1.setCell ⟨z,1,none⟩ v').setCell ⟨z,0,none⟩ (.bool (decide (n<0)))):=by
 have hne:=aK3 hO (aB5 hz1) hbz;refine⟨rfl,b',⟨v',bM4 (hK.at hz1 hbz) _ _,hN.move ?_,hne⟩,?_,hO⟩
 ·intro k hk;have:k≠z:=by intro e;subst e;exact hne hk
  rw[aA7 this,aA7 this]
 ·have h1:Kept (fun k=>k=z\/bz=some k) w w1:=hK.mono (fun _ _ h=>Or.inr h);exact(h1.setCell ⟨z,1,none⟩ _ (fun _=>Or.inl rfl)).setCell ⟨z,0,none⟩ _ (fun _=>Or.inl rfl)
theorem Kept.undrew{S:Nat->Prop}{w w':World}(h:Kept S w.drew w'):Kept S w w':=⟨h.os,h.tape,h.output,h.size,h.block⟩
theorem Kept.undrewN{S:Nat->Prop}{w w':World}{n:Nat}(h:Kept S (w.drewN n) w'):Kept S w w':=⟨h.os,h.tape,h.output,h.size,h.block⟩
theorem cS4(z x:Nat)(nz n:Int)(bz bx:Option Nat)(rz rx:List Value)(Tz Tx:TypeId)(w:World)(hz:IntAt w z nz bz rz Tz)(hx:IntAt w x n bx rx Tx)(hne:z≠x)(hb1:bz≠some x)(hn:Sm n.natAbs):
  Calls prog 97 #[.pointer (some ⟨z,0,none⟩),.pointer (some ⟨x,0,none⟩)] w (aF5 w z bz n rz Tz):=by
 obtain⟨vz,hz1,hz2,hz3⟩:=hz;obtain⟨vx,hx1,hx2,hx3⟩:=hx;have hq:=bZ5 hne hz1 hx1;obtain⟨cz0,cz1,fz0,fz1⟩:=aA5 hz1;obtain⟨cx0,cx1,_,_⟩:=aA5 hx1;have HZ1:=hiD hz1;have HX1:=hiD hx1;have HZ2:=hiD hz2;have HX2:=hiD hx2;have HN:=hiD hn;clear hz1 hx1 hz2 hx2 hn;have setk:∀(w1:World) (v':Value) (b':Option Nat),NatAt w1 v' n.natAbs b'/\Kept (fun k=>bz=some k) w.drew w1/\Own w.drew bz b' ->
   w1.cell? ⟨z,1,none⟩=some vz/\w1.cell? ⟨x,1,none⟩=some vx/\w1.cell? ⟨z,0,none⟩=some (.bool (decide (nz<0)))/\w1.cell? ⟨x,0,none⟩=some (.bool (decide (n<0)))/\w1.frozen? ⟨z,0,none⟩=false/\w1.frozen? ⟨z,1,none⟩=false /\
   Hid (NatAt w1 v' n.natAbs b'/\Kept (fun k=>bz=some k) w w1/\Own w bz b'):=by
  intro w1 v' b' ⟨h1,h2,h3⟩;have h2':Kept (fun k=>bz=some k) w w1:=⟨h2.os,h2.tape,h2.output,h2.size,h2.block⟩;have ez:=h2'.at HZ1.out hz3;have ex:=h2'.at HX1.out hb1;obtain⟨c1,c2,c3,c4⟩:=aA5 ez;obtain⟨d1,d2,_,_⟩:=aA5 ex;exact⟨c2,d2,c1,d1,c3,c4,h1,h2',h3⟩
 have SETK:=hiD setk;clear setk;go_enter func97,ntmps97;go_wp2_with fail
 go_region_with (go_at_call 134;refine(aW2 vz vx bz bx _ w.drew (by exact HZ2.out.buf) (by exact HX2.out) HN.out).mono ?_;rintro e w1 ⟨v',b',rfl,h⟩;obtain⟨a',c',rfl⟩:=aB6 h.1;obtain⟨k1,k2,k3,k4,k5,k6,k7⟩:=SETK.out w1 _ b' h;clear h)
 all_goals
  go_wp2_with fail;go_ret;exact aW3 HZ1.out hz3 k7.out.1 k7.out.2.1 k7.out.2.2
theorem aO7{P:Program}{f:FuncId}{args:Array Value}{w:World}{a n:Nat}{v:Value}(h:Calls P f args (w.drewN (a+n)) fun e w'=>e=.returned v/\Drew (w.drewN (a+n)) w'):
  Calls P f args (w.drewN (a+n)) fun e w''=>e=.returned v/\∃ m,w''=w.drewN (a+m) :=
 h.mono fun _ _ ⟨he,m,hm⟩=>⟨he,n+m,by rw[hm,World.drewN_drewN,Nat.add_assoc]⟩
theorem aX5{P:Program}{f:FuncId}{args:Array Value}{w:World}{n:Nat}{v:Value}(h:Calls P f args (w.drewN n) fun e w'=>e=.returned v/\Drew (w.drewN n) w'):
  Calls P f args (w.drewN n) fun e w''=>e=.returned v/\∃ m,w''=w.drewN m :=
 h.mono fun _ _ ⟨he,m,hm⟩=>⟨he,n+m,by rw[hm,World.drewN_drewN]⟩
def aR6(w:World)(n:Int)(e:Ending)(w':World):Prop :=
 ∃ p b,e=.returned (.pointer (some ⟨p,0,none⟩))/\w.heap.size<=p/\IntAt w' p n b [] 109/\Kept (fun _=>False) w w'/\(∀ k,b=some k->w.heap.size<=k)
theorem dC2(w:World):aR6 w 0 (.returned (.pointer (some ⟨w.heap.size,0,none⟩))) (w.alloc (.cells #[.bool false,.slice none 0 0] 109)) :=
 ⟨w.heap.size,none,rfl,Nat.le_refl _,⟨.slice none 0 0,aA0 _ _,⟨rfl,rfl⟩,by simp⟩,(Kept.refl _ _).alloc _,by simp⟩
theorem dC3(w:World)(n:Int)(h0:n≠0)(h1:n.natAbs<B64):
  aR6 w n (.returned (.pointer (some ⟨w.heap.size+1,0,none⟩))) ((w.alloc (.cells #[.int .u64 ((n.natAbs:Nat):Int)] 165)).alloc (.cells #[.bool (decide (n<0)),.slice (some ⟨w.heap.size,0,none⟩) 1 1] 109)):=by
 have hd:=aH5 (n:=n.natAbs) (by omega) h1;refine⟨w.heap.size+1,some w.heap.size,rfl,by omega,⟨.slice (some ⟨w.heap.size,0,none⟩) 1 1,?_,?_,by simp⟩,((Kept.refl _ _).alloc _).alloc _,by intro k hk;injection hk with hk;omega⟩
 ·have:=aA0 (w.alloc (.cells #[.int .u64 ((n.natAbs:Nat):Int)] 165)) (.cells #[.bool (decide (n<0)),.slice (some ⟨w.heap.size,0,none⟩) 1 1] 109)
  simpa using this
 ·refine⟨#[.int .u64 ((n.natAbs:Nat):Int)],by rw[hd];rfl,?_,by rw[hd];simp,by simp,by simp,?_⟩
  ·rw[Below.heap_alloc _ _ _ (by simp)];exact aA0 _ _
  ·rw[hd];intro i hi;simp at hi;subst hi;rfl
theorem aL5(w:World):Calls prog 58 #[.int .i64 0] w (aR6 w 0):=by
 have H:=hiD (dC2 w);go_enter func58,ntmps58;go_wp2_with fail;go_ret;exact H.out
theorem cL3(k:Nat)(h0:1<=k)(h1:k<=9223372036854775807)(w:World):Calls prog 58 #[.int .i64 (k:Int)] w (aR6 w k):=by
 have H:=hiD (dC3 w (k:Int) (by omega) (by unfold B64;omega));have a1:((k:Int)==0)=false:=beqF (by omega);have a2:decide ((k:Int)<0)=false:=decF (by omega);rw[a2]at H;simp only[Int.natAbs_natCast]at H;go_enter func58,ntmps58;go_wp2_with fail;go_ret;exact H.out
def sgn(n:Int):Int:=if n=0 then 0 else if n<0 then -1 else 1
theorem bE2(x:Nat)(n:Int)(b:Option Nat)(r:List Value)(T:TypeId)(w:World)(hx:IntAt w x n b r T):
  Calls prog 99 #[.pointer (some ⟨x,0,none⟩)] w fun e w'=>e=.returned (.int .i64 (sgn n))/\w=w':=by
 obtain⟨vx,hx1,hx2,hx3⟩:=hx;obtain⟨c0,c1,_,_⟩:=aA5 hx1;by_cases h0:n=0
 ·subst h0;obtain⟨a,c,rfl⟩:=aJ9 hx2;clear hx1 hx2;have e:sgn 0=0:=rfl;rw[e];go_enter func99,ntmps99;go_wp2_with fail;go_ret;exact⟨rfl,rfl⟩
 ·obtain⟨a,c,rfl⟩:=aB6 hx2;have hp:=aB3 (n:=n.natAbs) (by omega);clear hx1 hx2;have a1:(((dig n.natAbs).length:Int)==0)=false:=beqF (by omega);generalize(dig n.natAbs).length=L at *;by_cases hs:n<0
  ·have e:sgn n = -1:=by unfold sgn;rw[if_neg h0,if_pos hs]
   rw[e];have e2:decide (n<0)=true:=decT hs;rw[e2]at c0;go_enter func99,ntmps99;go_wp2_with fail;go_ret;exact⟨rfl,rfl⟩
  ·have e:sgn n=1:=by unfold sgn;rw[if_neg h0,if_neg hs]
   rw[e];have e2:decide (n<0)=false:=decF hs;rw[e2]at c0;go_enter func99,ntmps99;go_wp2_with fail;go_ret;exact⟨rfl,rfl⟩
def cmpZ(n m:Int):Int:=if n<m then -1 else if m<n then 1 else 0
theorem dC4{n m:Int}(h1:¬ n<0)(h2:¬ m<0):cmpN n.natAbs m.natAbs=cmpZ n m:=by
 unfold cmpN cmpZ;by_cases h:n<m
 ·rw[if_pos (by omega),if_pos h]
 ·rw[if_neg (by omega),if_neg h];by_cases h':m<n
  ·rw[if_pos (by omega),if_pos h']
  ·rw[if_neg (by omega),if_neg h']
theorem dC5{n m:Int}(h1:n<0)(h2:m<0):-cmpN n.natAbs m.natAbs=cmpZ n m:=by
 unfold cmpN cmpZ;by_cases h:n<m
 ·rw[if_neg (by omega),if_pos (by omega),if_pos h]
 ·rw[if_neg h];by_cases h':m<n
  ·rw[if_pos (by omega),if_pos h'];rfl
  ·rw[if_neg (by omega),if_neg (by omega),if_neg h'];rfl
theorem cL4(n m:Nat):cmpN n m = -1\/cmpN n m=0\/cmpN n m=1:=by
 unfold cmpN;by_cases h:n<m
 ·rw[if_pos h];exact Or.inl rfl
 ·rw[if_neg h];by_cases h':m<n
  ·rw[if_pos h'];exact Or.inr (Or.inr rfl)
  ·rw[if_neg h'];exact Or.inr (Or.inl rfl)
theorem aW4(x y:Nat)(n m:Int)(bx by_:Option Nat)(rx ry:List Value)(Tx Ty:TypeId)(w:World)(hx:IntAt w x n bx rx Tx)(hy:IntAt w y m by_ ry Ty)(hne:x≠y):
  Calls prog 103 #[.pointer (some ⟨x,0,none⟩),.pointer (some ⟨y,0,none⟩)] w fun e w'=>e=.returned (.int .i64 (cmpZ n m))/\Drew w w':=by
 obtain⟨vx,hx1,hx2,hx3⟩:=hx;obtain⟨vy,hy1,hy2,hy3⟩:=hy;have hq:=aE8 hne hx1 hy1;obtain⟨cx0,cx1,_,_⟩:=aA5 hx1;obtain⟨cy0,cy1,_,_⟩:=aA5 hy1;have HC:=hiD (fun nq=>bZ3 vx vy bx by_ n.natAbs m.natAbs (w.drewN nq) (by exact hx2) (by exact hy2));clear hx1 hy1 hx2 hy2 hx3 hy3;by_cases h1:n<0
 ·rw[decT h1]at cx0;by_cases h2:m<0
  ·rw[decT h2]at cy0;rw[<- dC5 h1 h2];have h3:=cL4 n.natAbs m.natAbs;clear h1 h2;generalize cmpN n.natAbs m.natAbs=r at *;have hr:IntKind.i64.wrap (-r) = -r:=IntWalk.i64_in _ (by omega);go_enter func103,ntmps103;go_wp2_with fail
   go_quiet (fail)
   go_wp2_with fail
   go_quiet ((go_at_call 142;exact aO7 (HC.out _)))
   go_wp2_with fail;go_ret;exact⟨rfl,by repeat (first|exact Drew.refl _|refine Drew.step ?_ _)⟩
  ·rw[decF h2]at cy0;have e:cmpZ n m = -1:=by unfold cmpZ;rw[if_pos (by omega)]
   rw[e];clear h1 h2;go_enter func103,ntmps103;go_wp2_with fail
   go_quiet (fail)
   go_wp2_with fail;go_ret;exact⟨rfl,by repeat (first|exact Drew.refl _|refine Drew.step ?_ _)⟩
 ·rw[decF h1]at cx0;by_cases h2:m<0
  ·rw[decT h2]at cy0;have e:cmpZ n m=1:=by unfold cmpZ;rw[if_neg (by omega),if_pos (by omega)]
   rw[e];clear h1 h2;go_enter func103,ntmps103;go_wp2_with fail
   go_quiet (fail)
   go_wp2_with fail;go_ret;exact⟨rfl,by repeat (first|exact Drew.refl _|refine Drew.step ?_ _)⟩
  ·rw[decF h2]at cy0;rw[<- dC4 h1 h2];clear h1 h2;generalize cmpN n.natAbs m.natAbs=r at *;go_enter func103,ntmps103;go_wp2_with fail
   go_quiet (fail)
   go_wp2_with fail
   go_quiet ((go_at_call 142;exact aO7 (HC.out _)))
   go_wp2_with fail;go_ret;exact⟨rfl,by repeat (first|exact Drew.refl _|refine Drew.step ?_ _)⟩
theorem aH9{P:Program}{ops:Array Oper}{w:World}{Q:Act->Prop}(l:List Oper):∀ a,wpQuiet P ops (fun w'=>w'=w) Q l a->wpStill P ops w Q l a:=by
 induction l with
 | nil=>intro a h;exact h
 | cons o l ih =>
  intro a h;unfold wpQuiet at h;unfold wpStill;by_cases hw:Region.wanted o (yielded ops a.tmps)=true
  ·rw[if_pos hw]at h ⊢;obtain⟨v,h1,h2⟩:=h;have h3:=h1 w rfl;unfold Oper.quietAt at h3;unfold Oper.still;generalize(execOp a.eval o).run P w=r at h3 ⊢
   match r,h3 with
   | .ok (.value u) w',h3=>obtain⟨e1,e2⟩:=h3;subst e2;exact⟨e1,ih _ h2⟩
   | .ok .skip w',h3=>obtain⟨e1,e2⟩:=h3;subst e2;exact⟨e1,ih _ h2⟩
   | .ok (.enter f args) w',h3=>obtain⟨e1,e2⟩:=h3;exact⟨e1,v,e2,ih _ h2⟩
  ·rw[if_neg hw]at h ⊢;exact ih _ h
def Mid(w:World)(z:Nat)(bz:Option Nat)(n:Nat)(s0:Bool)(rz:List Value)(Tz:TypeId)(wx:World):Prop :=
 ∃ v' b',NatAt wx v' n b'/\Kept (fun k=>k=z\/bz=some k) w wx/\Own w bz b'/\b'≠some z/\wx.heap[z]? = some (.cells (Value.bool s0::v'::rz).toArray Tz (0,0))
theorem dW5{w W w1:World}{z:Nat}{bz b':Option Nat}{n:Nat}{s0:Bool}{v v':Value}{rz:List Value}{Tz:TypeId}(hd:W.heap=w.heap)(hos:W.os=w.os)(ht:W.tape=w.tape)(ho:W.output=w.output)(hz1:w.heap[z]? = some (.cells (Value.bool s0::v::rz).toArray Tz (0,0)))(hbz:bz≠some z)(h:NatAt w1 v' n b'/\Kept (fun k=>bz=some k) W w1/\Own W bz b'):
  Mid w z bz n s0 rz Tz (w1.setCell ⟨z,1,none⟩ v'):=by
 obtain⟨hN,hK,hO⟩:=h;have hO':Own w bz b':=by unfold Own at hO ⊢;rw[hd]at hO;exact hO
 have hK':Kept (fun k=>bz=some k) w w1:=⟨hK.os.trans hos,hK.tape.trans ht,hK.output.trans ho,by have:=hK.size;rw[hd]at this;exact this,fun k hk hs=>by rw[hK.block k (by rw[hd];exact hk) hs,hd]⟩;have hne:=aK3 hO' (aB5 hz1) hbz;refine⟨v',b',hN.move ?_,?_,hO',hne,bM5 (hK'.at hz1 hbz) v'⟩
 ·intro k hk;have:k≠z:=by intro e;subst e;exact hne hk
  rw[aA7 this]
 ·have h1:Kept (fun k=>k=z\/bz=some k) w w1:=hK'.mono (fun _ _ h=>Or.inr h);exact h1.setCell ⟨z,1,none⟩ _ (fun _=>Or.inl rfl)
theorem dO3{w wx:World}{z:Nat}{bz:Option Nat}{n:Int}{s0:Bool}{rz:List Value}{Tz:TypeId}(h:Mid w z bz n.natAbs s0 rz Tz wx)(nq:Nat){s:Bool}(hs:s=decide (n<0)):
  aF5 w z bz n rz Tz (.returned (.pointer (some ⟨z,0,none⟩))) ((wx.drewN nq).setCell ⟨z,0,none⟩ (.bool s)):=by
 obtain⟨v',b',h1,h2,h3,h4,h5⟩:=h;refine⟨rfl,b',⟨v',by rw[hs];exact bE1 (w:=wx.drewN nq) h5 _,h1.move ?_,h4⟩,?_,h3⟩
 ·intro k hk;have:k≠z:=by intro e;subst e;exact h4 hk
  rw[aA7 this];rfl
 ·exact(h2.drewN nq).setCell ⟨z,0,none⟩ _ (fun _=>Or.inl rfl)
theorem cF8{w wx:World}{z:Nat}{bz:Option Nat}{n:Int}{s0:Bool}{rz:List Value}{Tz:TypeId}(h:Mid w z bz n.natAbs s0 rz Tz wx){s:Bool}(hs:s=decide (n<0)):
  aF5 w z bz n rz Tz (.returned (.pointer (some ⟨z,0,none⟩))) ((wx.setCell ⟨z,0,none⟩ (.bool s)).drew):=by
 have:=dO3 h 0 hs;obtain⟨h1,b',h2,h3,h4⟩:=this;exact⟨h1,b',h2.move rfl (fun _ _=>rfl),h3.drew,h4⟩
theorem dC6{n m:Int}(h:n*m≠0):(decide (n<0)!=decide (m<0))=decide (n*m<0):=by
 have hn:n≠0:=by intro e;subst e;simp at h
 have hm:m≠0:=by intro e;subst e;simp at h
 by_cases h1:n<0<;>by_cases h2:m<0
 ·have:0<n*m:=Int.mul_pos_of_neg_of_neg h1 h2;simp[h1,h2];omega
 ·have:n*m<0:=Int.mul_neg_of_neg_of_pos h1 (by omega);simp[h1,h2];omega
 ·have:n*m<0:=Int.mul_neg_of_pos_of_neg (by omega) h2;simp[h1,h2];omega
 ·have:0<n*m:=Int.mul_pos (by omega) (by omega);simp[h1,h2];omega
theorem bA7(s:Option Addr)(z x y:Nat)(nz n m:Int)(bz bx by_:Option Nat)(rz rx ry:List Value)(Tz Tx Ty:TypeId)(w:World)(hz:IntAt w z nz bz rz Tz)(hx:IntAt w x n bx rx Tx)(hy:IntAt w y m by_ ry Ty)(hxy:x≠y)(hzx:z=x\/(z≠x/\bz≠some x))(hzy:z≠y)(hby:bz≠some y)(hmul:∀(W:World) (vz vx vy:Value),NatAt W vz nz.natAbs bz->NatAt W vx n.natAbs bx->NatAt W vy m.natAbs by_->Calls prog 139 #[vz,.pointer s,vx,vy] W (aH4 W bz (n.natAbs*m.natAbs))):
  Calls prog 98 #[.pointer (some ⟨z,0,none⟩),.pointer s,.pointer (some ⟨x,0,none⟩),.pointer (some ⟨y,0,none⟩)] w fun e w'=>e=.returned (.tuple #[])/\aF5 w z bz (n*m) rz Tz (.returned (.pointer (some ⟨z,0,none⟩))) w':=by
 obtain⟨vz,hz1,hz2,hz3⟩:=hz;obtain⟨vx,hx1,hx2,hx3⟩:=hx;obtain⟨vy,hy1,hy2,hy3⟩:=hy;have hq:=aE8 hxy hx1 hy1;obtain⟨cz0,cz1,fz0,fz1⟩:=aA5 hz1;obtain⟨cx0,cx1,_,_⟩:=aA5 hx1;obtain⟨cy0,cy1,_,_⟩:=aA5 hy1;have HM:=hiD (hmul w.drew vz vx vy (by exact hz2) (by exact hx2) (by exact hy2));have HFIN:=hiD (fun(w1:World) (b':Option Nat) (v':Value) h=>dW5 (w:=w) (W:=w.drew) (w1:=w1) (b':=b') (n:=n.natAbs*m.natAbs) (v':=v') rfl rfl rfl rfl hz1 hz3 h);have HX0:Hid (∀ wx,Mid w z bz (n.natAbs*m.natAbs) (decide (nz<0)) rz Tz wx->wx.cell? ⟨x,0,none⟩=some (.bool (decide (n<0)))/\wx.cell? ⟨y,0,none⟩=some (.bool (decide (m<0)))/\wx.frozen? ⟨z,0,none⟩=false/\wx.cell? ⟨z,0,none⟩=some (.bool (decide (nz<0)))):=by
  intro wx ⟨v',b',h1,h2,h3,h4,h5⟩;obtain⟨d0,_,d2,_⟩:=aA5 h5;have ey:=h2.at hy1 (by intro h;rcases h with h|h;exact hzy h.symm;exact hby h);obtain⟨e0,_,_,_⟩:=aA5 ey;refine⟨?_,e0,d2,d0⟩;rcases hzx with h|⟨h,hb⟩
  ·subst h;rw[hz1]at hx1;injection hx1 with a;injection a with a;simp at a;rw[d0];exact congrArg (fun b=>some (Value.bool b)) (by simpa using a.1)
  ·have ex:=h2.at hx1 (by intro h';rcases h' with h'|h';exact h h'.symm;exact hb h');exact(aA5 ex).1
 have HSZ:Hid (∀ wx,Mid w z bz (n.natAbs*m.natAbs) (decide (nz<0)) rz Tz wx->∃ a c,wx.cell? ⟨z,1,none⟩=some (.slice a (dig (n.natAbs*m.natAbs)).length c)):=by
  intro wx ⟨v',b',h1,h2,h3,h4,h5⟩;obtain⟨a,c,rfl⟩:=aB6 h1;exact⟨a,c,(aA5 h5).2.1⟩
 have HW1:Hid (∀(w1:World),Kept (fun k=>bz=some k) w.drew w1->w1.cell? ⟨z,1,none⟩=some vz/\w1.frozen? ⟨z,1,none⟩=false):=by
  intro w1 hK;have e:=hK.at (o:=.cells (Value.bool (decide (nz<0))::vz::rz).toArray Tz (0,0)) hz1 hz3;exact⟨(aA5 e).2.1,(aA5 e).2.2.2⟩
 clear hz1 hx1 hy1 hz2 hx2 hy2 hmul hzx hby;go_enter func98,ntmps98
 go_upto_region 3 with(fail)
 go_cut [] (fun wx=>Mid w z bz (n.natAbs*m.natAbs) (decide (nz<0)) rz Tz wx)
 case first =>
  go_region_with (go_at_call 139;refine HM.out.mono ?_;rintro e w1 ⟨v',b',rfl,h⟩;obtain⟨a',c',rfl⟩:=aB6 h.1;obtain⟨g1,g2⟩:=HW1.out w1 h.2.1;have H:=hiD h;clear h)
  all_goals (go_wp2_with fail;go_meet;exact HFIN.out _ _ _ H.out)
 case rest =>
  obtain⟨x0,y0,fz,zz0⟩:=HX0.out _ hcut;obtain⟨a,c,z1⟩:=HSZ.out _ hcut;have HC:=hiD hcut;clear hcut;by_cases h0:n*m=0
  ·have e0:(dig (n.natAbs*m.natAbs)).length=0:=by rw[<- Int.natAbs_mul,h0];simp[aC4]
   rw[e0]at z1;have g1:decide ((0:Int)<0)=false:=by decide
   have HS:Hid (false=decide (n*m<0)):=by rw[h0];rfl
   clear e0;go_wp2_with fail;refine wp_region_still_tail 20 (by kernel_rfl) (by kernel_rfl) ?_;simp only[List.take_succ_cons,List.take_zero,List.drop_succ_cons,List.drop_zero];refine aH9 _ _ ?_;change wpQuiet _ _ (fun w'=>w'=wc.drew) _ _ _;repeat (go_big_quiet_step (fail))
   refine wpQuiet_nil ?_;change wpList _ _ _ _ _ wc.drew;go_wp2_with fail
   go_end0
   exact⟨rfl,cF8 (by have:=HC.out;rwa[<- Int.natAbs_mul]at this) HS.out⟩
  ·have e0:=aB3 (n:=n.natAbs*m.natAbs) (by rw[<- Int.natAbs_mul];omega);have HS:=hiD (dC6 h0);generalize hL:(dig (n.natAbs*m.natAbs)).length=L at *;have g1:decide ((0:Int)<(L:Int))=true:=decT (by omega);clear hL;go_wp2_with fail;refine wp_region_still_tail 20 (by kernel_rfl) (by kernel_rfl) ?_;simp only[List.take_succ_cons,List.take_zero,List.drop_succ_cons,List.drop_zero];refine aH9 _ _ ?_;change wpQuiet _ _ (fun w'=>w'=wc.drew) _ _ _;repeat (go_big_quiet_step (fail))
   refine wpQuiet_nil ?_;change wpList _ _ _ _ _ wc.drew;go_wp2_with fail
   go_end0
   exact⟨rfl,cF8 (by have:=HC.out;rwa[<- Int.natAbs_mul]at this) HS.out⟩
end Go.Proofs.YtjebnpkebccffaaGreatDoor
