import Derived.Test.YtjebnpkebccffaaGreatDoorZPqf
set_option linter.unusedSimpArgs false
set_option linter.unusedVariables false
set_option linter.unusedSectionVars false
set_option maxRecDepth 100000
set_option maxHeartbeats 8000000
namespace Go.Proofs.YtjebnpkebccffaaGreatDoor
open Go.RowKit Go.Proofs.Tryz
theorem Tryz.inf112:(prog.info? 112).map (fun i=>i.size)=some 3:=by kernel_rfl
theorem cA3{w:World}{a b:Nat}{ca cb:Array Value}{ta tb:TypeId}(hne:a≠b)(ha:w.heap[a]? = some (.cells ca ta (0,0)))(hb:w.heap[b]? = some (.cells cb tb (0,0))):
  (binOp .neq 61 (.pointer (some ⟨a,0,none⟩)) (.pointer (some ⟨b,0,none⟩))).run prog w=.ok (.bool true) w:=by
 obtain⟨j,hte,hzz⟩:=Option.map_eq_some_iff.1 Tryz.inf112;have hsz:j.size≠0:=by omega
 have hne':(⟨a,0,none⟩:Addr)≠⟨b,0,none⟩:=by intro h;injection h with h;exact hne h
 have h:∀ d:Nat,(Op.equalIn (d+1) 61 (.pointer (some ⟨a,0,none⟩)) (.pointer (some ⟨b,0,none⟩))).run prog w=.ok false w:=fun d=>by
  simp[Op.equalIn,run_underlying underlying61,sizeOf,typeInfo,hte,hsz,run_sameAddr_other w hne' ha hb]
 simp only[binOp];simp[Op.equal,Op.maxDepth,h 9999]
theorem aY3(z x:Nat)(nz n sz sc:Int)(bz b:Option Nat)(w:World)(hz:DecAt w z nz sz bz)(hx:DecAt w x n sc b)(hne:z≠x)(hb:bz≠some x)(hs:Sep z bz x b)(hn:Sm n.natAbs):
  Calls prog 70 #[.pointer (some ⟨z,0,none⟩),.pointer (some ⟨x,0,none⟩)] w (aG3 w z bz n sc):=by
 have hq:(binOp .neq 61 (.pointer (some ⟨z,0,none⟩)) (.pointer (some ⟨x,0,none⟩))).run prog w=.ok (.bool true) w:=by
  obtain⟨v1,h1,_⟩:=hz;obtain⟨v2,h2,_⟩:=hx;exact cA3 hne h1 h2
 have HZ:=hiD hz;have HX:=hiD hx;have HN:=hiD hn;clear hz hx hn;go_enter func70,ntmps70;go_wp2_with fail;refine(aA4 x n sc b w HX.out).mono ?_;rintro e w1 ⟨rfl,rfl⟩;go_wp2_with fail;refine(aN1 z x nz n sz bz b _ 112 w HZ.out HX.out hne hb HN.out).mono ?_;rintro e w1 ⟨rfl,b',h1,h2,h3⟩;have hx1:DecAt w1 x n sc b:=IntAt.kept HX.out h2 (by
  rintro(h|h)
  ·exact hne h.symm
  ·exact hb h) (fun k hk=>by
  rintro(h|h)
  ·subst h;exact hs.2.2.1 hk
  ·exact hs.2.2.2 k h hk)
 have H1:=hiD h1;have H2:=hiD h2;have H3:=hiD h3;have HX1:=hiD hx1;clear h1 h2 h3 hx1 hq;go_wp2_with fail;refine(aB4 x n sc b w1 HX1.out).mono ?_;rintro e w2 ⟨rfl,rfl⟩;go_wp2_with fail;refine(aC6 z n sz sc b' w1 H1.out).mono ?_;rintro e w2 ⟨rfl,h1,h2⟩;have HF:Hid (aG3 w z bz n sc (.returned (.pointer (some ⟨z,0,none⟩))) w2):=⟨rfl,b',h1,H2.out.trans h2 (fun _ _ h=>h) (fun _ _ h=>Or.inl h),H3.out⟩;clear h1 h2;go_wp2_with fail;go_ret;exact HF.out
def QRD(w:World)(z rn rd:Nat)(q r d s:Int)(e:Ending)(w':World):Prop :=
 e=.returned (.tuple #[.pointer (some ⟨z,0,none⟩),.pointer (some ⟨rn,0,none⟩),.pointer (some ⟨rd,0,none⟩)])/\∃ bq br bd,DecAt w' z q s bq/\IntAt w' rn r br [] 109/\IntAt w' rd d bd [] 109 /\
  Kept (fun k=>k=z\/k=rn\/k=rd) w w'/\(∀ k,bq=some k->w.heap.size<=k)/\(∀ k,br=some k->w.heap.size<=k)/\(∀ k,bd=some k->w.heap.size<=k)
structure QArgs (w:World) (z rn rd:Nat):Prop where
 hz:DecAt w z 0 0 none
 hn:IntAt w rn 0 none [] 109
 hd:IntAt w rd 0 none [] 109
 zn:z≠rn
 zd:z≠rd
 nd:rn≠rd
theorem QArgs.old{w w':World}{z rn rd:Nat}(h:QArgs w z rn rd)(k:Kept (fun _=>False) w w'):QArgs w' z rn rd :=
 ⟨IntAt.old h.hz k,h.hn.old k,h.hd.old k,h.zn,h.zd,h.nd⟩
structure QSt (w:World) (z rn rd ix iy:Nat) (sz:Int) (N D:Int):Prop where
 hz:DecAt w z 0 sz none
 hn:IntAt w rn 0 none [] 109
 hd:IntAt w rd 0 none [] 109
 zn:z≠rn
 zd:z≠rd
 nd:rn≠rd
 ex:∃ bx rx Tx,IntAt w ix N bx rx Tx/\Sep z none ix bx/\Sep rn none ix bx/\Sep rd none ix bx
 ey:∃ by_ ry Ty,IntAt w iy D by_ ry Ty/\Sep z none iy by_/\Sep rn none iy by_/\Sep rd none iy by_
theorem aQ6{w w':World}{z p:Nat}{n:Int}{b:Option Nat}{r:List Value}{T:TypeId}(h:IntAt w p n b r T)(hs:Sep z none p b)(hk:Kept (fun k=>k=z) w w'):IntAt w' p n b r T :=
 h.kept hk (fun e=>hs.1 e.symm) (fun k hk' e=>by subst e;exact hs.2.2.1 hk')
theorem QSt.scale{w w':World}{z rn rd ix iy:Nat}{sz s N D:Int}(h:QSt w z rn rd ix iy sz N D)(h1:DecAt w' z 0 s none)(hk:Kept (fun k=>k=z) w w'):QSt w' z rn rd ix iy s N D:=by
 obtain⟨a1,a2,a3,a4,a5,a6,⟨bx,rx,Tx,a7,a8,a9,a10⟩,⟨by_,ry,Ty,a11,a12,a13,a14⟩⟩:=h;exact⟨h1,a2.kept hk (fun e=>a4 e.symm) (fun _ h=>by cases h),a3.kept hk (fun e=>a5 e.symm) (fun _ h=>by cases h),a4,a5,a6,⟨bx,rx,Tx,aQ6 a7 a8 hk,a8,a9,a10⟩,⟨by_,ry,Ty,aQ6 a11 a12 hk,a12,a13,a14⟩⟩
theorem QSt.old{w w':World}{z rn rd ix iy:Nat}{sz N D:Int}(h:QSt w z rn rd ix iy sz N D)(k:Kept (fun _=>False) w w'):QSt w' z rn rd ix iy sz N D:=by
 obtain⟨a1,a2,a3,a4,a5,a6,⟨bx,rx,Tx,a7,a8⟩,⟨by_,ry,Ty,a11,a12⟩⟩:=h;exact⟨IntAt.old a1 k,a2.old k,a3.old k,a4,a5,a6,⟨bx,rx,Tx,a7.old k,a8⟩,⟨by_,ry,Ty,a11.old k,a12⟩⟩
def DivOK(N D:Int):Prop:=∀(bx by_:Option Nat) (W:World) (vz vr vx vy:Value),NatAt W vz 0 none->NatAt W vr 0 none->NatAt W vx N.natAbs bx->NatAt W vy D.natAbs by_->Calls prog 196 #[vz,.pointer none,vr,vx,vy] W (QR W none none (quoN N.natAbs D.natAbs) (remN N.natAbs D.natAbs))
theorem bB1{N D:Int}(hN:N.natAbs<B64)(hD:D.natAbs<B64)(h0:D≠0):DivOK N D :=
 fun bx by_ W vz vr vx vy=>aV1 0 0 N.natAbs D.natAbs none none bx by_ hN hD (by omega) (fun _ h=>by cases h) W vz vr vx vy
structure QEnd (w0 w:World) (z rn rd iy r:Nat) (q s D R:Int):Prop where
 hz:∃ bq,DecAt w z q s bq/\(∀ k,bq=some k->w0.heap.size<=k)/\Sep rn none z bq/\Sep rd none z bq
 hr:∃ br,IntAt w r R br [] 109/\Sep rn none r br/\Sep rd none r br
 hn:IntAt w rn 0 none [] 109
 hd:IntAt w rd 0 none [] 109
 nd:rn≠rd
 ey:∃ by_ ry Ty,IntAt w iy D by_ ry Ty/\Sep rn none iy by_/\Sep rd none iy by_
 kept:Kept (fun k=>k=z) w0 w
theorem QSt.div{w0 w:World}{z rn rd ix iy:Nat}{s N D:Int}(h:QSt w z rn rd ix iy s N D)(hk0:Kept (fun k=>k=z) w0 w)(hD:D≠0)(hdiv:DivOK N D):
  Calls prog 158 #[.pointer (some ⟨z,0,none⟩),.pointer (some ⟨ix,0,none⟩),.pointer (some ⟨iy,0,none⟩),.pointer (some ⟨w.heap.size,0,none⟩)] (w.alloc zInt) fun e w' =>
   e=.returned (.tuple #[.pointer (some ⟨z,0,none⟩),.pointer (some ⟨w.heap.size,0,none⟩)])/\QEnd w0 w' z rn rd iy w.heap.size (N.tdiv D) s D (N.tmod D):=by
 have ka:Kept (fun _=>False) w (w.alloc zInt):=(Kept.refl _ _).alloc _;have h':=h.old ka;obtain⟨a1,a2,a3,a4,a5,a6,⟨bx,rx,Tx,a7,a8,a9,a10⟩,⟨by_,ry,Ty,a11,a12,a13,a14⟩⟩:=h;obtain⟨c1,c2,c3,_,_,_,⟨bx',rx',Tx',c7,_⟩,⟨by',ry',Ty',c11,_⟩⟩:=h';have l1:=IntAt.lt a1;have l2:=a2.lt;have l3:=a3.lt;have lx:=a7.lt;have ly:=a11.lt;have d7:=a7.old ka;have d11:=a11.old ka;refine(bM6 z ix iy w.heap.size 0 N D 0 none bx by_ none _ rx ry [] 112 Tx Ty 109 (w.alloc zInt) c1 d7 d11 (aG7 w) a8.1 a12.1 (by omega) (by omega) (by omega) ⟨by simp,by simp,by simp,by simp,by simp,by simp⟩ hD
  (fun W vz vr vx vy=>hdiv bx by_ W vz vr vx vy)).mono ?_
 rintro e w' ⟨rfl,bq,bs,e1,e2,ek,o1,o2,oa⟩;have hbq:∀ k,bq=some k->w.heap.size+1<=k:=by
  intro k hk;rcases o1 with o1|⟨j,hj,hjs⟩
  ·rw[o1]at hk;cases hk
  ·rw[hj]at hk;injection hk with hk;simp at hjs;omega
 have hbs:∀ k,bs=some k->w.heap.size+1<=k:=by
  intro k hk;rcases o2 with o2|⟨j,hj,hjs⟩
  ·rw[o2]at hk;cases hk
  ·rw[hj]at hk;injection hk with hk;simp at hjs;omega
 have hnot:∀ p b,p<w.heap.size->(∀ k,b=some k->k<w.heap.size)->p≠z->b≠some z->(¬ (p=z\/p=w.heap.size\/(none:Option Nat)=some p\/(none:Option Nat)=some p))/\∀ k,b=some k->¬ (k=z\/k=w.heap.size\/(none:Option Nat)=some k\/(none:Option Nat)=some k):=by
  intro p b hp hb h1 h2;refine⟨?_,fun k hk=>?_⟩
  ·rintro(h|h|h|h)
   ·exact h1 h
   ·omega
   ·cases h
   ·cases h
  ·rintro(h|h|h|h)
   ·subst h;exact h2 hk
   ·have:=hb k hk;omega
   ·cases h
   ·cases h
 obtain⟨n1,n2⟩:=hnot rn none l2 (by simp) a4.symm (by simp);obtain⟨m1,m2⟩:=hnot rd none l3 (by simp) a5.symm (by simp);obtain⟨y1,y2⟩:=hnot iy by_ ly a11.lts (fun e=>a12.1 e.symm) a12.2.2.1;have sepn:∀ p b q,p≠q->(∀ k,b=some k->w.heap.size+1<=k)->p<w.heap.size->Sep p none q b:=fun p b q h1 h2 h3=>⟨h1,by simp,fun e=>by have:=h2 _ e;omega,by simp⟩;refine⟨rfl,⟨bq,e1,fun k hk=>by have:=hbq k hk;have:=hk0.size;omega,sepn _ _ _ a4.symm hbq l2,sepn _ _ _ a5.symm hbq l3⟩,⟨bs,e2,sepn _ _ _ (by omega) hbs l2,sepn _ _ _ (by omega) hbs l3⟩,c2.kept ek n1 n2,c3.kept ek m1 m2,a6,⟨by_,ry,Ty,d11.kept ek y1 y2,a13,a14⟩,?_⟩;refine(hk0.trans ka (fun _ _ h=>h) (fun _ _ f=>f.elim)).trans ek (fun _ _ h=>h) (fun i hi h=>?_);have:=hk0.size;rcases h with h|h|h|h
 ·exact h
 ·omega
 ·cases h
 ·cases h
theorem dL2{w:World}{rn r:Nat}{R:Int}{br:Option Nat}{rr:List Value}{Tr:TypeId}(hn:IntAt w rn 0 none [] 109)(hr:IntAt w r R br rr Tr)(hs:Sep rn none r br)(hR:Sm R.natAbs):
  Calls prog 97 #[.pointer (some ⟨rn,0,none⟩),.pointer (some ⟨r,0,none⟩)] w fun e w'=>e=.returned (.pointer (some ⟨rn,0,none⟩))/\∃ b',IntAt w' rn R b' [] 109/\Kept (fun k=>k=rn) w w'/\(∀ k,b'=some k->w.heap.size<=k):=by
 refine(cS4 rn r 0 R none br [] rr 109 Tr w hn hr hs.1 (by simp) hR).mono ?_;rintro e w' ⟨rfl,b',h1,h2,h3⟩;refine⟨rfl,b',h1,h2.mono (fun i hi h=>?_),fun k hk=>?_⟩
 ·rcases h with h|h
  ·exact h
  ·cases h
 ·rcases h3 with h3|⟨j,hj,hjs⟩
  ·rw[h3]at hk;cases hk
  ·rw[hj]at hk;injection hk with hk;omega
theorem QEnd.num{w0 w:World}{z rn rd iy r:Nat}{q s D R:Int}(h:QEnd w0 w z rn rd iy r q s D R)(hR:Sm R.natAbs):
  Calls prog 97 #[.pointer (some ⟨rn,0,none⟩),.pointer (some ⟨r,0,none⟩)] w fun e w'=>e=.returned (.pointer (some ⟨rn,0,none⟩)) /\
   (∃ bq,DecAt w' z q s bq/\(∀ k,bq=some k->w0.heap.size<=k)/\Sep rd none z bq)/\(∃ br,IntAt w' rn R br [] 109/\(∀ k,br=some k->w0.heap.size<=k)/\Sep rd none rn br)/\IntAt w' rd 0 none [] 109/\(∃ by_ ry Ty,IntAt w' iy D by_ ry Ty/\Sep rd none iy by_)/\Kept (fun k=>k=z\/k=rn) w0 w':=by
 obtain⟨⟨bq,q1,q2,q3,q4⟩,⟨br,r1,r2,r3⟩,a1,a2,nd,⟨by_,ry,Ty,y1,y2,y3⟩,hk⟩:=h;refine(dL2 a1 r1 r2 hR).mono ?_;rintro e w' ⟨rfl,b',h1,h2,h3⟩;have hl:=a2.lt;exact⟨rfl,⟨bq,aQ6 q1 q3 h2,q2,q4⟩,⟨b',h1,fun k hk'=>by have:=h3 k hk';have:=hk.size;omega,⟨nd.symm,by simp,fun e=>by have:=h3 _ e;omega,by simp⟩⟩,a2.kept h2 nd.symm (fun _ h=>by cases h),⟨by_,ry,Ty,aQ6 y1 y2 h2,y3⟩,hk.trans h2 (fun _ _ h=>Or.inl h) (fun _ _ h=>Or.inr h)⟩
theorem QEnd.den{w0 w':World}{z rn rd iy:Nat}{q s D R:Int}(h:(∃ bq,DecAt w' z q s bq/\(∀ k,bq=some k->w0.heap.size<=k)/\Sep rd none z bq)/\(∃ br,IntAt w' rn R br [] 109/\(∀ k,br=some k->w0.heap.size<=k)/\Sep rd none rn br)/\IntAt w' rd 0 none [] 109/\(∃ by_ ry Ty,IntAt w' iy D by_ ry Ty/\Sep rd none iy by_)/\Kept (fun k=>k=z\/k=rn) w0 w')(hD:Sm D.natAbs):
  Calls prog 97 #[.pointer (some ⟨rd,0,none⟩),.pointer (some ⟨iy,0,none⟩)] w' fun e w''=>e=.returned (.pointer (some ⟨rd,0,none⟩))/\QRD w0 z rn rd q R D s (.returned (.tuple #[.pointer (some ⟨z,0,none⟩),.pointer (some ⟨rn,0,none⟩),.pointer (some ⟨rd,0,none⟩)])) w'':=by
 obtain⟨⟨bq,q1,q2,q3⟩,⟨br,r1,r2,r3⟩,a2,⟨by_,ry,Ty,y1,y2⟩,hk⟩:=h;refine(dL2 a2 y1 y2 hD).mono ?_;rintro e w'' ⟨rfl,b',h1,h2,h3⟩;refine⟨rfl,rfl,bq,br,b',aQ6 q1 q3 h2,aQ6 r1 r3 h2,h1,?_,q2,r2,fun k hk'=>by have:=h3 k hk';have:=hk.size;omega⟩;exact hk.trans h2 (fun _ _ h=>by rcases h with h|h;exact Or.inl h;exact Or.inr (Or.inl h)) (fun _ _ h=>Or.inr (Or.inr h))
theorem aY4{w0 w w':World}{z:Nat}(h:Kept (fun _=>False) w0 w)(k:Kept (fun k=>k=z) w w'):Kept (fun k=>k=z) w0 w':=h.trans k (fun _ _ f=>f.elim) (fun _ _ h=>h)
theorem bN5{w w':World}{z p:Nat}{b:Option Nat}(hz:z<w.heap.size)(hp:w.heap.size<=p)(hb:∀ k,b=some k->w.heap.size<=k):Sep z none p b :=
 ⟨by omega,by simp,fun e=>by have:=hb _ e;omega,by simp⟩
theorem bG2(z x y rn rd:Nat)(n m sc s:Int)(b c:Option Nat)(w:World)(hq:QArgs w z rn rd)(hx:DecAt w x n sc b)(hy:DecAt w y m 0 c)(sx:Sep z none x b/\Sep rn none x b/\Sep rd none x b)(sy:Sep z none y c/\Sep rn none y c/\Sep rd none y c)(hs:sc=s)(hb:-2000000000<=s/\s<=2000000000)(hD:m≠0)(hdv:DivOK n m)(hRs:Sm (n.tmod m).natAbs)(hms:Sm m.natAbs):
  Calls prog 180 #[.pointer (some ⟨z,0,none⟩),.pointer (some ⟨x,0,none⟩),.pointer (some ⟨y,0,none⟩),.int .i32 s,.bool true,.pointer (some ⟨rn,0,none⟩),.pointer (some ⟨rd,0,none⟩)] w (QRD w z rn rd (n.tdiv m) (n.tmod m) m s):=by
 subst hs;have e1:IntKind.i32.wrap (sc-0)=sc:=by rw[IntKind.wrap_i32];omega
 have e2:IntKind.i32.wrap (sc-sc)=0:=by rw[IntKind.wrap_i32];omega
 have e3:sc-sc=0:=by omega
 have HX:=hiD hx;have HY:=hiD hy;have hdiv:=hiD hdv;have hR:=hiD hRs;have hDs:=hiD hms;have QS:Hid (QSt w z rn rd x y 0 n m):=⟨hq.hz,hq.hn,hq.hd,hq.zn,hq.zd,hq.nd,⟨b,_,_,hx,sx⟩,⟨c,_,_,hy,sy⟩⟩;have KW:Hid (Kept (fun _=>False) w w):=Kept.refl _ _;clear hq hx hy sx sy hdv hRs hms;go_enter func180,ntmps180;go_wp2_with fail;refine(aB4 x n sc b w HX.out).mono ?_;rintro e w1 ⟨rfl,rfl⟩;go_wp2_with fail;refine(aB4 y m 0 c w HY.out).mono ?_;rintro e w1 ⟨rfl,rfl⟩;go_wp2_with fail;refine(aA4 x n sc b w HX.out).mono ?_;rintro e w1 ⟨rfl,rfl⟩;go_wp2_with fail;refine(aA4 y m 0 c w HY.out).mono ?_;rintro e w1 ⟨rfl,rfl⟩;have hqe:(binOp .eql 117 (.pointer (some ⟨y,0,none⟩)) (.pointer (some ⟨z,0,none⟩))).run prog w=.ok (.bool false) w:=by
  obtain⟨a1,a2,a3,a4,a5,a6,⟨bx,rx,Tx,a7,a8⟩,⟨by_,ry,Ty,⟨vy,y1,_⟩,a12⟩⟩:=QS.out;obtain⟨vz,z1,_⟩:=a1;exact aE8 a12.1.1.symm y1 z1
 go_wp2_with fail;refine(aA4 z 0 0 none w QS.out.hz).mono ?_;rintro e w9 ⟨rfl,rfl⟩;go_wp2_with fail;refine(aC6 z 0 0 sc none w QS.out.hz).mono ?_;rintro e w10 ⟨rfl,h1,h2⟩;have QT:=hiD (QS.out.scale h1 h2);have KT:=hiD (aY4 KW.out h2);clear h1 h2 QS KW hqe;go_wp2_with fail;refine(aA4 z 0 sc none w10 QT.out.hz).mono ?_;rintro e w11 ⟨rfl,rfl⟩;go_wp2_with fail;refine(QT.out.div KT.out hD hdiv.out).mono ?_;rintro e w11 ⟨rfl,h1⟩;have QE:=hiD h1;clear h1 QT KT;go_wp2_with fail;refine(QE.out.num hR.out).mono ?_;rintro e w12 ⟨rfl,h1⟩;have QN:=hiD h1;clear h1 QE;go_wp2_with fail;refine(QEnd.den QN.out hDs.out).mono ?_;rintro e w13 ⟨rfl,h1⟩;have QF:=hiD h1;clear h1 QN;go_wp2_with fail;go_ret3;exact QF.out
theorem bT6(k M:Nat)(hM:10^k=M)(hk1:1<=k)(hk:k<20)(z x y rn rd:Nat)(n m sc s:Int)(b c:Option Nat)(w:World)(hq:QArgs w z rn rd)(hx:DecAt w x n sc b)(hy:DecAt w y m 0 c)(sx:Sep z none x b/\Sep rn none x b/\Sep rd none x b)(sy:Sep z none y c/\Sep rn none y c/\Sep rd none y c)(hs:s-sc=(k:Int))(hb:-1000000000<=s/\s<=1000000000 /\ -1000000000<=sc/\sc<=1000000000)(hD:m≠0)(hdv:DivOK (n*(M:Int)) m)(hRs:Sm ((n*(M:Int)).tmod m).natAbs)(hms:Sm m.natAbs)(hfs:Sm n.natAbs):
  Calls prog 180 #[.pointer (some ⟨z,0,none⟩),.pointer (some ⟨x,0,none⟩),.pointer (some ⟨y,0,none⟩),.int .i32 s,.bool true,.pointer (some ⟨rn,0,none⟩),.pointer (some ⟨rd,0,none⟩)] w (QRD w z rn rd ((n*(M:Int)).tdiv m) ((n*(M:Int)).tmod m) m s):=by
 have hM0:M≠0:=by have:=Nat.pow_pos (n:=k) (show 0<10 by omega);omega
 have hMw:M<B64:=by have:=aU2 hk;omega
 have HM:=hiD hM;have e1:IntKind.i32.wrap (sc-0)=sc:=by rw[IntKind.wrap_i32];omega
 have e2:s-sc=(k:Int):=hs;have g2:decide ((0:Int)<(k:Int))=true:=decT (by omega);have HX:=hiD hx;have HY:=hiD hy;have hdiv:=hiD hdv;have hR:=hiD hRs;have hDs:=hiD hms;have HFS:=hiD hfs;have HQ:=hiD hq;have SX:=hiD sx;have SY:=hiD sy;clear hq hx hy sx sy hdv hRs hms hM hfs;go_enter func180,ntmps180;go_wp2_with fail;refine(aB4 x n sc b w HX.out).mono ?_;rintro e w1 ⟨rfl,rfl⟩;go_wp2_with fail;refine(aB4 y m 0 c w HY.out).mono ?_;rintro e w1 ⟨rfl,rfl⟩
 go_wp2_with fail;have ka:Kept (fun _=>False) w (w.alloc zInt):=(Kept.refl _ _).alloc _;have KA:=hiD ka;clear ka;refine(aA4 x n sc b (w.alloc zInt) (IntAt.old HX.out KA.out)).mono ?_;rintro e w1 ⟨rfl,rfl⟩;go_wp2_with fail;refine(aX6 k hk1 (by omega) _).mono ?_;rintro e w2 ⟨p2,b2,rfl,hp2,a2,k2,q2⟩;rw[HM.out]at a2;have A2:=hiD a2;have K2:=hiD k2;have P2:Hid (w.heap.size+1<=p2):=hiD (by simpa using hp2);clear a2 k2 q2 hp2;go_wp2_with fail;have hlf:=IntAt.lt HX.out;refine(aI7 w.heap.size x p2 0 n (M:Int) none b b2 [] _ [] 109 112 109 w2 ((aG7 w).old K2.out) ((IntAt.old HX.out KA.out).old K2.out) A2.out (by have:=P2.out;omega) (Or.inr ⟨by omega,by simp⟩) (by have:=P2.out;omega) (by simp) (by omega) (by rw[Int.natAbs_natCast];exact hMw) HFS.out).mono ?_;rintro e w4 h;obtain⟨p4,b4,rfl,hp4,a4,k4,q4⟩:=bC5 (w:=w) (w1:=w2) (Nat.le_refl _) (KA.out.trans K2.out (fun _ _ f=>f) (fun _ _ f=>f)) (Nat.le_refl _) h;have A4:=hiD a4;have K4:=hiD k4;have P4:=hiD hp4;have Q4:=hiD q4;clear h a4 k4 hp4 q4 A2 K2 P2 hlf;go_wp2_with fail;refine(aA4 y m 0 c w4 (IntAt.old HY.out K4.out)).mono ?_;rintro e w5 ⟨rfl,rfl⟩;have QS:Hid (QSt w4 z rn rd p4 y 0 (n*(M:Int)) m):=by
  have hQ:=HQ.out.old K4.out;have sn:∀ {q:Nat},q<w.heap.size->Sep q none p4 b4:=fun h=>bN5 (w':=w) h P4.out Q4.out;exact⟨hQ.hz,hQ.hn,hQ.hd,hQ.zn,hQ.zd,hQ.nd,⟨b4,[],109,A4.out,sn (IntAt.lt HQ.out.hz),sn HQ.out.hn.lt,sn HQ.out.hd.lt⟩,⟨c,_,_,IntAt.old HY.out K4.out,SY.out⟩⟩
 have KW:Hid (Kept (fun _=>False) w w4):=K4.out;clear HQ SX SY;have hqe:(binOp .eql 117 (.pointer (some ⟨y,0,none⟩)) (.pointer (some ⟨z,0,none⟩))).run prog w4=.ok (.bool false) w4:=by
  obtain⟨a1,a2,a3,a4,a5,a6,⟨bx,rx,Tx,a7,a8⟩,⟨by_,ry,Ty,⟨vy,y1,_⟩,a12⟩⟩:=QS.out;obtain⟨vz,z1,_⟩:=a1;exact aE8 a12.1.1.symm y1 z1
 go_wp2_with fail;refine(aA4 z 0 0 none w4 QS.out.hz).mono ?_;rintro e w9 ⟨rfl,rfl⟩;go_wp2_with fail;refine(aC6 z 0 0 s none w4 QS.out.hz).mono ?_;rintro e w10 ⟨rfl,h1,h2⟩;have QT:=hiD (QS.out.scale h1 h2);have KT:=hiD (aY4 KW.out h2);clear h1 h2 QS KW hqe;go_wp2_with fail;refine(aA4 z 0 s none w10 QT.out.hz).mono ?_;rintro e w11 ⟨rfl,rfl⟩;go_wp2_with fail;refine(QT.out.div KT.out hD hdiv.out).mono ?_;rintro e w11 ⟨rfl,h1⟩;have QE:=hiD h1;clear h1 QT KT;go_wp2_with fail;refine(QE.out.num hR.out).mono ?_;rintro e w12 ⟨rfl,h1⟩;have QN:=hiD h1;clear h1 QE;go_wp2_with fail;refine(QEnd.den QN.out hDs.out).mono ?_;rintro e w13 ⟨rfl,h1⟩;have QF:=hiD h1;clear h1 QN;go_wp2_with fail;go_ret3;exact QF.out
theorem cA4(k M:Nat)(hM:10^k=M)(hk1:1<=k)(hk:k<20)(z x y rn rd:Nat)(n m sc s:Int)(b c:Option Nat)(w:World)(hq:QArgs w z rn rd)(hx:DecAt w x n sc b)(hy:DecAt w y m 0 c)(sx:Sep z none x b/\Sep rn none x b/\Sep rd none x b)(sy:Sep z none y c/\Sep rn none y c/\Sep rd none y c)(hs:sc-s=(k:Int))(hb:-1000000000<=s/\s<=1000000000 /\ -1000000000<=sc/\sc<=1000000000)(hD:(m*(M:Int))≠0)(hdv:DivOK n (m*(M:Int)))(hRs:Sm (n.tmod (m*(M:Int))).natAbs)(hms:Sm (m*(M:Int)).natAbs)(hfs:Sm m.natAbs):
  Calls prog 180 #[.pointer (some ⟨z,0,none⟩),.pointer (some ⟨x,0,none⟩),.pointer (some ⟨y,0,none⟩),.int .i32 s,.bool true,.pointer (some ⟨rn,0,none⟩),.pointer (some ⟨rd,0,none⟩)] w (QRD w z rn rd (n.tdiv (m*(M:Int))) (n.tmod (m*(M:Int))) (m*(M:Int)) s):=by
 have hM0:M≠0:=by have:=Nat.pow_pos (n:=k) (show 0<10 by omega);omega
 have hMw:M<B64:=by have:=aU2 hk;omega
 have HM:=hiD hM;have e1:IntKind.i32.wrap (sc-0)=sc:=by rw[IntKind.wrap_i32];omega
 have e2:s-sc = -(k:Int):=by omega
 have g2:decide ((0:Int) < -(k:Int))=false:=decF (by omega);have g3:decide (-(k:Int)<0)=true:=decT (by omega);have HX:=hiD hx;have HY:=hiD hy;have hdiv:=hiD hdv;have hR:=hiD hRs;have hDs:=hiD hms;have HFS:=hiD hfs;have HQ:=hiD hq;have SX:=hiD sx;have SY:=hiD sy;clear hq hx hy sx sy hdv hRs hms hM hfs;go_enter func180,ntmps180;go_wp2_with fail;refine(aB4 x n sc b w HX.out).mono ?_;rintro e w1 ⟨rfl,rfl⟩;go_wp2_with fail;refine(aB4 y m 0 c w HY.out).mono ?_;rintro e w1 ⟨rfl,rfl⟩
 go_wp2_with fail;refine(aA4 x n sc b w HX.out).mono ?_;rintro e w1 ⟨rfl,rfl⟩;go_wp2_with fail;have ka:Kept (fun _=>False) w (w.alloc zInt):=(Kept.refl _ _).alloc _;have KA:=hiD ka;clear ka;refine(aA4 y m 0 c (w.alloc zInt) (IntAt.old HY.out KA.out)).mono ?_;rintro e w1 ⟨rfl,rfl⟩;go_wp2_with fail;refine(aX6 k hk1 (by omega) _).mono ?_;rintro e w2 ⟨p2,b2,rfl,hp2,a2,k2,q2⟩;rw[HM.out]at a2;have A2:=hiD a2;have K2:=hiD k2;have P2:Hid (w.heap.size+1<=p2):=hiD (by simpa using hp2);clear a2 k2 q2 hp2;go_wp2_with fail;have hlf:=IntAt.lt HY.out;refine(aI7 w.heap.size y p2 0 m (M:Int) none c b2 [] _ [] 109 112 109 w2 ((aG7 w).old K2.out) ((IntAt.old HY.out KA.out).old K2.out) A2.out (by have:=P2.out;omega) (Or.inr ⟨by omega,by simp⟩) (by have:=P2.out;omega) (by simp) (by omega) (by rw[Int.natAbs_natCast];exact hMw) HFS.out).mono ?_;rintro e w4 h;obtain⟨p4,b4,rfl,hp4,a4,k4,q4⟩:=bC5 (w:=w) (w1:=w2) (Nat.le_refl _) (KA.out.trans K2.out (fun _ _ f=>f) (fun _ _ f=>f)) (Nat.le_refl _) h;have A4:=hiD a4;have K4:=hiD k4;have P4:=hiD hp4;have Q4:=hiD q4;clear h a4 k4 hp4 q4 A2 K2 P2 hlf;go_wp2_with fail;have QS:Hid (QSt w4 z rn rd x p4 0 n (m*(M:Int))):=by
  have hQ:=HQ.out.old K4.out;have sn:∀ {q:Nat},q<w.heap.size->Sep q none p4 b4:=fun h=>bN5 (w':=w) h P4.out Q4.out;exact⟨hQ.hz,hQ.hn,hQ.hd,hQ.zn,hQ.zd,hQ.nd,⟨b,_,_,IntAt.old HX.out K4.out,SX.out⟩,⟨b4,[],109,A4.out,sn (IntAt.lt HQ.out.hz),sn HQ.out.hn.lt,sn HQ.out.hd.lt⟩⟩
 have KW:Hid (Kept (fun _=>False) w w4):=K4.out;clear HQ SX SY;have hqe:(binOp .eql 117 (.pointer (some ⟨p4,0,none⟩)) (.pointer (some ⟨z,0,none⟩))).run prog w4=.ok (.bool false) w4:=by
  obtain⟨a1,a2,a3,a4,a5,a6,⟨bx,rx,Tx,a7,a8⟩,⟨by_,ry,Ty,⟨vy,y1,_⟩,a12⟩⟩:=QS.out;obtain⟨vz,z1,_⟩:=a1;exact aE8 a12.1.1.symm y1 z1
 go_wp2_with fail;refine(aA4 z 0 0 none w4 QS.out.hz).mono ?_;rintro e w9 ⟨rfl,rfl⟩;go_wp2_with fail;refine(aC6 z 0 0 s none w4 QS.out.hz).mono ?_;rintro e w10 ⟨rfl,h1,h2⟩;have QT:=hiD (QS.out.scale h1 h2);have KT:=hiD (aY4 KW.out h2);clear h1 h2 QS KW hqe;go_wp2_with fail;refine(aA4 z 0 s none w10 QT.out.hz).mono ?_;rintro e w11 ⟨rfl,rfl⟩;go_wp2_with fail;refine(QT.out.div KT.out hD hdiv.out).mono ?_;rintro e w11 ⟨rfl,h1⟩;have QE:=hiD h1;clear h1 QT KT;go_wp2_with fail;refine(QE.out.num hR.out).mono ?_;rintro e w12 ⟨rfl,h1⟩;have QN:=hiD h1;clear h1 QE;go_wp2_with fail;refine(QEnd.den QN.out hDs.out).mono ?_;rintro e w13 ⟨rfl,h1⟩;have QF:=hiD h1;clear h1 QN;go_wp2_with fail;go_ret3;exact QF.out
theorem aE4(w:World):Calls prog 67 #[] w fun e w'=>e=.returned (.iface 175 (.agg #[.bool true,.func (.func 105) #[] #[]]))/\w=w':=by
 go_enter func67,ntmps67;go_wp2_with fail;go_ret;exact⟨rfl,rfl⟩
theorem bT7(z q rA:Nat)(rB:Value)(n s:Int)(bq br:Option Nat)(w:World)(hz:DecAt w z 0 0 none)(hq:DecAt w q n s bq)(hr:IntAt w rA 0 br [] 109)(hs:Sep z none q bq)(hsr:Sep z none rA br)(hn:Sm n.natAbs):
  Calls prog 105 #[.pointer (some ⟨z,0,none⟩),.pointer (some ⟨q,0,none⟩),.pointer (some ⟨rA,0,none⟩),rB] w (aG3 w z none n s):=by
 have HC:=hiD (aY3 z q 0 n 0 s none bq w hz hq hs.1 (by simp) hs hn);have HR:=hiD hr;clear hz hq hr hs hn;go_enter func105,ntmps105;go_wp2_with fail;refine HC.out.mono ?_;rintro e w1 ⟨rfl,b',h1,h2,h3⟩;have hr1:IntAt w1 rA 0 br [] 109:=aQ6 HR.out hsr (h2.mono (fun _ _ h=>by rcases h with h|h;exact h;cases h))
 have HR1:=hiD hr1;have HF:Hid (aG3 w z none n s (.returned (.pointer (some ⟨z,0,none⟩))) w1):=⟨rfl,b',h1,h2,h3⟩;clear hr1 h1 h2 h3;go_wp2_with fail;refine(bE2 rA 0 br [] 109 w1 HR1.out).mono ?_;rintro e w2 ⟨rfl,rfl⟩;have e0:sgn 0=0:=rfl;rw[e0];go_wp2_with fail;go_ret;exact HF.out
def ruObj:Obj:=.cells #[.bool true,.func (.func 105) #[] #[]] 175
theorem dE2(w:World):Calls prog 337 #[.agg #[.bool true,.func (.func 105) #[] #[]]] w fun e w'=>e=.returned (.bool true)/\w'=w.alloc ruObj:=by
 go_enter func337,ntmps337;go_wp2_with fail;go_ret;exact⟨rfl,rfl⟩
theorem cM2(s:Int)(x y:Value)(w:World):Calls prog 342 #[.agg #[.int .i32 s],x,y] w fun e w'=>e=.returned (.int .i32 s)/\w'=w.alloc (.cells #[.int .i32 s] 230):=by
 go_enter func342,ntmps342;go_wp2_with fail;go_ret;exact⟨rfl,rfl⟩
theorem bG3(z q rA:Nat)(rB:Value)(n s:Int)(bq br:Option Nat)(w:World)(hz:DecAt w z 0 0 none)(hq:DecAt w q n s bq)(hr:IntAt w rA 0 br [] 109)(hs:Sep z none q bq)(hsr:Sep z none rA br)(hn:Sm n.natAbs):
  Calls prog 336 #[.agg #[.bool true,.func (.func 105) #[] #[]],.pointer (some ⟨z,0,none⟩),.pointer (some ⟨q,0,none⟩),.pointer (some ⟨rA,0,none⟩),rB] w (aG3 w z none n s):=by
 have ka:Kept (fun _=>False) w (w.alloc ruObj):=(Kept.refl _ _).alloc _;have HC:=hiD (bT7 z q rA rB n s bq br (w.alloc ruObj) (IntAt.old hz ka) (IntAt.old hq ka) (hr.old ka) hs hsr hn);have KA:=hiD ka;clear hz hq hr ka;go_enter func336,ntmps336;go_wp2_with fail;refine HC.out.mono ?_;rintro e w1 ⟨rfl,b',h1,h2,h3⟩;have HF:Hid (aG3 w z none n s (.returned (.pointer (some ⟨z,0,none⟩))) w1):=⟨rfl,b',h1,KA.out.trans h2 (fun _ _ f=>f.elim) (fun _ _ h=>h),by
  rcases h3 with h3|⟨j,hj,hjs⟩
  ·exact Or.inl h3
  ·exact Or.inr ⟨j,hj,by simp at hjs;omega⟩⟩
 clear h1 h2 h3;go_wp2_with fail;go_ret;exact HF.out
def QuoOK(w:World)(x y:Nat)(q d s:Int):Prop :=
 ∀(w':World) (z rn rd:Nat),Kept (fun _=>False) w w'->w.heap.size<=z->w.heap.size<=rn->w.heap.size<=rd->QArgs w' z rn rd ->
  Calls prog 180 #[.pointer (some ⟨z,0,none⟩),.pointer (some ⟨x,0,none⟩),.pointer (some ⟨y,0,none⟩),.int .i32 s,.bool true,.pointer (some ⟨rn,0,none⟩),.pointer (some ⟨rd,0,none⟩)] w' (QRD w' z rn rd q 0 d s)
theorem m_sc(v:Value)(w:World):(method 525 230 (.agg #[v]) "Scale").run prog w=.ok (342,.agg #[v]) w:=by kernel_rfl
theorem m_ur(u v:Value)(w:World):(method 525 175 (.agg #[u,v]) "UseRemainder").run prog w=.ok (337,.agg #[u,v]) w:=by kernel_rfl
theorem m_rd(u v:Value)(w:World):(method 525 175 (.agg #[u,v]) "Round").run prog w=.ok (336,.agg #[u,v]) w:=by kernel_rfl
theorem cU2(w:World):QArgs (((w.alloc zDec).alloc zInt).alloc zInt) w.heap.size (w.heap.size+1) (w.heap.size+1+1):=by
 have k1:∀(w:World) (o:Obj),Kept (fun _=>False) w (w.alloc o):=fun w o=>(Kept.refl _ _).alloc _;have a1:=aL7 w;have a2:=aG7 (w.alloc zDec);have a3:=aG7 ((w.alloc zDec).alloc zInt);have e1:(w.alloc zDec).heap.size=w.heap.size+1:=by simp
 have e2:((w.alloc zDec).alloc zInt).heap.size=w.heap.size+1+1:=by simp
 rw[e1]at a2;rw[e2]at a3;exact⟨IntAt.old (IntAt.old a1 (k1 _ _)) (k1 _ _),a2.old (k1 _ _),a3,by omega,by omega,by omega⟩
theorem kept3(w:World):Kept (fun _=>False) w (((w.alloc zDec).alloc zInt).alloc zInt):=(((Kept.refl _ _).alloc _).alloc _).alloc _
theorem dE3(z x y:Nat)(nz sz q d s:Int)(bz:Option Nat)(w:World)(hz:DecAt w z nz sz bz)(hQ:QuoOK w x y q d s)(hq:Sm q.natAbs):
  Calls prog 143 #[.pointer (some ⟨z,0,none⟩),.pointer (some ⟨x,0,none⟩),.pointer (some ⟨y,0,none⟩),.iface 230 (.agg #[.int .i32 s]),.iface 175 (.agg #[.bool true,.func (.func 105) #[] #[]])] w (aG3 w z bz q s):=by
 have HZ:=hiD hz;have HQ:=hiD hQ;have HS:=hiD hq;have q1:=fun v w=>m_sc v w
 have q2:=fun u v w=>m_ur u v w
 have q3:=fun u v w=>m_rd u v w
 clear hz hQ hq;go_enter func143,ntmps143;go_wp2_with fail;refine(cM2 s _ _ w).mono ?_;rintro e w1 ⟨rfl,hw1⟩;have k1:Kept (fun _=>False) w w1:=by rw[hw1];exact(Kept.refl _ _).alloc _
 have K1:=hiD k1;clear hw1 k1;go_wp2_with fail;refine(dE2 w1).mono ?_;rintro e w2 ⟨rfl,hw2⟩;have k2:Kept (fun _=>False) w w2:=aE3 K1.out (by rw[hw2];exact(Kept.refl _ _).alloc _);have K2:=hiD k2;clear hw2 k2 K1;go_wp2_with fail;have hsz:=K2.out.size;refine(HQ.out _ w2.heap.size (w2.heap.size+1) (w2.heap.size+1+1) (aE3 K2.out (kept3 w2)) (by omega) (by omega) (by omega) (cU2 w2)).mono ?_;rintro e w3 ⟨rfl,bq,br,bd,h1,h2,h3,hk,g1,g2,g3⟩;have hsz3:w2.heap.size+3<=w3.heap.size:=by have:=hk.size;simp at this;omega
 have g1':∀ k,bq=some k->w2.heap.size<=k:=fun k h=>by have:=g1 k h;simp at this;omega
 have g2':∀ k,br=some k->w2.heap.size<=k:=fun k h=>by have:=g2 k h;simp at this;omega
 have k3:Kept (fun _=>False) w w3:=(aE3 K2.out (kept3 w2)).trans hk (fun _ _ f=>f) (fun i hi h=>by omega);have A1:=hiD h1;have A2:=hiD h2;have K3:=hiD k3;have G1:=hiD g1';have HSZ:=hiD hsz3;clear h1 h2 h3 hk g1 g2 g3 g1' g2' k3 hsz3 HQ hsz;go_wp2_with fail;have ka:Kept (fun _=>False) w3 (w3.alloc zDec):=(Kept.refl _ _).alloc _;refine(bG3 w3.heap.size w2.heap.size (w2.heap.size+1) _ q s bq br (w3.alloc zDec) (aL7 w3) (IntAt.old A1.out ka) (A2.out.old ka) (Sep.fresh (w:=w3) (Nat.le_refl _) (by simp) (by have:=HSZ.out;omega) (IntAt.lts A1.out)) (Sep.fresh (w:=w3) (Nat.le_refl _) (by simp) (by have:=HSZ.out;omega) A2.out.lts) HS.out).mono ?_;rintro e w4 ⟨rfl,b4,h1,h2,h3⟩;have k4:Kept (fun _=>False) w w4:=(aE3 K3.out ka).trans h2 (fun _ _ f=>f) (fun i hi h=>by
  have:=K3.out.size;rcases h with h|h
  ·omega
  ·cases h)
 have hb4:∀ k,b4=some k->w3.heap.size<=k:=by
  intro k hk;rcases h3 with h3|⟨j,hj,hjs⟩
  ·rw[h3]at hk;cases hk
  ·rw[hj]at hk;injection hk with hk;simp at hjs;omega
 have hzl:=IntAt.lt HZ.out;have hsep:Sep z bz w3.heap.size b4:=(Sep.fresh (w:=w3) (Nat.le_refl _) hb4 (by have:=K3.out.size;omega) (fun k hk=>by have:=IntAt.lts HZ.out k hk;have:=K3.out.size;omega)).symm;have A4:=hiD h1;have K4:=hiD k4;have SP:=hiD hsep;clear h1 h2 h3 k4 hb4 hsep ka A1 A2 K3 G1 HSZ;go_wp2_with fail;refine(aY3 z w3.heap.size nz q sz s bz b4 w4 (IntAt.old HZ.out K4.out) A4.out SP.out.1 SP.out.2.1 SP.out HS.out).mono ?_;rintro e w5 ⟨rfl,b5,h1,h2,h3⟩;have HF:Hid (aG3 w z bz q s (.returned (.pointer (some ⟨z,0,none⟩))) w5):=⟨rfl,b5,h1,K4.out.trans h2 (fun _ _ f=>f.elim) (fun _ _ h=>h),by
  have:=K4.out.size;rcases h3 with h3|⟨j,hj,hjs⟩
  ·exact Or.inl h3
  ·exact Or.inr ⟨j,hj,by omega⟩⟩
 clear h1 h2 h3;go_wp2_with fail;go_ret;exact HF.out
abbrev RU:Value:=.iface 175 (.agg #[.bool true,.func (.func 105) #[] #[]])
theorem aE9{w:World}{z rn rd p:Nat}{b:Option Nat}(hz:w.heap.size<=z)(hn:w.heap.size<=rn)(hd:w.heap.size<=rd)(hp:p<w.heap.size)(hb:∀ k,b=some k->k<w.heap.size):Sep z none p b/\Sep rn none p b/\Sep rd none p b :=
 ⟨Sep.fresh hz (by simp) hp hb,Sep.fresh hn (by simp) hp hb,Sep.fresh hd (by simp) hp hb⟩
theorem cM3{w:World}{x y:Nat}{n s:Int}{b c:Option Nat}(hx:DecAt w x n s b)(hy:DecAt w y 1 0 c)(hb:-1000000000<=s/\s<=1000000000)(hn:n.natAbs<B64):QuoOK w x y n 1 s:=by
 intro w' z rn rd hk hz hrn hrd hq;have:=bG2 z x y rn rd n 1 s s b c w' hq (IntAt.old hx hk) (IntAt.old hy hk) (aE9 hz hrn hrd (IntAt.lt hx) (IntAt.lts hx)) (aE9 hz hrn hrd (IntAt.lt hy) (IntAt.lts hy)) rfl (by omega) (by omega)
  (bB1 hn (by unfold B64;decide) (by omega)) (by rw[Int.tmod_one];exact Sm.one (by unfold B64;decide)) (Sm.one (by unfold B64;decide))
 rw[Int.tdiv_one,Int.tmod_one]at this;exact this
theorem dE4{w:World}{x y k M:Nat}{n sc s:Int}{b c:Option Nat}(hM:10^k=M)(hk1:1<=k)(hk:k<20)(hs:s-sc=(k:Int))(hx:DecAt w x n sc b)(hy:DecAt w y 1 0 c)(hb:-1000000000<=s/\s<=1000000000 /\ -1000000000<=sc/\sc<=1000000000)(hn:(n*(M:Int)).natAbs<B64)(hfs:Sm n.natAbs):QuoOK w x y (n*(M:Int)) 1 s:=by
 intro w' z rn rd hkw hz hrn hrd hq;have:=bT6 k M hM hk1 hk z x y rn rd n 1 sc s b c w' hq (IntAt.old hx hkw) (IntAt.old hy hkw) (aE9 hz hrn hrd (IntAt.lt hx) (IntAt.lts hx)) (aE9 hz hrn hrd (IntAt.lt hy) (IntAt.lts hy)) hs hb (by omega)
  (bB1 hn (by unfold B64;decide) (by omega)) (by rw[Int.tmod_one];exact Sm.one (by unfold B64;decide)) (Sm.one (by unfold B64;decide)) hfs
 rw[Int.tdiv_one,Int.tmod_one]at this;exact this
theorem cM4{w:World}{x y k M:Nat}{n sc s:Int}{b c:Option Nat}(hM:10^k=M)(hk1:1<=k)(hk:k<20)(hs:sc-s=(k:Int))(hx:DecAt w x n sc b)(hy:DecAt w y 1 0 c)(hb:-1000000000<=s/\s<=1000000000 /\ -1000000000<=sc/\sc<=1000000000)(hn:n.natAbs<B64)(hr:n.tmod (M:Int)=0):QuoOK w x y (n.tdiv (M:Int)) (M:Int) s:=by
 intro w' z rn rd hkw hz hrn hrd hq;have hM0:M≠0:=by have:=Nat.pow_pos (n:=k) (show 0<10 by omega);omega
 have hMw:M<B64:=by have:=aU2 hk;omega
 have:=cA4 k M hM hk1 hk z x y rn rd n 1 sc s b c w' hq (IntAt.old hx hkw) (IntAt.old hy hkw) (aE9 hz hrn hrd (IntAt.lt hx) (IntAt.lts hx)) (aE9 hz hrn hrd (IntAt.lt hy) (IntAt.lts hy)) hs hb (by rw[Int.one_mul];omega)
  (by rw[Int.one_mul];exact bB1 hn (by rw[Int.natAbs_natCast];exact hMw) (by omega)) (by rw[Int.one_mul,hr];exact Sm.one (by unfold B64;decide)) (by rw[Int.one_mul,Int.natAbs_natCast];exact Sm.one hMw) (Sm.one (by unfold B64;decide))
 rw[Int.one_mul,hr]at this;exact this
theorem bN6(z x y:Nat)(nz sz q d s:Int)(bz:Option Nat)(w:World)(hz:DecAt w z nz sz bz)(hQ:QuoOK w x y q d s)(hq:Sm q.natAbs):
  Calls prog 104 #[.pointer (some ⟨z,0,none⟩),.pointer (some ⟨x,0,none⟩),.pointer (some ⟨y,0,none⟩),.int .i32 s,RU] w (aG3 w z bz q s):=by
 have H:=hiD (dE3 z x y nz sz q d s bz w hz hQ hq);clear hz hQ hq;go_enter func104,ntmps104;go_wp2_with fail;refine H.out.mono ?_;intro e w1 h;have he:=h.1;subst he;have H:=hiD h;clear h;go_wp2_with fail;go_ret;exact H.out
theorem aN2(z x:Nat)(nz sz n sc q d s:Int)(bz b:Option Nat)(w:World)(hz:DecAt w z nz sz bz)(hx:DecAt w x n sc b)(hQ:∀(w':World) (y:Nat) (c:Option Nat),Kept (fun _=>False) w w'->DecAt w' x n sc b->DecAt w' y 1 0 c->QuoOK w' x y q d s)(hq:Sm q.natAbs):
  Calls prog 66 #[.pointer (some ⟨z,0,none⟩),.pointer (some ⟨x,0,none⟩),.int .i32 s,RU] w (aG3 w z bz q s):=by
 have HZ:=hiD hz;have HX:=hiD hx;have HQ:=hiD hQ;have HS:=hiD hq;clear hz hx hQ hq;go_enter func66,ntmps66;go_wp2_with fail;refine(aI6 1 0 w (by decide)).mono ?_;rintro e w1 ⟨y,c,rfl,hy,ay,ky,qy⟩;have AY:=hiD ay;have KY:=hiD ky;clear hy ay ky qy;go_wp2_with fail;refine(bN6 z x y nz sz q d s bz w1 (IntAt.old HZ.out KY.out) (HQ.out w1 y c KY.out (IntAt.old HX.out KY.out) AY.out) HS.out).mono ?_;rintro e w5 ⟨rfl,b5,h1,h2,h3⟩;have HF:Hid (aG3 w z bz q s (.returned (.pointer (some ⟨z,0,none⟩))) w5):=⟨rfl,b5,h1,KY.out.trans h2 (fun _ _ f=>f.elim) (fun _ _ h=>h),by
  have:=KY.out.size;rcases h3 with h3|⟨j,hj,hjs⟩
  ·exact Or.inl h3
  ·exact Or.inr ⟨j,hj,by omega⟩⟩
 clear h1 h2 h3;go_wp2_with fail;go_ret;exact HF.out
theorem aT0(z x:Nat)(nz sz n sc q d s:Int)(bz b:Option Nat)(w:World)(hz:DecAt w z nz sz bz)(hx:DecAt w x n sc b)(hQ:∀(w':World) (y:Nat) (c:Option Nat),DecAt w' x n sc b->DecAt w' y 1 0 c->QuoOK w' x y q d s)(hq:Sm q.natAbs):
  Calls prog 66 #[.pointer (some ⟨z,0,none⟩),.pointer (some ⟨x,0,none⟩),.int .i32 s,RU] w (aG3 w z bz q s) :=
 aN2 z x nz sz n sc q d s bz b w hz hx (fun w' y c _=>hQ w' y c) hq
theorem aF9(x n:Nat)(b:Option Nat)(r:List Value)(T:TypeId)(w:World)(hx:IntAt w x (n:Int) b r T)(hn:n<9223372036854775808):
  Calls prog 101 #[.pointer (some ⟨x,0,none⟩)] w fun e w'=>e=.returned (.int .i64 (n:Int))/\w=w':=by
 obtain⟨vx,hx1,hx2,hx3⟩:=hx;obtain⟨c0,c1,_,_⟩:=aA5 hx1;rw[decF (Int.not_lt.2 (Int.natCast_nonneg n))]at c0;rw[Int.natAbs_natCast]at hx2;have hl:=bS2 vx b n w hx2;rw[Nat.mod_eq_of_lt (by unfold B64;omega)]at hl;have HL:=hiD hl;have e1:IntKind.i64.wrap (n:Int)=(n:Int):=by rw[IntKind.wrap_i64];omega
 clear hx1 hx2 hl;go_enter func101,ntmps101;go_wp2_with fail;refine HL.out.mono ?_;rintro e w1 ⟨rfl,rfl⟩;go_wp2_with fail;go_ret;exact⟨rfl,rfl⟩
theorem bT8(n:Int):cmpZ n n=0:=by unfold cmpZ;rw[if_neg (by omega),if_neg (by omega)]
theorem bD7(x n:Nat)(sc:Int)(b:Option Nat)(w:World)(hx:DecAt w x (n:Int) sc b)(hn:n<9223372036854775808):
  Calls prog 65 #[.pointer (some ⟨x,0,none⟩)] w fun e w'=>e=.returned (.tuple #[.int .i64 (n:Int),.bool true])/\Kept (fun _=>False) w w':=by
 have HX:=hiD hx;have HI:=hiD (aF9 x n b _ 112 w hx hn);obtain⟨v,h1,_⟩:=hx;obtain⟨c0,c1,_,_⟩:=aA5 h1;clear h1;go_enter func65,ntmps65;go_wp2_with fail;refine HI.out.mono ?_;rintro e w1 ⟨rfl,rfl⟩;have HS:Hid (Calls prog 102 #[.pointer (some ⟨w.heap.size,0,none⟩),.int .i64 (n:Int)] ((w.alloc zInt).drew) (aF5 ((w.alloc zInt).drew) w.heap.size none (n:Int) [] 109)):=aG1 w.heap.size n 0 none [] 109 _ ((aG7 w).drewN 1) (by omega);have HC:Hid (∀ e w3,aF5 ((w.alloc zInt).drew) w.heap.size none (n:Int) [] 109 e w3->e=.returned (.pointer (some ⟨w.heap.size,0,none⟩))/\Kept (fun _=>False) w w3/\Calls prog 103 #[.pointer (some ⟨w.heap.size,0,none⟩),.pointer (some ⟨x,0,none⟩)] w3 fun e w'=>e=.returned (.int .i64 0)/\Drew w3 w'):=by
  rintro e w3 ⟨rfl,b',h1,h2,h3⟩;have hk:Kept (fun _=>False) w w3:=(((Kept.refl (fun _=>False) w).alloc zInt).drew).trans h2 (fun _ _ f=>f) (fun i hi h=>by
   rcases h with h|h
   ·omega
   ·cases h)
  have hl:=IntAt.lt HX.out;have:=aW4 w.heap.size x (n:Int) (n:Int) b' b [] _ 109 112 w3 h1 (IntAt.old HX.out hk) (by omega);rw[bT8]at this;exact⟨rfl,hk,this⟩
 clear HI;go_wp2_with fail
 go_region_with (first|(go_at_call 102;refine HS.out.mono ?_;intro e w3 h;obtain⟨rfl,hk,hc⟩:=HC.out e w3 h;have HK:=hiD hk;have HC3:=hiD hc;clear h hk hc)|(go_at_call 103;refine HC3.out.mono ?_;rintro e w4 ⟨rfl,hd⟩;have HD:=hiD hd;clear hd))
 all_goals
  go_wp2_with fail;go_ret2;exact⟨rfl,HK.out.trans HD.out.kept (fun _ _ f=>f) (fun _ _ f=>f)⟩
theorem aN6(w:World):Calls prog 69 #[] w fun e w'=>∃ p b,e=.returned (.agg #[.pointer (some ⟨p,0,none⟩)])/\w.heap.size<=p/\DecAt w' p 9223372036854775807 0 b/\Kept (fun _=>False) w w'/\(∀ k,b=some k->w.heap.size<=k):=by
 go_enter func69,ntmps69;go_wp2_with fail;refine(aI6 9223372036854775807 0 _ (by decide)).mono ?_;rintro e w1 ⟨p,b,rfl,hp,a1,k1,q1⟩;have hb0:w1.heap[w.heap.size]? = some (.cells #[.pointer none] 63 (0,0)):=k1.at (aA0 w _) (fun f=>f);have c0:w1.cell? ⟨w.heap.size,0,none⟩=some (.pointer none):=by rw[aA2 hb0];rfl
 have f0:=aA1 hb0 0;have hp':w.heap.size+1<=p:=by simpa using hp
 have q1':∀ k,b=some k->w.heap.size+1<=k:=fun k h=>by simpa using q1 k h
 have HF:Hid (∀ v,DecAt (w1.setCell ⟨w.heap.size,0,none⟩ v) p 9223372036854775807 0 b/\Kept (fun _=>False) w (w1.setCell ⟨w.heap.size,0,none⟩ v)):=by
  intro v;refine⟨IntAt.move a1 (aA7 (by omega)) (fun k hk=>aA7 (by have:=q1' k hk;omega)),?_⟩;exact(((Kept.refl (fun _=>False) w).alloc _).trans k1 (fun _ _ f=>f) (fun _ _ f=>f)).setCell ⟨w.heap.size,0,none⟩ v (fun h=>by simp at h)
 have HP:Hid (w.heap.size<=p/\∀ k,b=some k->w.heap.size<=k):=⟨by omega,fun k h=>by have:=q1' k h;omega⟩;have hcell:(w1.setCell ⟨w.heap.size,0,none⟩ (.pointer (some ⟨p,0,none⟩))).cell? ⟨w.heap.size,0,none⟩=some (.pointer (some ⟨p,0,none⟩)):=by
  rw[aA2 (aA3 hb0 0 _)];rfl
 clear a1 k1 hb0 hp hp' q1 q1';go_wp2_with fail;refine bodyPost_ret (v:=.agg #[.pointer (some ⟨p,0,none⟩)]) ?_ rfl ⟨p,b,rfl,HP.out.1,(HF.out _).1,(HF.out _).2,HP.out.2⟩;simp[results,Tryz.f69,loadVar,go_sem,hcell]
def QtyAt(w:World)(p d:Nat)(s fmt:ByteArray):Prop:=w.heap[p]? = some (.cells #[.int .i64 0,.int .i32 0,.pointer (some ⟨d,0,none⟩),.string s,.string fmt] 66 (0,0))
theorem aT1{w:World}{p d:Nat}{s fmt:ByteArray}(h:QtyAt w p d s fmt):w.cell? ⟨p,2,none⟩=some (.pointer (some ⟨d,0,none⟩))/\w.cell? ⟨p,4,none⟩=some (.string fmt) :=
 ⟨by rw[aA2 h];rfl,by rw[aA2 h];rfl⟩
theorem d_neq(a:Addr)(w:World):(binOp .neq 61 (.pointer (some a)) (.pointer none)).run prog w=.ok (.bool true) w:=by kernel_rfl
theorem cM5(p d:Nat)(s fmt:ByteArray)(n sc:Int)(b:Option Nat)(w:World)(h:QtyAt w p d s fmt)(hd:DecAt w d n sc b)(hn:0<n):
  Calls prog 82 #[.pointer (some ⟨p,0,none⟩)] w fun e w'=>e=.returned (.bool false)/\w=w':=by
 obtain⟨c2,c4⟩:=aT1 h;have HD:=hiD hd;have e1:sgn n=1:=by unfold sgn;rw[if_neg (by omega),if_neg (by omega)]
 clear h hd;go_enter func82,ntmps82;go_wp2_with fail;refine(aU1 d n sc b w HD.out).mono ?_;rintro e w1 ⟨rfl,rfl⟩;rw[e1];go_wp2_with fail;go_ret;exact⟨rfl,rfl⟩
theorem aY5(p d:Nat)(s fmt:ByteArray)(n y:Int)(b:Option Nat)(w:World)(h:QtyAt w p d s fmt)(hd:DecAt w d n 9 b)(hy:y.natAbs<=1000000):
  Calls prog 112 #[.pointer (some ⟨p,0,none⟩),.int .i64 y] w (aL8 w (cmpZ n (y*1000000000))):=by
 obtain⟨c2,c4⟩:=aT1 h;have HD:=hiD hd;have HN:Hid (Calls prog 71 #[.int .i64 y,.int .i32 0] w.drew (NewD w.drew y 0)):=aI6 y 0 w.drew (by omega);have HC:Hid (∀ e w1,NewD w.drew y 0 e w1->∃ q,e=.returned (.pointer (some ⟨q,0,none⟩))/\Kept (fun _=>False) w w1/\Calls prog 68 #[.pointer (some ⟨d,0,none⟩),.pointer (some ⟨q,0,none⟩)] w1 (aL8 w1 (cmpZ n (y*1000000000)))):=by
  rintro e w1 ⟨q,c,rfl,hq,aq,kq,qq⟩;refine⟨q,rfl,kq.undrew,?_⟩;have hy1:(dig y.natAbs).length<=50000:=Nat.le_trans (aD3 (k:=1) (by rw[Nat.pow_one];unfold B64;omega)) (by omega);exact bB0 d q 9 1000000000 (by decide) n y 9 0 b c w1 (IntAt.old HD.out kq.undrew) aq (by omega) (by omega) (by omega) (by omega) (by omega) hy1
 generalize cmpZ n (y*1000000000)=R at *;obtain⟨cN,_⟩:w.cell? ⟨p,2,none⟩=some (.pointer (some ⟨d,0,none⟩))/\True:=⟨c2,trivial⟩;have c2d:w.drew.cell? ⟨p,2,none⟩=some (.pointer (some ⟨d,0,none⟩)):=c2;have HCC:Hid (∀ w1,Kept (fun _=>False) w w1->w1.cell? ⟨p,2,none⟩=some (.pointer (some ⟨d,0,none⟩))):=by
  intro w1 hk;rw[aA2 (hk.at h (fun f=>f))];rfl
 clear h hd cN;go_enter func112,ntmps112;go_wp2_with fail
 go_region_with (first|(go_at_call 71;refine HN.out.mono ?_;intro e w1 h;obtain⟨q,rfl,hk,hc⟩:=HC.out e w1 h;have cw:=HCC.out w1 hk;have HK:=hiD hk;have HC1:=hiD hc;clear h hk hc)|(go_at_call 68;refine HC1.out.mono ?_;rintro e w2 ⟨rfl,hk2⟩;have HK2:=hiD (aE3 HK.out hk2);clear hk2))
 all_goals
  go_wp2_with fail;go_ret;exact⟨rfl,HK2.out⟩
theorem aC8(s:Int)(w:World)(hs:-1000<=s/\s<=1000):Calls prog 57 #[.int .i32 s] w fun e w'=>e=.returned (.int .i32 (-s))/\w=w':=by
 have e1:IntKind.i32.wrap (-s) = -s:=by rw[IntKind.wrap_i32];omega
 go_enter func57,ntmps57;go_wp2_with fail;go_ret;exact⟨rfl,rfl⟩
theorem bG4(d:Nat)(q:Nat)(b:Option Nat)(w:World)(hd:DecAt w d ((q*1000000000:Nat):Int) 9 b)(hq:q*1000000000<B64):
  Calls prog 148 #[.agg #[.pointer (some ⟨d,0,none⟩)],.int .i32 0] w fun e w'=>∃ t c,e=.returned (.tuple #[.agg #[.pointer (some ⟨t,0,none⟩)],.bool true])/\w.heap.size<=t/\DecAt w' t (q:Int) 0 c/\Kept (fun _=>False) w w'/\(∀ k,c=some k->w.heap.size<=k):=by
 have HD:=hiD hd;clear hd;have hwk:Kept (fun _=>False) w (((w.alloc (.cells #[.pointer (some ⟨d,0,none⟩)] 63)).alloc (.cells #[.pointer none] 63)).alloc zDec):=(((Kept.refl _ _).alloc _).alloc _).alloc _;have hdl:=IntAt.lt HD.out;have hz:=aL7 ((w.alloc (.cells #[.pointer (some ⟨d,0,none⟩)] 63)).alloc (.cells #[.pointer none] 63));have e2:((w.alloc (.cells #[.pointer (some ⟨d,0,none⟩)] 63)).alloc (.cells #[.pointer none] 63)).heap.size=w.heap.size+1+1:=by simp
 rw[e2]at hz;have b0:(((w.alloc (.cells #[.pointer (some ⟨d,0,none⟩)] 63)).alloc (.cells #[.pointer none] 63)).alloc zDec).heap[w.heap.size]? = some (.cells #[.pointer (some ⟨d,0,none⟩)] 63 (0,0)):=by
  rw[Below.heap_alloc _ _ _ (by simp;omega),Below.heap_alloc _ _ _ (by simp)];exact aA0 _ _
 have b1:(((w.alloc (.cells #[.pointer (some ⟨d,0,none⟩)] 63)).alloc (.cells #[.pointer none] 63)).alloc zDec).heap[w.heap.size+1]? = some (.cells #[.pointer none] 63 (0,0)):=by
  rw[Below.heap_alloc _ _ _ (by simp)];have:=aA0 (w.alloc (.cells #[.pointer (some ⟨d,0,none⟩)] 63)) (.cells #[.pointer none] 63)
  simpa using this
 have HWK:=hiD hwk;have HZ:=hiD hz;have HB0:=hiD b0;have HB1:=hiD b1;clear hwk hz b0 b1 e2;go_enter func148,ntmps148;go_wp2_with fail;simp only[zDec]at HWK HZ HB0 HB1;generalize hW:(((w.alloc (.cells #[.pointer (some ⟨d,0,none⟩)] 63)).alloc (.cells #[.pointer none] 63)).alloc (.cells #[.bool false,.slice none 0 0,.int .i32 0] 112))=W at *;generalize hS:w.heap.size=S at *;have HSZ:=hiD hS;have hSW:S+3<=W.heap.size:=by rw[<- hW,<- hS];simp
 have ct:W.cell? ⟨S,0,none⟩=some (.pointer (some ⟨d,0,none⟩)):=by rw[aA2 HB0.out];rfl
 have ctd:W.drew.cell? ⟨S,0,none⟩=some (.pointer (some ⟨d,0,none⟩)):=ct;have hDW:DecAt W.drew d ((q*1000000000:Nat):Int) 9 b:=IntAt.drewN (IntAt.old HD.out HWK.out) 1;have hZW:DecAt W.drew (S+1+1) 0 0 none:=IntAt.drewN HZ.out 1;have HR:Hid (Calls prog 66 #[.pointer (some ⟨S+1+1,0,none⟩),.pointer (some ⟨d,0,none⟩),.int .i32 0,RU] W.drew (aG3 W.drew (S+1+1) none (q:Int) 0)):=by
  refine aT0 (S+1+1) d 0 0 ((q*1000000000:Nat):Int) 9 (q:Int) 1000000000 0 none b W.drew hZW hDW (fun w' y c hx hy=>?_) (Sm.one (by omega));have:=cM4 (k:=9) (M:=1000000000) (by decide) (by omega) (by omega) (by omega) hx hy (by omega) (by rw[Int.natAbs_natCast];exact hq) (s:=0) (by
   have:((q*1000000000:Nat):Int).tmod ((1000000000:Nat):Int)=(((q*1000000000)%1000000000:Nat):Int):=rfl;rw[this,Nat.mul_mod_left];rfl)
  have e:((q*1000000000:Nat):Int).tdiv ((1000000000:Nat):Int)=(q:Int):=by
   have:((q*1000000000:Nat):Int).tdiv ((1000000000:Nat):Int)=(((q*1000000000)/1000000000:Nat):Int):=rfl;rw[this,Nat.mul_div_cancel _ (by omega)]
  rw[e]at this;exact this
 clear hDW hZW hW;have HAFT:Hid (∀ e w9,aG3 W.drew (S+1+1) none (q:Int) 0 e w9->e=.returned (.pointer (some ⟨S+1+1,0,none⟩))/\w9.cell? ⟨S,0,none⟩=some (.pointer (some ⟨d,0,none⟩))/\w9.heap[S+1]? = some (.cells #[.pointer none] 63 (0,0))/\Kept (fun _=>False) w w9/\(∃ c,DecAt w9 (S+1+1) (q:Int) 0 c/\∀ k,c=some k->S+3<=k)/\Calls prog 68 #[.pointer (some ⟨S+1+1,0,none⟩),.pointer (some ⟨d,0,none⟩)] w9 (aL8 w9 0)):=by
  rintro e w9 ⟨rfl,c,h1,h2,h3⟩;have h2:=h2.undrew;have hk:Kept (fun _=>False) w w9:=HWK.out.trans h2 (fun _ _ f=>f) (fun i hi h=>by
   rcases h with h|h
   ·omega
   ·cases h)
  have n0:¬ (S=S+1+1\/(none:Option Nat)=some S):=by intro h;rcases h with h|h;omega;cases h
  have n1:¬ (S+1=S+1+1\/(none:Option Nat)=some (S+1)):=by intro h;rcases h with h|h;omega;cases h
  have hc:∀ k,c=some k->S+3<=k:=by
   intro k hk';rcases h3 with h3|⟨j,hj,hjs⟩
   ·rw[h3]at hk';cases hk'
   ·rw[hj]at hk';injection hk' with hk';have:W.heap.size<=j:=hjs;omega
  have hcmp:=cM1 (S+1+1) d 9 1000000000 (by decide) (q:Int) ((q*1000000000:Nat):Int) 0 9 c b w9 h1 (IntAt.old HD.out hk) (by omega) (by omega) (by omega) (by omega) (by omega) (Nat.le_trans (aD3 (k:=1) (by rw[Nat.pow_one,Int.natAbs_natCast];unfold B64 at *;omega)) (by omega));have e0:cmpZ ((q:Int)*((1000000000:Nat):Int)) ((q*1000000000:Nat):Int)=0:=by rw[<- Int.natCast_mul];exact bT8 _
  rw[e0]at hcmp;exact⟨rfl,by rw[aA2 (h2.at HB0.out n0)];rfl,h2.at HB1.out n1,hk,⟨c,h1,hc⟩,hcmp⟩
 go_region_with (first|(go_at_call 57;refine(aC8 0 _ (by omega)).mono ?_;rintro e w9 ⟨rfl,rfl⟩)|(go_at_call 67;refine(aE4 _).mono ?_;rintro e w9 ⟨rfl,rfl⟩)|(go_at_call 66;refine HR.out.mono ?_;intro e w9 h;obtain⟨rfl,c9,h1,h2,h3,h4⟩:=HAFT.out e w9 h;have G1:=hiD h1;have G2:=hiD h2;have G3:=hiD h3;have G4:=hiD h4;clear h h1 h2 h3 h4))
 all_goals
  go_wp2_with fail;refine G4.out.mono ?_;rintro e w5 ⟨rfl,hk5⟩;have hb5:=hk5.at G1.out (fun f=>f);have c5:w5.cell? ⟨S+1,0,none⟩=some (.pointer none):=by rw[aA2 hb5];rfl
  have f5:=aA1 hb5 0;have hcell:(w5.setCell ⟨S+1,0,none⟩ (.pointer (some ⟨S+1+1,0,none⟩))).cell? ⟨S+1,0,none⟩=some (.pointer (some ⟨S+1+1,0,none⟩)):=by
   rw[aA2 (aA3 hb5 0 _)];rfl
  have K5:=hiD hk5;clear hk5 hb5;go_wp2_with fail;obtain⟨c,g3,g4⟩:=G3.out;have hS':=HSZ.out;refine bodyPost_ret (v:=.tuple #[.agg #[.pointer (some ⟨S+1+1,0,none⟩)],.bool true]) ?_ rfl ⟨S+1+1,c,rfl,by omega,IntAt.move (IntAt.old g3 K5.out) (aA7 (by omega)) (fun k hk=>aA7 (by have:=g4 k hk;omega)),((G2.out.trans K5.out (fun _ _ f=>f) (fun _ _ f=>f)).setCell ⟨S+1,0,none⟩ _ (fun h=>by simp at h;omega)),fun k hk=>by have:=g4 k hk;omega⟩;simp[results,Tryz.f148,loadVar,go_sem,hcell]
end Go.Proofs.YtjebnpkebccffaaGreatDoor
