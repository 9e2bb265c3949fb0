import Derived.Test.YtjebnpkebccffaaGreatDoorZBmm
import Derived.Test.YtjebnpkebccffaaGreatDoorZDvb
set_option linter.unusedSimpArgs false
set_option linter.unusedVariables false
set_option linter.unusedSectionVars false
set_option maxRecDepth 100000
set_option maxHeartbeats 8000000
namespace Go.Proofs.YtjebnpkebccffaaGreatDoor
open Go.RowKit Go.Proofs.Tryz
def ThrK(w:World):Prop:=w.cell? ⟨12,0,none⟩=some (.int .i64 40)
theorem aJ2{w:World}{b i:Nat}{v:Value}(h:w.cell? ⟨b,i,none⟩=some v):b<w.heap.size:=by
 rcases Nat.lt_or_ge b w.heap.size with h'|h'
 ·exact h'
 ·rw[World.cell?]at h;simp[Array.getElem?_eq_none h']at h
theorem aB8{w w':World}{b i:Nat}{v:Value}(hk:Kept (fun _=>False) w w')(h:w.cell? ⟨b,i,none⟩=some v):w'.cell? ⟨b,i,none⟩=some v:=by
 have hb:=hk.block b (aJ2 h) (fun f=>f);rw[<- h];simp[World.cell?,hb]
theorem aZ4{n:Nat}:dig n=wds (dig n).length n:=dP8 n
theorem cI7(s:Option Addr)(z x y:Value)(bz:Option Nat)(kx ky:Nat)(n m:Nat)(w:World)(hz:BufAt w z bz)(hx:NatAt w x n (some kx))(hy:NatAt w y m (some ky))(h2:2<=(dig m).length)(hle:(dig m).length<=(dig n).length)(h40:(dig m).length<40)(hL:(dig n).length+(dig m).length<=1000)(hzx:bz≠some kx)(hzy:bz≠some ky)(ht:ThrK w):
  Calls prog 139 #[z,.pointer s,x,y] w (aH4 w bz (n*m)):=by
 have hax:=aO6 z x bz (some kx) w hz hx.buf;have hay:∀ q,Calls prog 133 #[z,y] (w.drewN q) fun e w'=>e=.returned (.bool (aK6 bz (some ky)))/\Drew (w.drewN q) w':=fun q=>aO6 z y bz (some ky) (w.drewN q) (by exact hz) (by exact hy.buf);have ex:aK6 bz (some kx)=false:=by
  unfold aK6;cases bz with
  | none=>rfl
  | some k=>simp;intro e;exact hzx (by rw[e])
 have ey:aK6 bz (some ky)=false:=by
  unfold aK6;cases bz with
  | none=>rfl
  | some k=>simp;intro e;exact hzy (by rw[e])
 rw[ex]at hax;rw[ey]at hay;obtain⟨cx,rfl,hkx,hlx,hpx,hsx,hhx⟩:=hx;obtain⟨cy,rfl,hky,hly,hpy,hsy,hhy⟩:=hy;rw[aZ4]at hhx hhy;have hnb:=aD0 n;have hmb:=aD0 m;obtain⟨a,ha⟩:∃ a,a=(dig n).length:=⟨_,rfl⟩;obtain⟨b,hb⟩:∃ b,b=(dig m).length:=⟨_,rfl⟩;rw[<- ha]at hlx hhx hnb hle hL hax ⊢;rw[<- hb]at hly hhy hmb hle hL h2 h40 hay ⊢;have lkx:=aC5 hkx;have lky:=aC5 hky;have HX:=hiD hkx;have HY:=hiD hky;have HAX:=hiD hax;have HAY:=hiD hay;have HZ:=hiD hz;have HT:=hiD ht;have HBM:Hid (∀(W:World) (k:Nat) (cs:Array Value),W.heap[k]? = some (.cells cs 165 (0,0))->W.heap[kx]? = some (.cells cx 165 (0,0))->W.heap[ky]? = some (.cells cy 165 (0,0))->a+b<=cs.size->k≠kx->k≠ky->Calls prog 168 #[.slice (some ⟨k,0,none⟩) (a+b) cs.size,.slice (some ⟨kx,0,none⟩) a cx.size,.slice (some ⟨ky,0,none⟩) b cy.size] W fun e w'=>e=.returned (.tuple #[])/\BmSt W k cs.size (a+b) (n*m) w'):=fun W k cs g1 g2 g3 g4 g5 g6 =>
  bC9 k kx ky a b cs.size cx.size cy.size n m (a+b) cs.size cs cx cy W hnb hmb (by omega) (by omega) hL rfl g4 (Nat.le_refl _) rfl g1 g2 hhx g3 hhy g5 g6
 have HNB:Hid (n*m<B64^(a+b)):=by
  show n*m<B64^(a+b);rw[Nat.pow_add];exact Nat.lt_of_le_of_lt (Nat.mul_le_mul_left n (Nat.le_of_lt hmb)) (Nat.mul_lt_mul_of_pos_right hnb (Nat.pow_pos aA6))
 have HK:=hiD (show bz≠some kx/\bz≠some ky/\kx<w.heap.size/\ky<w.heap.size from⟨hzx,hzy,lkx,lky⟩);have q1:decide (a<b)=false:=decF (by omega);have q2:((a:Int)==0)=false:=beqF (by omega);have q3:((b:Int)==0)=false:=beqF (by omega);have q4:((b:Int)==1)=false:=beqF (by omega);have q5:¬ a=0:=by omega
 have q6:¬ b=0:=by omega
 have q7:¬ b=1:=by omega
 have q8:decide ((b:Int)<40)=true:=decT (by omega);have q9:IntKind.i64.wrap ((a:Int)+(b:Int))=((a+b:Nat):Int):=by rw[IntKind.wrap_i64];omega
 have HL:=hiD (show 1<=a+b/\a+b<=1000 from⟨by omega,hL⟩);clear hkx hky hhx hhy hax hay hz ht hnb hmb ha hb ex ey hlx hpx hsx hly hpy hsy lkx lky hle h2 h40 hL hzx hzy;go_enter func139,ntmps139;go_wp2_with fail;refine HAX.out.mono ?_;rintro e w1 ⟨rfl,n1,rfl⟩;go_wp2_with fail;refine(HAY.out n1).mono ?_;rintro e w1 ⟨rfl,n2,rfl⟩;go_wp2_with fail;have hmk:=aH2 z bz (a+b) (w.drewN (n1+n2)) (by exact HZ.out) HL.out.1 (by have:=HL.out.2;omega);rw[Int.natCast_add]at hmk;refine hmk.mono ?_;rintro e w3 ⟨k,cs,rfl,hk,h1,h2,h3,hown⟩;have hkx3:w3.heap[kx]? = some (.cells cx 165 (0,0)):=aE2 hown (show(w.drewN (n1+n2)).heap[kx]? = _ from HX.out);have hky3:w3.heap[ky]? = some (.cells cy 165 (0,0)):=aE2 hown (show(w.drewN (n1+n2)).heap[ky]? = _ from HY.out);have hne:k≠kx/\k≠ky:=by
  obtain⟨k1,k2,k3,k4⟩:=HK.out;rcases hown with⟨g1,_⟩|⟨g1,_⟩
  ·exact⟨fun e=>k1 (by rw[g1,e]),fun e=>k2 (by rw[g1,e])⟩
  ·have g2:k=w.heap.size:=g1;exact⟨by omega,by omega⟩
 have c12:w3.cell? ⟨12,0,none⟩=some (.int .i64 40):=by
  have hT:(w.drewN (n1+n2)).cell? ⟨12,0,none⟩=some (.int .i64 40):=HT.out;rcases hown with⟨_,g1⟩|⟨_,g1⟩
  ·rw[g1];exact hT
  ·rw[g1];exact aB8 ((Kept.refl (fun _=>False) _).alloc _) hT
 have HB:=hiD (HBM.out w3 k cs hk hkx3 hky3 h1 hne.1 hne.2);have HO:=hiD hown;have HC:=hiD (And.intro h1 (And.intro h2 h3));clear hmk hk hkx3 hky3 hne hown;go_wp2_with fail;refine HB.out.mono ?_;rintro e w4 ⟨rfl,⟨cz,b1,b2,b3⟩,b4⟩;have HE:=hiD (And.intro b1 (And.intro b2 (And.intro b3 b4)));have hnm:=aH8 k 0 cs.size (a+b) (wds (a+b) (n*m)) cz 165 w4 (aA9 _ _) (by have:=HL.out.2;omega) (by exact HC.out.1) (aN3 _ _) b1 b3;rw[aH6,Nat.mod_eq_of_lt HNB.out]at hnm;have HNM:=hiD hnm;clear b1 b2 b3 b4 hnm;go_wp2_with fail;refine HNM.out.mono ?_;rintro e w5 ⟨rfl,rfl⟩;go_wp2_with fail;go_ret;obtain⟨b1,b2,b3,b4⟩:=HE.out;have hv:=aK0 b1 (aN3 (a+b) (n*m)) (by rw[aH6,Nat.mod_eq_of_lt HNB.out]) b3 (by rw[aA9,b2];exact HC.out.1) (by rw[b2];exact HC.out.2.1) (by rw[b2];exact HC.out.2.2);rw[b2]at hv;obtain⟨v',b',e1,e2,e3,e4⟩:=aJ0 HO.out b4 hv;exact⟨v',b',e1,e2,(Kept.refl (fun k=>bz=some k) w).drewN (n1+n2) |>.trans e3 (fun _ _ h=>h) (fun _ _ h=>h),e4⟩
def ThrD(w:World):Prop:=w.cell? ⟨15,0,none⟩=some (.int .i64 40)
def DlRes(w:World)(p:Nat)(bz b2:Option Nat)(q r:Nat)(e:Ending)(w':World):Prop :=
 ∃ vq bq vr br,e=.returned (.tuple #[vq,vr])/\NatAt w' vq q bq/\NatAt w' vr r br/\Kept (fun k=>bz=some k\/b2=some k\/k=p) w w'/\Own w bz bq/\Own w b2 br/\(∀ k,bq=some k->br≠some k)/\∃ si,StkM w' p 0 si/\∀ q,si=some q->w.heap.size<=q
theorem StkAt.put{S:Nat->Prop}{w w':World}{p len cap:Nat}{b:Option Addr}{si:Option Nat}(h:StkAt w p b len cap si)(hk:Kept S w w')(hp:¬ S p)(hq:∀ q,si=some q->¬ S q)(hb:∀ r cs,b=some ⟨r,0,none⟩->w.heap[r]? = some (.cells cs 165 (0,0))->∃ cs',w'.heap[r]? = some (.cells cs' 165 (0,0))/\cs'.size=cs.size):StkAt w' p b len cap si:=by
 cases si with
 | none=>exact⟨hk.at h.1 hp,h.2⟩
 | some q =>
  obtain⟨h1,⟨h2,h3,h4,h5,h6⟩,h7,h8⟩:=h;refine⟨hk.at h1 hp,⟨hk.at h2 (hq q rfl),?_,h4,h5,h6⟩,h7,h8⟩;rcases h3 with k|⟨r,cs,k1,k2,k3⟩
  ·exact Or.inl k
  ·obtain⟨cs',k4,k5⟩:=hb r cs k1 k2;exact Or.inr ⟨r,cs',k1,k4,by omega⟩
theorem StkAt.inner{w:World}{p len cap q:Nat}{b:Option Addr}{si:Option Nat}(h:StkAt w p b len cap si)(hq:si=some q):q<w.heap.size:=by
 subst hq;exact aC5 h.2.1.1
theorem dG6{L U:Nat}(h:U<B64^(L+1)):wds L U++[U/B64^L]=wds (L+1) U:=by
 have h1:=aZ0 (m:=L+1) (j:=L) (x:=U) (by omega);rw[bE7 (by omega),bE7 (by omega)]at h1;rw[h1,Nat.mod_eq_of_lt];rw[Nat.div_lt_iff_lt_mul (Nat.pow_pos aA6),<- Nat.pow_succ'];exact h
theorem dY3{L U:Nat}(h:U<B64^(L+1))(cu:Array Value):(putC cu 0 (wds L U)).setIfInBounds L (.int .u64 ((U/B64^L:Nat):Int))=putC cu 0 (wds (L+1) U):=by
 rw[<- dG6 h,bH1,aA9,Nat.zero_add]
def DlMid(w3 w6:World)(r ub o n L U V:Nat)(cs cu:Array Value):Prop :=
 w6.heap[ub]? = some (.cells (putC cu 0 (wds (L+1) U)) 165 (0,0))/\w6.heap[r]? = some (.cells (putC cs o (wds n V)) 165 (0,0))/\Kept (fun i=>i=r\/i=ub) w3 w6
theorem dL7{w3 w4 w5:World}{r ub o n L U V:Nat}{cs cu:Array Value}(hr:r≠ub)(hU:U<B64^(L+1))(h4:Put w3 r (putC cs o (wds n V)) 165 w4)(h5:Put w4 ub (putC cu 0 (wds L U)) 165 w5):
  DlMid w3 (w5.setCell ⟨ub,L,none⟩ (.int .u64 ((U/B64^L:Nat):Int))) r ub o n L U V cs cu:=by
 refine⟨?_,?_,?_⟩
 ·rw[aA3 h5.1 L,dY3 hU]
 ·rw[aA7 hr];exact h5.2.at h4.1 hr
 ·exact(h4.2.trans h5.2 (U:=fun i=>i=r\/i=ub) (fun _ _ h=>Or.inl h) (fun _ _ h=>Or.inr h)).setCell _ _ (fun _=>Or.inr rfl)
theorem DlMid.drew{w3 w6:World}{r ub o n L U V j:Nat}{cs cu:Array Value}(h:DlMid w3 w6 r ub o n L U V cs cu):DlMid w3 (w6.drewN j) r ub o n L U V cs cu:=⟨h.1,h.2.1,h.2.2.drewN j⟩
def cI8(w:World)(p qb ub:Nat)(bz b2:Option Nat)(L m1 Q R uc qc:Nat)(w':World):Prop :=
 (∃ cu',w'.heap[ub]? = some (.cells cu' 165 (0,0))/\cu'.size=uc/\Has cu' 0 (wds (L+1) R))/\(∃ cq',w'.heap[qb]? = some (.cells cq' 165 (0,0))/\cq'.size=qc/\Has cq' 0 (wds m1 Q)) /\
  (∃ si2,StkM w' p 0 si2/\∀ q,si2=some q->w.heap.size<=q)/\Kept (fun i=>bz=some i\/b2=some i\/i=p) w w'/\Own w bz (some qb)/\Own w b2 (some ub)/\qb≠ub
theorem cI9{w w2 w3 w6 w7:World}{bz b2:Option Nat}{p r o c len' cap' ub qb L n m1 U V:Nat}{b':Option Addr}{si':Option Nat}{cs cu cq:Array Value}(lz:∀ k,bz=some k->k<w.heap.size)(lu:∀ k,b2=some k->k<w.heap.size)(lp:p<w.heap.size)(hr:w.heap.size<=r)(k2:Kept (fun i=>i=p) w w2)(d1:n<=c)(d2:o+c<=cs.size)(d4:w2.heap[r]? = some (.cells cs 165 (0,0)))(d5:StkAt w2 p b' len' cap' si')(d8:len'<=800)(d9:b'=some ⟨r,0,none⟩->o+n<=len')(d9':∀ r',b'=some ⟨r',0,none⟩->r'=r)(d10:∀ q,si'=some q->w.heap.size<=q)(d7:si'≠some r)(m3:(b2=some ub/\w3=w2)\/(ub=w2.heap.size/\w3=w2.alloc (.cells cu 165)))(husz:L+1<=cu.size)(hus2:cu.size<=1000000)(hmid:DlMid w3 w6 r ub o n L U V cs cu)(m7:(bz=some qb/\w7=w6)\/(qb=w6.heap.size/\w7=w6.alloc (.cells cq 165)))(hqb:w7.heap[qb]? = some (.cells cq 165 (0,0)))(hqsz:m1<=cq.size)(hqs2:cq.size<=1000000)(hap:∀ k,bz=some k->b2≠some k)(hzp:bz≠some p)(hup:b2≠some p)(hN:LdNum U V n m1)(hL:m1+n=L+1):
  Calls prog 250 #[.slice (some ⟨qb,0,none⟩) m1 cq.size,.pointer (some ⟨p,0,none⟩),.slice (some ⟨ub,0,none⟩) (m1+n) cu.size,.slice (some ⟨r,o,none⟩) n c] w7 fun e w'=>e=.returned (.tuple #[])/\cI8 w p qb ub bz b2 L m1 (U/V) (U%V) cu.size cq.size w':=by
 obtain⟨e1,e2,e3⟩:=hmid;have lr2:=aC5 d4;have s2:=k2.size;have s3:w2.heap.size<=w3.heap.size:=by
  rcases m3 with⟨_,h⟩|⟨_,h⟩
  ·rw[h];exact Nat.le_refl _
  ·rw[h];simp
 have s6:=e3.size;have k23:Kept (fun _=>False) w2 w3:=by
  rcases m3 with⟨_,h⟩|⟨_,h⟩
  ·rw[h];exact Kept.refl _ _
  ·rw[h];exact(Kept.refl _ _).alloc _
 have lub:ub<w6.heap.size:=aC5 e1;have hubr:ub≠r:=by
  rcases m3 with⟨h,_⟩|⟨h,_⟩
  ·have:=lu ub h;omega
  ·omega
 have hubp:ub≠p:=by
  rcases m3 with⟨h,_⟩|⟨h,_⟩
  ·rintro rfl;exact hup h
  ·omega
 have hubs:si'≠some ub:=by
  intro e;have h1:=d10 _ e;have h2:=d5.inner e;rcases m3 with⟨h,_⟩|⟨h,_⟩
  ·have:=lu ub h;omega
  ·omega
 have hubb:b'≠some ⟨ub,0,none⟩:=fun e=>hubr (d9' _ e);have k67:Kept (fun _=>False) w6 w7:=by
  rcases m7 with⟨_,h⟩|⟨_,h⟩
  ·rw[h];exact Kept.refl _ _
  ·rw[h];exact(Kept.refl _ _).alloc _
 have hqu:ub≠qb:=by
  rcases m7 with⟨h,_⟩|⟨h,_⟩
  ·rcases m3 with⟨g,_⟩|⟨g,_⟩
   ·rintro rfl;exact hap _ h g
   ·have:=lz qb h;omega
  ·omega
 have lr6:r<w6.heap.size:=aC5 e2;have hqr:qb≠r:=by
  rcases m7 with⟨h,_⟩|⟨h,_⟩
  ·have:=lz qb h;omega
  ·omega
 have hqp:qb≠p:=by
  rcases m7 with⟨h,_⟩|⟨h,_⟩
  ·rintro rfl;exact hzp h
  ·omega
 have hqs:si'≠some qb:=by
  intro e;have h1:=d10 _ e;have h2:=d5.inner e;rcases m7 with⟨h,_⟩|⟨h,_⟩
  ·have:=lz qb h;omega
  ·omega
 have hqbb:b'≠some ⟨qb,0,none⟩:=fun e=>hqr (d9' _ e);have k27:Kept (fun i=>i=r\/i=ub) w2 w7:=(k23.trans e3 (U:=fun i=>i=r\/i=ub) (fun _ _ f=>f.elim) (fun _ _ h=>h)).trans k67 (fun _ _ h=>h) (fun _ _ f=>f.elim);have hrp:r≠p:=by omega
 have hr7:=k67.at e2 (fun f=>f);have hu7:=k67.at e1 (fun f=>f);have st7:StkAt w7 p b' len' cap' si':=by
  refine d5.put k27 (fun e=>by rcases e with e|e;exact hrp e.symm;exact hubp e.symm) (fun q hq e=>by rcases e with e|e;exact d7 (by rw[hq,e]);exact hubs (by rw[hq,e])) ?_;intro r' cs' hb' hh;have:r'=r:=d9' _ hb';subst this;rw[d4]at hh;injection hh with hh;injection hh with hh;exact⟨_,hr7,by rw[aB1,hh]⟩
 have hn:=hN.bn;have hbas:=bV3 ub qb r o n m1 cu.size cq.size U V p cq.size cu.size c len' cap' b' si' _ _ _ w7 hN st7 d8 hu7 (aB1 _ _ _) (by rw[hL];exact aI9 _ _ _ (by rw[aA9];omega)) (by omega) (Nat.le_refl _)
  hqb rfl hqsz (Nat.le_refl _) hr7 (aI9 _ _ _ (by rw[aA9];omega)) d1 (by rw[aB1];exact d2) hqu hubr hqr hubp hqp hrp hubs hqs d7 hubb hqbb d9
 refine hbas.mono ?_;rintro e w' ⟨rfl,⟨cu',g1,g2,g3⟩,⟨cq',g4,g5,g6⟩,⟨si2,g7,g8⟩,g9⟩;have own:∀ {b:Option Nat} {k:Nat},(b=some k\/w.heap.size<=k)->Own w b (some k):=by
  intro b k h;rcases h with h|h
  ·exact Or.inl h.symm
  ·exact Or.inr ⟨k,rfl,h⟩
 rw[hL]at g3;refine⟨rfl,⟨cu',g1,g2,g3⟩,⟨cq',g4,g5,g6⟩,⟨si2,g7,fun q hq=>?_⟩,?_,own ?_,own ?_,hqu.symm⟩
 ·have s7:=k27.size;rcases g8 q hq with h|h
  ·exact d10 q h
  ·omega
 ·refine(k2.trans k27 (U:=fun i=>bz=some i\/b2=some i\/i=p) (fun _ _ h=>Or.inr (Or.inr h)) (fun i hi h=>?_)).trans g9 (fun _ _ h=>h) (fun i hi h=>?_)
  ·rcases h with h|h
   ·omega
   ·rcases m3 with⟨g,_⟩|⟨g,_⟩
    ·exact Or.inr (Or.inl (by rw[h];exact g))
    ·omega
  ·rcases h with h|h|h|h|h
   ·rcases m3 with⟨g,_⟩|⟨g,_⟩
    ·exact Or.inr (Or.inl (by rw[h];exact g))
    ·omega
   ·rcases m7 with⟨g,_⟩|⟨g,_⟩
    ·exact Or.inl (by rw[h];exact g)
    ·omega
   ·exact Or.inr (Or.inr h)
   ·have:=d10 i h;omega
   ·have:=d9' i h;omega
 ·rcases m7 with⟨h,_⟩|⟨h,_⟩
  ·exact Or.inl h
  ·exact Or.inr (by omega)
 ·rcases m3 with⟨h,_⟩|⟨h,_⟩
  ·exact Or.inl h
  ·exact Or.inr (by omega)
theorem dL8{w w8 w9:World}{p qb ub L m1 Q R' R uc qc:Nat}{bz b2:Option Nat}(hD:cI8 w p qb ub bz b2 L m1 Q R' uc qc w8)(huc:L+1<=uc/\uc<=1000000)(hqc:1<=m1/\m1<=qc/\qc<=1000000)(hQ:Q<B64^m1)(hR:R<B64^(L+1))(h9:(∃ cu9,w9.heap[ub]? = some (.cells cu9 165 (0,0))/\cu9.size=uc/\Has cu9 0 (wds (L+1) R))/\Kept (fun i=>i=ub) w8 w9):
  DlRes w p bz b2 Q R (.returned (.tuple #[.slice (some ⟨qb,0,none⟩) (dig Q).length qc,.slice (some ⟨ub,0,none⟩) (dig R).length uc])) w9:=by
 obtain⟨⟨cu',a1,a2,a3⟩,⟨cq',b1,b2',b3⟩,⟨si2,c1,c2⟩,d1,d2,d3,d4⟩:=hD;obtain⟨⟨cu9,e1,e2,e3⟩,e4⟩:=h9;have hq9:=e4.at b1 d4;have n1:=aK0 (n:=Q) hq9 (aN3 m1 Q) (by rw[aH6,Nat.mod_eq_of_lt hQ]) b3 (by rw[aA9];omega) (by omega) (by omega);have n2:=aK0 (n:=R) e1 (aN3 (L+1) R) (by rw[aH6,Nat.mod_eq_of_lt hR]) e3 (by rw[aA9];omega) (by omega) (by omega);rw[b2']at n1;rw[e2]at n2;have hbu:b2=some ub\/w.heap.size<=ub:=by
  rcases d3 with h|⟨k,h,hk⟩
  ·exact Or.inl h.symm
  ·injection h with h;exact Or.inr (by omega)
 have sm:StkM w9 p 0 si2:=by
  refine c1.kept e4 ?_ ?_
  ·rintro rfl;cases si2 with
   | none =>
    have:w8.heap[p]? = some (.cells #[.pointer none] 309 (0,0)):=c1;rw[this]at a1;injection a1 with a1;injection a1 with _ h;cases h
   | some q =>
    rw[c1.1]at a1;injection a1 with a1;injection a1 with _ h;cases h
  ·rintro q rfl rfl;obtain⟨_,_,b,len,cap,h,_⟩:=c1;rw[h]at a1;injection a1 with a1;injection a1 with _ h;cases h
 refine⟨_,some qb,_,some ub,rfl,n1,n2,d1.trans e4 (fun _ _ h=>h) (fun i hi h=>?_),d2,d3,fun k hk h=>?_,si2,sm,c2⟩
 ·rcases hbu with g|g
  ·exact Or.inr (Or.inl (by rw[h];exact g))
  ·omega
 ·injection hk with hk;injection h with h;omega
theorem bO9{w:World}{p m:Nat}{si:Option Nat}{v:Value}{b:Option Nat}(h:StkM w p m si)(hv:BufAt w v b):∀ q,si=some q->b≠some q:=by
 rintro q rfl rfl;obtain⟨h1,h2,b,len,cap,h3,h4⟩:=h;obtain⟨l,cs,_,h5,_⟩:=hv;rw[h3]at h5;injection h5 with h5;injection h5 with _ h;cases h
theorem DlRes.restore{w w9 w10:World}{p Q R:Nat}{bz b2 bq br si:Option Nat}{vq vr:Value}(h1:NatAt w9 vq Q bq)(h2:NatAt w9 vr R br)(h3:Kept (fun k=>bz=some k\/b2=some k\/k=p) w w9)(h4:Own w bz bq)(h5:Own w b2 br)(h6:∀ k,bq=some k->br≠some k)(h7:StkM w9 p 0 si)(h8:∀ q,si=some q->w.heap.size<=q)(g1:StkM w10 p 0 si)(g2:Kept (fun i=>si=some i) w9 w10):DlRes w p bz b2 Q R (.returned (.tuple #[vq,vr])) w10 :=
 ⟨vq,bq,vr,br,rfl,h1.kept g2 (fun k hk e=>bO9 h7 h1.buf k e hk),h2.kept g2 (fun k hk e=>bO9 h7 h2.buf k e hk),h3.trans g2 (fun _ _ h=>h) (fun i hi h=>by have:=h8 i h;omega),h4,h5,h6,si,g1,h8⟩
theorem cC1(z u2 x y:Value)(bz b2:Option Nat)(kx ky p U0 V0 s:Nat)(w:World)(hz:BufAt w z bz)(hu:BufAt w u2 b2)(hx:NatAt w x U0 (some kx))(hy:NatAt w y V0 (some ky))(hst:StkAt w p none 0 0 none)(h2:2<=(dig V0).length)(h40:(dig V0).length<40)(hle:(dig V0).length<=(dig U0).length)(hL:(dig U0).length<=900)(hne:TopOk V0)(hs:s=shl64 (topW V0))(hs1:1<=s)(hap:∀ k,bz=some k->b2≠some k)(hux:b2≠some kx)(huy:b2≠some ky)(hg:bz≠some 15/\b2≠some 15)(ht:ThrD w):
  Calls prog 224 #[z,.pointer (some ⟨p,0,none⟩),u2,x,y] w (DlRes w p bz b2 (U0/V0) (U0%V0)):=by
 have hV0:V0≠0:=by
  rintro rfl;rw[aC4]at h2;simp at h2
 obtain⟨hN,hs64⟩:=dL5 (U0:=U0) hV0 rfl rfl h2 h40 hle hL hs hne;obtain⟨t0,t1⟩:=bB3 hV0;have hsh:=(aJ7 t0 t1).2.1;obtain⟨cx,rfl,hkx,hlx,hpx,hsx,hhx⟩:=hx;obtain⟨cy,rfl,hky,hly,hpy,hsy,hhy⟩:=hy;rw[aZ4]at hhx hhy;have hnb:=aD0 U0;have hmb:=aD0 V0;obtain⟨L,hLd⟩:∃ L,L=(dig U0).length:=⟨_,rfl⟩;obtain⟨n,hnd⟩:∃ n,n=(dig V0).length:=⟨_,rfl⟩;have htw:topW V0=V0/B64^(n-1):=by rw[hnd];rfl
 rw[<- hLd]at hlx hhx hnb hle hL hN ⊢;rw[<- hnd]at hly hhy hmb hle h2 h40 hN ⊢;obtain⟨n1,hn1⟩:∃ n1,n=n1+1:=⟨n-1,by omega⟩;obtain⟨m,hm⟩:∃ m,L=m+n:=⟨L-n,by omega⟩;have lkx:=aC5 hkx;have lky:=aC5 hky;have hp0:w.heap[p]? = some (.cells #[.pointer none] 309 (0,0)):=hst.1;have lp:=aC5 hp0;have hpx':p≠kx:=by rintro rfl;rw[hp0]at hkx;injection hkx with hkx;injection hkx with _ h;cases h
 have hpy':p≠ky:=by rintro rfl;rw[hp0]at hky;injection hky with hky;injection hky with _ h;cases h
 have hp15:p≠15:=by
  rintro rfl;unfold ThrD at ht;rw[aA2 hp0]at ht;cases ht
 have hpz:bz≠some p:=by
  rintro rfl;obtain⟨l,cs,_,h,_⟩:=hz;rw[hp0]at h;injection h with h;injection h with _ h;cases h
 have hp2:b2≠some p:=by
  rintro rfl;obtain⟨l,cs,_,h,_⟩:=hu;rw[hp0]at h;injection h with h;injection h with _ h;cases h
 have c1:w.cell? ⟨ky,n1,none⟩=some (.int .u64 (topW V0:Int)):=by
  have h:=hhy n1 (by rw[aA9];omega);rw[Nat.zero_add,aD7 _ _ _ (by omega)]at h;rw[aA2 hky,h,<- Nat.mod_eq_of_lt t1,htw,hn1];simp
 have hnlz:=fun w=>aJ6 (topW V0) t1 w
 rw[hsh,<- hs]at hnlz;have HNLZ:=hiD hnlz;have HSV:=hiD (bO4 p none 0 0 none w hst);have HNAT:=hiD (cB3 p n none 0 0 none w hst (by omega) (by omega));have HX:=hiD hkx;have HY:=hiD hky;have HHX:=hiD hhx;have HHY:=hiD hhy;have HZ:=hiD hz;have HU:=hiD hu;have HT:=hiD ht;have HB:=hiD (show U0<B64^L/\V0<B64^n from⟨hnb,hmb⟩);have HK:=hiD (show kx<w.heap.size/\ky<w.heap.size/\p<w.heap.size/\p≠kx/\p≠ky/\p≠15/\bz≠some p/\b2≠some p from⟨lkx,lky,lp,hpx',hpy',hp15,hpz,hp2⟩);have HA:=hiD (show(∀ k,bz=some k->b2≠some k)/\b2≠some kx/\b2≠some ky/\bz≠some 15/\b2≠some 15 from⟨hap,hux,huy,hg.1,hg.2⟩);have hres:=dL6 (U0:=U0) (V0:=V0) (s:=s);have hQb:=dl_q hV0 hnd hLd hle;have hRb:U0%V0*2^s<B64^(L+1):=by
  refine Nat.lt_of_le_of_lt (Nat.mul_le_mul_right _ (Nat.le_of_lt (Nat.mod_lt _ (by omega)))) ?_;exact Nat.lt_of_lt_of_le hN.bV (Nat.pow_le_pow_right aA6 (by omega))
 have hRb2:U0%V0<B64^(L+1):=Nat.lt_of_le_of_lt (Nat.le_mul_of_pos_right _ (Nat.pow_pos (by omega))) hRb;have hUb:U0*2^s<B64^(L+1):=by
  have:=hN.bU;rw[show L-n+1+n=L+1 by omega]at this;exact this
 generalize topW V0=tw at *;have q1:IntKind.i64.wrap ((L:Int)-(n:Int))=(m:Int):=by rw[IntKind.wrap_i64];omega
 have q2:IntKind.i64.wrap ((n:Int)-1)=(n1:Int):=by rw[IntKind.wrap_i64];omega
 obtain⟨L2,hL2⟩:∃ L2,L2=L+1:=⟨_,rfl⟩;obtain⟨m1,hm1⟩:∃ m1,m1=m+1:=⟨_,rfl⟩;have q3:IntKind.i64.wrap ((L:Int)+1)=(L2:Int):=by rw[IntKind.wrap_i64];omega
 have q4:IntKind.i64.wrap ((m:Int)+1)=(m1:Int):=by rw[IntKind.wrap_i64];omega
 have q5:decide ((n:Int)<40)=true:=decT (by omega);rw[show L-n+1=m1 by omega]at hN hQb;have HNM:=hiD hN;obtain⟨U,hU⟩:∃ U,U=U0*2^s:=⟨_,rfl⟩;obtain⟨V,hV⟩:∃ V,V=V0*2^s:=⟨_,rfl⟩;obtain⟨Q,hQ⟩:∃ Q,Q=U0/V0:=⟨_,rfl⟩;obtain⟨R,hR⟩:∃ R,R=U0%V0:=⟨_,rfl⟩;rw[<- hR]at hres hRb hRb2 ⊢;rw[<- hQ]at hres hQb ⊢;rw[<- hU,<- hV]at hres HNM;rw[<- hU]at hUb;have HRES:=hiD hres;have HUV:=hiD (And.intro hU hV);have HQR:=hiD (And.intro hQb (And.intro hRb (And.intro hRb2 hUb)));have HSS:=hiD hs64;have q6:n1<n:=by omega
 have HC:=hiD (show(2<=n/\n<40)/\L=m+n/\L<=900/\n=n1+1/\L<=cx.size/\n<=cy.size/\L2=L+1/\m1=m+1 from⟨⟨h2,h40⟩,hm,hL,hn1,hlx,hly,hL2,hm1⟩);have HL2E:=hiD hL2;have q7:L<L2:=by omega
 have q8:L<=L2:=by omega
 have q9:((s:Int)==0)=false:=beqF (by omega);have q10:(!((s:Int)==0))=true:=by rw[q9];rfl
 clear hm hn1 hL2 hm1 hU hV hQ hR hres hQb hRb hRb2 hUb hkx hky hhx hhy hz hu hst hN hsh hnlz hnb hmb hne hle hL h2 h40 hlx hpx hsx hly hpy hsy hap hux huy hg ht lkx lky lp hpx' hpy' hp15 hpz hp2 hp0 htw hLd hnd t0 t1 hV0 hs hs64
 go_enter_defers func224,ntmps224
 go_wp2_with fail;refine HSV.out.mono ?_;rintro e w1 ⟨rfl,rfl⟩;go_wp2_with fail;refine(HNLZ.out _).mono ?_;rintro e w1 ⟨rfl,rfl⟩;go_wp2_with fail;refine HNAT.out.mono ?_;rintro e w2 ⟨r,o,c,cs,b',len',cap',si',rfl,d1,d2,d3,d4,d5,d6,d7,d8,⟨d9,d9'⟩,d10,d11⟩;have hr:w.heap.size<=r/\Kept (fun i=>i=p) w w2:=by
  rcases d11 with⟨_,h,hk⟩|⟨h,_⟩
  ·exact⟨h,hk.mono (fun i _ e=>by rcases e with e|e;exact e;cases e)⟩
  ·cases h
 have d10':∀ q,si'=some q->w.heap.size<=q:=fun q hq=>by rcases d10 q hq with h|h;cases h;exact h
 have d8':len'<=800:=by have:=HC.out;omega
 have H2:=hiD (And.intro hr (And.intro d1 (And.intro d2 (And.intro d4 (And.intro d5 (And.intro d8' (And.intro d9 (And.intro d9' (And.intro d10' d7)))))))));clear hr d2 d3 d4 d5 d6 d7 d8 d8' d9 d9' d10 d10' d11;have lz:=HZ.out.lts;have lu:=HU.out.lts;have HLZ:=hiD lz;have HLU:=hiD lu;have hu2:BufAt w2 u2 b2:=HU.out.kept H2.out.1.2 (fun k hk e=>HK.out.2.2.2.2.2.2.2 (by rw[hk,e]));have hz2:BufAt w2 z bz:=HZ.out.kept H2.out.1.2 (fun k hk e=>HK.out.2.2.2.2.2.2.1 (by rw[hk,e]));have HU2:=hiD hu2;have HZ2:=hiD hz2;clear lz lu hu2 hz2;go_wp2_with fail;refine(aH2 u2 b2 L2 w2 HU2.out (by have:=HC.out;omega) (by have:=HC.out;omega)).mono ?_;rintro e w3 ⟨ub,cu,rfl,hub,u1,u2',u3,m3⟩;have hky3:=aE2 m3 (H2.out.1.2.at HY.out (Ne.symm HK.out.2.2.2.2.1));have hkx3:=aE2 m3 (H2.out.1.2.at HX.out (Ne.symm HK.out.2.2.2.1));have hr3:=aE2 m3 H2.out.2.2.2.1;have hb15:=HT.out;unfold ThrD at hb15;have h15r:(15:Nat)≠r:=by have:=aJ2 hb15;have:=H2.out.1.1;omega
 have h15u:(15:Nat)≠ub:=by
  rcases m3 with⟨h,_⟩|⟨h,_⟩
  ·intro e;exact HA.out.2.2.2.2 (by rw[h,e])
  ·have:=aJ2 hb15;have:=H2.out.1.2.size;omega
 have hru:r≠ub:=by
  rcases m3 with⟨h,_⟩|⟨h,_⟩
  ·have:=HLU.out ub h;have:=H2.out.1.1;omega
  ·have:=aC5 H2.out.2.2.2.1;omega
 have c15:w3.cell? ⟨15,0,none⟩=some (.int .i64 40):=by
  have h2:w2.cell? ⟨15,0,none⟩=some (.int .i64 40):=by
   have:=H2.out.1.2.block 15 (aJ2 hb15) (fun e=>HK.out.2.2.2.2.2.1 e.symm);rw[<- hb15];simp[World.cell?,this]
  rcases m3 with⟨_,g1⟩|⟨_,g1⟩
  ·rw[g1];exact h2
  ·rw[g1];exact aB8 ((Kept.refl (fun _=>False) _).alloc _) h2
 have kz3:∀ k,bz=some k->k≠r/\k≠ub:=fun k hk=>⟨by have:=HLZ.out k hk;have:=H2.out.1.1;omega,by
  rcases m3 with⟨h,_⟩|⟨h,_⟩
  ·rintro rfl;exact HA.out.1 _ hk h
  ·have:=HLZ.out k hk;have:=H2.out.1.2.size;omega⟩
 have hz3:BufAt w3 z bz:=by
  rcases m3 with⟨_,g1⟩|⟨_,g1⟩
  ·rw[g1];exact HZ2.out
  ·rw[g1];exact HZ2.out.kept ((Kept.refl (fun _=>False) _).alloc _) (fun _ _ f=>f)
 have H3:=hiD (And.intro hub (And.intro u1 (And.intro u2' (And.intro u3 m3))));have HY3:=hiD hky3;have HX3:=hiD hkx3;have HR3:=hiD hr3;have H15:=hiD (And.intro h15r (And.intro h15u (And.intro hru (And.intro c15 (And.intro kz3 hz3)))));have p1:L<=cu.size:=by have:=HC.out;omega
 have p2:L2<=cu.size:=by have:=HC.out;omega
 clear hub u1 u2' u3 m3 hky3 hkx3 hr3 h15r h15u hru c15 kz3 hz3 hb15 HZ2 HU2;go_wp2_with fail;have hl1:=bU8 r o c ky 0 cy.size n s V0 cs cy 165 165 w3 hs1 HSS.out (by have:=HC.out;omega) (by have:=HC.out;omega) HB.out.2 HR3.out (by have:=H2.out.2.1;have:=H2.out.2.2.1;have:=HC.out;omega) HY3.out HHY.out (by have:=H2.out.1.1;have:=HK.out.2.1;omega);obtain⟨car1,hcar1⟩:∃ x,x=V0*2^s/B64^n:=⟨_,rfl⟩;rw[<- hcar1]at hl1;refine hl1.mono ?_;rintro e w4 ⟨rfl,hput1⟩;clear hl1 hcar1;have hl2:=bU8 ub 0 cu.size kx 0 cx.size L s U0 cu cx 165 165 w4 hs1 HSS.out (by have:=HC.out;omega) (by have:=HC.out;omega) HB.out.1 (hput1.2.at H3.out.1 (fun e=>H15.out.2.2.1 e.symm)) (by have:=HC.out;omega) (hput1.2.at HX3.out (by have:=H2.out.1.1;have:=HK.out.1;omega)) HHX.out (by
  rcases H3.out.2.2.2.2 with⟨h,_⟩|⟨h,_⟩
  ·intro e;exact HA.out.2.1 (by rw[h,e])
  ·have:=H2.out.1.2.size;have:=HK.out.1;omega)
 rw[<- HUV.out.1]at hl2;obtain⟨car,hcar⟩:∃ x,x=U/B64^L:=⟨_,rfl⟩;rw[<- hcar]at hl2;have HL2:=hiD hl2;have HP1:=hiD hput1;have HCAR:=hiD hcar;clear hl2 hput1 hcar;go_wp2_with fail;refine HL2.out.mono ?_;rintro e w5 ⟨rfl,hput2⟩;have f0:=aA1 hput2.1 L;obtain⟨ux,x0⟩:∃ u,w5.cell? ⟨ub,L,none⟩=some u:=by
  rw[aA2 hput2.1];exact⟨_,Array.getElem?_eq_getElem (by rw[aB1];have:=HC.out;omega)⟩
 have hp1:=HP1.out;rw[<- HUV.out.2]at hp1;have DLM:=hiD (dL7 H15.out.2.2.1 HQR.out.2.2.2 hp1 hput2);rw[<- HCAR.out]at DLM;clear hput2 hp1;go_wp2_with fail;generalize hw6:w5.setCell ⟨ub,L,none⟩ (.int .u64 (car:Int))=w6 at DLM ⊢;clear hw6 x0 f0;have hmid:=DLM.out;have hz6:BufAt w6 z bz:=H15.out.2.2.2.2.2.kept hmid.2.2 (fun k hk e=>by rcases e with e|e;exact(H15.out.2.2.2.2.1 k hk).1 e;exact(H15.out.2.2.2.2.1 k hk).2 e);have hu6:BufAt w6 (.slice (some ⟨ub,0,none⟩) L2 cu.size) (some ub):=⟨L2,_,by rw[aB1],hmid.1,by rw[aB1];exact p2,by rw[aB1];have:=HC.out;omega,by rw[aB1];exact H3.out.2.2.2.1⟩;have hal:=aO6 z (.slice (some ⟨ub,0,none⟩) L2 cu.size) bz (some ub) w6 hz6 hu6;have ea:aK6 bz (some ub)=false:=by
  unfold aK6;cases bz with
  | none=>rfl
  | some k=>simp;exact(H15.out.2.2.2.2.1 k rfl).2
 rw[ea]at hal;have HAL:=hiD hal;have HZ6:=hiD hz6;clear hmid hz6 hu6 hal ea;refine HAL.out.mono ?_;rintro e w6' ⟨rfl,j,rfl⟩;go_wp2_with fail;refine(aH2 z bz m1 (w6.drewN j) (by exact HZ6.out) (by have:=HC.out;omega) (by have:=HC.out;omega)).mono ?_;rintro e w7 ⟨qb,cq,rfl,hqb,v1,v2,v3,m7⟩;have c15:w7.cell? ⟨15,0,none⟩=some (.int .i64 40):=by
  have h3:=H15.out.2.2.2.1;have hk:=DLM.out.2.2.block 15 (aJ2 h3) (fun e=>by rcases e with e|e;exact H15.out.1 e;exact H15.out.2.1 e);have h6:(w6.drewN j).cell? ⟨15,0,none⟩=some (.int .i64 40):=by
   rw[<- h3];show w6.cell? _=_;simp[World.cell?,hk]
  rcases m7 with⟨_,g1⟩|⟨_,g1⟩
  ·rw[g1];exact h6
  ·rw[g1];exact aB8 ((Kept.refl (fun _=>False) _).alloc _) h6
 have hcall:=cI9 (w:=w) (w2:=w2) (w3:=w3) (w6:=w6.drewN j) (w7:=w7) (p:=p) HLZ.out HLU.out HK.out.2.2.1 H2.out.1.1 H2.out.1.2 H2.out.2.1 H2.out.2.2.1 H2.out.2.2.2.1 H2.out.2.2.2.2.1 H2.out.2.2.2.2.2.1 H2.out.2.2.2.2.2.2.1 H2.out.2.2.2.2.2.2.2.1 H2.out.2.2.2.2.2.2.2.2.1 H2.out.2.2.2.2.2.2.2.2.2
  H3.out.2.2.2.2 (show L+1<=cu.size by have:=HC.out;omega) H3.out.2.2.2.1 (DLM.out.drew (j:=j)) m7 hqb v1 v3 HA.out.1 HK.out.2.2.2.2.2.2.1 HK.out.2.2.2.2.2.2.2 HNM.out (by have:=HC.out;omega)
 rw[show m1+n=L2 by have:=HC.out;omega,HRES.out.1,HRES.out.2.1]at hcall;have HCL:=hiD hcall;have H7:=hiD (And.intro v1 v3);clear hqb v1 v2 v3 m7 hcall;go_wp2_with fail;refine HCL.out.mono ?_;rintro e w8 ⟨rfl,hdone⟩;obtain⟨⟨cu8,a1,a2,a3⟩,⟨cq8,b1,b2',b3⟩,hrest⟩:=hdone;have HD:Hid (cI8 w p qb ub bz b2 L m1 Q _ cu.size cq.size w8):=⟨⟨cu8,a1,a2,a3⟩,⟨cq8,b1,b2',b3⟩,hrest⟩;have HNQ:=hiD (aH8 qb 0 cq.size m1 _ cq8 165 w8 (aA9 _ _) (by have:=H7.out;have:=HC.out;omega) H7.out.1 (aN3 _ _) b1 b3);have HA3:=hiD (And.intro a1 (And.intro a2 a3));rw[aH6,Nat.mod_eq_of_lt HQR.out.1]at HNQ;clear a1 a2 a3 b1 b2' b3 hrest;go_wp2_with fail;refine HNQ.out.mono ?_;rintro e w9 ⟨rfl,rfl⟩;go_wp2_with fail;have hrs:=cN4 ub 0 cu.size cu.size L2 s (R*2^s) cu8 165 w8 hs1 HSS.out (by have:=HC.out;omega) (by have:=HC.out;omega) (by rw[HL2E.out];exact HQR.out.2.1) HA3.out.1 (by have:=HA3.out.2.1;have:=HC.out;omega) (by rw[HL2E.out];exact HA3.out.2.2);refine hrs.mono ?_;rintro e w9 ⟨⟨c9,rfl⟩,hput9⟩;have HE9:Hid ((∃ cu9,w9.heap[ub]? = some (.cells cu9 165 (0,0))/\cu9.size=cu.size/\Has cu9 0 (wds (L+1) R))/\Kept (fun i=>i=ub) w8 w9):=by
  refine⟨⟨_,hput9.1,by rw[aB1];exact HA3.out.2.1,?_⟩,hput9.2⟩;rw[HRES.out.2.2,HL2E.out];exact aI9 _ _ _ (by rw[aA9];have:=HA3.out.2.1;have:=HC.out;omega)
 clear hrs hput9;obtain⟨⟨cu9,f1,f2,f3⟩,f4⟩:=HE9.out;have HNU:=hiD (aH8 ub 0 cu.size L2 (wds (L+1) R) cu9 165 w9 (by rw[aA9];have:=HC.out;omega) (by have:=H3.out.2.2.2.1;have:=HC.out;omega) p2 (aN3 _ _) f1 f3);rw[aH6,Nat.mod_eq_of_lt HQR.out.2.2.1]at HNU;have HEND:=hiD (dL8 HD.out ⟨by have:=HC.out;omega,H3.out.2.2.2.1⟩ ⟨by have:=HC.out;omega,H7.out.1,H7.out.2⟩ HQR.out.1 HQR.out.2.2.1 HE9.out);clear f1 f2 f3 f4;go_wp2_with fail;refine HNU.out.mono ?_;rintro e w10 ⟨rfl,rfl⟩;go_wp2_with fail
 (try simp only[Exit.inBlock,Exit.then])
 obtain⟨vq,bq,vr,br,he,n1,n2,n3,n4,n5,n6,si,n7,n8⟩:=HEND.out;refine leaves_cons (f:=175) (args:=#[.pointer (some ⟨p,0,none⟩),.int .i64 0]) (by simp) (by simp[go_sem]) ?_;refine(aR2 p 0 si .returning w9 n7).mono ?_;rintro e u' w11 ⟨rfl,rfl,g1,g2⟩;refine⟨_,results_tmp2 rfl _ _ _,?_⟩;have hd:=DlRes.restore n1 n2 n3 n4 n5 n6 n7 n8 g1 g2;rw[<- he]at hd;exact hd
theorem cC2(z u2 x y:Value)(bz b2:Option Nat)(kx ky p U0 V0 s:Nat)(w:World)(hz:BufAt w z bz)(hu:BufAt w u2 b2)(hx:NatAt w x U0 (some kx))(hy:NatAt w y V0 (some ky))(hst:StkAt w p none 0 0 none)(h2:2<=(dig V0).length)(h40:(dig V0).length<40)(hle:(dig V0).length<=(dig U0).length)(hL:(dig U0).length<=900)(hne:TopOk V0)(hs:s=shl64 (topW V0))(hs1:s=0)(hap:∀ k,bz=some k->b2≠some k)(hux:b2≠some kx)(huy:b2≠some ky)(hg:bz≠some 15/\b2≠some 15)(ht:ThrD w):
  Calls prog 224 #[z,.pointer (some ⟨p,0,none⟩),u2,x,y] w (DlRes w p bz b2 (U0/V0) (U0%V0)):=by
 have hV0:V0≠0:=by
  rintro rfl;rw[aC4]at h2;simp at h2
 obtain⟨hN,hs64⟩:=dL5 (U0:=U0) hV0 rfl rfl h2 h40 hle hL hs hne;obtain⟨t0,t1⟩:=bB3 hV0;have hsh:=(aJ7 t0 t1).2.1;obtain⟨cx,rfl,hkx,hlx,hpx,hsx,hhx⟩:=hx;obtain⟨cy,rfl,hky,hly,hpy,hsy,hhy⟩:=hy;rw[aZ4]at hhx hhy;have hnb:=aD0 U0;have hmb:=aD0 V0;obtain⟨L,hLd⟩:∃ L,L=(dig U0).length:=⟨_,rfl⟩;obtain⟨n,hnd⟩:∃ n,n=(dig V0).length:=⟨_,rfl⟩;have htw:topW V0=V0/B64^(n-1):=by rw[hnd];rfl
 rw[<- hLd]at hlx hhx hnb hle hL hN ⊢;rw[<- hnd]at hly hhy hmb hle h2 h40 hN ⊢;obtain⟨n1,hn1⟩:∃ n1,n=n1+1:=⟨n-1,by omega⟩;obtain⟨m,hm⟩:∃ m,L=m+n:=⟨L-n,by omega⟩;have lkx:=aC5 hkx;have lky:=aC5 hky;have hp0:w.heap[p]? = some (.cells #[.pointer none] 309 (0,0)):=hst.1;have lp:=aC5 hp0;have hpx':p≠kx:=by rintro rfl;rw[hp0]at hkx;injection hkx with hkx;injection hkx with _ h;cases h
 have hpy':p≠ky:=by rintro rfl;rw[hp0]at hky;injection hky with hky;injection hky with _ h;cases h
 have hp15:p≠15:=by
  rintro rfl;unfold ThrD at ht;rw[aA2 hp0]at ht;cases ht
 have hpz:bz≠some p:=by
  rintro rfl;obtain⟨l,cs,_,h,_⟩:=hz;rw[hp0]at h;injection h with h;injection h with _ h;cases h
 have hp2:b2≠some p:=by
  rintro rfl;obtain⟨l,cs,_,h,_⟩:=hu;rw[hp0]at h;injection h with h;injection h with _ h;cases h
 have c1:w.cell? ⟨ky,n1,none⟩=some (.int .u64 (topW V0:Int)):=by
  have h:=hhy n1 (by rw[aA9];omega);rw[Nat.zero_add,aD7 _ _ _ (by omega)]at h;rw[aA2 hky,h,<- Nat.mod_eq_of_lt t1,htw,hn1];simp
 have hnlz:=fun w=>aJ6 (topW V0) t1 w
 rw[hsh,<- hs]at hnlz;have HNLZ:=hiD hnlz;have HSV:=hiD (bO4 p none 0 0 none w hst);have HNAT:=hiD (cB3 p n none 0 0 none w hst (by omega) (by omega));have HX:=hiD hkx;have HY:=hiD hky;have HHX:=hiD hhx;have HHY:=hiD hhy;have HZ:=hiD hz;have HU:=hiD hu;have HT:=hiD ht;have HB:=hiD (show U0<B64^L/\V0<B64^n from⟨hnb,hmb⟩);have HK:=hiD (show kx<w.heap.size/\ky<w.heap.size/\p<w.heap.size/\p≠kx/\p≠ky/\p≠15/\bz≠some p/\b2≠some p from⟨lkx,lky,lp,hpx',hpy',hp15,hpz,hp2⟩);have HA:=hiD (show(∀ k,bz=some k->b2≠some k)/\b2≠some kx/\b2≠some ky/\bz≠some 15/\b2≠some 15 from⟨hap,hux,huy,hg.1,hg.2⟩);have hres:=dL6 (U0:=U0) (V0:=V0) (s:=s);have hQb:=dl_q hV0 hnd hLd hle;have hRb:U0%V0*2^s<B64^(L+1):=by
  refine Nat.lt_of_le_of_lt (Nat.mul_le_mul_right _ (Nat.le_of_lt (Nat.mod_lt _ (by omega)))) ?_;exact Nat.lt_of_lt_of_le hN.bV (Nat.pow_le_pow_right aA6 (by omega))
 have hRb2:U0%V0<B64^(L+1):=Nat.lt_of_le_of_lt (Nat.le_mul_of_pos_right _ (Nat.pow_pos (by omega))) hRb;have hUb:U0*2^s<B64^(L+1):=by
  have:=hN.bU;rw[show L-n+1+n=L+1 by omega]at this;exact this
 generalize topW V0=tw at *;have q1:IntKind.i64.wrap ((L:Int)-(n:Int))=(m:Int):=by rw[IntKind.wrap_i64];omega
 have q2:IntKind.i64.wrap ((n:Int)-1)=(n1:Int):=by rw[IntKind.wrap_i64];omega
 obtain⟨L2,hL2⟩:∃ L2,L2=L+1:=⟨_,rfl⟩;obtain⟨m1,hm1⟩:∃ m1,m1=m+1:=⟨_,rfl⟩;have q3:IntKind.i64.wrap ((L:Int)+1)=(L2:Int):=by rw[IntKind.wrap_i64];omega
 have q4:IntKind.i64.wrap ((m:Int)+1)=(m1:Int):=by rw[IntKind.wrap_i64];omega
 have q5:decide ((n:Int)<40)=true:=decT (by omega);rw[show L-n+1=m1 by omega]at hN hQb;have HNM:=hiD hN;obtain⟨U,hU⟩:∃ U,U=U0*2^s:=⟨_,rfl⟩;obtain⟨V,hV⟩:∃ V,V=V0*2^s:=⟨_,rfl⟩;obtain⟨Q,hQ⟩:∃ Q,Q=U0/V0:=⟨_,rfl⟩;obtain⟨R,hR⟩:∃ R,R=U0%V0:=⟨_,rfl⟩;rw[<- hR]at hres hRb hRb2 ⊢;rw[<- hQ]at hres hQb ⊢;rw[<- hU,<- hV]at hres HNM;rw[<- hU]at hUb;have HRES:=hiD hres;have HUV:=hiD (And.intro hU hV);have HQR:=hiD (And.intro hQb (And.intro hRb (And.intro hRb2 hUb)));have HSS:=hiD hs64;have q6:n1<n:=by omega
 have HC:=hiD (show(2<=n/\n<40)/\L=m+n/\L<=900/\n=n1+1/\L<=cx.size/\n<=cy.size/\L2=L+1/\m1=m+1 from⟨⟨h2,h40⟩,hm,hL,hn1,hlx,hly,hL2,hm1⟩);have HL2E:=hiD hL2;have q7:L<L2:=by omega
 have q8:L<=L2:=by omega
 subst hs1;clear hm hn1 hL2 hm1 hU hV hQ hR hres hQb hRb hRb2 hUb hkx hky hhx hhy hz hu hst hN hsh hnlz hnb hmb hne hle hL h2 h40 hlx hpx hsx hly hpy hsy hap hux huy hg ht lkx lky lp hpx' hpy' hp15 hpz hp2 hp0 htw hLd hnd t0 t1 hV0 hs hs64
 go_enter_defers func224,ntmps224
 go_wp2_with fail;refine HSV.out.mono ?_;rintro e w1 ⟨rfl,rfl⟩;go_wp2_with fail;refine(HNLZ.out _).mono ?_;rintro e w1 ⟨rfl,rfl⟩;go_wp2_with fail;refine HNAT.out.mono ?_;rintro e w2 ⟨r,o,c,cs,b',len',cap',si',rfl,d1,d2,d3,d4,d5,d6,d7,d8,⟨d9,d9'⟩,d10,d11⟩;have hr:w.heap.size<=r/\Kept (fun i=>i=p) w w2:=by
  rcases d11 with⟨_,h,hk⟩|⟨h,_⟩
  ·exact⟨h,hk.mono (fun i _ e=>by rcases e with e|e;exact e;cases e)⟩
  ·cases h
 have d10':∀ q,si'=some q->w.heap.size<=q:=fun q hq=>by rcases d10 q hq with h|h;cases h;exact h
 have d8':len'<=800:=by have:=HC.out;omega
 have H2:=hiD (And.intro hr (And.intro d1 (And.intro d2 (And.intro d4 (And.intro d5 (And.intro d8' (And.intro d9 (And.intro d9' (And.intro d10' d7)))))))));clear hr d2 d3 d4 d5 d6 d7 d8 d8' d9 d9' d10 d10' d11;have lz:=HZ.out.lts;have lu:=HU.out.lts;have HLZ:=hiD lz;have HLU:=hiD lu;have hu2:BufAt w2 u2 b2:=HU.out.kept H2.out.1.2 (fun k hk e=>HK.out.2.2.2.2.2.2.2 (by rw[hk,e]));have hz2:BufAt w2 z bz:=HZ.out.kept H2.out.1.2 (fun k hk e=>HK.out.2.2.2.2.2.2.1 (by rw[hk,e]));have HU2:=hiD hu2;have HZ2:=hiD hz2;clear lz lu hu2 hz2;go_wp2_with fail;refine(aH2 u2 b2 L2 w2 HU2.out (by have:=HC.out;omega) (by have:=HC.out;omega)).mono ?_;rintro e w3 ⟨ub,cu,rfl,hub,u1,u2',u3,m3⟩;have hky3:=aE2 m3 (H2.out.1.2.at HY.out (Ne.symm HK.out.2.2.2.2.1));have hkx3:=aE2 m3 (H2.out.1.2.at HX.out (Ne.symm HK.out.2.2.2.1));have hr3:=aE2 m3 H2.out.2.2.2.1;have hb15:=HT.out;unfold ThrD at hb15;have h15r:(15:Nat)≠r:=by have:=aJ2 hb15;have:=H2.out.1.1;omega
 have h15u:(15:Nat)≠ub:=by
  rcases m3 with⟨h,_⟩|⟨h,_⟩
  ·intro e;exact HA.out.2.2.2.2 (by rw[h,e])
  ·have:=aJ2 hb15;have:=H2.out.1.2.size;omega
 have hru:r≠ub:=by
  rcases m3 with⟨h,_⟩|⟨h,_⟩
  ·have:=HLU.out ub h;have:=H2.out.1.1;omega
  ·have:=aC5 H2.out.2.2.2.1;omega
 have c15:w3.cell? ⟨15,0,none⟩=some (.int .i64 40):=by
  have h2:w2.cell? ⟨15,0,none⟩=some (.int .i64 40):=by
   have:=H2.out.1.2.block 15 (aJ2 hb15) (fun e=>HK.out.2.2.2.2.2.1 e.symm);rw[<- hb15];simp[World.cell?,this]
  rcases m3 with⟨_,g1⟩|⟨_,g1⟩
  ·rw[g1];exact h2
  ·rw[g1];exact aB8 ((Kept.refl (fun _=>False) _).alloc _) h2
 have kz3:∀ k,bz=some k->k≠r/\k≠ub:=fun k hk=>⟨by have:=HLZ.out k hk;have:=H2.out.1.1;omega,by
  rcases m3 with⟨h,_⟩|⟨h,_⟩
  ·rintro rfl;exact HA.out.1 _ hk h
  ·have:=HLZ.out k hk;have:=H2.out.1.2.size;omega⟩
 have hz3:BufAt w3 z bz:=by
  rcases m3 with⟨_,g1⟩|⟨_,g1⟩
  ·rw[g1];exact HZ2.out
  ·rw[g1];exact HZ2.out.kept ((Kept.refl (fun _=>False) _).alloc _) (fun _ _ f=>f)
 have H3:=hiD (And.intro hub (And.intro u1 (And.intro u2' (And.intro u3 m3))));have HY3:=hiD hky3;have HX3:=hiD hkx3;have HR3:=hiD hr3;have H15:=hiD (And.intro h15r (And.intro h15u (And.intro hru (And.intro c15 (And.intro kz3 hz3)))));have p1:L<=cu.size:=by have:=HC.out;omega
 have p2:L2<=cu.size:=by have:=HC.out;omega
 clear hub u1 u2' u3 m3 hky3 hkx3 hr3 h15r h15u hru c15 kz3 hz3 hb15 HZ2 HU2;have hput1:Put w3 r (putC cs o (wds n V0)) 165 (aB2 w3 r o (wds n V0)):=cI2 HR3.out (Drew.refl _);obtain⟨w4,hw4⟩:∃ w4,w4=aB2 w3 r o (wds n V0):=⟨_,rfl⟩;rw[<- hw4]at hput1;have HW4:=hiD hw4;have HP1:=hiD hput1;have hu4:=hput1.2.at H3.out.1 (fun e=>H15.out.2.2.1 e.symm);have hx4:=hput1.2.at HX3.out (by have:=H2.out.1.1;have:=HK.out.1;omega);have HU4:=hiD hu4;have HX4:=hiD hx4;have hput2:Put w4 ub (putC cu 0 (wds L U0)) 165 (aB2 w4 ub 0 (wds L U0)):=cI2 HU4.out (Drew.refl _);obtain⟨w5,hw5⟩:∃ w5,w5=aB2 w4 ub 0 (wds L U0):=⟨_,rfl⟩;rw[<- hw5]at hput2;have HW5:=hiD hw5;have HP2:=hiD hput2;have f0:=aA1 hput2.1 L;obtain⟨ux,x0⟩:∃ u,w5.cell? ⟨ub,L,none⟩=some u:=by
  rw[aA2 hput2.1];exact⟨_,Array.getElem?_eq_getElem (by rw[aB1];have:=HC.out;omega)⟩
 have hUU:U=U0:=by rw[HUV.out.1,Nat.pow_zero,Nat.mul_one]
 have hVV:V=V0:=by rw[HUV.out.2,Nat.pow_zero,Nat.mul_one]
 have hp1:=HP1.out;rw[<- hVV]at hp1;rw[<- hUU]at hput2;have hdlm:=dL7 H15.out.2.2.1 HQR.out.2.2.2 hp1 hput2;have hz0:U/B64^L=0:=Nat.div_eq_of_lt (by rw[hUU];exact HB.out.1);rw[hz0]at hdlm;obtain⟨w6,hw6⟩:∃ w6,w6=w5.setCell ⟨ub,L,none⟩ (.int .u64 0):=⟨_,rfl⟩;have DLM:Hid (DlMid w3 w6 r ub o n L U V cs cu):=by rw[hw6];exact hdlm
 have HW6:=hiD hw6;clear hput1 hput2 hp1 hdlm hz0 hUU hVV hw4 hw5 hw6 hu4 hx4;have hlv:=aA9 n V0;have hlu:=aA9 L U0;go_wp2_with (first|((refine aG9 rfl (.tmp 41) (.tmp 42) 107 107 rfl underlying107 r o n c ky 0 n cy.size rfl rfl cs 165 HR3.out cy 165 (0,0) HY3.out (wds n V0) (by rw[aA9];exact(Nat.min_self n).symm) HHY.out (by rw[aA9];have:=H2.out.2.1;have:=H2.out.2.2.1;have:=HC.out;omega) ?_);rw[<- HW4.out])|(refine aG9 rfl (.tmp 47) (.tmp 49) 107 107 rfl underlying107 ub 0 L cu.size kx 0 L cx.size rfl rfl cu 165 HU4.out cx 165 (0,0) HX4.out (wds L U0) (by rw[aA9];exact(Nat.min_self L).symm) HHX.out (by rw[aA9];have:=HC.out;omega) ?_;rw[<- HW5.out])|(refine aG9 rfl (.tmp 47) (.tmp 48) 107 107 rfl underlying107 ub 0 L cu.size kx 0 L cx.size rfl rfl cu 165 HU4.out cx 165 (0,0) HX4.out (wds L U0) (by rw[aA9];exact(Nat.min_self L).symm) HHX.out (by rw[aA9];have:=HC.out;omega) ?_;rw[<- HW5.out]))
 rw[<- HW6.out];clear x0 f0;have hmid:=DLM.out;have hz6:BufAt w6 z bz:=H15.out.2.2.2.2.2.kept hmid.2.2 (fun k hk e=>by rcases e with e|e;exact(H15.out.2.2.2.2.1 k hk).1 e;exact(H15.out.2.2.2.2.1 k hk).2 e);have hu6:BufAt w6 (.slice (some ⟨ub,0,none⟩) L2 cu.size) (some ub):=⟨L2,_,by rw[aB1],hmid.1,by rw[aB1];exact p2,by rw[aB1];have:=HC.out;omega,by rw[aB1];exact H3.out.2.2.2.1⟩;have hal:=aO6 z (.slice (some ⟨ub,0,none⟩) L2 cu.size) bz (some ub) w6 hz6 hu6;have ea:aK6 bz (some ub)=false:=by
  unfold aK6;cases bz with
  | none=>rfl
  | some k=>simp;exact(H15.out.2.2.2.2.1 k rfl).2
 rw[ea]at hal;have HAL:=hiD hal;have HZ6:=hiD hz6;clear hmid hz6 hu6 hal ea;refine HAL.out.mono ?_;rintro e w6' ⟨rfl,j,rfl⟩;go_wp2_with fail;refine(aH2 z bz m1 (w6.drewN j) (by exact HZ6.out) (by have:=HC.out;omega) (by have:=HC.out;omega)).mono ?_;rintro e w7 ⟨qb,cq,rfl,hqb,v1,v2,v3,m7⟩;have c15:w7.cell? ⟨15,0,none⟩=some (.int .i64 40):=by
  have h3:=H15.out.2.2.2.1;have hk:=DLM.out.2.2.block 15 (aJ2 h3) (fun e=>by rcases e with e|e;exact H15.out.1 e;exact H15.out.2.1 e);have h6:(w6.drewN j).cell? ⟨15,0,none⟩=some (.int .i64 40):=by
   rw[<- h3];show w6.cell? _=_;simp[World.cell?,hk]
  rcases m7 with⟨_,g1⟩|⟨_,g1⟩
  ·rw[g1];exact h6
  ·rw[g1];exact aB8 ((Kept.refl (fun _=>False) _).alloc _) h6
 have hcall:=cI9 (w:=w) (w2:=w2) (w3:=w3) (w6:=w6.drewN j) (w7:=w7) (p:=p) HLZ.out HLU.out HK.out.2.2.1 H2.out.1.1 H2.out.1.2 H2.out.2.1 H2.out.2.2.1 H2.out.2.2.2.1 H2.out.2.2.2.2.1 H2.out.2.2.2.2.2.1 H2.out.2.2.2.2.2.2.1 H2.out.2.2.2.2.2.2.2.1 H2.out.2.2.2.2.2.2.2.2.1 H2.out.2.2.2.2.2.2.2.2.2
  H3.out.2.2.2.2 (show L+1<=cu.size by have:=HC.out;omega) H3.out.2.2.2.1 (DLM.out.drew (j:=j)) m7 hqb v1 v3 HA.out.1 HK.out.2.2.2.2.2.2.1 HK.out.2.2.2.2.2.2.2 HNM.out (by have:=HC.out;omega)
 rw[show m1+n=L2 by have:=HC.out;omega,HRES.out.1,HRES.out.2.1]at hcall;have HCL:=hiD hcall;have H7:=hiD (And.intro v1 v3);clear hqb v1 v2 v3 m7 hcall;go_wp2_with fail;refine HCL.out.mono ?_;rintro e w8 ⟨rfl,hdone⟩;obtain⟨⟨cu8,a1,a2,a3⟩,⟨cq8,b1,b2',b3⟩,hrest⟩:=hdone;have HD:Hid (cI8 w p qb ub bz b2 L m1 Q _ cu.size cq.size w8):=⟨⟨cu8,a1,a2,a3⟩,⟨cq8,b1,b2',b3⟩,hrest⟩;have HNQ:=hiD (aH8 qb 0 cq.size m1 _ cq8 165 w8 (aA9 _ _) (by have:=H7.out;have:=HC.out;omega) H7.out.1 (aN3 _ _) b1 b3);have HA3:=hiD (And.intro a1 (And.intro a2 a3));rw[aH6,Nat.mod_eq_of_lt HQR.out.1]at HNQ;clear a1 a2 a3 b1 b2' b3 hrest;go_wp2_with fail;refine HNQ.out.mono ?_;rintro e w9 ⟨rfl,rfl⟩;go_wp2_with fail;have HE9:Hid ((∃ cu9,w8.heap[ub]? = some (.cells cu9 165 (0,0))/\cu9.size=cu.size/\Has cu9 0 (wds (L+1) R))/\Kept (fun i=>i=ub) w8 w8):=by
  refine⟨⟨cu8,HA3.out.1,HA3.out.2.1,?_⟩,Kept.refl _ _⟩;have h:=HA3.out.2.2;rw[Nat.pow_zero,Nat.mul_one]at h;exact h
 obtain⟨w9,hw9⟩:∃ w9,w9=w8:=⟨_,rfl⟩;rw[<- hw9];have HE9:Hid ((∃ cu9,w9.heap[ub]? = some (.cells cu9 165 (0,0))/\cu9.size=cu.size/\Has cu9 0 (wds (L+1) R))/\Kept (fun i=>i=ub) w8 w9):=by rw[hw9];exact HE9
 clear hw9;obtain⟨⟨cu9,f1,f2,f3⟩,f4⟩:=HE9.out;have HNU:=hiD (aH8 ub 0 cu.size L2 (wds (L+1) R) cu9 165 w9 (by rw[aA9];have:=HC.out;omega) (by have:=H3.out.2.2.2.1;have:=HC.out;omega) p2 (aN3 _ _) f1 f3);rw[aH6,Nat.mod_eq_of_lt HQR.out.2.2.1]at HNU;have HEND:=hiD (dL8 HD.out ⟨by have:=HC.out;omega,H3.out.2.2.2.1⟩ ⟨by have:=HC.out;omega,H7.out.1,H7.out.2⟩ HQR.out.1 HQR.out.2.2.1 HE9.out);clear f1 f2 f3 f4;go_wp2_with fail;refine HNU.out.mono ?_;rintro e w10 ⟨rfl,rfl⟩;go_wp2_with fail
 (try simp only[Exit.inBlock,Exit.then])
 obtain⟨vq,bq,vr,br,he,n1,n2,n3,n4,n5,n6,si,n7,n8⟩:=HEND.out;refine leaves_cons (f:=175) (args:=#[.pointer (some ⟨p,0,none⟩),.int .i64 0]) (by simp) (by simp[go_sem]) ?_;refine(aR2 p 0 si .returning w9 n7).mono ?_;rintro e u' w11 ⟨rfl,rfl,g1,g2⟩;refine⟨_,results_tmp2 rfl _ _ _,?_⟩;have hd:=DlRes.restore n1 n2 n3 n4 n5 n6 n7 n8 g1 g2;rw[<- he]at hd;exact hd
theorem bV4(z u2 x y:Value)(bz b2:Option Nat)(kx ky p U0 V0:Nat)(w:World)(hz:BufAt w z bz)(hu:BufAt w u2 b2)(hx:NatAt w x U0 (some kx))(hy:NatAt w y V0 (some ky))(hst:StkAt w p none 0 0 none)(h2:2<=(dig V0).length)(h40:(dig V0).length<40)(hle:(dig V0).length<=(dig U0).length)(hL:(dig U0).length<=900)(hne:TopOk V0)(hap:∀ k,bz=some k->b2≠some k)(hux:b2≠some kx)(huy:b2≠some ky)(hg:bz≠some 15/\b2≠some 15)(ht:ThrD w):
  Calls prog 224 #[z,.pointer (some ⟨p,0,none⟩),u2,x,y] w (DlRes w p bz b2 (U0/V0) (U0%V0)):=by
 obtain⟨s,hs⟩:∃ s,s=shl64 (topW V0):=⟨_,rfl⟩;rcases Nat.eq_zero_or_pos s with h0|h0
 ·exact cC2 z u2 x y bz b2 kx ky p U0 V0 s w hz hu hx hy hst h2 h40 hle hL hne hs h0 hap hux huy hg ht
 ·exact cC1 z u2 x y bz b2 kx ky p U0 V0 s w hz hu hx hy hst h2 h40 hle hL hne hs h0 hap hux huy hg ht
def ThrS(w:World):Prop:=w.cell? ⟨10,0,none⟩=some (.int .i64 12)/\w.cell? ⟨11,0,none⟩=some (.int .i64 80)
theorem dG7(s:Option Addr)(z x:Value)(bz:Option Nat)(kx:Nat)(n:Nat)(w:World)(hz:BufAt w z bz)(hx:NatAt w x n (some kx))(h2:2<=(dig n).length)(h40:(dig n).length<12)(hzx:bz≠some kx)(ht:ThrS w):
  Calls prog 138 #[z,.pointer s,x] w (aH4 w bz (n*n)):=by
 have hax:=aO6 z x bz (some kx) w hz hx.buf;have ex:aK6 bz (some kx)=false:=by
  unfold aK6;cases bz with
  | none=>rfl
  | some k=>simp;intro e;exact hzx (by rw[e])
 rw[ex]at hax;obtain⟨cx,rfl,hkx,hlx,hpx,hsx,hhx⟩:=hx;rw[aZ4]at hhx;have hnb:=aD0 n;obtain⟨a,ha⟩:∃ a,a=(dig n).length:=⟨_,rfl⟩;rw[<- ha]at hlx hhx hnb h2 h40 hax ⊢;have hL:a+a<=1000:=by omega
 have lkx:=aC5 hkx;have HX:=hiD hkx;have HAX:=hiD hax;have HZ:=hiD hz;have HT:=hiD ht;have HBM:Hid (∀(W:World) (k:Nat) (cs:Array Value),W.heap[k]? = some (.cells cs 165 (0,0))->W.heap[kx]? = some (.cells cx 165 (0,0))->a+a<=cs.size->k≠kx->Calls prog 168 #[.slice (some ⟨k,0,none⟩) (a+a) cs.size,.slice (some ⟨kx,0,none⟩) a cx.size,.slice (some ⟨kx,0,none⟩) a cx.size] W fun e w'=>e=.returned (.tuple #[])/\BmSt W k cs.size (a+a) (n*n) w'):=fun W k cs g1 g2 g4 g5 =>
  bC9 k kx kx a a cs.size cx.size cx.size n n (a+a) cs.size cs cx cx W hnb hnb (by omega) (by omega) hL rfl g4 (Nat.le_refl _) rfl g1 g2 hhx g2 hhx g5 g5
 have HNB:Hid (n*n<B64^(a+a)):=by
  show n*n<B64^(a+a);rw[Nat.pow_add];exact Nat.lt_of_le_of_lt (Nat.mul_le_mul_left n (Nat.le_of_lt hnb)) (Nat.mul_lt_mul_of_pos_right hnb (Nat.pow_pos aA6))
 have HK:=hiD (show bz≠some kx/\kx<w.heap.size from⟨hzx,lkx⟩);have q2:((a:Int)==0)=false:=beqF (by omega);have q4:((a:Int)==1)=false:=beqF (by omega);have q5:¬ a=0:=by omega
 have q7:¬ a=1:=by omega
 have q8:decide ((a:Int)<12)=true:=decT (by omega);have q10:decide ((a:Int)<80)=true:=decT (by omega);have q9:IntKind.i64.wrap (2*(a:Int))=((a+a:Nat):Int):=by rw[IntKind.wrap_i64];omega
 have HL:=hiD (show 1<=a+a/\a+a<=1000 from⟨by omega,hL⟩);clear hkx hhx hax hz ht hnb ha ex hlx hpx hsx lkx h2 h40 hL hzx;go_enter func138,ntmps138;go_wp2_with fail;refine HAX.out.mono ?_;rintro e w1 ⟨rfl,n1,rfl⟩;go_wp2_with fail;have hmk:=aH2 z bz (a+a) (w.drewN n1) (by exact HZ.out) HL.out.1 (by have:=HL.out.2;omega);refine hmk.mono ?_;rintro e w3 ⟨k,cs,rfl,hk,h1,h2,h3,hown⟩;have hkx3:w3.heap[kx]? = some (.cells cx 165 (0,0)):=aE2 hown (show(w.drewN n1).heap[kx]? = _ from HX.out);have hne:k≠kx:=by
  obtain⟨k1,k3⟩:=HK.out;rcases hown with⟨g1,_⟩|⟨g1,_⟩
  ·exact fun e=>k1 (by rw[g1,e])
  ·have g2:k=w.heap.size:=g1;omega
 have hct:ThrS w3:=by
  have hT:ThrS (w.drewN n1):=HT.out;rcases hown with⟨_,g1⟩|⟨_,g1⟩
  ·rw[g1];exact hT
  ·rw[g1];exact⟨aB8 ((Kept.refl (fun _=>False) _).alloc _) hT.1,aB8 ((Kept.refl (fun _=>False) _).alloc _) hT.2⟩
 obtain⟨c12,c13⟩:=hct;have HB:=hiD (HBM.out w3 k cs hk hkx3 h1 hne);have HO:=hiD hown;have HC:=hiD (And.intro h1 (And.intro h2 h3));clear hmk hk hkx3 hne hown;go_wp2_with fail;refine HB.out.mono ?_;rintro e w4 ⟨rfl,⟨cz,b1,b2,b3⟩,b4⟩;have HE:=hiD (And.intro b1 (And.intro b2 (And.intro b3 b4)));have hnm:=aH8 k 0 cs.size (a+a) (wds (a+a) (n*n)) cz 165 w4 (aA9 _ _) (by have:=HL.out.2;omega) (by exact HC.out.1) (aN3 _ _) b1 b3;rw[aH6,Nat.mod_eq_of_lt HNB.out]at hnm;have HNM:=hiD hnm;clear b1 b2 b3 b4 hnm;go_wp2_with fail;refine HNM.out.mono ?_;rintro e w5 ⟨rfl,rfl⟩;go_wp2_with fail;go_ret;obtain⟨b1,b2,b3,b4⟩:=HE.out;have hv:=aK0 b1 (aN3 (a+a) (n*n)) (by rw[aH6,Nat.mod_eq_of_lt HNB.out]) b3 (by rw[aA9,b2];exact HC.out.1) (by rw[b2];exact HC.out.2.1) (by rw[b2];exact HC.out.2.2);rw[b2]at hv;obtain⟨v',b',e1,e2,e3,e4⟩:=aJ0 HO.out b4 hv;exact⟨v',b',e1,e2,(Kept.refl (fun k=>bz=some k) w).drewN n1 |>.trans e3 (fun _ _ h=>h) (fun _ _ h=>h),e4⟩
theorem aP4{w:World}{v:Value}{n:Nat}{b:Option Nat}(h:NatAt w v n b)(h0:n≠0):∃ k,b=some k:=by
 cases b with
 | none=>exact absurd h.2 h0
 | some k=>exact⟨k,rfl⟩
theorem bP0{n:Nat}(h:¬ n<B64):2<=(dig n).length:=by
 rcases Nat.lt_or_ge (dig n).length 2 with h'|h'
 ·exact absurd (aV9.1 (by omega)) h
 ·exact h'
theorem dS4(s:Option Addr)(z x y:Value)(bz bx by_:Option Nat)(n m:Nat)(w:World)(hz:BufAt w z bz)(hx:NatAt w x n bx)(hy:NatAt w y m by_)(hn0:n≠0)(hm0:m≠0)(hn40:(dig n).length<40)(hm40:(dig m).length<40)(hzx:bz≠bx\/bz=none)(hzy:bz≠by_\/bz=none)(ht:ThrK w):
  Calls prog 139 #[z,.pointer s,x,y] w (aH4 w bz (n*m)):=by
 have sn:Sm n:=by show(dig n).length<=100000;omega
 have sm:Sm m:=by show(dig m).length<=100000;omega
 by_cases h1:m<B64
 ·exact aX3 s z x y bz bx by_ n m w hz hx hy hm0 h1 sn
 by_cases h2:n<B64
 ·exact aX4 s z x y bz bx by_ n m w hz hx hy hn0 h2 sm
 obtain⟨kx,rfl⟩:=aP4 hx hn0;obtain⟨ky,rfl⟩:=aP4 hy hm0;have ex:bz≠some kx:=by
  rcases hzx with h|h
  ·exact h
  ·rw[h];simp
 have ey:bz≠some ky:=by
  rcases hzy with h|h
  ·exact h
  ·rw[h];simp
 have l1:=bP0 h1;have l2:=bP0 h2;by_cases hle:(dig m).length<=(dig n).length
 ·exact cI7 s z x y bz kx ky n m w hz hx hy l1 hle hm40 (by omega) ex ey ht
 ·have HW:=hiD (cI7 s z y x bz ky kx m n w hz hy hx l2 (by omega) hn40 (by omega) ey ex ht);obtain⟨a,c,rfl⟩:=aB6 hx;obtain⟨a',c',rfl⟩:=aB6 hy;have q1:decide (((dig n).length:Int)<((dig m).length:Int))=true:=decT (by omega);have q2:decide ((dig n).length<(dig m).length)=true:=decT (by omega);clear hx hy hz h1 h2 sn sm ex ey l1 l2 hle hn40 hm40 ht hzx hzy hn0 hm0;generalize(dig n).length=L1 at *;generalize(dig m).length=L2 at *;go_enter func139,ntmps139;go_wp2_with fail;refine HW.out.mono ?_;rintro e w1 ⟨v',b',rfl,h⟩;have H:=hiD h;clear h;go_wp2_with fail;go_ret;exact⟨v',b',rfl,by have:=H.out;rwa[Nat.mul_comm]at this⟩
theorem dS5(s:Option Addr)(z x:Value)(bz bx:Option Nat)(n:Nat)(w:World)(hz:BufAt w z bz)(hx:NatAt w x n bx)(hn0:n≠0)(h12:(dig n).length<12)(hzx:bz≠bx\/bz=none)(ht:ThrS w):
  Calls prog 138 #[z,.pointer s,x] w (aH4 w bz (n*n)):=by
 by_cases h1:n<B64
 ·exact cF7 s z x bz bx n w hz hx hn0 h1
 obtain⟨kx,rfl⟩:=aP4 hx hn0;have ex:bz≠some kx:=by
  rcases hzx with h|h
  ·exact h
  ·rw[h];simp
 exact dG7 s z x bz kx n w hz hx (bP0 h1) h12 ex ht
end Go.Proofs.YtjebnpkebccffaaGreatDoor
