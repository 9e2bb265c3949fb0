import Derived.Test.YtjebnpkebccffaaGreatDoorZAsc
import Derived.Test.YtjebnpkebccffaaGreatDoorRows
import Derived.ChangeSame
import Derived.ChangeVars
import Derived.JoinedOf
import Derived.LaidLaws
import Derived.LaidMore
import Derived.OpenShut
import Derived.ProofKit
import Derived.Stop.LaidErr
import Derived.Stop.Joined
import Derived.Lib.SmallJoins
import Derived.Carry
import Derived.Lib.LaidTab
import Derived.Lay
import Derived.ChangeMaps5
set_option linter.unusedSimpArgs false
set_option linter.unusedVariables false
set_option linter.unusedSectionVars false
set_option maxRecDepth 100000
set_option maxHeartbeats 8000000
namespace Go.Proofs.YtjebnpkebccffaaGreatDoor
open Go.RowKit Go.Proofs.Tryz
structure GlobT (w:World):Prop where
 thr:Thr w
 ten:Tens w
theorem GlobT.old{w w':World}(h:GlobT w)(hk:Kept (fun _=>False) w w'):GlobT w' :=
 ⟨h.thr.old hk,⟨fun i hi=>aB8 hk (h.ten.1 i hi),fun i hi=>aB8 hk (h.ten.2 i hi)⟩⟩
theorem bR0(k:Nat):negN 0 k=0:=by unfold negN;simp
theorem bL6{p n:Nat}{b:Option Nat}{r:List Value}{T:TypeId}{s t:Int}{w:World}{k:Nat}(hx:IntAt w p (n:Int) b r T)(hn:(dig n).length<=900)(hk:s-t=(k:Int))(hk2:k<=180)(hN:negN n k<9223372036854775808)(hs:-2000<=s/\s<=2000 /\ -2000<=t/\t<=2000)(hg:GlobT w):
  Calls prog 78 #[.pointer (some ⟨p,0,none⟩),.int .i64 s,.int .i64 t] w (SvRes w ((negN n k:Nat):Int)):=by
 rcases Nat.eq_zero_or_pos k with h0|h0
 ·subst h0;rw[bI9]at hN ⊢;have:t=s:=by omega
  subst this;exact cZ6 p n b r T t w hx hN ⟨hs.1,hs.2.1⟩
 ·by_cases hc:n<9223372036854775807/\k<19
  ·exact cE1 p n k b r T s t w hx hc.1 hk h0 hc.2 hs hg.ten
  ·exact cE2 p n k b r T s t w hx hn hN hk h0 hk2 (by omega) hs hg.thr
theorem eA5{N:Nat}{E:Int}{M j:Nat}(h:Vq N E M j):(dig (q9 M j E)).length<=900:=by
 have h1:q9 M j E<B64^2:=Nat.lt_of_le_of_lt h.q9_le (by unfold B64;decide);have:=aD3 h1;omega
theorem cE4{q:QW}{t:ByteArray}{d:Dm}(h:OfOk2 q t d)(c:Int)(hc:-9<=c/\c<=18)(hsg:qN q=0\/(q.sign==2)=false)(hC:clN (qN q) (qE q) c<=9223372036854775807)(w:World)(ev:Value)(a:Addr)(hev0:w.cell? ⟨0,0,none⟩=some ev)(heof:Eof w a)(hg:GlobT w):
  Calls prog 20 #[.string t,.int .i64 c] w (N2 w ((clN (qN q) (qE q) c:Nat):Int)):=by
 refine bC0 t c _ w (PR (q.sign==2) (qN q) (qE q) w) (by omega) (bL5 h w ev a hev0 heof hg.thr) ?_;intro w1 w2 n sc d st f p hk1 hR hk2 hq;have hs0:sgZ (q.sign==2) (qN q)=((qN q:Nat):Int):=by
  rcases hsg with e|e
  ·rw[e,bA2];rfl
  ·rw[e];rfl
 generalize(q.sign==2)=neg at *;generalize qN q=N at *;generalize qE q=E at *;rcases hR with⟨rfl,rfl,hs,hN,hb⟩|⟨rfl,rfl,p',b,m,sc,rfl,hp',hd,hz,hnz⟩
 ·rw[hs0]at hq;refine bQ8 p _ sc c _ st f w2 hq ?_;rcases(by omega:sc<c\/c<=sc)with hlt|hge
  ·have e:clN N E c=negN N (c-sc).toNat:=by
    by_cases h0:N=0
    ·rw[h0,bA0,bR0]
    ·have:=hs h0;subst this;unfold clN;rw[if_neg (by omega)]
   rw[e];exact bK1 N sc c (c-sc).toNat hN (by omega) (by omega) (by omega) (by omega) (by omega) w2
  ·have e:clN N E c=N*10^(sc-c).toNat:=by
    by_cases h0:N=0
    ·rw[h0,bA0,Nat.zero_mul]
    ·have:=hs h0;subst this;unfold clN;rw[if_pos hge]
   rw[e]at hC ⊢;have e2:((N*10^(sc-c).toNat:Nat):Int)=(N:Int)*10^(sc-c).toNat:=by simp
   rw[e2];refine bX6 (N:Int) sc c (sc-c).toNat (by omega) ?_ (by omega) (by omega) (by omega) (by omega) w2;rw[<- e2];omega
 ·have hd2:=IntAt.old hd hk2;have hg2:=(hg.old hk1).old hk2;by_cases h0:N=0
  ·obtain⟨rfl,hb1,hb2⟩:=hz h0;refine bA1 p p' b 0 sc c _ st f w2 hq hd2 (by omega) (by omega) ?_;rw[h0,bA0];rcases(by omega:sc - -c<0\/0<=sc - -c)with hlt|hge
   ·exact bK2 p' (-c-sc).toNat b _ _ sc (-c) w2 hd2 (by omega) (by omega) (by omega) (by omega) hg2.ten
   ·have:=bL6 (n:=0) (k:=(sc - -c).toNat) (s:=sc) (t:=-c) hd2 (by simp[dig]) (by omega) (by omega) (by rw[bR0];omega) (by omega) hg2;rw[bR0]at this;exact this
  ·obtain⟨M,j,hv,rfl,rfl⟩:=hnz h0;have hneg:neg=false:=by
    rcases hsg with e|e
    ·exact absurd e h0
    ·exact e
   rw[hneg]at hd2;have hd2:DecAt w2 p' ((q9 M j E:Nat):Int) 9 b:=hd2;refine bA1 p p' b _ 9 c _ st f w2 hq hd2 (by omega) (by omega) ?_;have e:clN N E c=negN (q9 M j E) (9+c).toNat:=by
    rw[<- hv.cl9];unfold clN;by_cases h9:c = -9
    ·rw[if_pos (by omega),h9];show _*10^0=negN _ 0;rw[bI9,Nat.pow_zero,Nat.mul_one]
    ·rw[if_neg (by omega)];congr 1;omega
   rw[e]at hC ⊢;exact bL6 hd2 (eA5 hv) (by omega) (by omega) (by omega) (by omega) hg2
theorem Vq.v_le{N:Nat}{E:Int}{M j:Nat}(h:Vq N E M j)(hE:0<=E):N*10^E.toNat<=9223372036854775807:=by
 have:=dU2 (M:=M) (E:=E+(j:Int)) (by omega) h.hi;rw[h.eq,Nat.mul_assoc,<- Nat.pow_add,show j+E.toNat=(E+(j:Int)).toNat by omega];exact this
theorem dK1{q:QW}{t:ByteArray}{d:Dm}(h:OfOk2 q t d)(w:World)(ev:Value)(a:Addr)(hev0:w.cell? ⟨0,0,none⟩=some ev)(heof:Eof w a)(hg:GlobT w):
  Calls prog 21 #[.string t] w (N3 w (fun c=>intD (aP7 q)=(c,true))):=by
 have hv:qN q≠0->∃ M j,Vq (qN q) (qE q) M j:=by
  obtain⟨c,hcan⟩:=h.can;exact fun hN=>vq_of hN (dA5 hcan)
 refine bK3 t _ w (PR (q.sign==2) (qN q) (qE q) w) (bL5 h w ev a hev0 heof hg.thr) ?_;intro w1 w2 n sc d st f p hk1 hR hk2 hq;show Calls _ _ _ _ (bQ9 w2 fun c=>intD (nd (q.sign==2) (qN q) (qE q))=(c,true));generalize(q.sign==2)=neg at *;generalize qN q=N at *;generalize qE q=E at *;rcases hR with⟨rfl,rfl,hs,hN,hb⟩|⟨rfl,rfl,p',b,m,sc,rfl,hp',hd,hz,hnz⟩
 ·have hsb:-9223372036854775807<=sgZ neg N/\sgZ neg N<=9223372036854775807:=by unfold sgZ;cases neg<;>simp<;>omega
  refine(cZ7 p _ sc st f w2 hq (bX7 _ sc hsb (by omega) w2)).mono (fun e w' hr=>?_);obtain⟨⟨c,k,he,hc⟩,hk⟩:=hr;refine⟨⟨c,k,he,fun hk'=>?_⟩,hk⟩;obtain⟨h1,h2⟩:=hc hk';by_cases h0:N=0
  ·rw[h0,bA2,Int.zero_mul]at h2;rw[h0,h2,aI4,cJ9]
  ·have:=hs h0;subst this;obtain⟨M,j,hvq⟩:=hv h0;have hV:=hvq.v_le h1;have e1:nd neg N sc=nd neg (N*10^sc.toNat) 0:=by rw[aV5];congr 1;omega
   rw[e1,bX4 neg _ hV,h2,dA4];simp
 ·exact cZ8 p _ st f _ w2 hq
def Globs(w:World):Prop:=(∃ a b c,Errs w a b c)/\(∃ a,Eof w a)/\Leaf w/\∃ tp pe,w.cell? ⟨8,0,none⟩=some (.iface tp pe)
theorem Globs.kept{w w':World}(h:Globs w)(hk:Kept (fun _=>False) w w'):Globs w':=by
 obtain⟨⟨a,b,c,h1⟩,⟨e,h2⟩,h3,tp,pe,h4⟩:=h;exact⟨⟨a,b,c,h1.kept hk⟩,⟨e,h2.kept hk (fun f=>f)⟩,aC9 hk h3,tp,pe,aC9 hk h4⟩
theorem Globs.awake{w:World}(h:Globs w):Calls prog 12 #[] w fun e w'=>e=.returned (.bool true)/\Kept (fun _=>False) w w':=by
 obtain⟨⟨a,b,c,h1⟩,⟨e,h2⟩,h3,_⟩:=h;exact YtjebnpkebccffaaGreatDoor.awake w _ e h1.g0 h2 h3
def eA6(w:World)(e:Ending)(w':World):Prop:=e=.returned (.bool true)/\Kept (fun _=>False) w w'
section
open Go.RowKit
open Go.Proofs.YtjebnpkebccffaaGreatDoorW.PrintLast
theorem bR1(v:Value)(d:Dm)(E:Int)(w:World)(h:DmAt w v d)(hlen:d.ds.length<=10000)(hdig:∀ x∈d.ds,x<=9)(he:-10000<=d.e/\d.e<=10000)(hE2:-10000<=E/\E<=10000):
  Calls prog 16 #[v,.int .i64 E] w (fun e w'=>∃ u k,e=.returned (.tuple #[u,.bool k])/\DmAt w' u (upD d E)/\Kept (fun _=>False) w w'):=by
 by_cases hc:d.ds=[]\/E<=d.e
 ·refine(bQ5 v d E w h hc).mono ?_;rintro e w' ⟨u,h1,h2,h3⟩;exact⟨u,true,h1,by unfold upD;rw[if_pos hc];exact h2,h3⟩
 ·refine(bK0 v d E w h (fun h0=>hc (Or.inl h0)) (by omega) hlen hdig he hE2).mono ?_;rintro e w' ⟨u,h1,h2,h3⟩;exact⟨u,false,h1,by unfold upD;rw[if_neg hc];exact h2,h3⟩
theorem upD_b{d:Dm}(hd:DmB d 130 330)(E:Int)(hE:-100<=E/\E<=100):(upD d E).ds.length<=131/\(∀ x∈(upD d E).ds,x<=9)/\(-400<=(upD d E).e/\(upD d E).e<=400):=by
 obtain⟨h1,h2,h3,h4⟩:=hd;unfold upD;split
 ·exact⟨by omega,h1,by omega,by omega⟩
 ·have hb:dv (d.ds.take (upK d E))+1<10^131:=by
   have a1:=dv_lt (d.ds.take (upK d E)) (fun x hx=>h1 x (List.mem_of_mem_take hx));have a2:(10:Nat)^(d.ds.take (upK d E)).length<=10^130:=Nat.pow_le_pow_right (by omega) (by rw[List.length_take];omega);have a3:(10:Nat)^131=10*10^130:=by decide
   omega
  obtain⟨b1,b2,b3,b4⟩:=nd_b (neg:=d.neg) (N:=dv (d.ds.take (upK d E))+1) (e:=E) (K:=100) hb (by omega) (by omega);exact⟨by omega,b1,by omega,by omega⟩
theorem cK1(c:Int)(hc:-100<=c/\c<=100):(nd false 1 (-c)).ds.length<=1/\(∀ x∈(nd false 1 (-c)).ds,x<=9)/\(-101<=(nd false 1 (-c)).e/\(nd false 1 (-c)).e<=101):=by
 obtain⟨b1,b2,b3,b4⟩:=nd_b (neg:=false) (N:=1) (e:=-c) (L:=1) (K:=100) (by decide) (by omega) (by omega);exact⟨by omega,b1,by omega,by omega⟩
theorem dK2{neg:Bool}{N:Nat}{E:Int}(hd:DmB (nd neg N E) 130 330)(c:Int)(hc:-100<=c/\c<=100)(w:World)(v1 v2:Value)(h1:DmAt w v1 (upD (nd neg N E) c))(h2:DmAt w v2 (nd false 1 (-c))):
  Calls prog 18 #[v1,v2] w (DmRes w (nd neg (clN N E c) 0)):=by
 obtain⟨a1,a2,a3⟩:=upD_b hd c hc;obtain⟨b1,b2,b3⟩:=cK1 c hc;have h:=aR9 v1 v2 _ _ w h1 h2 (by omega) (by omega) a2 b2 (by omega) (by omega);unfold bP8 at h;have e0:(nd false 1 (-c)).neg=false:=by rw[aN7 _ _ _ (by decide)]
 rw[e0,up_nd]at h;exact h
theorem cP5{neg:Bool}{N:Nat}{E:Int}(hd:DmB (nd neg N E) 130 330)(c:Int)(hc:-100<=c/\c<=100):(nd neg (clN N E c) 0).ds.length<=5000/\(∀ x∈(nd neg (clN N E c) 0).ds,x<=9)/\(-5000<=(nd neg (clN N E c) 0).e/\(nd neg (clN N E c) 0).e<=5000):=by
 obtain⟨a1,a2,a3⟩:=upD_b hd c hc;obtain⟨b1,b2,b3⟩:=cK1 c hc;rw[<- up_nd neg N E c];have l1:=dv_lt _ a2;have l2:=dv_lt _ b2;have l3:dv (upD (nd neg N E) c).ds*dv (nd false 1 (-c)).ds<10^132:=by
  refine Nat.lt_of_lt_of_le (Nat.mul_lt_mul_of_lt_of_lt l1 l2) ?_;rw[<- Nat.pow_add];exact Nat.pow_le_pow_right (by omega) (by omega)
 obtain⟨c1,c2,c3,c4⟩:=nd_b (neg:=((upD (nd neg N E) c).neg != false)) (N:=dv (upD (nd neg N E) c).ds*dv (nd false 1 (-c)).ds) (e:=(upD (nd neg N E) c).e+(nd false 1 (-c)).e) (L:=132) (K:=501) l3 (by omega) (by omega);exact⟨by omega,c1,by omega,by omega⟩
theorem dV6{neg:Bool}{N:Nat}{E c:Int}(h:(intD (nd neg (clN N E c) 0)).2=true)(hs:0<=sgnD (nd neg N E)):(N=0\/neg=false)/\clN N E c<=9223372036854775807/\(intD (nd neg (clN N E c) 0)).1=((clN N E c:Nat):Int):=by
 have h1:N=0\/neg=false:=by
  by_cases h0:N=0
  ·exact Or.inl h0
  ·right;obtain⟨M,j,rfl,hp⟩:=prim N h0;have hM:M≠0:=fun e=>by rw[e]at hp;exact hp rfl
   rw[aV5,aN7 _ _ _ hp]at hs;unfold sgnD at hs;rw[if_neg (bL3 hM)]at hs;cases neg
   ·rfl
   ·simp at hs
 have h2:nd neg (clN N E c) 0=nd false (clN N E c) 0:=by
  rcases h1 with h1|h1
  ·rw[h1,bA0,aI4,aI4]
  ·rw[h1]
 rw[h2]at h ⊢;have h3:=dU5 _ h;exact⟨h1,h3,by rw[bX4 false _ h3];rfl⟩
theorem cP6(q:QW)(sc:Int)(w:World)(hg:Globs w)(hgt:GlobT w)(hsc:-9223372036854775808<=sc/\sc<=9223372036854775807):Calls prog 5 #[.agg q.cells,.int .i64 sc] w (eA6 w):=by
 have HF:Hid (∀ w,Calls prog 7 #[.agg q.cells] w (cD1 w q)):=fun w=>bW7 q w
 have HO:Hid (q.num.size<=2147483647/\q.denom.size<=2147483647/\q.power.size<=2147483647->∀ w,Calls prog 11 #[.agg q.cells] w (cD5 w q)):=fun h w=>bI8 q h.1 h.2.1 h.2.2 w
 have HG:=hiD hg;have HGT:=hiD hgt;have k0:Kept (fun _=>False) w (w.alloc (.cells q.cells 23)):=(Kept.refl _ _).alloc _;have b1:=aA0 w (.cells q.cells 23);generalize hFR:cD1=FR at HF;have hfr:∀ w e w',FR w q e w'->(∃ k:Bool,e=.returned (.bool k)/\(k=true->q.num.size<=2147483647/\q.denom.size<=2147483647/\q.power.size<=2147483647))/\Kept (fun _=>False) w w':=fun w e w' h=>by rw[<- hFR]at h;exact h
 have HFR:=hiD hfr;generalize hQR:cD5=QR at HO;have hqr:∀ w e w',QR w q e w'->(∃(t cn:ByteArray) (p:Option Addr) (n c:Nat) (d:Dm) (k:Bool),e=.returned (.tuple #[.string t,.agg #[.bool d.neg,.slice p n c,.int .i64 d.e],.string cn,.bool k])/\(k=true->OfOk2 q t d)/\∃ b,NsAt w' (.slice p n c) d.ds b)/\Kept (fun _=>False) w w':=fun w e w' h=>by
  rw[<- hQR]at h;obtain⟨⟨t,cn,p,n,c,d,k,h1,h2,h3⟩,h4⟩:=h;exact⟨⟨t,cn,p,n,c,d,k,h1,h2,h3⟩,h4⟩
 have HQR:=hiD hqr;obtain⟨neg,hneg⟩:∃ neg,neg=(q.sign==2):=⟨_,rfl⟩;obtain⟨N,hN⟩:∃ N,N=qN q:=⟨_,rfl⟩;obtain⟨E,hE⟩:∃ E,E=qE q:=⟨_,rfl⟩;obtain⟨ev,hev0⟩:∃ ev,w.cell? ⟨0,0,none⟩=some ev:=by
  obtain⟨⟨a,b,c,h1⟩,_⟩:=hg;exact⟨_,h1.g0⟩
 obtain⟨ae,heof⟩:=hg.2.1;have HOKD:Hid (∀ t d,OfOk2 q t d->d=nd neg N E/\DmB d 130 330):=fun t d h=>by
  have:=h.means;rw[hneg,hN,hE];exact⟨this,by rw[this];exact bX2 q h.right h.size h.pow⟩
 have HSW:Hid (∀ t d,OfOk2 q t d -> -9<=sc/\sc<=18->(N=0\/neg=false)->clN N E sc<=9223372036854775807->∀ w',Kept (fun _=>False) w w'->Calls prog 20 #[.string t,.int .i64 sc] w' (N2 w' ((clN N E sc:Nat):Int))):=fun t d h hc h1 h2 w' hk=>by
  rw[hN,hE]at h2 ⊢;exact cE4 h sc hc (by rw[<- hN,<- hneg];exact h1) h2 w' ev ae (aB8 hk hev0) (heof.kept hk (fun f=>f)) (hgt.old hk)
 have HIW:Hid (∀ t d,OfOk2 q t d->∀ w',Kept (fun _=>False) w w'->Calls prog 21 #[.string t] w' (N3 w' (fun c=>intD (nd neg N E)=(c,true)))):=fun t d h w' hk=>by
  rw[hneg,hN,hE];exact dK1 h w' ev ae (aB8 hk hev0) (heof.kept hk (fun f=>f)) (hgt.old hk)
 clear hqr hfr hg hgt hFR hQR hneg hN hE hev0 heof;generalize OfOk2 q=OO at *;obtain⟨sg,nm,dt,dn,kd,pl,up,ps,pw⟩:=q;simp only[QW.cells]at *;generalize hW:w.alloc (.cells #[.int .i64 sg,.string nm,.bool dt,.string dn,.int .i64 kd,.int .i64 pl,.bool up,.int .i64 ps,.string pw] 23)=W at *;have B1:=hiD b1;have K0:=hiD k0;obtain⟨c0,c1,c2,c3,c4,c5,c6,c7,c8⟩:=cell9 b1;have HSC:=hiD hsc;clear b1 k0 hsc;go_enter func5,ntmps5;go_wp2_with fail;refine(HF.out _).mono ?_;intro e w2 hr;obtain⟨⟨k,rfl,hk⟩,hk2⟩:=HFR.out _ _ _ hr;have G1:=hiD (hk2.at B1.out (fun f=>f));have K2:=hiD (K0.out.same hk2);have HK:=hiD hk;clear hr hk hk2 c0 c1 c2 c3 c4 c5 c6 c7 c8 hW;cases k
 ·go_wp2_with fail;go_ret;exact⟨rfl,K2.out⟩
 have HFT:=hiD (HK.out rfl);obtain⟨c0,c1,c2,c3,c4,c5,c6,c7,c8⟩:=cell9 G1.out;clear HK;go_wp2_with fail;refine(HO.out HFT.out _).mono ?_;intro e w5 hr;obtain⟨⟨t,cn,p,n,c,d,k,rfl,hk,b,hns⟩,hk5⟩:=HQR.out _ _ _ hr;have K5:=hiD (K2.out.same hk5);have k6:Kept (fun _=>False) w (w5.alloc (.cells #[.bool d.neg,.slice p n c,.int .i64 d.e] 30)):=K5.out.alloc _;have ka:Kept (fun _=>False) w5 (w5.alloc (.cells #[.bool d.neg,.slice p n c,.int .i64 d.e] 30)):=(Kept.refl _ _).alloc _;have b6:=aA0 w5 (.cells #[.bool d.neg,.slice p n c,.int .i64 d.e] 30);have hda:DmAt (w5.alloc (.cells #[.bool d.neg,.slice p n c,.int .i64 d.e] 30)) (.agg #[.bool d.neg,.slice p n c,.int .i64 d.e]) d:=⟨_,b,rfl,hns.old ka⟩;generalize hA:w5.heap.size=A at *;generalize hW6:w5.alloc (.cells #[.bool d.neg,.slice p n c,.int .i64 d.e] 30)=w6 at *;have K6:=hiD k6;have A6:=hiD b6;have D6:=hiD hda;have HOK:=hiD hk;clear hr hk hk5 k6 ka b6 hda hns c0 c1 c2 c3 c4 c5 c6 c7 c8;cases k
 ·go_wp2_with fail;go_ret;exact⟨rfl,K6.out⟩
 have HOO:=hiD (HOK.out rfl);clear HOK;by_cases h1:sc < -9
 ·have q1:decide (sc < -9)=true:=decT h1;clear h1;go_wp2_with fail;go_ret;exact⟨rfl,K6.out⟩
 by_cases h2:18<sc
 ·have q1:decide (sc < -9)=false:=decF h1;have q2:decide (18<sc)=true:=decT h2;clear h1 h2;go_wp2_with fail;go_ret;exact⟨rfl,K6.out⟩
 have q1:decide (sc < -9)=false:=decF h1;have q2:decide (18<sc)=false:=decF h2;have HR:Hid (-9<=sc/\sc<=18):=by show _/\_;omega
 have hdb:=(HOKD.out _ _ HOO.out);obtain⟨hdd,hdb⟩:=hdb;obtain⟨hd1,hd2,hd3,hd4⟩:=id hdb;have HUP:Hid (Calls prog 16 #[.agg #[.bool d.neg,.slice p n c,.int .i64 d.e],.int .i64 sc] w6 (fun e w'=>∃ u k,e=.returned (.tuple #[u,.bool k])/\DmAt w' u (upD (nd neg N E) sc)/\Kept (fun _=>False) w6 w')):=by
  have:=bR1 _ d sc w6 D6.out (by omega) hd1 (by omega) (by omega);rw[hdd]at this ⊢;exact this
 rw[hdd]at hdb;have HDB:=hiD hdb;have HOF:Hid (∀ w,Calls prog 14 #[.int .i64 1,.int .i64 (wrap64 (-sc))] w (DmRes w (nd false 1 (-sc)))):=fun w=>by
  rw[show wrap64 (-sc) = -sc by unfold wrap64;omega];exact of_r 1 (-sc) (by omega) (by omega) (by omega) w
 have HTT:Hid (∀ w v1 v2,DmAt w v1 (upD (nd neg N E) sc)->DmAt w v2 (nd false 1 (-sc))->Calls prog 18 #[v1,v2] w (DmRes w (nd neg (clN N E sc) 0))):=fun w v1 v2 h1 h2=>dK2 hdb sc (by omega) w v1 v2 h1 h2;have hb3:=cP5 hdb sc (by omega);have HDI:Hid (∀ w v,DmAt w v (nd neg (clN N E sc) 0)->Calls prog 17 #[v] w (cD4 w (intD (nd neg (clN N E sc) 0)).1 (intD (nd neg (clN N E sc) 0)).2)):=fun w v h=>aN8 v _ w h hb3.1 hb3.2.1 hb3.2.2
 have HDA:Hid (∀ w',Kept (fun _=>False) w6 w'->Calls prog 17 #[.agg #[.bool d.neg,.slice p n c,.int .i64 d.e]] w' (cD4 w' (intD (nd neg N E)).1 (intD (nd neg N E)).2)):=fun w' hk=>by
  have h:=D6.out.old hk;have:=aN8 _ d w' h (by omega) hd1 (by omega);rw[hdd]at this ⊢;exact this
 have HSG:Hid (∀ w',Kept (fun _=>False) w6 w'->Calls prog 19 #[.agg #[.bool d.neg,.slice p n c,.int .i64 d.e]] w' fun e w''=>e=.returned (.int .i64 (sgnD (nd neg N E)))/\Kept (fun _=>False) w' w''):=fun w' hk=>by
  have:=aM2 _ d w' (D6.out.old hk);rw[hdd]at this ⊢;exact this
 have HWN:Hid ((intD (nd neg (clN N E sc) 0)).2=true->0<=sgnD (nd neg N E)->(N=0\/neg=false)/\clN N E sc<=9223372036854775807/\(intD (nd neg (clN N E sc) 0)).1=((clN N E sc:Nat):Int)):=fun h1 h2=>dV6 h1 h2
 generalize intD (nd neg (clN N E sc) 0)=WI at *;generalize clN N E sc=C at *;generalize nd neg C 0=D10 at *;generalize nd false 1 (-sc)=D9 at *;generalize upD (nd neg N E) sc=DU at *;generalize sgnD (nd neg N E)=SG at *;generalize intD (nd neg N E)=IW at *;have HIW2:Hid (∀ w',Kept (fun _=>False) w w'->Calls prog 21 #[.string t] w' (N3 w' (fun c=>IW=(c,true)))):=fun w' hk=>HIW.out t d HOO.out w' hk
 have HSW2:Hid ((N=0\/neg=false)->C<=9223372036854775807->∀ w',Kept (fun _=>False) w w'->Calls prog 20 #[.string t,.int .i64 sc] w' (N2 w' (C:Int))):=fun h1 h2 w' hk=>HSW.out t d HOO.out HR.out h1 h2 w' hk
 obtain⟨wn,wb⟩:=WI;obtain⟨iwn,iwb⟩:=IW;generalize d.neg=dng at *;generalize d.e=dne at *;obtain⟨a0,a1,a2⟩:=cells3 A6.out;have HW6:=hiD hW6;have HA:=hiD hA;clear h1 h2 hdd hdb hd1 hd2 hd3 hd4 hb3 HOKD HSW HIW HO HF HFR HQR hA hW6;go_wp2_with fail;rw[HW6.out,HA.out];refine HUP.out.mono ?_;rintro e w7 ⟨v7,k7,rfl,hv7,hk⟩;have A7:=hiD (hk.at A6.out (fun f=>f));have K7:=hiD (K6.out.same hk);have L7:=hiD hk;obtain⟨pu,nu,cu,bu,rfl,hsu⟩:=hv7.shape;generalize hun:DU.neg=un at *;generalize hue:DU.e=ue at *;have k8:Kept (fun _=>False) w7 (w7.alloc (.cells #[.bool un,.slice pu nu cu,.int .i64 ue] 30)):=(Kept.refl _ _).alloc _;have u8:=aA0 w7 (.cells #[.bool un,.slice pu nu cu,.int .i64 ue] 30);have hu8:=hv7.old k8;generalize hU:w7.heap.size=U at *;have A8:=hiD (k8.at A7.out (fun f=>f));have K8:=hiD (K7.out.same k8);have L8:=hiD (L7.out.same k8);generalize hW8:w7.alloc (.cells #[.bool un,.slice pu nu cu,.int .i64 ue] 30)=w8 at *;have U8:=hiD u8;have HU8:=hiD hu8;have HW8:=hiD hW8;have HU:=hiD hU;clear hk hv7 hsu k8 u8 hu8 a0 a1 a2 hun hue hW8 hU;obtain⟨x0,x1,x2⟩:=cells3 U8.out;go_wp2_with fail;rw[HW8.out,HU.out];refine start_ (n:=11) (S:=fun w'=>w'.cell? ⟨U,0,none⟩=some (.bool un)/\w'.cell? ⟨U,1,none⟩=some (.slice pu nu cu)/\w'.cell? ⟨U,2,none⟩=some (.int .i64 ue)) (ds:=[]) #[false,false,false,false,false,false,false,false,false,false,false] (by kernel_rfl) rfl rfl ⟨x0,x1,x2⟩ (fun hHeld=>?_);refine rgp 1 48 ?_;refine rgp 2 49 ?_;refine rgt 0 47 hHeld ?_;refine one_ (i:=3) (N:=some 50) #[true,true,true,true,false,false,false,false,false,false,false] rfl rfl (by kernel_rfl) (by decide) (fun K hK=>?_);refine goes_ func14 (by kernel_rfl) rfl #[.int .i64 1,.int .i64 (wrap64 (-sc))] (by rfl) rfl rfl (by simp only[List.map_toArray,List.map_cons,List.map_nil];rfl) ?_;with_reducible refine(HOF.out _).mono ?_
 rintro e w9 ⟨v9,rfl,hv9,hk⟩;have K9:=hiD (K8.out.drew.same hk);have U9:=hiD (hk.at U8.out (fun f=>f));have HU9:=hiD (HU8.out.old ((Kept.refl _ w8).drew.same hk));have L9:=hiD (L8.out.drew.same hk);obtain⟨x0,x1,x2⟩:=cells3 U9.out;have V9:=hiD hv9;obtain⟨p9,n9,c9,b9,rfl,hs9⟩:=hv9.shape;clear hk hv9 hs9;refine⟨_,rfl,?_⟩;refine hK.out _ _ ⟨x0,x1,x2⟩ (fun hHeld=>?_);clear hK K;refine rgn 50 ?_;refine one_ (i:=4) (N:=some 51) #[true,true,true,true,true,false,false,false,false,false,false] rfl rfl (by kernel_rfl) (by decide) (fun K hK=>?_);refine goes_ func18 (by kernel_rfl) rfl #[.agg #[.bool un,.slice pu nu cu,.int .i64 ue],.agg #[.bool D9.neg,.slice p9 n9 c9,.int .i64 D9.e]] (by rfl) rfl rfl (by simp only[List.map_toArray,List.map_cons,List.map_nil];rfl) ?_;with_reducible refine(HTT.out _ _ _ HU9.out V9.out).mono ?_
 rintro e w10 ⟨v10,rfl,hv10,hk⟩;have K10:=hiD (K9.out.same hk);have L10:=hiD (L9.out.same hk);have U10:=hiD (hk.at U9.out (fun f=>f));obtain⟨x0,x1,x2⟩:=cells3 U10.out;have V10:=hiD hv10;obtain⟨p10,n10,c10,b10,rfl,hs10⟩:=hv10.shape;clear hk hv10 hs10;refine⟨_,rfl,?_⟩;refine hK.out _ _ ⟨x0,x1,x2⟩ (fun hHeld=>?_);clear hK K;refine rgn 51 ?_;refine one_ (i:=5) (N:=some 52) #[true,true,true,true,true,true,false,false,false,false,false] rfl rfl (by kernel_rfl) (by decide) (fun K hK=>?_);refine goes_ func17 (by kernel_rfl) rfl #[.agg #[.bool D10.neg,.slice p10 n10 c10,.int .i64 D10.e]] (by rfl) rfl rfl (by simp only[List.map_toArray,List.map_cons,List.map_nil];rfl) ?_;with_reducible refine(HDI.out _ _ V10.out).mono ?_
 rintro e w11 ⟨rfl,hk⟩;have K11:=hiD (K10.out.same hk);have L11:=hiD (L10.out.same hk);have U11:=hiD (hk.at U10.out (fun f=>f));obtain⟨x0,x1,x2⟩:=cells3 U11.out;clear hk;refine⟨_,rfl,?_⟩;refine hK.out _ _ ⟨x0,x1,x2⟩ (fun hHeld=>?_);clear hK K;refine rgn 52 ?_;refine rgp 6 46 ?_;refine rgp 7 53 ?_;refine rgp 8 54 ?_;refine rgp 9 11 ?_;refine rgp 10 12 ?_;refine done_ (by kernel_rfl) ?_
 cases wb
 ·go_wp2_with fail;obtain⟨y0,y1,y2⟩:=cells3 (L11.out.at A6.out (fun f=>f));refine(HIW2.out w11 K11.out).mono ?_;rintro e wy ⟨⟨c',k',rfl,hc⟩,hk⟩;have KY:=hiD (K11.out.same hk);have LY:=hiD (L11.out.same hk);have HCC:=hiD hc;clear hk hc y0 y1 y2;obtain⟨y0,y1,y2⟩:=cells3 (LY.out.at A6.out (fun f=>f));go_wp2_with fail;refine(HDA.out wy LY.out).mono ?_;rintro e wz ⟨rfl,hk⟩;have KZ:=hiD (KY.out.same hk);clear hk;cases k'
  ·go_wp2_with fail;refine((HG.out.kept KZ.out).awake).mono ?_;rintro e w14 ⟨rfl,hk⟩;have K14:=hiD (KZ.out.same hk);clear hk;go_wp2_with fail;go_ret;exact⟨rfl,K14.out⟩
  ·have hcc:=HCC.out rfl;injection hcc with e1 e2;subst e1 e2;go_wp2_with fail;refine((HG.out.kept KZ.out).awake).mono ?_;rintro e w14 ⟨rfl,hk⟩;have K14:=hiD (KZ.out.same hk);clear hk;go_wp2_with fail;go_ret;exact⟨rfl,K14.out⟩
 ·obtain⟨y0,y1,y2⟩:=cells3 (L11.out.at A6.out (fun f=>f));go_wp2_with fail;refine(HSG.out w11 L11.out).mono ?_;rintro e w12 ⟨rfl,hk⟩;have K12:=hiD (K11.out.same hk);have L12:=hiD (L11.out.same hk);clear hk y0 y1 y2;by_cases hs:0<=SG
  ·obtain⟨h1,h2,h3⟩:=HWN.out (by trivial) hs;have h3:wn=(C:Int):=h3;subst h3;have q3:decide (0<=SG)=true:=decT hs;have HC20:=hiD (HSW2.out h1 h2 w12 K12.out);clear hs h1 h2;go_wp2_with fail;refine HC20.out.mono ?_;rintro e w13 ⟨rfl,hk⟩;have K13:=hiD (K12.out.same hk);have L13:=hiD (L12.out.same hk);clear hk;go_wp2_with fail;obtain⟨y0,y1,y2⟩:=cells3 (L13.out.at A6.out (fun f=>f));refine(HIW2.out w13 K13.out).mono ?_;rintro e wy ⟨⟨c',k',rfl,hc⟩,hk⟩;have KY:=hiD (K13.out.same hk);have LY:=hiD (L13.out.same hk);have HCC:=hiD hc;clear hk hc y0 y1 y2;obtain⟨y0,y1,y2⟩:=cells3 (LY.out.at A6.out (fun f=>f));go_wp2_with fail;refine(HDA.out wy LY.out).mono ?_;rintro e wz ⟨rfl,hk⟩;have KZ:=hiD (KY.out.same hk);clear hk;cases k'
   ·go_wp2_with fail;refine((HG.out.kept KZ.out).awake).mono ?_;rintro e w14 ⟨rfl,hk⟩;have K14:=hiD (KZ.out.same hk);clear hk;go_wp2_with fail;go_ret;exact⟨rfl,K14.out⟩
   ·have hcc:=HCC.out rfl;injection hcc with e1 e2;subst e1 e2;go_wp2_with fail;refine((HG.out.kept KZ.out).awake).mono ?_;rintro e w14 ⟨rfl,hk⟩;have K14:=hiD (KZ.out.same hk);clear hk;go_wp2_with fail;go_ret;exact⟨rfl,K14.out⟩
  ·have q3:decide (0<=SG)=false:=decF hs;clear hs;go_wp2_with fail;obtain⟨y0,y1,y2⟩:=cells3 (L12.out.at A6.out (fun f=>f));refine(HIW2.out w12 K12.out).mono ?_;rintro e wy ⟨⟨c',k',rfl,hc⟩,hk⟩;have KY:=hiD (K12.out.same hk);have LY:=hiD (L12.out.same hk);have HCC:=hiD hc;clear hk hc y0 y1 y2;obtain⟨y0,y1,y2⟩:=cells3 (LY.out.at A6.out (fun f=>f));go_wp2_with fail;refine(HDA.out wy LY.out).mono ?_;rintro e wz ⟨rfl,hk⟩;have KZ:=hiD (KY.out.same hk);clear hk;cases k'
   ·go_wp2_with fail;refine((HG.out.kept KZ.out).awake).mono ?_;rintro e w14 ⟨rfl,hk⟩;have K14:=hiD (KZ.out.same hk);clear hk;go_wp2_with fail;go_ret;exact⟨rfl,K14.out⟩
   ·have hcc:=HCC.out rfl;injection hcc with e1 e2;subst e1 e2;go_wp2_with fail;refine((HG.out.kept KZ.out).awake).mono ?_;rintro e w14 ⟨rfl,hk⟩;have K14:=hiD (KZ.out.same hk);clear hk;go_wp2_with fail;go_ret;exact⟨rfl,K14.out⟩
end
section
open Go.ChangeShapes Go.WideShapes Go.ChangeAt Go.RowKit
theorem Tryz.star : "*" ++ "errors.errorString" = "*errors.errorString" := by decide
theorem Tryz.row257(u:TypeId)(h:prog.typeName? 3 u=some "*errors.errorString"):u=257 :=
 typeName_ptr_named (nm := "errors.errorString") (by rw[Tryz.star];kernel_rfl) (by kernel_rfl) (by decide) u (by rw[Tryz.star];exact h)
theorem Tryz.cells259:prog.cellsOf 259=1:=by kernel_rfl
theorem Tryz.cells9:prog.cellsOf 9=1:=by kernel_rfl
theorem Tryz.cells3:prog.cellsOf 3=1:=by kernel_rfl
theorem Tryz.gFormat:prog.globalNamed "pub-stockroom/pub/apimachinery/pkg/api/resource.ErrFormatWrong" = some 0:=by kernel_rfl
theorem Tryz.gSuffix:prog.globalNamed "pub-stockroom/pub/apimachinery/pkg/api/resource.ErrSuffix" = some 1:=by kernel_rfl
theorem Tryz.gNumeric:prog.globalNamed "pub-stockroom/pub/apimachinery/pkg/api/resource.ErrNumeric" = some 2:=by kernel_rfl
theorem Tryz.gEof:prog.globalNamed "io.EOF" = some 3:=by kernel_rfl
theorem Tryz.gSyntax:prog.globalNamed "strconv.ErrSyntax" = some 8:=by kernel_rfl
theorem Tryz.gLeaf:prog.globalNamed "pub-stockroom/pub/bigall.leafSize" = some 19:=by kernel_rfl
theorem Tryz.tFormat:(prog.globals[0]?).map (·.type)=some 68:=by kernel_rfl
theorem Tryz.tSuffix:(prog.globals[1]?).map (·.type)=some 68:=by kernel_rfl
theorem Tryz.tNumeric:(prog.globals[2]?).map (·.type)=some 68:=by kernel_rfl
theorem Tryz.tEof:(prog.globals[3]?).map (·.type)=some 68:=by kernel_rfl
theorem Tryz.tSyntax:(prog.globals[8]?).map (·.type)=some 68:=by kernel_rfl
theorem Tryz.tLeaf:(prog.globals[19]?).map (·.type)=some 3:=by kernel_rfl
theorem bD4{n:String}{text:List UInt8}{r:List (String×DataW Unit)}{W:World}{g:Nat}(h:laidMet prog ((n,.iface "*errors.errorString" (.ptr (.agg [.lit (.string text)])))::r) W)(hg:prog.globalNamed n=some g)(ht:(prog.globals[g]?).map (·.type)=some 68):∃ a,W.cell? ⟨g,0,none⟩=some (.iface 257 (.pointer (some a))):=by
 obtain⟨a,s,hv,-⟩:=laid_sentinel h hg ht underlying68 Tryz.row257 underlying257 underlying259 rfl rfl underlying9 Tryz.cells259 Tryz.cells9;exact⟨a,by simpa using World.var?_cell hg hv 0⟩
theorem bJ0{n:String}{k:Int}{r:List (String×DataW Unit)}{W:World}{g:Nat}(h:laidMet prog ((n,.lit (.int .i64 k))::r) W)(hg:prog.globalNamed n=some g)(ht:(prog.globals[g]?).map (·.type)=some 3):W.cell? ⟨g,0,none⟩=some (.int .i64 k):=by
 obtain⟨ps,⟨g0,t0,cs0,f0,p0,q0,hg0,ht0,hv0,hd0,_,e0⟩,_,_⟩:=h;obtain rfl:=Option.some.inj (hg.symm.trans hg0);obtain rfl:=Option.some.inj (ht.symm.trans ht0);obtain⟨l0⟩:=cs0;obtain⟨k',e1,e2,_⟩:=DataW.trod_int underlying3 hd0;have hk:k'=k:=by rw[Prod.mk.injEq]at e2;simpa using e2.1.symm
 subst hk;have:=World.var?_cell hg0 hv0 0;subst e1
 simpa using this
theorem bJ1{n0 n1 n2:String}{x0 x1 x2:List UInt8}{r:List (String×DataW Unit)}{W:World}{g0' g1' g2':Nat}(h:laidMet prog ((n0,.iface "*errors.errorString" (.ptr (.agg [.lit (.string x0)])))::(n1,.iface "*errors.errorString" (.ptr (.agg [.lit (.string x1)])))::(n2,.iface "*errors.errorString" (.ptr (.agg [.lit (.string x2)])))::r) W)(gn0:prog.globalNamed n0=some g0')(tn0:(prog.globals[g0']?).map (·.type)=some 68)(gn1:prog.globalNamed n1=some g1')(tn1:(prog.globals[g1']?).map (·.type)=some 68)(gn2:prog.globalNamed n2=some g2')(tn2:(prog.globals[g2']?).map (·.type)=some 68):
  ∃ a0 a1 a2:Addr,W.cell? ⟨g0',0,none⟩=some (.iface 257 (.pointer (some a0)))/\W.cell? ⟨g1',0,none⟩=some (.iface 257 (.pointer (some a1)))/\W.cell? ⟨g2',0,none⟩=some (.iface 257 (.pointer (some a2))) /\
   (∃ c t,W.heap[a0.block]? = some (.cells c t (0,0)))/\(∃ c t,W.heap[a1.block]? = some (.cells c t (0,0)))/\(∃ c t,W.heap[a2.block]? = some (.cells c t (0,0)))/\a0≠a1/\a0≠a2/\a1≠a2:=by
 obtain⟨ps,⟨g0,t0,cs0,f0,p0,q0,hg0,ht0,hv0,hd0,⟨g1,t1,cs1,f1,p1,q1,hg1,ht1,hv1,hd1,⟨g2,t2,cs2,f2,p2,q2,hg2,ht2,hv2,hd2,_,e2⟩,e1⟩,e0⟩,hnd,hrows⟩:=h;obtain rfl:=Option.some.inj (gn0.symm.trans hg0);obtain rfl:=Option.some.inj (gn1.symm.trans hg1);obtain rfl:=Option.some.inj (gn2.symm.trans hg2);obtain rfl:=Option.some.inj (tn0.symm.trans ht0);obtain rfl:=Option.some.inj (tn1.symm.trans ht1);obtain rfl:=Option.some.inj (tn2.symm.trans ht2);subst e2;subst e1;subst e0;obtain⟨l0⟩:=cs0;obtain⟨l1⟩:=cs1;obtain⟨l2⟩:=cs2;have ok0:∀ u v,l0=[.iface u v]->Value.okWide prog W .any 0 u v:=fun u v e=>by
  subst e;exact(hrows g0' 0 (by simp[MemPlace.row])).2 u v (by simpa using World.var?_cell hg0 hv0 0)
 have ok1:∀ u v,l1=[.iface u v]->Value.okWide prog W .any 0 u v:=fun u v e=>by
  subst e;exact(hrows g1' 0 (by simp[MemPlace.row])).2 u v (by simpa using World.var?_cell hg1 hv1 0)
 have ok2:∀ u v,l2=[.iface u v]->Value.okWide prog W .any 0 u v:=fun u v e=>by
  subst e;exact(hrows g2' 0 (by simp[MemPlace.row])).2 u v (by simpa using World.var?_cell hg2 hv2 0)
 obtain⟨a0,s0,rfl,hc0,hs0,hz0,rfl⟩:=errorString_of_trod underlying68 Tryz.row257 underlying257 underlying259 rfl rfl underlying9 Tryz.cells259 Tryz.cells9 hd0 ok0;obtain⟨a1,s1,rfl,hc1,hs1,hz1,rfl⟩:=errorString_of_trod underlying68 Tryz.row257 underlying257 underlying259 rfl rfl underlying9 Tryz.cells259 Tryz.cells9 hd1 ok1;obtain⟨a2,s2,rfl,hc2,hs2,hz2,rfl⟩:=errorString_of_trod underlying68 Tryz.row257 underlying257 underlying259 rfl rfl underlying9 Tryz.cells259 Tryz.cells9 hd2 ok2;obtain⟨c0,t0,hb0⟩:=(hrows a0.block a0.off (by simp[MemPlace.row])).1;obtain⟨c1,t1,hb1⟩:=(hrows a1.block a1.off (by simp[MemPlace.row])).1;obtain⟨c2,t2,hb2⟩:=(hrows a2.block a2.off (by simp[MemPlace.row])).1;refine⟨a0,a1,a2,by simpa using World.var?_cell gn0 hv0 0,by simpa using World.var?_cell gn1 hv1 0,by simpa using World.var?_cell gn2 hv2 0,⟨c0,t0,hb0⟩,⟨c1,t1,hb1⟩,⟨c2,t2,hb2⟩,?_,?_,?_⟩
 ·rintro rfl;simp[MemPlace.row]at hnd
 ·rintro rfl;simp[MemPlace.row]at hnd
 ·rintro rfl;simp[MemPlace.row]at hnd
theorem dK3{W:World}(h5:∃ a,W.cell? ⟨8,0,none⟩=some (.iface 257 (.pointer (some a))))(h6:∃ a,W.cell? ⟨3,0,none⟩=some (.iface 257 (.pointer (some a))))(h9:W.cell? ⟨19,0,none⟩=some (.int .i64 8))(h14:∃ a0 a1 a2:Addr,W.cell? ⟨0,0,none⟩=some (.iface 257 (.pointer (some a0)))/\W.cell? ⟨2,0,none⟩=some (.iface 257 (.pointer (some a1)))/\W.cell? ⟨1,0,none⟩=some (.iface 257 (.pointer (some a2))) /\
   (∃ c t,W.heap[a0.block]? = some (.cells c t (0,0)))/\(∃ c t,W.heap[a1.block]? = some (.cells c t (0,0)))/\(∃ c t,W.heap[a2.block]? = some (.cells c t (0,0)))/\a0≠a1/\a0≠a2/\a1≠a2):Globs W:=by
 obtain⟨a0,a1,a2,c0,c1,c2,b0,b1,b2,n1,n2,n3⟩:=h14;obtain⟨a5,h5⟩:=h5;obtain⟨a6,h6⟩:=h6;exact⟨⟨a0,a2,a1,⟨c0,c2,c1,b0,b2,b1,n2,n1,n3.symm⟩⟩,⟨a6,h6⟩,h9,257,_,h5⟩
end
section
open Go.ChangeShapes Go.WideShapes Go.ChangeAt Go.RowKit
section
open Go.Joins Go.Deep
variable {H:Type} {enc:TypeId×Value → H} {P:Program} {w:World} {base:Nat} {spare:Nat → Bool} {held:Bool}
theorem dA6{r:Reach}{b0:Nat}{t:TypeId}{f0 f1 f2 f3 f4 f5 f6 f7 f8:Field}{v:Value}{d:DataW H}{p:List MemPlace}(hs:P.underlying t=some (.struct #[f0,f1,f2,f3,f4,f5,f6,f7,f8]))(hone:oneCellFields P #[f0,f1,f2,f3,f4,f5,f6,f7,f8]=true)(hC:P.cellsOf t=9)(hv:Value.okWide P w r b0 t v)(h:DataW.Trod enc P w base spare held t v d p):
  ∃(v0 v1 v2 v3 v4 v5 v6 v7 v8:Value) (y0 y1 y2 y3 y4 y5 y6 y7 y8:DataW H×List MemPlace) (n:Nat),v=.agg #[v0,v1,v2,v3,v4,v5,v6,v7,v8] /\
   DataW.trod enc P w base spare held n f0.type [v0]=some y0/\DataW.trod enc P w base spare held n f1.type [v1]=some y1/\DataW.trod enc P w base spare held n f2.type [v2]=some y2/\DataW.trod enc P w base spare held n f3.type [v3]=some y3/\DataW.trod enc P w base spare held n f4.type [v4]=some y4/\DataW.trod enc P w base spare held n f5.type [v5]=some y5/\DataW.trod enc P w base spare held n f6.type [v6]=some y6/\DataW.trod enc P w base spare held n f7.type [v7]=some y7/\DataW.trod enc P w base spare held n f8.type [v8]=some y8:=by
 obtain⟨cs,rfl,hsz⟩:=okWide_struct hs hv;obtain⟨l⟩:=cs
 match l,hsz.trans hC with
 | [c0,c1,c2,c3,c4,c5,c6,c7,c8],_ =>
  obtain⟨fuel,hf⟩:=h;obtain⟨xs,n,_,hx,_,hlen,hg⟩:=DataW.trod_struct hs hf;obtain⟨o0,k0⟩:=hone_of hone 0 f0 rfl;obtain⟨o1,k1⟩:=hone_of hone 1 f1 rfl;obtain⟨o2,k2⟩:=hone_of hone 2 f2 rfl;obtain⟨o3,k3⟩:=hone_of hone 3 f3 rfl;obtain⟨o4,k4⟩:=hone_of hone 4 f4 rfl;obtain⟨o5,k5⟩:=hone_of hone 5 f5 rfl;obtain⟨o6,k6⟩:=hone_of hone 6 f6 rfl;obtain⟨o7,k7⟩:=hone_of hone 7 f7 rfl;obtain⟨o8,k8⟩:=hone_of hone 8 f8 rfl
  match xs,hlen with
  | [y0,y1,y2,y3,y4,y5,y6,y7,y8],_ =>
   exact⟨c0,c1,c2,c3,c4,c5,c6,c7,c8,y0,y1,y2,y3,y4,y5,y6,y7,y8,n,rfl,by simpa[Value.cells,o0,k0]using hg 0 f0 rfl,by simpa[Value.cells,o1,k1]using hg 1 f1 rfl,by simpa[Value.cells,o2,k2]using hg 2 f2 rfl,by simpa[Value.cells,o3,k3]using hg 3 f3 rfl,by simpa[Value.cells,o4,k4]using hg 4 f4 rfl,by simpa[Value.cells,o5,k5]using hg 5 f5 rfl,by simpa[Value.cells,o6,k6]using hg 6 f6 rfl,by simpa[Value.cells,o7,k7]using hg 7 f7 rfl,by simpa[Value.cells,o8,k8]using hg 8 f8 rfl⟩
end
theorem dA7{H:Type}{enc:TypeId×Value->H}{W:World}{base b0:Nat}{spare:Nat->Bool}{held:Bool}{v:Value}{d:DataW H}{p:List MemPlace}(hv:Value.okWide prog W .any b0 23 v)(h:DataW.Trod enc prog W base spare held 23 v d p):∃ q:QW,v=.agg q.cells:=by
 obtain⟨v0,v1,v2,v3,v4,v5,v6,v7,v8,y0,y1,y2,y3,y4,y5,y6,y7,y8,n,rfl,h0,h1,h2,h3,h4,h5,h6,h7,h8⟩:=dA6 underlying23 (by kernel_rfl) (by kernel_rfl) hv h;obtain⟨a0,e0,-⟩:=DataW.trod_int underlying3 h0;obtain⟨a1,e1,-⟩:=DataW.trod_string underlying9 h1;obtain⟨a2,e2,-⟩:=DataW.trod_bool underlying4 h2;obtain⟨a3,e3,-⟩:=DataW.trod_string underlying9 h3;obtain⟨a4,e4,-⟩:=DataW.trod_int underlying3 h4;obtain⟨a5,e5,-⟩:=DataW.trod_int underlying3 h5;obtain⟨a6,e6,-⟩:=DataW.trod_bool underlying4 h6;obtain⟨a7,e7,-⟩:=DataW.trod_int underlying3 h7;obtain⟨a8,e8,-⟩:=DataW.trod_string underlying9 h8;injection e0 with e0;injection e1 with e1;injection e2 with e2;injection e3 with e3;injection e4 with e4;injection e5 with e5;injection e6 with e6;injection e7 with e7;injection e8 with e8;subst e0 e1 e2 e3 e4 e5 e6 e7 e8;exact⟨⟨a0,a1,a2,a3,a4,a5,a6,a7,a8⟩,rfl⟩
end
section
open Go Go.ChangeShapes Go.WideShapes Go.ChangeAt Go.RowKit
def bJ2{H:Type}(k:FloatKind)(zs:List Nat):DataW H:=.agg (zs.map fun z=>.lit (.float k z))
theorem cP7{H:Type}{enc:TypeId×Value->H}{P:Program}{w:World}{base:Nat}{spare:Nat->Bool}{held:Bool}{fuel:Nat}{t:TypeId}{cs:List Value}{x:DataW H×List MemPlace}{k:FloatKind}(ht:P.underlying t=some (.float k))(h:DataW.trod enc P w base spare held fuel t cs=some x):∃ n,cs=[.float k n]/\x=(.lit (.float k n),[])/\(Lit.float k n).wf=true:=by
 cases fuel with
 | zero=>simp[DataW.trod]at h
 | succ n =>
  unfold DataW.trod at h;rw[ht]at h;split at h<;>simp_all
theorem bY1{H:Type}{enc:TypeId×Value->H}{P:Program}{w:World}{base:Nat}{sp:Nat->Bool}{held:Bool}{fuel:Nat}{t e:TypeId}{n:Nat}{k:FloatKind}{cs:List Value}{zs:List Nat}{p:List MemPlace}(ht:P.underlying t=some (.array n e))(he:P.underlying e=some (.float k))(hce:P.cellsOf e=1)(hct:P.cellsOf t=n)(h:DataW.trod enc P w base sp held fuel t cs=some (bJ2 k zs,p)):cs=zs.map fun z=>Value.float k z:=by
 cases fuel with
 | zero=>simp[DataW.trod]at h
 | succ fuel =>
  simp only[DataW.trod,ht,hce,hct,Nat.mul_one]at h;split at h
  ·rename_i hl;obtain⟨xs,hm,hx⟩:=Option.map_eq_some_iff.1 h;have hxs:xs.map (·.1)=zs.map fun z=>(DataW.lit (.float k z):DataW H):=by
    have:=congrArg Prod.fst hx
    simpa[bJ2]using this
   have hxl:xs.length=n:=by simpa using Lib.mapM_length hm
   have hzl:zs.length=n:=by
    have:=congrArg List.length hxs;simp at this;omega
   apply List.ext_getElem?;intro i;by_cases hi:i<n
   ·obtain⟨b,hb,hf⟩:=Lib.mapM_at hm i i (by simp[hi]);obtain⟨z,hc,rfl,_⟩:=cP7 he hf;have h1:cs[i]? = some (.float k z):=by
     have:=congrArg (·[0]?) hc
     simpa[List.getElem?_take,List.getElem?_drop]using this
    have h2:(xs.map (·.1))[i]? = some (DataW.lit (.float k z):DataW H):=by simp[hb]
    rw[hxs]at h2;simp only[List.getElem?_map,Option.map_eq_some_iff,DataW.lit.injEq,Lit.float.injEq,true_and]at h2;obtain⟨z',hz',rfl⟩:=h2;simp[h1,hz']
   ·rw[List.getElem?_eq_none (by omega),List.getElem?_eq_none (by simp;omega)]
  ·cases h
theorem dA8{name:String}{zs:List Nat}{rest:List (String×DataW Unit)}{W:World}{g:Nat}{t e:TypeId}{n:Nat}(h:laidMet prog ((name,bJ2 .f64 zs)::rest) W)(hg:prog.globalNamed name=some g)(hty:(prog.globals[g]?).map (·.type)=some t)(ht:prog.underlying t=some (.array n e))(he:prog.underlying e=some (.float .f64))(hce:prog.cellsOf e=1)(hct:prog.cellsOf t=n)(i:Nat)(hi:i<zs.length):
  W.cell? ⟨g,i,none⟩=some (.float .f64 (zs.getD i 0)):=by
 obtain⟨ps,⟨g',t',cs,fuel,p,q,hg',ht',hvar,hd,_,_⟩,_⟩:=h;obtain rfl:=Option.some.inj (hg.symm.trans hg');obtain rfl:=Option.some.inj (hty.symm.trans ht');have:=World.var?_cell hg hvar i;rw[<- Array.getElem?_toList,bY1 ht he hce hct hd]at this
 simpa[List.getD,hi]using this
theorem Tryz.gP10:prog.globalNamed "math.pow10tab" = some 6:=by kernel_rfl
theorem Tryz.gP32:prog.globalNamed "math.pow10postab32" = some 5:=by kernel_rfl
theorem Tryz.gBsq:prog.globalNamed "pub-stockroom/pub/bigall.basicSqrThreshold" = some 10:=by kernel_rfl
theorem Tryz.gKsq:prog.globalNamed "pub-stockroom/pub/bigall.karatsubaSqrThreshold" = some 11:=by kernel_rfl
theorem Tryz.gKar:prog.globalNamed "pub-stockroom/pub/bigall.karatsubaThreshold" = some 12:=by kernel_rfl
theorem Tryz.gDrt:prog.globalNamed "pub-stockroom/pub/bigall.divRecursiveThreshold" = some 15:=by kernel_rfl
theorem Tryz.tBsq:(prog.globals[10]?).map (·.type)=some 3:=by kernel_rfl
theorem Tryz.tKsq:(prog.globals[11]?).map (·.type)=some 3:=by kernel_rfl
theorem Tryz.tKar:(prog.globals[12]?).map (·.type)=some 3:=by kernel_rfl
theorem Tryz.tDrt:(prog.globals[15]?).map (·.type)=some 3:=by kernel_rfl
theorem dK4:(Rows.laid_math_pow10tab:DataW Unit)=bJ2 .f64 P10:=by kernel_rfl
theorem dK5:(Rows.laid_math_pow10postab32:DataW Unit)=bJ2 .f64 P32:=by kernel_rfl
theorem bY2{W:World}(h:laidMet prog Rows.fnQuantityScaledRow.laid W):Globs W/\GlobT W:=by
 have h1:=laidMet.tail h;have h2:=laidMet.tail h1;have h3:=laidMet.tail h2;have h4:=laidMet.tail h3;have h5:=laidMet.tail h4;have h6:=laidMet.tail h5;have h7:=laidMet.tail h6;have h8:=laidMet.tail h7;have h9:=laidMet.tail h8;have h10:=laidMet.tail h9;have h11:=laidMet.tail h10;have h12:=laidMet.tail h11;have h13:=laidMet.tail h12;have h14:=laidMet.tail h13;have h15:=laidMet.tail h14;have h16:=laidMet.tail h15;have h17:=laidMet.tail h16;refine⟨dK3 (bD4 h8 Tryz.gSyntax Tryz.tSyntax) (bD4 h9 Tryz.gEof Tryz.tEof) (bJ0 h12 Tryz.gLeaf Tryz.tLeaf) (bJ1 h17 Tryz.gFormat Tryz.tFormat Tryz.gNumeric Tryz.tNumeric Tryz.gSuffix Tryz.tSuffix),?_⟩;rw[dK4]at h4;rw[dK5]at h5;have t10:∃ t,(prog.globals[6]?).map (·.type)=some t/\prog.underlying t=some (.array 32 193)/\prog.cellsOf t=32:=⟨_,rfl,by kernel_rfl,by kernel_rfl⟩;have t32:∃ t,(prog.globals[5]?).map (·.type)=some t/\prog.underlying t=some (.array 10 193)/\prog.cellsOf t=10:=⟨_,rfl,by kernel_rfl,by kernel_rfl⟩;obtain⟨a,a1,a2,a3⟩:=t10;obtain⟨b,b1,b2,b3⟩:=t32;have e1:prog.underlying 193=some (.float .f64):=by kernel_rfl
 have e2:prog.cellsOf 193=1:=by kernel_rfl
 refine⟨⟨⟨bJ0 h14 Tryz.gKar Tryz.tKar,bJ0 h15 Tryz.gBsq Tryz.tBsq,bJ0 h16 Tryz.gKsq Tryz.tKsq⟩,bJ0 h13 Tryz.gDrt Tryz.tDrt⟩,fun i hi=>dA8 h4 Tryz.gP10 a1 a2 e1 e2 a3 i hi,fun i hi=>dA8 h5 Tryz.gP32 b1 b2 e1 e2 b3 i hi⟩
end
section
open Go Go.ChangeShapes Go.WideShapes Go.ChangeAt Go.RowKit
theorem dA9:ownKnob prog.godebug=none:=by kernel_rfl
theorem bA3:laidOutB prog=true:=by kernel_rfl
theorem bY3(os:Os)(started:os.Started)(H:Type)(enc:TypeId×Value->H):
  ReturnsInHanded {} Tryz.checked os 5 .any (fun w args=>(Rows.fnQuantityScaledSpec.pre enc prog Tryz.f5 [] false w args/\laidMetH prog Rows.fnQuantityScaledRow.laid w)/\sizedMet enc prog Tryz.f5 (OpenSpec.ofChange Rows.fnQuantityScaledSpec) false w args)
   (Rows.fnQuantityScaledSpec.post enc prog Tryz.f5 false true false false):=by
 refine returnsInHanded_of_change_and (C:=Tryz.checked) (X:=fun w _=>laidMetH prog Rows.fnQuantityScaledRow.laid w) (fun _ _ _ hh h=>h.of_heap hh) dA9 started (by kernel_rfl) func5
  (ChangeSpec.witness_shaped (enc:=enc) (C:=Tryz.checked) (os:=os) (X:=fun w _=>laidMetH prog Rows.fnQuantityScaledRow.laid w) false (World.laidAll prog os Rows.fnQuantityScaledRow.laid) #[.agg #[.int .i64 0,.string ⟨#[]⟩,.bool false,.string ⟨#[]⟩,.int .i64 0,.int .i64 0,.bool false,.int .i64 0,.string ⟨#[]⟩],.int .i64 0] 8 (World.laidAll_os _ _ _)
   (World.shaped_of_ZipB (by kernel_rfl) (by kernel_rfl)) (by kernel_rfl) (by kernel_rfl) (by kernel_rfl)
   (by rw[MakeChecks.laidMetH_plain _ _ _ (by kernel_rfl)];exact laidMet_laidAll _ (by kernel_rfl) (by kernel_rfl))) ?_
 intro W base args ds gs before hval0 hW _ _ hL _;have hval:∀(j:Nat) t v,Tryz.f5.params[j]? = some t->args[j]? = some v->Value.okWide prog W .any base t v:=hval0;have hW':=hW;have hlt:=hW.lt;obtain⟨p,q,hA0,hV,rfl,_,_⟩:=hW;have hA:DataW.TrodAll enc prog W 0 (fun _=>true) true Tryz.f5.params.toList args.toList ds p:=hA0;rw[Tryz.params5]at hA hval;obtain⟨rfl,rfl⟩:=trodVars_none hV;rw[MakeChecks.laidMetH_plain _ _ _ (by kernel_rfl)]at hL;have hg:=bY2 hL;obtain⟨v0,v1,d0,d1,p0,p1,rfl,rfl,rfl,h0,h1⟩:=trodAll_two hA;have H1:=h1;obtain⟨qw,rfl⟩:=dA7 (hval 0 23 v0 rfl rfl) h0;obtain⟨s,rfl,rfl,rfl,hs⟩:=open_int underlying3 (hval 1 3 v1 rfl rfl) h1;simp only[List.append_nil]at hW' hlt;refine(cP6 qw s W hg.1 hg.2 (bounds_i64 hs)).mono fun e W' ⟨he,hk⟩=>?_
 subst he;have hb:=hk.below;refine⟨_,rfl,_,_,_,[],p0++[],[],hW',trodAll_mk1 (shut_bool underlying4 _),?_,rfl,hb.frame _,fun h=>by cases h⟩;exact trodAll_mk2 (Below.trod bA3 (by kernel_rfl) (of_decide_eq_true (by kernel_rfl)) h0 hb (fun x hx=>hlt x (by simpa using hx))) (Below.trod bA3 (by kernel_rfl) (of_decide_eq_true (by kernel_rfl)) H1 hb (fun x hx=>by cases hx))
end
end Go.Proofs.YtjebnpkebccffaaGreatDoor
