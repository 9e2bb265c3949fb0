import Derived.Test.YtjebnpkebccffaaGreatDoorZStk
set_option linter.unusedSimpArgs false
set_option linter.unusedVariables false
set_option linter.unusedSectionVars false
set_option maxRecDepth 100000
set_option maxHeartbeats 8000000
namespace Go.Proofs.YtjebnpkebccffaaGreatDoor
open Go.RowKit Go.Proofs.Tryz
theorem bO7(k A C:Nat):((wds k A).zip (wds k C)).map (·.1)=wds k A:=List.map_fst_zip (by rw[aA9,aA9];exact Nat.le_refl _)
theorem bO8(k A C:Nat):((wds k A).zip (wds k C)).map (·.2)=wds k C:=List.map_snd_zip (by rw[aA9,aA9];exact Nat.le_refl _)
theorem cV8(k A C:Nat):∀ p∈(wds k A).zip (wds k C),p.1<B64/\p.2<B64:=by
 intro p hp;exact⟨aN3 k A _ (List.of_mem_zip hp).1,aN3 k C _ (List.of_mem_zip hp).2⟩
theorem aT4(k A C:Nat):((wds k A).zip (wds k C)).length=k:=by rw[List.length_zip,aA9,aA9,Nat.min_self]
theorem cV9{k A C:Nat}(hA:A<B64^k)(hC:C<B64^k):vC sbB ((wds k A).zip (wds k C)) 0=(if A<C then 1 else 0)/\vL sbD sbB ((wds k A).zip (wds k C)) 0=wds k (A+(if A<C then B64^k else 0)-C):=by
 have h1:=dR5 _ (cV8 k A C) 0 (by omega);rw[bO7,bO8,aT4,aH6,aH6,Nat.mod_eq_of_lt hA,Nat.mod_eq_of_lt hC,Nat.add_zero]at h1;have h2:vC sbB ((wds k A).zip (wds k C)) 0<=1:=vC_le _ (fun p hp c hc=>aO0 _ _ _) 0 (by omega);have h3:∀ x∈vL sbD sbB ((wds k A).zip (wds k C)) 0,x<B64:=vL_lt (fun x y c=>cQ1 x y c) _ _;have h4:=bF1 h3;rw[bK9,aT4]at h4;have key:vC sbB ((wds k A).zip (wds k C)) 0=(if A<C then 1 else 0):=by
  rcases(show vC sbB ((wds k A).zip (wds k C)) 0=0\/vC sbB ((wds k A).zip (wds k C)) 0=1 by omega)with h|h
  ·rw[h]at h1 ⊢;rw[if_neg (by omega)]
  ·rw[h]at h1 ⊢;rw[if_pos (by omega)]
 refine⟨key,bU1 h3 (by rw[bK9,aT4]) ?_⟩;rw[key]at h1;split
 ·rename_i h;rw[if_pos h]at h1;omega
 ·rename_i h;rw[if_neg h]at h1;omega
theorem cW0{k A C:Nat}(hA:A<B64^k)(hC:C<B64^k):vC adC ((wds k A).zip (wds k C)) 0=(A+C)/B64^k/\vL adS adC ((wds k A).zip (wds k C)) 0=wds k (A+C):=by
 have hp:0<B64^k:=Nat.pow_pos aA6;have h1:=dR4 ((wds k A).zip (wds k C)) 0;rw[bO7,bO8,aT4,aH6,aH6,Nat.mod_eq_of_lt hA,Nat.mod_eq_of_lt hC,Nat.add_zero]at h1;have h3:∀ x∈vL adS adC ((wds k A).zip (wds k C)) 0,x<B64:=vL_lt (fun x y c=>cE7 x y c) _ _;have h4:=bF1 h3;rw[bK9,aT4]at h4;refine⟨?_,?_⟩
 ·rw[<- h1,Nat.add_mul_div_left _ _ hp,Nat.div_eq_of_lt h4,Nat.zero_add]
 ·rw[<- bG6 k (A+C)];refine bU1 h3 (by rw[bK9,aT4]) ?_;rw[<- h1,Nat.add_mul_mod_self_left,Nat.mod_eq_of_lt h4]
theorem cW1{n V q:Nat}(hV:V<B64^n)(hq:q<B64):maC (wds n V) q 0=V*q/B64^n/\maL (wds n V) q 0=wds n (V*q):=by
 have hp:0<B64^n:=Nat.pow_pos aA6;have h1:=dK6 (wds n V) q 0;rw[aA9,aH6,Nat.mod_eq_of_lt hV,Nat.add_zero]at h1;have h3:∀ x∈maL (wds n V) q 0,x<B64:=dK7 _ _ _;have h4:=bF1 h3;rw[aS0,aA9]at h4;refine⟨?_,?_⟩
 ·rw[<- h1,Nat.add_mul_div_left _ _ hp,Nat.div_eq_of_lt h4,Nat.zero_add]
 ·rw[<- bG6 n (V*q)];refine bU1 h3 (by rw[aS0,aA9]) ?_;rw[<- h1,Nat.add_mul_mod_self_left,Nat.mod_eq_of_lt h4]
theorem cI2{w w':World}{b o:Nat}{l:List Nat}{cs:Array Value}{T:TypeId}(h:w.heap[b]? = some (.cells cs T (0,0)))(hd:Drew (aB2 w b o l) w'):Put w b (putC cs o l) T w':=by
 obtain⟨n,rfl⟩:=hd;exact⟨aB9 h o l,(aE6 (Kept.refl (fun i=>i=b) w) b o l (fun _=>rfl)).drewN n⟩
theorem bL0(zb zo zc xc yb yo yc k A C:Nat)(cz cy:Array Value)(Tz Ty:TypeId)(w:World)(hk:k<=100000)(hA:A<B64^k)(hC:C<B64^k)(hz:w.heap[zb]? = some (.cells cz Tz (0,0)))(hzo:zo+k<=cz.size)(hxc:Has cz zo (wds k A))(hy:w.heap[yb]? = some (.cells cy Ty (0,0)))(hyc:Has cy yo (wds k C))(hne:zb≠yb):
  Calls prog 183 #[.slice (some ⟨zb,zo,none⟩) k zc,.slice (some ⟨zb,zo,none⟩) k xc,.slice (some ⟨yb,yo,none⟩) k yc] w fun e w' =>
   e=.returned (.int .u64 (((if A<C then 1 else 0):Nat):Int))/\Put w zb (putC cz zo (wds k (A+(if A<C then B64^k else 0)-C))) Tz w':=by
 obtain⟨s1,s2⟩:=cV9 hA hC;refine(cV7 zb zo zc zb zo xc yb yo yc k ((wds k A).zip (wds k C)) cz cz cy Tz Tz Ty w (aT4 k A C) (by omega) (cV8 k A C) hz hzo hz (by rw[bO7];exact hxc) (fun _=>rfl) hy (by rw[bO8];exact hyc) (fun h=>absurd h hne)).mono ?_;rintro e w' ⟨rfl,hd⟩;rw[s2]at hd;exact⟨by rw[s1],cI2 hz hd⟩
theorem cN5(zb zo zc xc yb yo yc k A C:Nat)(cz cy:Array Value)(Tz Ty:TypeId)(w:World)(hk:k<=100000)(hA:A<B64^k)(hC:C<B64^k)(hz:w.heap[zb]? = some (.cells cz Tz (0,0)))(hzo:zo+k<=cz.size)(hxc:Has cz zo (wds k A))(hy:w.heap[yb]? = some (.cells cy Ty (0,0)))(hyc:Has cy yo (wds k C))(hne:zb≠yb):
  Calls prog 181 #[.slice (some ⟨zb,zo,none⟩) k zc,.slice (some ⟨zb,zo,none⟩) k xc,.slice (some ⟨yb,yo,none⟩) k yc] w fun e w' =>
   e=.returned (.int .u64 (((A+C)/B64^k:Nat):Int))/\Put w zb (putC cz zo (wds k (A+C))) Tz w':=by
 obtain⟨s1,s2⟩:=cW0 hA hC;refine(cV6 zb zo zc zb zo xc yb yo yc k ((wds k A).zip (wds k C)) cz cz cy Tz Tz Ty w (aT4 k A C) (by omega) (cV8 k A C) hz hzo hz (by rw[bO7];exact hxc) (fun _=>rfl) hy (by rw[bO8];exact hyc) (fun h=>absurd h hne)).mono ?_;rintro e w' ⟨rfl,hd⟩;rw[s2]at hd;exact⟨by rw[s1],cI2 hz hd⟩
theorem cB7(zb zo zc xb xo xc n V q:Nat)(cz cx:Array Value)(Tz Tx:TypeId)(w:World)(hn:n<=100000)(hV:V<B64^n)(hq:q<B64)(hz:w.heap[zb]? = some (.cells cz Tz (0,0)))(hzo:zo+n<=cz.size)(hx:w.heap[xb]? = some (.cells cx Tx (0,0)))(hxc:Has cx xo (wds n V))(hsep:zb=xb->xo+n<=zo):
  Calls prog 203 #[.slice (some ⟨zb,zo,none⟩) n zc,.slice (some ⟨xb,xo,none⟩) n xc,.int .u64 (q:Int),.int .u64 0] w fun e w' =>
   e=.returned (.int .u64 ((V*q/B64^n:Nat):Int))/\Put w zb (putC cz zo (wds n (V*q))) Tz w':=by
 obtain⟨s1,s2⟩:=cW1 hV hq;refine(bO6 zb zo zc xb xo xc n (wds n V) q 0 cz cx Tz Tx w (aA9 n V) (by omega) (aN3 n V) hq aA6 hz hzo hx hxc hsep).mono ?_;rintro e w' ⟨rfl,rfl⟩;rw[s2];exact⟨by rw[s1],aB9 hz _ _,aE6 (Kept.refl (fun i=>i=zb) w) zb zo _ (fun _=>rfl)⟩
structure LdMem (w0:World) (ub qb vb vo hb ho n m su sq U V j jq:Nat) (wr:World):Prop where
 u:∃ cu,wr.heap[ub]? = some (.cells cu 165 (0,0))/\cu.size=su/\Has cu 0 (wds (m+n) j)
 q:∃ cq,wr.heap[qb]? = some (.cells cq 165 (0,0))/\cq.size=sq/\∀ t,jq<=t->t<m->cq[t]? = some (.int .u64 ((U/V/B64^t%B64:Nat):Int))
 v:∃ cv,wr.heap[vb]? = some (.cells cv 165 (0,0))/\Has cv vo (wds n V)
 h:∃ ch,wr.heap[hb]? = some (.cells ch 165 (0,0))/\ho+(n+1)<=ch.size
 k:Kept (fun i=>i=ub\/i=qb\/i=hb) w0 wr
structure LdSep (ub qb vb vo hb ho n m su sq:Nat):Prop where
 uq:ub≠qb
 uv:ub≠vb
 uh:ub≠hb
 qv:qb≠vb
 qh:qb≠hb
 vh:hb=vb->vo+n<=ho
 su:m+n<=su
 sq:m<=sq
structure LdNum (U V n m:Nat):Prop where
 bV:V<B64^n
 top:B64<=2*(V/B64^(n-1))
 ne:V/B64^(n-1)≠B64-1
 bU:U<B64^(m+n)
 first:U/B64^(m+n-1)<V/B64^(n-1)
 bn:2<=n/\n<40
 bm:1<=m/\m<=1000
theorem dX9{U V j:Nat}:U/(V*B64^j)=U/V/B64^j:=(Nat.div_div_eq_div_mul _ _ _).symm
theorem aU6{V n:Nat}(hV:B64<=2*(V/B64^(n-1)))(hn:1<=n):B64^n<=V*B64/\0<V:=by
 have hb:=cP8;have h1:1<=V/B64^(n-1):=by omega
 have h2:B64^(n-1)<=V:=by
  have:=Nat.mul_le_mul_right (B64^(n-1)) h1;rw[Nat.one_mul]at this;exact Nat.le_trans this (Nat.div_mul_le_self _ _)
 refine⟨?_,Nat.lt_of_lt_of_le (Nat.pow_pos aA6) h2⟩;obtain⟨k,rfl⟩:∃ k,n=k+1:=⟨n-1,by omega⟩;rw[Nat.pow_succ];exact Nat.mul_le_mul_right _ h2
theorem dF7{ub qb vb vo n m su sq U V p len cap:Nat}{b:Option Addr}{si:Option Nat}{cu cq cv:Array Value}{w:World}(hN:LdNum U V n m)(hst:StkAt w p b len cap si)(hu:w.heap[ub]? = some (.cells cu 165 (0,0)))(hus:cu.size=su)(huc:Has cu 0 (wds (m+n) U))(hsu:m+n<=su)(hq:w.heap[qb]? = some (.cells cq 165 (0,0)))(hqs:cq.size=sq)(hsq:m<=sq)(hv:w.heap[vb]? = some (.cells cv 165 (0,0)))(hvc:Has cv vo (wds n V))(huq:ub≠qb)(huv:ub≠vb)(hqv:qb≠vb)(hup:ub≠p)(hqp:qb≠p)(hvp:vb≠p)(husi:si≠some ub)(hqsi:si≠some qb)(hvsi:si≠some vb)(hub:b≠some ⟨ub,0,none⟩)(hqb:b≠some ⟨qb,0,none⟩)(hvb:b=some ⟨vb,0,none⟩->vo+n<=len){e:Ending}{w2:World}(hres:bH5 w p (n+1) len b si e w2):
  ∃ hb ho hc si',e=.returned (.slice (some ⟨hb,ho,none⟩) (n+1) hc)/\n+1<=hc/\StkM w2 p len si'/\(∀ i,i=ub\/i=qb\/i=hb->i≠p/\si'≠some i) /\
   LdSep ub qb vb vo hb ho n m su sq/\LdMem w2 ub qb vb vo hb ho n m su sq U V (U%(V*B64^(m+1))) (m+1) w2 /\
   Kept (fun i=>i=p\/si=some i\/b=some ⟨i,0,none⟩) w w2/\(b=some ⟨hb,0,none⟩\/w.heap.size<=hb)/\(∀ q,si'=some q->si=some q\/w.heap.size<=q):=by
 obtain⟨r,o,c,cs,b',len',cap',si',rfl,h1,h2,h3,h4,h5,h6,h7,h8,h9,h10,h11⟩:=hres;obtain⟨hVB,hV0⟩:=aU6 hN.top (by have:=hN.bn;omega);have hcur:U%(V*B64^(m+1))=U:=bH6 (U:=U) (V:=V) (m:=m) (n:=n) hN.bU hVB;have lub:=aC5 hu;have lqb:=aC5 hq;have lvb:=aC5 hv;have hru:r≠ub:=by
  rcases h11 with⟨_,k,_⟩|⟨k,_⟩
  ·omega
  ·rintro rfl;exact hub k
 have hrq:r≠qb:=by
  rcases h11 with⟨_,k,_⟩|⟨k,_⟩
  ·omega
  ·rintro rfl;exact hqb k
 have hu2:w2.heap[ub]? = some (.cells cu 165 (0,0)):=by
  rcases h11 with⟨_,_,k⟩|⟨_,_,k,_⟩
  ·exact k.at hu (fun e=>by rcases e with e|e;exact hup e;exact husi e)
  ·exact k.at hu (fun e=>by rcases e with e|e|e;exact hup e;exact husi e;exact hru e.symm)
 have hq2:w2.heap[qb]? = some (.cells cq 165 (0,0)):=by
  rcases h11 with⟨_,_,k⟩|⟨_,_,k,_⟩
  ·exact k.at hq (fun e=>by rcases e with e|e;exact hqp e;exact hqsi e)
  ·exact k.at hq (fun e=>by rcases e with e|e|e;exact hqp e;exact hqsi e;exact hrq e.symm)
 have hvh:r=vb->vo+n<=o:=by
  rintro rfl;rcases h11 with⟨_,k,_⟩|⟨k1,k2,_⟩
  ·omega
  ·rw[k2];exact hvb k1
 have hv2:∃ cv',w2.heap[vb]? = some (.cells cv' 165 (0,0))/\Has cv' vo (wds n V):=by
  by_cases hrv:r=vb
  ·subst hrv;rcases h11 with⟨_,k,_⟩|⟨k1,k2,k3,k4⟩
   ·omega
   ·refine⟨cs,h4,fun i hi=>?_⟩;rw[aA9]at hi;have:=hvb k1;rw[k4 cv hv,Array.getElem?_setIfInBounds,if_neg (by omega)];exact hvc i (by rw[aA9];exact hi)
  ·refine⟨cv,?_,hvc⟩;rcases h11 with⟨_,_,k⟩|⟨_,_,k,_⟩
   ·exact k.at hv (fun e=>by rcases e with e|e;exact hvp e;exact hvsi e)
   ·exact k.at hv (fun e=>by rcases e with e|e|e;exact hvp e;exact hvsi e;exact hrv e.symm)
 refine⟨r,o,c,si',rfl,h1,h5.m h8.1,?_,⟨huq,huv,fun e=>hru e.symm,hqv,fun e=>hrq e.symm,hvh,hsu,hsq⟩,⟨⟨cu,hu2,hus,by rw[hcur];exact huc⟩,⟨cq,hq2,hqs,fun t a c=>by omega⟩,hv2,⟨cs,h4,by omega⟩,Kept.refl _ _⟩,?_,?_,h10⟩
 ·have hsi:∀ i,i<w.heap.size->si≠some i->si'≠some i:=by
   intro i hi hne he;rcases h10 i he with k|k
   ·exact hne k
   ·omega
  rintro i (rfl|rfl|rfl)
  ·exact⟨hup,hsi _ lub husi⟩
  ·exact⟨hqp,hsi _ lqb hqsi⟩
  ·exact⟨h6,h7⟩
 ·rcases h11 with⟨_,_,k⟩|⟨kb,_,k,_⟩
  ·exact k.mono (fun i _ e=>by rcases e with e|e;exact Or.inl e;exact Or.inr (Or.inl e))
  ·exact k.mono (fun i _ e=>by rcases e with e|e|e;exact Or.inl e;exact Or.inr (Or.inl e);exact Or.inr (Or.inr (by rw[e];exact kb)))
 ·rcases h11 with⟨_,k,_⟩|⟨kb,_⟩
  ·exact Or.inr k
  ·exact Or.inl kb
theorem cW2(d:Nat)(h1:9223372036854775808<=d)(h2:d<B64)(hne:d≠B64-1)(w:World):Calls prog 275 #[.int .u64 (d:Int)] w fun e w'=>e=.returned (.int .u64 (rcpN d:Int))/\w=w':=by
 have hB:B64=18446744073709551616:=rfl;obtain⟨s1,s2,s3,s4,s5⟩:=aJ7 (by omega) h2;have hs0:shl64 d=0:=by
  rcases Nat.eq_zero_or_pos (shl64 d)with h|h
  ·exact h
  ·exfalso
   have:d*2^1<=d*2^shl64 d:=Nat.mul_le_mul_left d (Nat.pow_le_pow_right (by omega) h);omega
 exact cH3 d d (by omega) h2 (by rw[hs0,Nat.pow_zero,Nat.mul_one]) hne w
structure LdW (V Y k y2 y1 y0 v1 v0:Nat):Prop where
 e2:y2=Y/B64^(k+2)
 e1:y1=Y/B64^(k+1)%B64
 e0:y0=Y/B64^k%B64
 f1:v1=V/B64^(k+1)
 f0:v0=V/B64^k%B64
theorem LdW.split{V Y k y2 y1 y0 v1 v0:Nat}(h:LdW V Y k y2 y1 y0 v1 v0):Y/B64^(k+1)=y2*B64+y1/\Y/B64^k=(y2*B64+y1)*B64+y0/\V/B64^k=v1*B64+v0/\y1<B64/\y0<B64/\v0<B64:=by
 have h1:=aP3 Y (k+1);have h2:=aP3 Y k;have h3:=aP3 V k;rw[<- h.e2,<- h.e1]at h1;rw[h1,<- h.e0]at h2;rw[<- h.f1,<- h.f0]at h3;exact⟨h1,h2,h3,by rw[h.e1];exact Nat.mod_lt _ aA6,by rw[h.e0];exact Nat.mod_lt _ aA6,by rw[h.f0];exact Nat.mod_lt _ aA6⟩
structure LdG (V Y k y2 y1 y0 v1 v0 q r h l:Nat):Prop where
 qr:q*v1+r=y2*B64+y1
 r:r<B64
 hl:h*B64+l=q*v0
 l:l<B64
 h:h<B64
 up:(y2*B64+y1)*B64+y0<(q+1)*(v1*B64+v0)
 q:q<B64
theorem cW3{V Y k y2 y1 y0 v1 v0:Nat}(hw:LdW V Y k y2 y1 y0 v1 v0)(hlt:y2<v1)(hv1:v1<B64):LdG V Y k y2 y1 y0 v1 v0 ((y2*B64+y1)/v1) ((y2*B64+y1)%v1) (mwH ((y2*B64+y1)/v1) v0 0) (mwL ((y2*B64+y1)/v1) v0 0):=by
 obtain⟨-,-,-,b1,b0,c0⟩:=hw.split;have hd:=Nat.div_add_mod (y2*B64+y1) v1;have hm:=Nat.mod_lt (y2*B64+y1) (show 0<v1 by omega);have hq:(y2*B64+y1)/v1<B64:=by
  rw[Nat.div_lt_iff_lt_mul (by omega)];have:(y2+1)*B64<=v1*B64:=Nat.mul_le_mul_right _ hlt;rw[Nat.add_mul,Nat.one_mul]at this;rw[Nat.mul_comm B64 v1];omega
 have h1:=bK4 ((y2*B64+y1)/v1) v0 0;have h2:=aR5 ((y2*B64+y1)/v1) v0 0;have h3:=cE9 hq c0 (show 0<B64 from aA6);refine⟨by rw[Nat.mul_comm];exact hd,by omega,?_,h2,h3,aY7 (by omega) b0,hq⟩;rw[Nat.mul_comm];omega
theorem dR6{V Y k y2 y1 y0 v1 v0 q r h l:Nat}(hw:LdW V Y k y2 y1 y0 v1 v0)(hg:LdG V Y k y2 y1 y0 v1 v0 q r h l)(hv:B64<=2*v1)(hlt:y2<v1)(hc:¬ r*B64+y0<h*B64+l):Y/V<=q/\q<=Y/V+1/\q<B64:=by
 obtain⟨s1,s2,s3,-⟩:=hw.split;have h1:q*v0<=B64*r+y0:=by rw[<- hg.hl,Nat.mul_comm B64 r];omega
 have h2:=(aT2 (b:=B64) hg.qr).1 h1;have h3:=cU6 h2 hg.up;refine cI1 (V:=V) (Y:=Y) (n:=k) (by rw[<- hw.f1];exact hv) (by rw[<- hw.e2,<- hw.f1];exact hlt) ?_;rw[s2,s3];exact h3
theorem dF8{V Y k y2 y1 y0 v1 v0 q r q' r':Nat}(hw:LdW V Y k y2 y1 y0 v1 v0)(hv:B64<=2*v1)(hlt:y2<v1)(hqr:q'*v1+r'=y2*B64+y1)(hr:B64<=r')(hup:(y2*B64+y1)*B64+y0<(q'+1)*(v1*B64+v0)):Y/V<=q'/\q'<=Y/V+1/\q'<B64:=by
 obtain⟨s1,s2,s3,b1,b0,c0⟩:=hw.split;have hN1:y2*B64+y1<v1*B64+v0:=by
  have:(y2+1)*B64<=v1*B64:=Nat.mul_le_mul_right _ hlt;rw[Nat.add_mul,Nat.one_mul]at this;omega
 have h2:=(aQ7 (b:=B64) (y0:=v0) (n0:=y0) hqr hN1 c0 hr).2;have h3:=cU6 h2 hup;refine cI1 (V:=V) (Y:=Y) (n:=k) (by rw[<- hw.f1];exact hv) (by rw[<- hw.e2,<- hw.f1];exact hlt) ?_;rw[s2,s3];exact h3
theorem cW4{V Y y2 y1 v1 q r:Nat}(h:Y/V<=q/\q<=Y/V+1/\q<B64)(hq:q*v1+r=y2*B64+y1):Y/V<=q/\q<=Y/V+1/\q<B64/\(y2*B64+y1<v1->q=0):=by
 refine⟨h.1,h.2.1,h.2.2,fun hl=>?_⟩;rcases Nat.eq_zero_or_pos q with h0|h0
 ·exact h0
 ·exfalso
  have:=Nat.mul_le_mul_right v1 h0;rw[Nat.one_mul]at this;omega
theorem dF9{V Y k y2 y1 y0 v1 v0 q r h l:Nat}(hw:LdW V Y k y2 y1 y0 v1 v0)(hg:LdG V Y k y2 y1 y0 v1 v0 q r h l)(hc:r*B64+y0<h*B64+l):∃ q',q=q'+1/\q'*v1+(r+v1)=y2*B64+y1/\(y2*B64+y1)*B64+y0<(q'+1)*(v1*B64+v0)/\h*B64+l=q'*v0+v0:=by
 have h1:¬ q*v0<=B64*r+y0:=by rw[<- hg.hl,Nat.mul_comm B64 r];omega
 have h2:=(not_congr (aT2 (b:=B64) hg.qr)).1 h1;have hq1:1<=q:=by
  rcases Nat.eq_zero_or_pos q with h|h
  ·rw[h,Nat.zero_mul]at h1;exact absurd (Nat.zero_le _) h1
  ·exact h
 obtain⟨q',rfl⟩:∃ q',q=q'+1:=⟨q-1,by omega⟩;refine⟨q',rfl,?_,by omega,?_⟩
 ·have:=hg.qr;rw[Nat.add_mul,Nat.one_mul]at this;omega
 ·have:=hg.hl;rw[Nat.add_mul,Nat.one_mul]at this;exact this
theorem cI3{w0 wr:World}{ub qb vb vo hb ho n m su sq U V i jq k X Y:Nat}(h:LdMem w0 ub qb vb vo hb ho n m su sq U V X jq wr)(hi:i<=m)(hk:n=k+2)(hY:Y=X/B64^i):
  wr.cell? ⟨ub,i+n-1,none⟩=some (.int .u64 ((Y/B64^(k+1)%B64:Nat):Int))/\wr.cell? ⟨ub,i+n-2,none⟩=some (.int .u64 ((Y/B64^k%B64:Nat):Int))/\wr.cell? ⟨vb,vo+k,none⟩=some (.int .u64 ((V/B64^k%B64:Nat):Int))/\wr.cell? ⟨vb,vo+(k+1),none⟩=some (.int .u64 ((V/B64^(k+1)%B64:Nat):Int)):=by
 obtain⟨⟨cu,hu1,hu2,hu3⟩,-,⟨cv,hv1,hv2⟩,-,-⟩:=h;have hw:∀ t,t<m+n->wr.cell? ⟨ub,t,none⟩=some (.int .u64 ((X/B64^t%B64:Nat):Int)):=by
  intro t ht;have:=hu3 t (by rw[aA9];exact ht);rw[Nat.zero_add,aD7 _ _ _ ht]at this;rw[aA2 hu1,this]
 have hd:∀ t,X/B64^(i+t)=Y/B64^t:=by
  intro t;rw[hY,Nat.div_div_eq_div_mul,<- Nat.pow_add]
 have hvw:∀ t,t<n->wr.cell? ⟨vb,vo+t,none⟩=some (.int .u64 ((V/B64^t%B64:Nat):Int)):=by
  intro t ht;have:=hv2 t (by rw[aA9];exact ht);rw[aD7 _ _ _ ht]at this;rw[aA2 hv1,this]
 refine⟨?_,?_,hvw k (by omega),hvw (k+1) (by omega)⟩
 ·rw[show i+n-1=i+(k+1)by omega,hw _ (by omega),hd]
 ·rw[show i+n-2=i+k by omega,hw _ (by omega),hd]
theorem aZ2{a b i t:Nat}(h:t<i):(a+B64^i*b)/B64^t%B64=a/B64^t%B64:=by
 obtain⟨d,rfl⟩:∃ d,i=t+(d+1):=⟨i-t-1,by omega⟩;rw[Nat.pow_add,Nat.mul_assoc,Nat.add_mul_div_left _ _ (Nat.pow_pos aA6),Nat.pow_succ,Nat.mul_comm (B64^d),Nat.mul_assoc,Nat.add_mul_mod_self_left]
theorem aZ3{a b i s:Nat}(h:a<B64^i):(a+B64^i*b)/B64^(i+s)=b/B64^s:=by
 rw[Nat.pow_add,<- Nat.div_div_eq_div_mul,Nat.add_mul_div_left _ _ (Nat.pow_pos aA6),Nat.div_eq_of_lt h,Nat.zero_add]
theorem aT5{cu cu3:Array Value}{L i r X Y':Nat}(h:Has cu 0 (wds L X))(hX:X<B64^(i+r))(hY:Y'<B64^r)(h1:∀ t,t<i->cu3[t]? = cu[t]?)(h2:∀ t,t<r->cu3[i+t]? = some (.int .u64 ((Y'/B64^t%B64:Nat):Int)))(h3:∀ t,i+r<=t->cu3[t]? = cu[t]?):Has cu3 0 (wds L (X%B64^i+B64^i*Y')):=by
 intro t ht;rw[aA9]at ht;have h0:=h t (by rw[aA9];exact ht);rw[Nat.zero_add,aD7 _ _ _ ht]at h0;rw[Nat.zero_add,aD7 _ _ _ ht];have hp:X%B64^i<B64^i:=Nat.mod_lt _ (Nat.pow_pos aA6);rcases Nat.lt_or_ge t i with h4|h4
 ·rw[h1 t h4,h0,aZ2 h4];have:=aZ2 (a:=X%B64^i) (b:=X/B64^i) h4;rw[Nat.mod_add_div]at this;rw[this]
 ·obtain⟨s,rfl⟩:∃ s,t=i+s:=⟨t-i,by omega⟩;rw[aZ3 hp];rcases Nat.lt_or_ge s r with h5|h5
  ·exact h2 s h5
  ·rw[h3 _ (by omega),h0];have e1:X/B64^(i+s)=0:=Nat.div_eq_of_lt (Nat.lt_of_lt_of_le hX (Nat.pow_le_pow_right aA6 (by omega)));have e2:Y'/B64^s=0:=Nat.div_eq_of_lt (Nat.lt_of_lt_of_le hY (Nat.pow_le_pow_right aA6 h5));rw[e1,e2]
theorem bH8{cs:Array Value}{o L X i r:Nat}(h:Has cs o (wds L X))(hr:i+r<=L):Has cs (o+i) (wds r (X/B64^i)):=by
 intro t ht;rw[aA9]at ht;have h0:=h (i+t) (by rw[aA9];omega);rw[aD7 _ _ _ (by omega),Nat.pow_add,<- Nat.div_div_eq_div_mul]at h0;rw[aD7 _ _ _ ht,Nat.add_assoc];exact h0
theorem dY0{w0 wr w':World}{ub qb vb vo hb ho n m su sq U V j jq q:Nat}{ch:Array Value}(hs:LdSep ub qb vb vo hb ho n m su sq)(h:LdMem w0 ub qb vb vo hb ho n m su sq U V j jq wr)(hh:wr.heap[hb]? = some (.cells ch 165 (0,0)))(hhs:ho+(n+1)<=ch.size)(hV:V<B64^n)(hq:q<B64)(hp:Put wr hb (putC ch ho (wds n (V*q))) 165 w'):
  LdMem w0 ub qb vb vo hb ho n m su sq U V j jq (w'.setCell ⟨hb,ho+n,none⟩ (.int .u64 ((V*q/B64^n:Nat):Int))) /\
   ∃ ch2,(w'.setCell ⟨hb,ho+n,none⟩ (.int .u64 ((V*q/B64^n:Nat):Int))).heap[hb]? = some (.cells ch2 165 (0,0))/\ho+(n+1)<=ch2.size/\Has ch2 ho (wds (n+1) (V*q)):=by
 obtain⟨⟨cu,u1,u2,u3⟩,⟨cq,q1,q2,q3⟩,⟨cv,v1,v2⟩,-,hk⟩:=h;have hp1:=aA3 hp.1 (ho+n) (.int .u64 ((V*q/B64^n:Nat):Int));have hk2:Kept (fun i=>i=hb) wr (w'.setCell ⟨hb,ho+n,none⟩ (.int .u64 ((V*q/B64^n:Nat):Int))):=hp.2.setCell _ _ (fun _=>rfl);have hsz:((putC ch ho (wds n (V*q))).setIfInBounds (ho+n) (.int .u64 ((V*q/B64^n:Nat):Int))).size=ch.size:=by rw[Array.size_setIfInBounds,aB1]
 have hVq:V*q<B64^(n+1):=by
  rw[Nat.pow_succ];have a1:V*q<=V*B64:=Nat.mul_le_mul_left V (Nat.le_of_lt hq);have a2:V*B64<B64^n*B64:=Nat.mul_lt_mul_of_pos_right hV aA6;omega
 have hhas:Has ((putC ch ho (wds n (V*q))).setIfInBounds (ho+n) (.int .u64 ((V*q/B64^n:Nat):Int))) ho (wds (n+1) (V*q)):=by
  intro t ht;rw[aA9]at ht;rw[aD7 _ _ _ ht];rcases Nat.lt_or_ge t n with h4|h4
  ·rw[Array.getElem?_setIfInBounds,if_neg (by omega),aW0 _ _ _ _ (by omega) (by rw[aA9];omega) (by omega),Nat.add_sub_cancel_left,aD7 _ _ _ h4]
  ·have:t=n:=by omega
   subst this;rw[Array.getElem?_setIfInBounds,if_pos rfl,if_pos (by rw[aB1];omega)];rw[Nat.mod_eq_of_lt (by rw[Nat.div_lt_iff_lt_mul (Nat.pow_pos aA6),<- Nat.pow_succ'];exact hVq)]
 refine⟨⟨⟨cu,hk2.at u1 hs.uh,u2,u3⟩,⟨cq,hk2.at q1 hs.qh,q2,q3⟩,?_,⟨_,hp1,by rw[hsz];exact hhs⟩,hk.trans hk2 (fun _ _ e=>e) (fun _ _ e=>Or.inr (Or.inr e))⟩,_,hp1,by rw[hsz];exact hhs,hhas⟩;by_cases hvh:hb=vb
 ·subst hvh;have hle:=hs.vh rfl;rw[hh]at v1;injection v1 with v1;injection v1 with v1;subst v1;refine⟨_,hp1,fun t ht=>?_⟩;rw[aA9]at ht;rw[Array.getElem?_setIfInBounds,if_neg (by omega),aD8 _ _ _ _ (Or.inl (by omega))];exact v2 t (by rw[aA9];exact ht)
 ·exact⟨cv,hk2.at v1 (fun e=>hvh e.symm),v2⟩
theorem ld_u{w0 wr w':World}{ub qb vb vo hb ho n m su sq U V j jq j':Nat}{cu':Array Value}(hs:LdSep ub qb vb vo hb ho n m su sq)(h:LdMem w0 ub qb vb vo hb ho n m su sq U V j jq wr)(h1:w'.heap[ub]? = some (.cells cu' 165 (0,0)))(h2:cu'.size=su)(h3:Has cu' 0 (wds (m+n) j'))(hk:Kept (fun i=>i=ub) wr w'):
  LdMem w0 ub qb vb vo hb ho n m su sq U V j' jq w':=by
 obtain⟨-,⟨cq,q1,q2,q3⟩,⟨cv,v1,v2⟩,⟨ch,c1,c2⟩,hk0⟩:=h;exact⟨⟨cu',h1,h2,h3⟩,⟨cq,hk.at q1 (fun e=>hs.uq e.symm),q2,q3⟩,⟨cv,hk.at v1 (fun e=>hs.uv e.symm),v2⟩,⟨ch,hk.at c1 (fun e=>hs.uh e.symm),c2⟩,hk0.trans hk (fun _ _ e=>e) (fun _ _ e=>Or.inl e)⟩
theorem ld_q{w0 wr:World}{ub qb vb vo hb ho n m su sq U V j i d:Nat}(hs:LdSep ub qb vb vo hb ho n m su sq)(h:LdMem w0 ub qb vb vo hb ho n m su sq U V j (i+1) wr)(hi:i<m)(hd:d=U/V/B64^i%B64):
  LdMem w0 ub qb vb vo hb ho n m su sq U V j i (wr.setCell ⟨qb,i,none⟩ (.int .u64 (d:Int))):=by
 obtain⟨⟨cu,u1,u2,u3⟩,⟨cq,q1,q2,q3⟩,⟨cv,v1,v2⟩,⟨ch,c1,c2⟩,hk0⟩:=h;have hk:Kept (fun k=>k=qb) wr (wr.setCell ⟨qb,i,none⟩ (.int .u64 (d:Int))):=(Kept.refl _ _).setCell _ _ (fun _=>rfl);refine⟨⟨cu,hk.at u1 hs.uq,u2,u3⟩,⟨_,aA3 q1 i _,by rw[Array.size_setIfInBounds];exact q2,fun t ht1 ht2=>?_⟩,⟨cv,hk.at v1 (fun e=>hs.qv e.symm),v2⟩,⟨ch,hk.at c1 (fun e=>hs.qh e.symm),c2⟩,hk0.trans hk (fun _ _ e=>e) (fun _ _ e=>Or.inr (Or.inl e))⟩;have:=hs.sq;rw[Array.getElem?_setIfInBounds];by_cases he:i=t
 ·subst he;rw[if_pos rfl,if_pos (by omega),hd]
 ·rw[if_neg he];exact q3 t (by omega) ht2
theorem ld_q0{w0 wr:World}{ub qb vb vo hb ho n m su sq U V j:Nat}(h:LdMem w0 ub qb vb vo hb ho n m su sq U V j (m+1) wr):LdMem w0 ub qb vb vo hb ho n m su sq U V j m wr:=by
 obtain⟨u,⟨cq,q1,q2,q3⟩,v,c,hk0⟩:=h;exact⟨u,⟨cq,q1,q2,fun t a b=>by omega⟩,v,c,hk0⟩
theorem cW5{w0 wr:World}{ub qb vb vo hb ho n m su sq U V i jq a1:Nat}(h:LdMem w0 ub qb vb vo hb ho n m su sq U V (U%(V*B64^i)) jq wr)(hi:i<=m)(ha:a1=i+n-1)(hn:2<=n)(hV0:0<V)(hV:V<B64^n):
  wr.cell? ⟨ub,a1,none⟩=some (.int .u64 ((U%(V*B64^i)/B64^(n+i-1):Nat):Int)):=by
 obtain⟨⟨cu,u1,u2,u3⟩,-,-,-,-⟩:=h;have:=u3 a1 (by rw[aA9];omega);rw[Nat.zero_add,aD7 _ _ _ (by omega)]at this;rw[aA2 u1,this,show n+i-1=a1 by omega];have hlt:U%(V*B64^i)<B64^(a1+1):=by
  have h1:U%(V*B64^i)<V*B64^i:=Nat.mod_lt _ (Nat.mul_pos hV0 (Nat.pow_pos aA6));have h2:V*B64^i<B64^n*B64^i:=Nat.mul_lt_mul_of_pos_right hV (Nat.pow_pos aA6);rw[<- Nat.pow_add,show n+i=a1+1 by omega]at h2;omega
 rw[Nat.mod_eq_of_lt (by rw[Nat.div_lt_iff_lt_mul (Nat.pow_pos aA6),<- Nat.pow_succ'];exact hlt)]
theorem LdMem.drew{w0 wr:World}{ub qb vb vo hb ho n m su sq U V j jq:Nat}(h:LdMem w0 ub qb vb vo hb ho n m su sq U V j jq wr):LdMem w0 ub qb vb vo hb ho n m su sq U V j jq wr.drew:=⟨h.u,h.q,h.v,h.h,h.k.drew⟩
structure LdR (U V n m i X Y:Nat):Prop where
 eX:X=U%(V*B64^(i+1))
 eY:Y=X/B64^i
 hi:i<=m
theorem LdR.facts{U V n m i X Y:Nat}(h:LdR U V n m i X Y)(hN:LdNum U V n m):X<B64^(i+(n+1))/\Y<B64^(n+1)/\Y%V<B64^n/\U%(V*B64^i)=X%B64^i+B64^i*(Y%V)/\0<V/\V<B64^n:=by
 obtain⟨hVB,hV0⟩:=aU6 hN.top (by have:=hN.bn;omega);have hXp:X<V*B64^(i+1):=by
  rw[h.eX];exact Nat.mod_lt _ (Nat.mul_pos hV0 (Nat.pow_pos aA6))
 have hXi:X<B64^(i+(n+1)):=by
  have a1:V*B64^(i+1)<B64^n*B64^(i+1):=Nat.mul_lt_mul_of_pos_right hN.bV (Nat.pow_pos aA6);rw[<- Nat.pow_add,show n+(i+1)=i+(n+1)by omega]at a1;exact Nat.lt_trans hXp a1
 have hYb:Y<B64^(n+1):=by
  rw[h.eY,Nat.div_lt_iff_lt_mul (Nat.pow_pos aA6),<- Nat.pow_add,Nat.add_comm];exact hXi
 refine⟨hXi,hYb,Nat.lt_trans (Nat.mod_lt _ hV0) hN.bV,?_,hV0,hN.bV⟩;rw[h.eY,h.eX];exact ldX_next.symm
theorem dG0{U V n m X Y k y2 y1 y0 v1 v0:Nat}(h:LdR U V n m m X Y)(hN:LdNum U V n m)(hk:n=k+2)(hw:LdW V Y k y2 y1 y0 v1 v0):y2*B64+y1<v1/\X=U/\Y<B64^n:=by
 obtain⟨hVB,hV0⟩:=aU6 hN.top (by have:=hN.bn;omega);have hXU:X=U:=by
  rw[h.eX];exact bH6 (U:=U) (V:=V) (m:=m) (n:=n) hN.bU hVB
 have hsp:=hw.split.1;have h1:=hN.first;refine⟨?_,hXU,?_⟩
 ·rw[<- hsp,h.eY,hXU,Nat.div_div_eq_div_mul,<- Nat.pow_add,show m+(k+1)=m+n-1 by omega];rw[show n-1=k+1 by omega,<- hw.f1]at h1;exact h1
 ·rw[h.eY,hXU,Nat.div_lt_iff_lt_mul (Nat.pow_pos aA6),<- Nat.pow_add,Nat.add_comm];exact hN.bU
theorem bV2{w0 W:World}{ub qb vb vo hb ho n m su sq U V X Y jq s uc hc:Nat}{ch2:Array Value}(hN:LdNum U V n m)(hs:LdSep ub qb vb vo hb ho n m su sq)(hr:LdR U V n m m X Y)(hY:Y<B64^n)(hX:X<B64^(m+n))(hYV:Y/V=0)(h:LdMem w0 ub qb vb vo hb ho n m su sq U V X jq W)(hA1:W.heap[hb]? = some (.cells ch2 165 (0,0)))(hA3:Has ch2 ho (wds (n+1) 0))(hsn:s=m+n):
  Calls prog 183 #[.slice (some ⟨ub,m,none⟩) (s-m) (uc-m),.slice (some ⟨ub,m,none⟩) (s-m) (uc-m),.slice (some ⟨hb,ho,none⟩) n hc] W fun e w'=>e=.returned (.int .u64 0)/\LdMem w0 ub qb vb vo hb ho n m su sq U V (U%(V*B64^m)) jq w':=by
 obtain⟨-,-,f3,f4,hV0,hV⟩:=hr.facts hN;obtain⟨cu5,hu1,hu2,hu3⟩:=h.u;have hsu:=hs.su;have hYV1:Y%V=Y:=by
  have:=Nat.div_add_mod Y V;rw[hYV,Nat.mul_zero,Nat.zero_add]at this;exact this
 have hA4:Has ch2 ho (wds n 0):=by
  have:=bH8 (i:=0) (r:=n) hA3 (by omega);rw[Nat.add_zero,Nat.pow_zero,Nat.div_one]at this;exact this
 have hu4:=bH8 (i:=m) (r:=n) hu3 (by omega);rw[Nat.zero_add,<- hr.eY]at hu4;rw[show s-m=n by omega];refine(bL0 ub m (uc-m) (uc-m) hb ho hc n Y 0 cu5 ch2 165 165 W (by have:=hN.bn;omega) hY (Nat.pow_pos aA6) hu1 (by omega) hu4 hA1 hA4 hs.uh).mono ?_;rintro e w' ⟨rfl,hp⟩;rw[if_neg (Nat.not_lt_zero _),Nat.add_zero,Nat.sub_zero]at hp;refine⟨by rw[if_neg (Nat.not_lt_zero _)];rfl,ld_u hs h hp.1 (by rw[aB1];exact hu2) ?_ hp.2⟩;rw[f4];refine aT5 hu3 hX (by rw[hYV1];exact hY) (fun t ht=>aD8 _ _ _ _ (Or.inl ht)) (fun t ht=>?_) (fun t ht=>aD8 _ _ _ _ (Or.inr (by rw[aA9];exact ht)));rw[aW0 _ _ _ _ (by omega) (by rw[aA9];omega) (by omega),Nat.add_sub_cancel_left,aD7 _ _ _ ht,hYV1]
theorem bC8{w0 W:World}{ub qb vb vo hb ho n m i su sq U V X Y q jq z uc hc:Nat}{ch2:Array Value}(hN:LdNum U V n m)(hs:LdSep ub qb vb vo hb ho n m su sq)(hr:LdR U V n m i X Y)(him:i<m)(hq:q<B64)(h:LdMem w0 ub qb vb vo hb ho n m su sq U V X jq W)(hA1:W.heap[hb]? = some (.cells ch2 165 (0,0)))(hA3:Has ch2 ho (wds (n+1) (V*q)))(hzn:z=i+n+1):
  Calls prog 183 #[.slice (some ⟨ub,i,none⟩) (z-i) (uc-i),.slice (some ⟨ub,i,none⟩) (z-i) (uc-i),.slice (some ⟨hb,ho,none⟩) (n+1) hc] W fun e w'=>e=.returned (.int .u64 (((if Y<V*q then 1 else 0):Nat):Int)) /\
   LdMem w0 ub qb vb vo hb ho n m su sq U V (X%B64^i+B64^i*(Y+(if Y<V*q then B64^(n+1)else 0)-V*q)) jq w':=by
 obtain⟨f1,f2,f3,f4,hV0,hV⟩:=hr.facts hN;obtain⟨cu5,hu1,hu2,hu3⟩:=h.u;have hsu:=hs.su;have hVq:V*q<B64^(n+1):=by
  rw[Nat.pow_succ];have a1:V*q<=V*B64:=Nat.mul_le_mul_left V (Nat.le_of_lt hq);have a2:V*B64<B64^n*B64:=Nat.mul_lt_mul_of_pos_right hV aA6;omega
 have hu4:=bH8 (i:=i) (r:=n+1) hu3 (by omega);rw[Nat.zero_add,<- hr.eY]at hu4;rw[show z-i=n+1 by omega];refine(bL0 ub i (uc-i) (uc-i) hb ho hc (n+1) Y (V*q) cu5 ch2 165 165 W (by have:=hN.bn;omega) f2 hVq hu1 (by omega) hu4 hA1 hA3 hs.uh).mono ?_;rintro e w' ⟨rfl,hp⟩;have hZ:Y+(if Y<V*q then B64^(n+1)else 0)-V*q<B64^(n+1):=by
  split
  ·omega
  ·omega
 generalize Y+(if Y<V*q then B64^(n+1)else 0)-V*q=Z at *
 refine⟨rfl,ld_u hs h hp.1 (by rw[aB1];exact hu2) ?_ hp.2⟩;refine aT5 hu3 f1 hZ (fun t ht=>aD8 _ _ _ _ (Or.inl ht)) (fun t ht=>?_) (fun t ht=>aD8 _ _ _ _ (Or.inr (by rw[aA9];exact ht)));rw[aW0 _ _ _ _ (by omega) (by rw[aA9];omega) (by omega),Nat.add_sub_cancel_left,aD7 _ _ _ ht]
theorem cB8{w0 W:World}{ub qb vb vo hb ho n m i su sq U V X Y Z jq s uc vc:Nat}(hN:LdNum U V n m)(hs:LdSep ub qb vb vo hb ho n m su sq)(hr:LdR U V n m i X Y)(him:i<m)(hZ:Z<B64^(n+1))(h:LdMem w0 ub qb vb vo hb ho n m su sq U V (X%B64^i+B64^i*Z) jq W)(hsn:s=i+n):
  Calls prog 181 #[.slice (some ⟨ub,i,none⟩) (s-i) (uc-i),.slice (some ⟨ub,i,none⟩) (s-i) (uc-i),.slice (some ⟨vb,vo,none⟩) n vc] W fun e w'=>e=.returned (.int .u64 (((Z%B64^n+V)/B64^n:Nat):Int)) /\
   LdMem w0 ub qb vb vo hb ho n m su sq U V (X%B64^i+B64^i*(B64^n*(Z/B64^n)+(Z%B64^n+V)%B64^n)) jq w':=by
 obtain⟨f1,f2,f3,f4,hV0,hV⟩:=hr.facts hN;obtain⟨cu5,hu1,hu2,hu3⟩:=h.u;obtain⟨cv,hv1,hv2⟩:=h.v;have hsu:=hs.su;have hp0:X%B64^i<B64^i:=Nat.mod_lt _ (Nat.pow_pos aA6);have hpn:0<B64^n:=Nat.pow_pos aA6;have hu4:=bH8 (i:=i) (r:=n) hu3 (by omega);have hdz:(X%B64^i+B64^i*Z)/B64^i=Z:=by
  rw[Nat.add_mul_div_left _ _ (Nat.pow_pos aA6),Nat.div_eq_of_lt hp0,Nat.zero_add]
 rw[Nat.zero_add,hdz,<- bG6]at hu4;have hXZ:X%B64^i+B64^i*Z<B64^(i+(n+1)):=by
  rw[Nat.pow_add];have:B64^i*(Z+1)<=B64^i*B64^(n+1):=Nat.mul_le_mul_left _ hZ;rw[Nat.mul_add,Nat.mul_one]at this;omega
 have hZt:Z/B64^n<B64:=by
  rw[Nat.div_lt_iff_lt_mul hpn,<- Nat.pow_succ'];exact hZ
 have hsm:(Z%B64^n+V)%B64^n<B64^n:=Nat.mod_lt _ hpn;have hZ2:B64^n*(Z/B64^n)+(Z%B64^n+V)%B64^n<B64^(n+1):=by
  rw[Nat.pow_succ];have:B64^n*(Z/B64^n+1)<=B64^n*B64:=Nat.mul_le_mul_left _ hZt;rw[Nat.mul_add,Nat.mul_one]at this;omega
 rw[show s-i=n by omega];refine(cN5 ub i (uc-i) (uc-i) vb vo vc n (Z%B64^n) V cu5 cv 165 165 W (by have:=hN.bn;omega) (Nat.mod_lt _ hpn) hV hu1 (by omega) hu4 hv1 hv2 hs.uv).mono ?_;rintro e w' ⟨rfl,hp⟩;refine⟨rfl,ld_u hs h hp.1 (by rw[aB1];exact hu2) ?_ hp.2⟩;have hmod:(X%B64^i+B64^i*Z)%B64^i=X%B64^i:=by
  rw[Nat.add_mul_mod_self_left,Nat.mod_mod]
 have key:=aT5 (Y':=B64^n*(Z/B64^n)+(Z%B64^n+V)%B64^n) hu3 hXZ hZ2 (cu3:=putC cu5 i (wds n (Z%B64^n+V))) (fun t ht=>aD8 _ _ _ _ (Or.inl ht)) (fun t ht=>?_) (fun t ht=>aD8 _ _ _ _ (Or.inr (by rw[aA9];omega)))
 ·rw[hmod]at key;exact key
 ·rcases Nat.lt_or_ge t n with h4|h4
  ·rw[aW0 _ _ _ _ (by omega) (by rw[aA9];omega) (by omega),Nat.add_sub_cancel_left,aD7 _ _ _ h4,Nat.add_comm (B64^n*_),aZ2 h4];have e:=aZ2 (a:=(Z%B64^n+V)%B64^n) (b:=(Z%B64^n+V)/B64^n) h4;rw[Nat.mod_add_div]at e;rw[e]
  ·have:t=n:=by omega
   subst this;rw[aD8 _ _ _ _ (Or.inr (by rw[aA9];omega))];have h0:=hu3 (i+t) (by rw[aA9];omega);rw[Nat.zero_add,aD7 _ _ _ (by omega),aZ3 hp0]at h0;rw[h0,Nat.mul_add_div hpn,Nat.div_eq_of_lt hsm,Nat.add_zero]
theorem cW6{Y V q n Z:Nat}(hV:V<B64^n)(hq:q=Y/V+1)(hV0:0<V)(hY:Y<B64^(n+1))(hZ:Z=Y+B64^(n+1)-V*q):Z<B64^(n+1)/\(Z%B64^n+V)%B64^n=Y%V/\(Z/B64^n+(Z%B64^n+V)/B64^n)%B64=0/\Z/B64^n<B64/\(Z%B64^n+V)/B64^n<=1:=by
 have hpn:0<B64^n:=Nat.pow_pos aA6;have hd:=Nat.div_add_mod Y V;have hm:=Nat.mod_lt Y hV0;have hVq:V*q=V*(Y/V)+V:=by rw[hq,Nat.mul_add,Nat.mul_one]
 have hlt:Y<V*q:=by rw[hVq];omega
 have hZV:Z+V=B64^(n+1)+Y%V:=by
  have:V*q<=Y+B64^(n+1):=by
   have h1:V<=B64^(n+1):=by
    rw[Nat.pow_succ];exact Nat.le_trans (Nat.le_of_lt hV) (Nat.le_mul_of_pos_right _ aA6)
   omega
  omega
 have h1:=Nat.div_add_mod Z (B64^n);have h2:=Nat.mod_lt Z hpn;have e1:(Z+V)/B64^n=Z/B64^n+(Z%B64^n+V)/B64^n:=by
  conv=>lhs;rw[<- h1,Nat.add_assoc,Nat.mul_add_div hpn]
 have e2:(Z+V)%B64^n=(Z%B64^n+V)%B64^n:=by
  conv=>lhs;rw[<- h1,Nat.add_assoc,Nat.mul_add_mod]
 have e3:(Z+V)/B64^n=B64:=by
  rw[hZV,Nat.pow_succ,Nat.mul_add_div hpn,Nat.div_eq_of_lt (Nat.lt_trans hm hV),Nat.add_zero]
 have e4:(Z+V)%B64^n=Y%V:=by
  rw[hZV,Nat.pow_succ,Nat.mul_add_mod,Nat.mod_eq_of_lt (Nat.lt_trans hm hV)]
 have hZb:Z<B64^(n+1):=by omega
 refine⟨hZb,by rw[<- e2,e4],by rw[<- e1,e3,Nat.mod_self],?_,?_⟩
 ·rw[Nat.div_lt_iff_lt_mul hpn,<- Nat.pow_succ'];exact hZb
 ·rw[<- Nat.lt_succ_iff,Nat.div_lt_iff_lt_mul hpn];show _<2*_;omega
theorem dY1{w0 W:World}{ub qb vb vo hb ho n m i su sq U V X Y Z2 T jq s:Nat}(hN:LdNum U V n m)(hs:LdSep ub qb vb vo hb ho n m su sq)(hr:LdR U V n m i X Y)(him:i<m)(hT:T<B64)(hZ2:Z2=Y%V)(h:LdMem w0 ub qb vb vo hb ho n m su sq U V (X%B64^i+B64^i*(B64^n*T+Z2)) jq W)(hsn:s=i+n):
  W.cell? ⟨ub,s,none⟩=some (.int .u64 (T:Int))/\W.frozen? ⟨ub,s,none⟩=false/\LdMem w0 ub qb vb vo hb ho n m su sq U V (U%(V*B64^i)) jq (W.setCell ⟨ub,s,none⟩ (.int .u64 0)):=by
 obtain⟨f1,f2,f3,f4,hV0,hV⟩:=hr.facts hN;obtain⟨cu5,hu1,hu2,hu3⟩:=h.u;have hsu:=hs.su;subst hZ2;subst hsn;have hpn:0<B64^n:=Nat.pow_pos aA6;have hp0:X%B64^i<B64^i:=Nat.mod_lt _ (Nat.pow_pos aA6);have hw:∀ t,t<n->(B64^n*T+Y%V)/B64^t%B64=Y%V/B64^t%B64:=fun t ht=>by
  rw[Nat.add_comm,aZ2 ht]
 have hZb:B64^n*T+Y%V<B64^(n+1):=by
  rw[Nat.pow_succ];have:B64^n*(T+1)<=B64^n*B64:=Nat.mul_le_mul_left _ hT;rw[Nat.mul_add,Nat.mul_one]at this;omega
 have hXZ:X%B64^i+B64^i*(B64^n*T+Y%V)<B64^(i+(n+1)):=by
  rw[Nat.pow_add];have:B64^i*(B64^n*T+Y%V+1)<=B64^i*B64^(n+1):=Nat.mul_le_mul_left _ hZb;rw[Nat.mul_add (B64^i) _ 1,Nat.mul_one]at this;omega
 have htop:=hu3 (i+n) (by rw[aA9];omega);rw[Nat.zero_add,aD7 _ _ _ (by omega),aZ3 hp0,Nat.mul_add_div hpn,Nat.div_eq_of_lt f3,Nat.add_zero,Nat.mod_eq_of_lt hT]at htop;refine⟨by rw[aA2 hu1,htop],aA1 hu1 _,ld_u hs h (aA3 hu1 _ _) (by rw[Array.size_setIfInBounds];exact hu2) ?_ ((Kept.refl _ _).setCell _ _ (fun _=>rfl))⟩;rw[f4];have hmod:(X%B64^i+B64^i*(B64^n*T+Y%V))%B64^i=X%B64^i:=by
  rw[Nat.add_mul_mod_self_left,Nat.mod_mod]
 have f3':Y%V<B64^(n+1):=Nat.lt_of_lt_of_le f3 (Nat.pow_le_pow_right aA6 (by omega));have key:=aT5 (Y':=Y%V) (cu3:=cu5.setIfInBounds (i+n) (.int .u64 0)) hu3 hXZ f3' (fun t ht=>?_) (fun t ht=>?_) (fun t ht=>?_)
 ·rw[hmod]at key;exact key
 ·rw[Array.getElem?_setIfInBounds,if_neg (by omega)]
 ·rcases Nat.lt_or_ge t n with h4|h4
  ·have h0:=hu3 (i+t) (by rw[aA9];omega);rw[Nat.zero_add,aD7 _ _ _ (by omega),aZ3 hp0,hw t h4]at h0;rw[Array.getElem?_setIfInBounds,if_neg (by omega),h0]
  ·have:t=n:=by omega
   subst this;rw[Array.getElem?_setIfInBounds,if_pos rfl,if_pos (by omega),Nat.div_eq_of_lt f3];rfl
 ·rw[Array.getElem?_setIfInBounds,if_neg (by omega)]
theorem dR7{w0 wr:World}{ub qb vb vo hb ho n m su sq U V j jq q hc vc:Nat}(hs:LdSep ub qb vb vo hb ho n m su sq)(h:LdMem w0 ub qb vb vo hb ho n m su sq U V j jq wr)(hN:LdNum U V n m)(hq:q<B64):
  Calls prog 203 #[.slice (some ⟨hb,ho,none⟩) n hc,.slice (some ⟨vb,vo,none⟩) n vc,.int .u64 (q:Int),.int .u64 0] wr fun e w'=>e=.returned (.int .u64 ((V*q/B64^n:Nat):Int))/\(∃ u,w'.cell? ⟨hb,ho+n,none⟩=some u)/\w'.frozen? ⟨hb,ho+n,none⟩=false /\
   LdMem w0 ub qb vb vo hb ho n m su sq U V j jq (w'.setCell ⟨hb,ho+n,none⟩ (.int .u64 ((V*q/B64^n:Nat):Int)))/\∃ ch2,(w'.setCell ⟨hb,ho+n,none⟩ (.int .u64 ((V*q/B64^n:Nat):Int))).heap[hb]? = some (.cells ch2 165 (0,0))/\ho+(n+1)<=ch2.size/\Has ch2 ho (wds (n+1) (V*q)):=by
 obtain⟨ch,hh1,hh2⟩:=h.h;obtain⟨cv',hv1',hv2'⟩:=h.v;refine(cB7 hb ho hc vb vo vc n V q ch cv' 165 165 wr (by have:=hN.bn;omega) hN.bV hq hh1 (by omega) hv1' hv2' (fun e=>hs.vh e)).mono ?_;rintro e w' ⟨rfl,hp⟩;refine⟨rfl,?_,aA1 hp.1 _,dY0 hs h hh1 hh2 hN.bV hq hp⟩;rw[aA2 hp.1];exact⟨_,Array.getElem?_eq_getElem (by rw[aB1];omega)⟩
theorem dG1{n m i s uc su hc qc sq vc:Nat}(hb:(2<=n/\n<40)/\(1<=m/\m<=1000)/\m+n<=uc/\uc<=su/\m<=qc/\qc<=sq/\n<=vc)(hi:i<=m)(hs:s=i+n)(h1:n+1<=hc):
  n<n+1/\n<=hc/\IntKind.i64.wrap ((i:Int)+((n:Int)+1))=((i+n+1:Nat):Int)/\wrap64 (n:Int)=(n:Int)/\IntKind.i64.wrap ((n:Int)+1-1)=(n:Int)/\i<=s/\s<=uc/\decide (n<n)=false/\decide (n<n+1)=true/\i<=i+n+1/\(i=m->decide ((m:Int)+(n:Int)<((i+n+1:Nat):Int))=true)/\(i≠m->decide ((m:Int)+(n:Int)<((i+n+1:Nat):Int))=false/\i<m/\i+n+1<=uc/\s<m+n):=by
 refine⟨by omega,by omega,by rw[IntKind.wrap_i64];omega,by unfold wrap64;omega,by rw[IntKind.wrap_i64];omega,by omega,by omega,decF (by omega),decT (by omega),by omega,fun h=>decT (by omega),fun h=>⟨decF (by omega),by omega,by omega,by omega⟩⟩
theorem cB9{i m:Nat}(h:i<=m)(hm:m<=1000):IntKind.i64.wrap ((i:Int)-1)=(i:Int)-1:=by rw[IntKind.wrap_i64];omega
theorem cW7{n m i uc su qc sq vc:Nat}(hb:(2<=n/\n<40)/\(1<=m/\m<=1000)/\m+n<=uc/\uc<=su/\m<=qc/\qc<=sq/\n<=vc)(hi:i<=m):¬ i=uc/\¬ uc=i/\i<uc/\¬ uc-i=0/\(uc-i==0)=false:=by
 have h:¬ uc-i=0:=by omega
 exact⟨by omega,by omega,by omega,h,by simp only[beq_eq_false_iff_ne];exact h⟩
theorem dY2{i m:Nat}(h:i<m):((i:Int)==(m:Int))=false:=beqF (by omega)
theorem cI4{U V n m i X Y:Nat}(h:LdR U V n m i X Y):Y/V=U/V/B64^i%B64:=by
 rw[h.eY,h.eX,<- dX9];exact cV3
theorem cI5{w0 wr:World}{ub qb vb vo hb ho n m su sq U V j jq i:Nat}(hs:LdSep ub qb vb vo hb ho n m su sq)(h:LdMem w0 ub qb vb vo hb ho n m su sq U V j jq wr)(hi:i<m):∃ u,wr.cell? ⟨qb,i,none⟩=some u:=by
 obtain⟨cq,q1,q2,-⟩:=h.q;rw[aA2 q1];exact⟨_,Array.getElem?_eq_getElem (by have:=hs.sq;omega)⟩
theorem cW8{w0 wr:World}{ub qb vb vo hb ho n m su sq U V j jq:Nat}(h:LdMem w0 ub qb vb vo hb ho n m su sq U V j jq wr)(i:Nat):wr.frozen? ⟨qb,i,none⟩=false:=by
 obtain⟨cq,q1,-⟩:=h.q;exact aA1 q1 i
theorem dG2{q dg:Nat}(h:q=dg+1)(hq:q<B64):IntKind.u64.wrap ((q:Int)-1)=(dg:Int):=by
 have hB:B64=18446744073709551616:=rfl;rw[IntKind.wrap_u64];omega
theorem dG3{T cc:Nat}(h:(T+cc)%B64=0):IntKind.u64.wrap ((T:Int)+(cc:Int))=0:=by
 have hB:B64=18446744073709551616:=rfl;rw[hB]at h;rw[IntKind.wrap_u64];omega
theorem ld_n2{n m i z hc:Nat}(hn:2<=n/\n<40)(h1:n+1<=hc)(hz:z=i+n+1)(hi:i<=m)(hm:m<=1000):∃ n2,n2=n+1/\(n:Int)+1=(n2:Int)/\decide (n<n2)=true/\n2<=hc/\n<n2/\IntKind.i64.wrap ((i:Int)+(n2:Int))=(z:Int) :=
 ⟨n+1,rfl,by omega,decT (by omega),h1,by omega,by rw[IntKind.wrap_i64];omega⟩
theorem dR8{w w2 wr w4:World}{ub qb hb p:Nat}{b:Option Addr}{si si':Option Nat}(h1:Kept (fun i=>i=p\/si=some i\/b=some ⟨i,0,none⟩) w w2)(h2:Kept (fun i=>i=ub\/i=qb\/i=hb) w2 wr)(h3:Kept (fun i=>si'=some i) wr w4)(hhb:b=some ⟨hb,0,none⟩\/w.heap.size<=hb)(hsi:∀ q,si'=some q->si=some q\/w.heap.size<=q):
  Kept (fun i=>i=ub\/i=qb\/i=p\/si=some i\/b=some ⟨i,0,none⟩) w w4:=by
 have h12:Kept (fun i=>i=ub\/i=qb\/i=p\/si=some i\/b=some ⟨i,0,none⟩) w wr:=h1.trans h2 (fun i _ e=>Or.inr (Or.inr e)) (fun i hi e=>by
  rcases e with e|e|e
  ·exact Or.inl e
  ·exact Or.inr (Or.inl e)
  ·rcases hhb with k|k
   ·exact Or.inr (Or.inr (Or.inr (Or.inr (by rw[e];exact k))))
   ·omega)
 exact h12.trans h3 (fun _ _ e=>e) (fun i hi e=>by
  rcases hsi i e with k|k
  ·exact Or.inr (Or.inr (Or.inr (Or.inl k)))
  ·omega)
theorem dR9{w0 wr w4:World}{ub qb vb vo hb ho n m su sq U V:Nat}{si':Option Nat}(hN:LdNum U V n m)(h:LdMem w0 ub qb vb vo hb ho n m su sq U V (U%(V*B64^0)) 0 wr)(hk:Kept (fun i=>si'=some i) wr w4)(hu:si'≠some ub)(hq:si'≠some qb):
  (∃ cu',w4.heap[ub]? = some (.cells cu' 165 (0,0))/\cu'.size=su/\Has cu' 0 (wds (m+n) (U%V)))/\(∃ cq',w4.heap[qb]? = some (.cells cq' 165 (0,0))/\cq'.size=sq/\Has cq' 0 (wds m (U/V))):=by
 obtain⟨⟨cu,u1,u2,u3⟩,⟨cq,q1,q2,q3⟩,-⟩:=h;rw[Nat.pow_zero,Nat.mul_one]at u3;refine⟨⟨cu,hk.at u1 hu,u2,u3⟩,⟨cq,hk.at q1 hq,q2,fun t ht=>?_⟩⟩;rw[aA9]at ht;rw[Nat.zero_add,aD7 _ _ _ ht];exact q3 t (Nat.zero_le _) ht
theorem bH9{n:Nat}(h:n≠0):B64^((dig n).length-1)<=n:=by
 rcases Nat.lt_or_ge n (B64^((dig n).length-1))with h'|h'
 ·have:=aD3 h';have:=aB3 h;omega
 ·exact h'
def topW(n:Nat):Nat:=n/B64^((dig n).length-1)
theorem bB3{n:Nat}(h:n≠0):topW n≠0/\topW n<B64:=by
 have hp:=aB3 h;refine⟨?_,?_⟩
 ·have:=Nat.div_pos (bH9 h) (Nat.pow_pos aA6);unfold topW;omega
 ·unfold topW;rw[Nat.div_lt_iff_lt_mul (Nat.pow_pos aA6),<- Nat.pow_succ',show((dig n).length-1).succ=(dig n).length by omega];exact aD0 n
def TopOk(v:Nat):Prop:=v*2^shl64 (topW v)/B64^((dig v).length-1)≠B64-1
theorem dL5{U0 V0 n L s:Nat}(hV0:V0≠0)(hn:n=(dig V0).length)(hL:L=(dig U0).length)(h2:2<=n)(h40:n<40)(hle:n<=L)(hL1:L<=900)(hs:s=shl64 (topW V0))(hne:TopOk V0):
  LdNum (U0*2^s) (V0*2^s) n (L-n+1)/\s<64:=by
 obtain⟨t0,t1⟩:=bB3 hV0;obtain⟨s1,s2,s3,s4,s5⟩:=aJ7 t0 t1;rw[<- hs]at s1 s2 s3 s4 s5;have ht:topW V0=V0/B64^(n-1):=by unfold topW;rw[hn]
 have hne':V0*2^s/B64^(n-1)≠B64-1:=by
  unfold TopOk at hne;rw[<- hs,<- hn]at hne;exact hne
 clear hne;generalize topW V0=t at *;have hP:0<B64^(n-1):=Nat.pow_pos aA6;have hPn:B64^n=B64^(n-1)*B64:=by rw[<- Nat.pow_succ,show(n-1).succ=n by omega]
 have h2s:0<2^s:=Nat.pow_pos (by omega);have hS:2^(64-s)*2^s=B64:=(aU5 s1).1;have htop:t*2^s<=V0*2^s/B64^(n-1):=by
  rw[Nat.le_div_iff_mul_le hP,Nat.mul_right_comm];refine Nat.mul_le_mul_right _ ?_;rw[ht];exact Nat.div_mul_le_self _ _
 have hle63:(2:Nat)^s<=2^63:=Nat.pow_le_pow_right (by omega) (by omega);have hB:B64=18446744073709551616:=rfl;have e63:(2:Nat)^63=9223372036854775808:=by decide
 refine⟨⟨?_,by omega,hne',?_,?_,⟨h2,h40⟩,by omega⟩,s1⟩
 ·have h1:V0<(t+1)*B64^(n-1):=by
   have:=Nat.lt_div_mul_add (a:=V0) hP;rw[<- ht]at this;rw[Nat.succ_mul];exact this
  have h3:(t+1)*2^s<=B64:=by
   rw[<- hS];exact Nat.mul_le_mul_right _ s5
  exact calc V0*2^s<(t+1)*B64^(n-1)*2^s:=Nat.mul_lt_mul_of_pos_right h1 h2s
   _=(t+1)*2^s*B64^(n-1):=Nat.mul_right_comm _ _ _
   _<=B64*B64^(n-1):=Nat.mul_le_mul_right _ h3
   _=B64^n:=by rw[hPn,Nat.mul_comm]
 ·rw[show L-n+1+n=L+1 by omega,Nat.pow_succ];have h1:U0<B64^L:=by rw[hL];exact aD0 U0
  have h3:2^s<=B64:=by omega
  exact Nat.lt_of_lt_of_le (Nat.mul_lt_mul_of_pos_right h1 h2s) (Nat.mul_le_mul_left _ h3)
 ·have h1:U0<B64^L:=by rw[hL];exact aD0 U0
  have h3:U0*2^s/B64^(L-n+1+n-1)<2^s:=by
   rw[show L-n+1+n-1=L by omega];exact Nat.div_lt_of_lt_mul (Nat.mul_lt_mul_of_pos_right h1 h2s)
  omega
theorem dL6{U0 V0 s:Nat}:U0*2^s/(V0*2^s)=U0/V0/\U0*2^s%(V0*2^s)=U0%V0*2^s/\U0%V0*2^s/2^s=U0%V0:=by
 have h2s:0<2^s:=Nat.pow_pos (by omega);exact⟨Nat.mul_div_mul_right _ _ h2s,Nat.mul_mod_mul_right _ _ _,Nat.mul_div_cancel _ h2s⟩
theorem dl_q{U0 V0 n L:Nat}(hV0:V0≠0)(hn:n=(dig V0).length)(hL:L=(dig U0).length)(hle:n<=L):U0/V0<B64^(L-n+1):=by
 have hp:=aB3 hV0;have h1:B64^(n-1)<=V0:=by rw[hn];exact bH9 hV0
 rw[Nat.div_lt_iff_lt_mul (by omega)];have h2:U0<B64^L:=by rw[hL];exact aD0 U0
 refine Nat.lt_of_lt_of_le h2 ?_;refine Nat.le_trans ?_ (Nat.mul_le_mul_left _ h1);rw[<- Nat.pow_add,show L-n+1+(n-1)=L by omega];exact Nat.le_refl _
end Go.Proofs.YtjebnpkebccffaaGreatDoor
