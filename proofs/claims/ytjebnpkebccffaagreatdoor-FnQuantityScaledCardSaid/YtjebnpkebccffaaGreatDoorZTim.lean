import Derived.Test.YtjebnpkebccffaaGreatDoorZIcm
set_option linter.unusedSimpArgs false
set_option linter.unusedVariables false
set_option linter.unusedSectionVars false
set_option maxRecDepth 100000
set_option maxHeartbeats 8000000
namespace Go.Proofs.YtjebnpkebccffaaGreatDoor
open Go.RowKit Go.Proofs.Tryz
theorem dY6(l:List Nat)(i y:Nat):(iv l).toArray.setIfInBounds i (.int .i64 (y:Int))=(iv (l.set i y)).toArray:=by
 simp[iv,List.map_set]
theorem iv_at(l:List Nat)(i:Nat)(h:i<l.length):(iv l).toArray[i]? = some (.int .i64 (l.getD i 0:Nat)):=by
 have:=cH5 l i h
 simpa using this
theorem dI0(n:Nat)(h2:n<=1000000)(w:World):
  (Instr.makeSlice 28 (.int .i64 (n:Int)) (.int .i64 (n:Int))).run prog w=.ok (.slice (some ⟨w.heap.size,0,none⟩) n n) (w.alloc (.cells (iv (List.replicate n 0)).toArray 3 (0,0))):=by
 obtain⟨i0,hi,hz0,hz1,hz2⟩:=info_parts Tryz.info3;have:=run_make (P:=prog) w 28 3 i0 _ underlying28 hi hz0 .i64 .i64 n n (by omega) (by omega) (by rw[hz2];omega) (by omega);rw[this];simp only[Int.toNat_natCast,hz1,Nat.mul_one];have e:madeCells #[.int .i64 0] n=(iv (List.replicate n 0)).toArray:=by
  apply Array.ext
  ·rw[size_madeCells];simp[iv]
  ·intro i h1 h2;rw[size_madeCells]at h1;have h3:(madeCells #[.int .i64 0] n)[i]? = some (.int .i64 0):=by
    unfold madeCells;simp[show i<n by simpa using h1,Nat.mod_one]
   have h4:=iv_at (List.replicate n 0) i (by simpa using h1);have h5:(List.replicate n 0).getD i 0=0:=by simp[List.getD,List.getElem?_replicate];split<;>rfl
   rw[h5]at h4;rw[Array.getElem?_eq_getElem (by rw[size_madeCells];exact h1)]at h3;rw[Array.getElem?_eq_getElem h2]at h4;exact Option.some.inj (h3.trans h4.symm)
 show _=Result.ok _ (w.alloc (.cells _ 3));rw[<- e];rfl
def bP8(w:World)(a b:Dm)(e:Ending)(w':World):Prop:=DmRes w (nd (a.neg != b.neg) (dv a.ds*dv b.ds) (a.e+b.e)) e w'
theorem aZ7{wr:World}{B i y:Nat}{l:List Nat}(h:wr.heap[B]? = some (.cells (iv l).toArray 3 (0,0))):(wr.setCell ⟨B,i,none⟩ (.int .i64 (y:Int))).heap[B]? = some (.cells (iv (l.set i y)).toArray 3 (0,0)):=by
 have:=aA3 h i (.int .i64 (y:Int));rwa[dY6]at this
theorem aR9(va vb:Value)(a b:Dm)(w:World)(ha:DmAt w va a)(hb:DmAt w vb b)(hla:a.ds.length<=2000)(hlb:b.ds.length<=2000)(hda:∀ x∈a.ds,x<=9)(hdb:∀ x∈b.ds,x<=9)(hea:-100000<=a.e/\a.e<=100000)(heb:-100000<=b.e/\b.e<=100000):
  Calls prog 18 #[va,vb] w (bP8 w a b):=by
 obtain⟨pa,ca,ba,rfl,hsa⟩:=ha.shape2;obtain⟨pb,cb,bb,rfl,hsb⟩:=hb.shape2;have HFIN:Hid (∀ l,(∀ x∈l,x<=9)->dv l=dv a.ds*dv b.ds->decL (a.neg != b.neg) l (a.e+b.e)=nd (a.neg != b.neg) (dv a.ds*dv b.ds) (a.e+b.e)):=fun l h1 h2=>by rw[nd_of _ _ _ h1,h2]
 show Calls prog 18 _ w (DmRes w (nd (a.neg != b.neg) (dv a.ds*dv b.ds) (a.e+b.e)));obtain⟨A,hA⟩:∃ A,A=a.ds:=⟨_,rfl⟩;obtain⟨B,hB⟩:∃ B,B=b.ds:=⟨_,rfl⟩;rw[<- hA]at hla hda hsa HFIN ⊢;rw[<- hB]at hlb hdb hsb HFIN ⊢;generalize hD:nd (a.neg != b.neg) (dv A*dv B) (a.e+b.e)=D at HFIN ⊢;obtain⟨la,hlen⟩:∃ n,A.length=n:=⟨_,rfl⟩;obtain⟨lb,hlen2⟩:∃ n,B.length=n:=⟨_,rfl⟩;have k0:Kept (fun _=>False) w (((w.alloc (.cells #[.bool a.neg,.slice pa la ca,.int .i64 a.e] 30)).alloc (.cells #[.bool b.neg,.slice pb lb cb,.int .i64 b.e] 30)).alloc (.cells #[.bool false,.slice none 0 0,.int .i64 0] 30)):=(((Kept.refl _ _).alloc _).alloc _).alloc _;have b1:=aA0 w (.cells #[.bool a.neg,.slice pa la ca,.int .i64 a.e] 30);have b1:=(((Kept.refl (fun _=>False) (w.alloc (.cells #[.bool a.neg,.slice pa la ca,.int .i64 a.e] 30))).alloc (.cells #[.bool b.neg,.slice pb lb cb,.int .i64 b.e] 30)).alloc (.cells #[.bool false,.slice none 0 0,.int .i64 0] 30)).at b1 (fun f=>f);have b2:=aA0 (w.alloc (.cells #[.bool a.neg,.slice pa la ca,.int .i64 a.e] 30)) (.cells #[.bool b.neg,.slice pb lb cb,.int .i64 b.e] 30);have b2:=((Kept.refl (fun _=>False) _).alloc (.cells #[.bool false,.slice none 0 0,.int .i64 0] 30)).at b2 (fun f=>f);have b3:=aA0 ((w.alloc (.cells #[.bool a.neg,.slice pa la ca,.int .i64 a.e] 30)).alloc (.cells #[.bool b.neg,.slice pb lb cb,.int .i64 b.e] 30)) (.cells #[.bool false,.slice none 0 0,.int .i64 0] 30);have e2:(w.alloc (.cells #[.bool a.neg,.slice pa la ca,.int .i64 a.e] 30)).heap.size=w.heap.size+1:=by simp
 have e3:((w.alloc (.cells #[.bool a.neg,.slice pa la ca,.int .i64 a.e] 30)).alloc (.cells #[.bool b.neg,.slice pb lb cb,.int .i64 b.e] 30)).heap.size=w.heap.size+1+1:=by simp
 rw[e2]at b2;rw[e3]at b3;rw[hlen]at hsa hla ⊢;rw[hlen2]at hsb hlb ⊢;generalize hW:(((w.alloc (.cells #[.bool a.neg,.slice pa la ca,.int .i64 a.e] 30)).alloc (.cells #[.bool b.neg,.slice pb lb cb,.int .i64 b.e] 30)).alloc (.cells #[.bool false,.slice none 0 0,.int .i64 0] 30))=W at *;have hWs:W.heap.size=w.heap.size+3:=by rw[<- hW];simp
 have mk:=dI0 (la+lb+1) (by omega) W;rw[show((la+lb+1:Nat):Int)=(la:Int)+(lb:Int)+1 by omega]at mk;have m1:Kept (fun i=>i=W.heap.size) W (W.alloc (.cells (iv (List.replicate (la+lb+1) 0)).toArray 3 (0,0))):=(Kept.refl _ _).alloc _;have m2:=aA0 W (.cells (iv (List.replicate (la+lb+1) 0)).toArray 3 (0,0));generalize hX:W.alloc (.cells (iv (List.replicate (la+lb+1) 0)).toArray 3 (0,0))=X at *;have HXA:Hid (∀ wr,Kept (fun i=>i=W.heap.size) W wr->(wr.heap[w.heap.size]? = some (.cells #[.bool a.neg,.slice pa la ca,.int .i64 a.e] 30 (0,0))/\wr.heap[w.heap.size+1]? = some (.cells #[.bool b.neg,.slice pb lb cb,.int .i64 b.e] 30 (0,0))/\wr.heap[w.heap.size+1+1]? = some (.cells #[.bool false,.slice none 0 0,.int .i64 0] 30 (0,0)))/\Kept (fun _=>False) w wr):=fun wr hk =>
  ⟨⟨hk.at b1 (by omega),hk.at b2 (by omega),hk.at b3 (by omega)⟩,k0.trans hk (fun _ _ f=>f) (fun i hi e=>by omega)⟩
 have HSA:Hid (∀ wr,Kept (fun _=>False) w wr->∀ i,i<la->∃(k o:Nat),pa=some ⟨k,o,none⟩/\wr.cell? ⟨k,o+i,none⟩=some (.int .i64 ((A.getD i 0:Nat):Int))):=fun wr hk i hi=>by
  have h:=hsa.old hk;cases ba with
  | none=>rw[h.2]at hlen;simp at hlen;omega
  | some k =>
   obtain⟨o,cap,cs,h1,h2,h3,h4,h5⟩:=h;injection h1 with h1;exact⟨k,o,h1,by rw[aA2 h4];exact h5 i (by omega)⟩
 have HSB:Hid (∀ wr,Kept (fun _=>False) w wr->∀ i,i<lb->∃(k o:Nat),pb=some ⟨k,o,none⟩/\wr.cell? ⟨k,o+i,none⟩=some (.int .i64 ((B.getD i 0:Nat):Int))):=fun wr hk i hi=>by
  have h:=hsb.old hk;cases bb with
  | none=>rw[h.2]at hlen2;simp at hlen2;omega
  | some k =>
   obtain⟨o,cap,cs,h1,h2,h3,h4,h5⟩:=h;injection h1 with h1;exact⟨k,o,h1,by rw[aA2 h4];exact h5 i (by omega)⟩
 obtain⟨⟨g1,g2,g3⟩,g4⟩:=HXA.out X m1;have HM2:=hiD m2;have HM1:=hiD m1;have HDA:=hiD hda;have HDB:=hiD hdb;have HLA:=hiD hlen;have HLB:=hiD hlen2;have HWS:=hiD hWs;have HEA:=hiD hea;have HEB:=hiD heb;obtain⟨c0,c1,c2⟩:=cells3 b1;obtain⟨d0,d1,d2⟩:=cells3 b2;obtain⟨x0,x1,x2⟩:=cells3 g1;obtain⟨y0,y1,y2⟩:=cells3 g2;clear hda hdb hlen hlen2 hWs m1 m2 g1 g2 g3 g4 hsa hsb ha hb k0 b1 b2 b3 e2 e3 hX hD hA hB hea heb;go_enter func18,ntmps18;go_wp2_with fail;clear hW mk
 go_loopw [21] (fun v wr=>∃(i:Nat) (l:List Nat),v=.int .i64 (i:Int)/\i<=la/\Hid (wr.heap[W.heap.size]? = some (.cells (iv l).toArray 3 (0,0)))/\Hid (TI A B i 0 l)/\Hid (Kept (fun i=>i=W.heap.size) W wr)) (fun v _=>la-uOf v)
 case atStart=>exact⟨0,_,rfl,by omega,HM2,hiD (by have:=TI.start A B;rwa[HLA.out,HLB.out]at this),HM1⟩
 case round =>
  obtain⟨i,l,rfl,hi,HL,HT,HK⟩:=hrel;rcases Nat.lt_or_ge i la with hlt|hge
  ·obtain⟨⟨g1,g2,g3⟩,g4⟩:=HXA.out wr HK.out;obtain⟨x0,x1,x2⟩:=cells3 g1;obtain⟨y0,y1,y2⟩:=cells3 g2;clear g1 g2 g3 g4;go_wp2_with fail
   go_loopw [27] (fun v wr=>∃(k:Nat) (l:List Nat),v=.int .i64 (k:Int)/\k<=lb/\Hid (wr.heap[W.heap.size]? = some (.cells (iv l).toArray 3 (0,0)))/\Hid (TI A B i k l)/\Hid (Kept (fun i=>i=W.heap.size) W wr)) (fun v _=>lb-uOf v)
   case atStart=>exact⟨0,l,rfl,by omega,HL,HT,HK⟩
   case round =>
    clear HL HT HK;obtain⟨k,l,rfl,hk,HL,HT,HK⟩:=hrel;rcases Nat.lt_or_ge k lb with hltk|hgek
    ·obtain⟨⟨g1,g2,g3⟩,g4⟩:=HXA.out wr HK.out;obtain⟨x0,x1,x2⟩:=cells3 g1;obtain⟨y0,y1,y2⟩:=cells3 g2;obtain⟨ka,oa,rfl,ea⟩:=HSA.out wr g4 i hlt;obtain⟨kb,ob,rfl,eb⟩:=HSB.out wr g4 k hltk;have hll:l.length=la+lb+1:=by have:=HT.out.1;rw[HLA.out,HLB.out]at this;exact this
     have el:wr.cell? ⟨W.heap.size,i+k+2,none⟩=some (.int .i64 ((l.getD (i+k+2) 0:Nat):Int)):=by rw[aA2 HL.out];exact iv_at l _ (by omega)
     have bl:l.getD (i+k+2) 0<=81*4002000:=by
      have h1:=HT.out.2.1 (i+k+2);have h2:i*B.length<=2000*2000:=Nat.mul_le_mul (by omega) (by rw[HLB.out];omega);omega
     have ba:A.getD i 0<=9:=HDA.out _ (aL0 (by rw[HLA.out];exact hlt));have bb:B.getD k 0<=9:=HDB.out _ (aL0 (by rw[HLB.out];exact hltk));have bab:A.getD i 0*B.getD k 0<=9*9:=Nat.mul_le_mul ba bb;have HT2:=hiD (HT.out.step HDA.out HDB.out (by rw[HLA.out];exact hlt) (by rw[HLB.out];exact hltk));have HS2:Hid ((wr.drew.setCell ⟨W.heap.size,i+k+2,none⟩ (.int .i64 ((l.getD (i+k+2) 0+A.getD i 0*B.getD k 0:Nat):Int))).heap[W.heap.size]? = some (.cells (iv (l.set (i+k+2) (l.getD (i+k+2) 0+A.getD i 0*B.getD k 0))).toArray 3 (0,0))):=aZ7 (wr:=wr.drew) HL.out;have HK2:Hid (Kept (fun i=>i=W.heap.size) W (wr.drew.setCell ⟨W.heap.size,i+k+2,none⟩ (.int .i64 ((l.getD (i+k+2) 0+A.getD i 0*B.getD k 0:Nat):Int)))):=HK.out.drew.setCell _ _ (fun _=>rfl);have ff:=aA1 HL.out (i+k+2);generalize l.set (i+k+2) (l.getD (i+k+2) 0+A.getD i 0*B.getD k 0)=l2 at HT2 HS2;generalize hx:l.getD (i+k+2) 0=x at *;generalize hp:A.getD i 0=p at *;generalize hq:B.getD k 0=q at *;clear g1 g2 g3 g4 hll hx hp hq HL HT HK;rw[show((x+p*q:Nat):Int)=(x:Int)+(p:Int)*(q:Int)by simp]at HS2 HK2;have bpq:(0:Int)<=(p:Int)*(q:Int)/\(p:Int)*(q:Int)<=81:=by rw[<- Int.natCast_mul];omega
     obtain⟨bp1,bp2⟩:=bpq;go_wp2_with fail;refine wp_region_still_tail 20 (by kernel_rfl) (by kernel_rfl) ?_;simp only[List.take_succ_cons,List.take_zero,List.drop_succ_cons,List.drop_zero];refine aH9 _ _ ?_;change wpQuiet _ _ (fun w'=>w'=wr.drew) _ _ _;repeat (go_big_quiet_step (fail))
     refine wpQuiet_nil ?_;change wpList _ _ _ _ _ wr.drew;go_wp2_with fail;go_roundw
     case rel=>exact⟨k+1,l2,rfl,by omega,HS2,HT2,HK2⟩
     case measure=>simp[uOf];omega
    ·obtain rfl:k=lb:=by omega
     go_wp2_with fail;go_roundw
     case rel=>exact⟨i+1,l,rfl,by omega,HL,hiD (TI.row (by have:=HT.out;rwa[HLB.out]) (by rw[HLA.out];exact hlt)),HK⟩
     case measure=>simp[uOf];omega
  ·obtain rfl:la=i:=by omega
   have HC:Hid (CI (81*(A.length*B.length)) (dv A*dv B) (la+lb+1) (la+lb) l):=by
    have:=CI.start (A:=A) (B:=B) (l:=l) (by rw[HLA.out];exact HT.out);rw[HLA.out,HLB.out]at this ⊢;exact this
   have bM:A.length*B.length<=2000*2000:=Nat.mul_le_mul (by rw[HLA.out];exact hla) (by rw[HLB.out];exact hlb);generalize hM:81*(A.length*B.length)=M at *;have bM2:M<=324000000:=by omega
   clear bM hM HT hi;go_wp2_with fail
   go_loopw [8] (fun v wr=>∃(j:Nat) (l:List Nat),v=.int .i64 (j:Int)/\j<=la+lb/\Hid (wr.heap[W.heap.size]? = some (.cells (iv l).toArray 3 (0,0)))/\Hid (CI M (dv A*dv B) (la+lb+1) j l)/\Hid (Kept (fun i=>i=W.heap.size) W wr)) (fun v _=>uOf v)
   case atStart=>exact⟨la+lb,l,by simp,by omega,HL,HC,HK⟩
   case round =>
    clear HL HC HK;obtain⟨j,l,rfl,hj,HL,HC,HK⟩:=hrel;rcases Nat.eq_zero_or_pos j with rfl|hpos
    ·have hll:l.length=la+lb+1:=HC.out.1;have hdig:=HC.out.done (n:=la+lb) (by rw[HLA.out,HLB.out]) (by rw[HLA.out,HLB.out]) HDA.out HDB.out;have hdec:=HFIN.out l hdig HC.out.2.1;have hns:NsAt wr (.slice (some ⟨W.heap.size,0,none⟩) (la+lb+1) (la+lb+1)) l (some W.heap.size):=⟨0,la+lb+1,(iv l).toArray,by rw[hll],by omega,by simp[iv,hll],HL.out,fun i hi=>by rw[Nat.zero_add];exact iv_at l i hi⟩;have HNS:=hiD hns;obtain⟨⟨g1,g2,g3⟩,g4⟩:=HXA.out wr HK.out;obtain⟨x0,x1,x2⟩:=cells3 g1;obtain⟨y0,y1,y2⟩:=cells3 g2;have hb1:=HEA.out;have hb2:=HEB.out;have HG3:=hiD g3;have HG4:=hiD g4;have HLL:=hiD hll;have HDEC:=hiD hdec;clear hll hdig hns g1 g2 g3 g4 hdec HL HC HK;have hneg:∃ n3,n3=(a.neg != b.neg):=⟨_,rfl⟩;obtain⟨n3,hneg⟩:=hneg;rw[<- hneg]at HDEC;obtain⟨hb3,hb4⟩:=hb1;obtain⟨hb5,hb6⟩:=hb2;generalize a.neg=an at *;generalize b.neg=bn at *;generalize a.e=ae at *;generalize b.e=be at *;have key:Calls prog 36 #[.bool n3,.slice (some ⟨W.heap.size,0,none⟩) (la+lb+1) (la+lb+1),.int .i64 (ae+be)] wr (DmRes wr D):=by
      rw[<- HDEC.out];exact aQ9 n3 _ _ l _ wr HNS.out (by rw[HLL.out];omega) (by omega)
     have KEY:=hiD key;clear key;cases an<;>cases bn<;>subst hneg
     all_goals
      go_wp2_with fail;refine KEY.out.mono ?_;rintro e w2 ⟨v,rfl,hv,hk⟩;obtain⟨p,n',c',b',rfl,hs⟩:=hv.shape;have hb2:=hk.at HG3.out (fun f=>f);obtain⟨z0,z1,z2⟩:=cells3 hb2;have f0:=aA1 hb2 0;have f1:=aA1 hb2 1;have f2:=aA1 hb2 2;have HNE:=hiD (hs.ne hb2 (by decide));have st:=aP2 hb2 (.bool D.neg) (.slice p n' c') (.int .i64 D.e);generalize hW3:(((w2.setCell ⟨w.heap.size+1+1,0,none⟩ (.bool D.neg)).setCell ⟨w.heap.size+1+1,1,none⟩ (.slice p n' c')).setCell ⟨w.heap.size+1+1,2,none⟩ (.int .i64 D.e))=W3 at st;have S1:=hiD st.1;have S2:=hiD st.2;have HS:=hiD hs;have HKW:=hiD (HG4.out.same hk);clear st hs hk hb2 hv;go_wp2_with fail;obtain⟨d0,d1,d2⟩:=cells3 S1.out;refine bodyPost_ret (v:=.agg #[.bool D.neg,.slice p n' c',.int .i64 D.e]) ?_ rfl ⟨_,rfl,⟨_,b',rfl,HS.out.kept S2.out HNE.out⟩,HKW.out.trans S2.out (fun _ _ f=>f) (fun j hj h=>by omega)⟩;simp[results,Tryz.f18,loadVar,go_sem,d0,d1,d2]
    ·have hll:l.length=la+lb+1:=HC.out.1;have e1:wr.cell? ⟨W.heap.size,j,none⟩=some (.int .i64 ((l.getD j 0:Nat):Int)):=by rw[aA2 HL.out];exact iv_at l _ (by omega)
     have e0:wr.cell? ⟨W.heap.size,j-1,none⟩=some (.int .i64 ((l.getD (j-1) 0:Nat):Int)):=by rw[aA2 HL.out];exact iv_at l _ (by omega)
     have b1:l.getD j 0<=2*M:=HC.out.2.2.2.2;have b0:l.getD (j-1) 0<=M:=HC.out.2.2.2.1 _ (by omega);have HC2:=hiD (HC.out.step hpos (by omega));have hs1:(wr.drew.setCell ⟨W.heap.size,j-1,none⟩ (.int .i64 ((l.getD (j-1) 0+l.getD j 0/10:Nat):Int))).heap[W.heap.size]? = some (.cells (iv (l.set (j-1) (l.getD (j-1) 0+l.getD j 0/10))).toArray 3 (0,0)):=aZ7 (wr:=wr.drew) HL.out;have hk1:Kept (fun i=>i=W.heap.size) W (wr.drew.setCell ⟨W.heap.size,j-1,none⟩ (.int .i64 ((l.getD (j-1) 0+l.getD j 0/10:Nat):Int))):=HK.out.drew.setCell _ _ (fun _=>rfl);have hs2:((wr.drew.setCell ⟨W.heap.size,j-1,none⟩ (.int .i64 ((l.getD (j-1) 0+l.getD j 0/10:Nat):Int))).setCell ⟨W.heap.size,j,none⟩ (.int .i64 ((l.getD j 0%10:Nat):Int))).heap[W.heap.size]? = some (.cells (iv (cstep l j)).toArray 3 (0,0)):=aZ7 hs1;have hk2:Kept (fun i=>i=W.heap.size) W ((wr.drew.setCell ⟨W.heap.size,j-1,none⟩ (.int .i64 ((l.getD (j-1) 0+l.getD j 0/10:Nat):Int))).setCell ⟨W.heap.size,j,none⟩ (.int .i64 ((l.getD j 0%10:Nat):Int))):=hk1.setCell _ _ (fun _=>rfl);have f0:=aA1 HL.out (j-1);have hs0:(wr.setCell ⟨W.heap.size,j-1,none⟩ (.int .i64 ((l.getD (j-1) 0+l.getD j 0/10:Nat):Int))).heap[W.heap.size]? = some (.cells (iv (l.set (j-1) (l.getD (j-1) 0+l.getD j 0/10))).toArray 3 (0,0)):=aZ7 HL.out;have f1:=aA1 hs0 j;have e2:(wr.setCell ⟨W.heap.size,j-1,none⟩ (.int .i64 ((l.getD (j-1) 0+l.getD j 0/10:Nat):Int))).cell? ⟨W.heap.size,j,none⟩=some (.int .i64 ((l.getD j 0:Nat):Int)):=by
      rw[aA2 hs0,iv_at _ _ (by simp;omega),aN4 _ _ _ _ (by omega),if_neg (by omega)]
     clear hs0;generalize cstep l j=l2 at *;generalize hx:l.getD j 0=x at *;generalize hy:l.getD (j-1) 0=y at *;obtain⟨i,rfl⟩:∃ i,j=i+1:=⟨j-1,by omega⟩;rw[show i+1-1=i by omega]at *;rw[show((y+x/10:Nat):Int)=(y:Int)+(x:Int)/10 by omega]at hs1 hk1 hs2 hk2 f1 e2;rw[show((x%10:Nat):Int)=(x:Int)%10 by omega]at hs2 hk2;have HS2:=hiD hs2;have HK2:=hiD hk2;clear hll hx hy HL HC HK hs1 hk1 hs2 hk2;go_wp2_with fail;refine wp_region_still_tail 12 (by kernel_rfl) (by kernel_rfl) ?_;simp only[List.take_succ_cons,List.take_zero,List.drop_succ_cons,List.drop_zero];refine aH9 _ _ ?_;change wpQuiet _ _ (fun w'=>w'=wr.drew) _ _ _;repeat (go_big_quiet_step (fail))
     refine wpQuiet_nil ?_;change wpList _ _ _ _ _ wr.drew;go_wp2_with fail;go_roundw
     case rel=>exact⟨i,l2,rfl,by omega,HS2,HC2,HK2⟩
     case measure=>simp[uOf]
def allDg(s:ByteArray):Bool:=s.data.toList.all fun c=>isDg c.toNat
theorem cO5(s:ByteArray)(h:skip isDg s 0=s.size):allDg s=true:=by
 unfold allDg;rw[List.all_eq_true];intro c hc;obtain⟨i,hi,rfl⟩:=List.getElem_of_mem hc;have hi':i<s.size:=by simpa using hi
 exact dB4 (p:=isDg) (Nat.zero_le i) (by rw[h];exact hi') hi'
theorem dI1(s:ByteArray)(i:Nat)(h:i<s.size)(hd:isDg s[i].toNat=false):allDg s=false:=by
 cases ha:allDg s with
 | false=>rfl
 | true =>
  unfold allDg at ha;rw[List.all_eq_true]at ha;have hi:i<s.data.toList.length:=by simpa using h
  have:=ha (s.data.toList[i]) (List.getElem_mem hi);have e:s.data.toList[i]=s[i]:=rfl;rw[e,hd]at this;cases this
theorem bB5(s:ByteArray)(hs:s.size<=2147483647)(w:World):Calls prog 73 #[.string s] w fun e w'=>e=.returned (.bool (allDg s))/\w=w':=by
 go_enter func73,ntmps73;go_wp2_with fail
 go_loop [3] (fun v=>∃ i:Nat,v=.int .i64 (i:Int)/\i<=s.size/\Hid (skip isDg s 0=skip isDg s i)) (fun v=>s.size-(intOf v).toNat)
 case atStart=>exact⟨0,rfl,by omega,hiD rfl⟩
 case round =>
  obtain⟨i,rfl,hi,HE⟩:=hrel;rcases Nat.lt_or_ge i s.size with hlt|hge
  ·by_cases hd:isDg s[i].toNat=true
   ·have HST:=hiD (aO1 hlt hd);simp only[isDg,Bool.and_eq_true,decide_eq_true_eq]at hd;obtain⟨d1,d2⟩:=hd;go_wp2_with fail;go_round
    case rel=>exact⟨i+1,rfl,by omega,by rw[<- HST.out];exact HE⟩
    case measure=>simp[intOf];omega
   ·have hd0:isDg s[i].toNat=false:=by simpa using hd
    have ha:=dI1 s i hlt hd0;have HA:=hiD ha;have hd1:¬ (48<=s[i].toNat/\s[i].toNat<=57):=by simpa[isDg]using hd
    clear hd hd0 ha;by_cases hlo:s[i].toNat<48;all_goals
     go_wp2_with fail;go_ret;exact⟨by rw[HA.out];rfl,rfl⟩
  ·have ha:=cO5 s (by rw[HE.out,aM5 hge];omega);have HA:=hiD ha;clear ha;go_wp2_with fail;go_ret;exact⟨by rw[HA.out];rfl,rfl⟩
structure QW where
 sign:Int
 num:ByteArray
 dot:Bool
 denom:ByteArray
 kind:Int
 place:Int
 upper:Bool
 psign:Int
 power:ByteArray
def QW.cells(q:QW):Array Value:=#[.int .i64 q.sign,.string q.num,.bool q.dot,.string q.denom,.int .i64 q.kind,.int .i64 q.place,.bool q.upper,.int .i64 q.psign,.string q.power]
structure QRight (q:QW):Prop where
 num:allDg q.num=true
 denom:allDg q.denom=true
 some:q.num.size+q.denom.size≠0
 dot:q.denom.size≠0->q.dot=true
 s0:0<=q.sign
 s2:q.sign<=2
 kinds:(q.kind=2 /\ -1<=q.place/\q.place<=6)\/(q.kind=1/\1<=q.place/\q.place<=6)\/(q.kind=0/\allDg q.power=true/\0<q.power.size/\q.power.size<4/\0<=q.psign/\q.psign<=2)
theorem bD3(s:ByteArray):s.toList.isEmpty=decide (s.size=0):=by
 rw[ByteArray.toList_eq];obtain⟨⟨l⟩⟩:=s;cases l with
 | nil=>rfl
 | cons x l=>symm;exact decide_eq_false (by show ¬ (x::l).length=0;simp)
theorem cell9{w:World}{q:Nat}{a0 a1 a2 a3 a4 a5 a6 a7 a8:Value}{T:TypeId}{fz:Nat×Nat}(h:w.heap[q]? = some (.cells #[a0,a1,a2,a3,a4,a5,a6,a7,a8] T fz)):
  w.cell? ⟨q,0,none⟩=some a0/\w.cell? ⟨q,1,none⟩=some a1/\w.cell? ⟨q,2,none⟩=some a2/\w.cell? ⟨q,3,none⟩=some a3/\w.cell? ⟨q,4,none⟩=some a4/\w.cell? ⟨q,5,none⟩=some a5/\w.cell? ⟨q,6,none⟩=some a6/\w.cell? ⟨q,7,none⟩=some a7/\w.cell? ⟨q,8,none⟩=some a8 :=
 ⟨by rw[aA2 h];rfl,by rw[aA2 h];rfl,by rw[aA2 h];rfl,by rw[aA2 h];rfl,by rw[aA2 h];rfl,by rw[aA2 h];rfl,by rw[aA2 h];rfl,by rw[aA2 h];rfl,by rw[aA2 h];rfl⟩
def dI2(w:World)(q:QW)(e:Ending)(w':World):Prop:=(∃ k:Bool,e=.returned (.bool k)/\(k=true->QRight q))/\Kept (fun _=>False) w w'
theorem bB6(q:QW)(h1:q.num.size<=2147483647)(h2:q.denom.size<=2147483647)(h3:q.power.size<=2147483647)(w:World):
  Calls prog 29 #[.agg q.cells] w (dI2 w q):=by
 obtain⟨sg,nm,dt,dn,kd,pl,up,ps,pw⟩:=q;simp only at h1 h2 h3;simp only[QW.cells];have k0:Kept (fun _=>False) w (w.alloc (.cells #[.int .i64 sg,.string nm,.bool dt,.string dn,.int .i64 kd,.int .i64 pl,.bool up,.int .i64 ps,.string pw] 23)):=(Kept.refl _ _).alloc _;have hb:=aA0 w (.cells #[.int .i64 sg,.string nm,.bool dt,.string dn,.int .i64 kd,.int .i64 pl,.bool up,.int .i64 ps,.string pw] 23);generalize hW:w.alloc (.cells #[.int .i64 sg,.string nm,.bool dt,.string dn,.int .i64 kd,.int .i64 pl,.bool up,.int .i64 ps,.string pw] 23)=W at *;obtain⟨c0,c1,c2,c3,c4,c5,c6,c7,c8⟩:=cell9 hb;have K0:=hiD k0;have D1:=hiD (bB5 nm h1 W);have D2:=hiD (bB5 dn h2 W);have D3:=hiD (bB5 pw h3 W);clear k0 hb
 -- a way that ends with false
 cases ha:allDg nm with
 | false =>
  rw[ha]at D1;go_enter func29,ntmps29;go_wp2_with fail;refine D1.out.mono ?_;rintro e w1 ⟨rfl,rfl⟩;go_wp2_with fail;go_ret;exact⟨⟨false,rfl,fun h=>by cases h⟩,K0.out⟩
 | true =>
  rw[ha]at D1;cases hb:allDg dn with
  | false =>
   rw[hb]at D2;go_enter func29,ntmps29;go_wp2_with fail;refine D1.out.mono ?_;rintro e w1 ⟨rfl,rfl⟩;go_wp2_with fail;refine D2.out.mono ?_;rintro e w1 ⟨rfl,rfl⟩;go_wp2_with fail;go_ret;exact⟨⟨false,rfl,fun h=>by cases h⟩,K0.out⟩
  | true =>
   rw[hb]at D2
   -- leaves
   have e1:(nm++dn).toList.isEmpty=decide (nm.size+dn.size=0):=by rw[bD3,ByteArray.size_append]
   have e2:=bD3 dn;by_cases hsz:nm.size+dn.size=0
   ·rw[decide_eq_true hsz]at e1;go_enter func29,ntmps29;go_wp2_with fail;refine D1.out.mono ?_;rintro e w1 ⟨rfl,rfl⟩;go_wp2_with fail;refine D2.out.mono ?_;rintro e w1 ⟨rfl,rfl⟩;go_wp2_with (go_at_call 73;refine D3.out.mono ?_;rintro e w1 ⟨rfl,rfl⟩)
    all_goals
     go_ret;exact⟨⟨false,rfl,fun h=>by cases h⟩,K0.out⟩
   ·rw[decide_eq_false hsz]at e1;by_cases hdn:dn.size=0
    ·rw[decide_eq_true hdn]at e2;have hdot:dn.size≠0->dt=true:=fun h=>absurd hdn h
     by_cases hs0:sg<0
     ·have g1:decide (sg<0)=true:=decT hs0;go_enter func29,ntmps29;go_wp2_with fail;refine D1.out.mono ?_;rintro e w1 ⟨rfl,rfl⟩;go_wp2_with fail;refine D2.out.mono ?_;rintro e w1 ⟨rfl,rfl⟩;go_wp2_with (go_at_call 73;refine D3.out.mono ?_;rintro e w1 ⟨rfl,rfl⟩)
      all_goals
       go_ret;exact⟨⟨false,rfl,fun h=>by cases h⟩,K0.out⟩
     ·have g1:decide (sg<0)=false:=decF hs0;by_cases hs2:2<sg
      ·have g2:decide (2<sg)=true:=decT hs2;go_enter func29,ntmps29;go_wp2_with fail;refine D1.out.mono ?_;rintro e w1 ⟨rfl,rfl⟩;go_wp2_with fail;refine D2.out.mono ?_;rintro e w1 ⟨rfl,rfl⟩;go_wp2_with (go_at_call 73;refine D3.out.mono ?_;rintro e w1 ⟨rfl,rfl⟩)
       all_goals
        go_ret;exact⟨⟨false,rfl,fun h=>by cases h⟩,K0.out⟩
      ·have g2:decide (2<sg)=false:=decF hs2;by_cases hk2:kd=2
       ·subst hk2;go_enter func29,ntmps29;go_wp2_with fail;refine D1.out.mono ?_;rintro e w1 ⟨rfl,rfl⟩;go_wp2_with fail;refine D2.out.mono ?_;rintro e w1 ⟨rfl,rfl⟩;go_wp2_with (go_at_call 73;refine D3.out.mono ?_;rintro e w1 ⟨rfl,rfl⟩)
        all_goals
         first
         | (go_ret;exact⟨⟨false,rfl,fun h=>by cases h⟩,K0.out⟩)
         | (go_ret;refine⟨⟨_,rfl,fun h=>⟨ha,hb,by simpa using hsz,hdot,by omega,by omega,?_⟩⟩,K0.out⟩;exact Or.inl ⟨rfl,(by first|(simp_all;done)|(simp_all;omega)|omega),(by first|(simp_all;done)|(simp_all;omega)|omega)⟩)
       ·have g3:(kd==2)=false:=beqF hk2;by_cases hk1:kd=1
        ·subst hk1;go_enter func29,ntmps29;go_wp2_with fail;refine D1.out.mono ?_;rintro e w1 ⟨rfl,rfl⟩;go_wp2_with fail;refine D2.out.mono ?_;rintro e w1 ⟨rfl,rfl⟩;go_wp2_with (go_at_call 73;refine D3.out.mono ?_;rintro e w1 ⟨rfl,rfl⟩)
         all_goals
          first
          | (go_ret;exact⟨⟨false,rfl,fun h=>by cases h⟩,K0.out⟩)
          | (go_ret;refine⟨⟨_,rfl,fun h=>⟨ha,hb,by simpa using hsz,hdot,by omega,by omega,?_⟩⟩,K0.out⟩;exact Or.inr (Or.inl ⟨rfl,(by first|(simp_all;done)|(simp_all;omega)|omega),(by first|(simp_all;done)|(simp_all;omega)|omega)⟩))
        ·have g4:(kd==1)=false:=beqF hk1;by_cases hk0:kd=0
         ·subst hk0;cases hp:allDg pw with
          | false =>
           rw[hp]at D3;go_enter func29,ntmps29;go_wp2_with fail;refine D1.out.mono ?_;rintro e w1 ⟨rfl,rfl⟩;go_wp2_with fail;refine D2.out.mono ?_;rintro e w1 ⟨rfl,rfl⟩;go_wp2_with (go_at_call 73;refine D3.out.mono ?_;rintro e w1 ⟨rfl,rfl⟩)
           all_goals
            go_ret;exact⟨⟨false,rfl,fun h=>by cases h⟩,K0.out⟩
          | true =>
           rw[hp]at D3;go_enter func29,ntmps29;go_wp2_with fail;refine D1.out.mono ?_;rintro e w1 ⟨rfl,rfl⟩;go_wp2_with fail;refine D2.out.mono ?_;rintro e w1 ⟨rfl,rfl⟩;go_wp2_with (go_at_call 73;refine D3.out.mono ?_;rintro e w1 ⟨rfl,rfl⟩)
           all_goals
            first
            | (go_ret;exact⟨⟨false,rfl,fun h=>by cases h⟩,K0.out⟩)
            | (go_ret;refine⟨⟨_,rfl,fun h=>⟨ha,hb,by simpa using hsz,hdot,by omega,by omega,?_⟩⟩,K0.out⟩;exact Or.inr (Or.inr ⟨rfl,hp,(by first|(simp_all;done)|(simp_all;omega)|omega),(by first|(simp_all;done)|(simp_all;omega)|omega),(by first|(simp_all;done)|(simp_all;omega)|omega),(by first|(simp_all;done)|(simp_all;omega)|omega)⟩))
         ·have g5:(kd==0)=false:=beqF hk0;go_enter func29,ntmps29;go_wp2_with fail;refine D1.out.mono ?_;rintro e w1 ⟨rfl,rfl⟩;go_wp2_with fail;refine D2.out.mono ?_;rintro e w1 ⟨rfl,rfl⟩;go_wp2_with (go_at_call 73;refine D3.out.mono ?_;rintro e w1 ⟨rfl,rfl⟩)
          all_goals
           go_ret;exact⟨⟨false,rfl,fun h=>by cases h⟩,K0.out⟩
    ·rw[decide_eq_false hdn]at e2;cases dt with
     | false =>
      go_enter func29,ntmps29;go_wp2_with fail;refine D1.out.mono ?_;rintro e w1 ⟨rfl,rfl⟩;go_wp2_with fail;refine D2.out.mono ?_;rintro e w1 ⟨rfl,rfl⟩;go_wp2_with (go_at_call 73;refine D3.out.mono ?_;rintro e w1 ⟨rfl,rfl⟩)
      all_goals
       go_ret;exact⟨⟨false,rfl,fun h=>by cases h⟩,K0.out⟩
     | true =>
      by_cases hs0:sg<0
      ·have g1:decide (sg<0)=true:=decT hs0;go_enter func29,ntmps29;go_wp2_with fail;refine D1.out.mono ?_;rintro e w1 ⟨rfl,rfl⟩;go_wp2_with fail;refine D2.out.mono ?_;rintro e w1 ⟨rfl,rfl⟩;go_wp2_with (go_at_call 73;refine D3.out.mono ?_;rintro e w1 ⟨rfl,rfl⟩)
       all_goals
        go_ret;exact⟨⟨false,rfl,fun h=>by cases h⟩,K0.out⟩
      ·have g1:decide (sg<0)=false:=decF hs0;by_cases hs2:2<sg
       ·have g2:decide (2<sg)=true:=decT hs2;go_enter func29,ntmps29;go_wp2_with fail;refine D1.out.mono ?_;rintro e w1 ⟨rfl,rfl⟩;go_wp2_with fail;refine D2.out.mono ?_;rintro e w1 ⟨rfl,rfl⟩;go_wp2_with (go_at_call 73;refine D3.out.mono ?_;rintro e w1 ⟨rfl,rfl⟩)
        all_goals
         go_ret;exact⟨⟨false,rfl,fun h=>by cases h⟩,K0.out⟩
       ·have g2:decide (2<sg)=false:=decF hs2;by_cases hk2:kd=2
        ·subst hk2;go_enter func29,ntmps29;go_wp2_with fail;refine D1.out.mono ?_;rintro e w1 ⟨rfl,rfl⟩;go_wp2_with fail;refine D2.out.mono ?_;rintro e w1 ⟨rfl,rfl⟩;go_wp2_with (go_at_call 73;refine D3.out.mono ?_;rintro e w1 ⟨rfl,rfl⟩)
         all_goals
          first
          | (go_ret;exact⟨⟨false,rfl,fun h=>by cases h⟩,K0.out⟩)
          | (go_ret;refine⟨⟨_,rfl,fun h=>⟨ha,hb,by simpa using hsz,(fun _=>rfl),by omega,by omega,?_⟩⟩,K0.out⟩;exact Or.inl ⟨rfl,(by first|(simp_all;done)|(simp_all;omega)|omega),(by first|(simp_all;done)|(simp_all;omega)|omega)⟩)
        ·have g3:(kd==2)=false:=beqF hk2;by_cases hk1:kd=1
         ·subst hk1;go_enter func29,ntmps29;go_wp2_with fail;refine D1.out.mono ?_;rintro e w1 ⟨rfl,rfl⟩;go_wp2_with fail;refine D2.out.mono ?_;rintro e w1 ⟨rfl,rfl⟩;go_wp2_with (go_at_call 73;refine D3.out.mono ?_;rintro e w1 ⟨rfl,rfl⟩)
          all_goals
           first
           | (go_ret;exact⟨⟨false,rfl,fun h=>by cases h⟩,K0.out⟩)
           | (go_ret;refine⟨⟨_,rfl,fun h=>⟨ha,hb,by simpa using hsz,(fun _=>rfl),by omega,by omega,?_⟩⟩,K0.out⟩;exact Or.inr (Or.inl ⟨rfl,(by first|(simp_all;done)|(simp_all;omega)|omega),(by first|(simp_all;done)|(simp_all;omega)|omega)⟩))
         ·have g4:(kd==1)=false:=beqF hk1;by_cases hk0:kd=0
          ·subst hk0;cases hp:allDg pw with
           | false =>
            rw[hp]at D3;go_enter func29,ntmps29;go_wp2_with fail;refine D1.out.mono ?_;rintro e w1 ⟨rfl,rfl⟩;go_wp2_with fail;refine D2.out.mono ?_;rintro e w1 ⟨rfl,rfl⟩;go_wp2_with (go_at_call 73;refine D3.out.mono ?_;rintro e w1 ⟨rfl,rfl⟩)
            all_goals
             go_ret;exact⟨⟨false,rfl,fun h=>by cases h⟩,K0.out⟩
           | true =>
            rw[hp]at D3;go_enter func29,ntmps29;go_wp2_with fail;refine D1.out.mono ?_;rintro e w1 ⟨rfl,rfl⟩;go_wp2_with fail;refine D2.out.mono ?_;rintro e w1 ⟨rfl,rfl⟩;go_wp2_with (go_at_call 73;refine D3.out.mono ?_;rintro e w1 ⟨rfl,rfl⟩)
            all_goals
             first
             | (go_ret;exact⟨⟨false,rfl,fun h=>by cases h⟩,K0.out⟩)
             | (go_ret;refine⟨⟨_,rfl,fun h=>⟨ha,hb,by simpa using hsz,(fun _=>rfl),by omega,by omega,?_⟩⟩,K0.out⟩;exact Or.inr (Or.inr ⟨rfl,hp,(by first|(simp_all;done)|(simp_all;omega)|omega),(by first|(simp_all;done)|(simp_all;omega)|omega),(by first|(simp_all;done)|(simp_all;omega)|omega),(by first|(simp_all;done)|(simp_all;omega)|omega)⟩))
          ·have g5:(kd==0)=false:=beqF hk0;go_enter func29,ntmps29;go_wp2_with fail;refine D1.out.mono ?_;rintro e w1 ⟨rfl,rfl⟩;go_wp2_with fail;refine D2.out.mono ?_;rintro e w1 ⟨rfl,rfl⟩;go_wp2_with (go_at_call 73;refine D3.out.mono ?_;rintro e w1 ⟨rfl,rfl⟩)
           all_goals
            go_ret;exact⟨⟨false,rfl,fun h=>by cases h⟩,K0.out⟩
def cD1(w:World)(q:QW)(e:Ending)(w':World):Prop:=(∃ k:Bool,e=.returned (.bool k)/\(k=true->q.num.size<=2147483647/\q.denom.size<=2147483647/\q.power.size<=2147483647))/\Kept (fun _=>False) w w'
theorem bW7(q:QW)(w:World):Calls prog 7 #[.agg q.cells] w (cD1 w q):=by
 obtain⟨sg,nm,dt,dn,kd,pl,up,ps,pw⟩:=q;simp only[QW.cells];have K0:=hiD ((Kept.refl (fun _=>False) w).alloc (.cells #[.int .i64 sg,.string nm,.bool dt,.string dn,.int .i64 kd,.int .i64 pl,.bool up,.int .i64 ps,.string pw] 23));have hb:=aA0 w (.cells #[.int .i64 sg,.string nm,.bool dt,.string dn,.int .i64 kd,.int .i64 pl,.bool up,.int .i64 ps,.string pw] 23);obtain⟨c0,c1,c2,c3,c4,c5,c6,c7,c8⟩:=cell9 hb;clear hb;by_cases h1:(2147483647:Int)<(nm.size:Int)
 ·go_enter func7,ntmps7;go_wp2_with fail;go_ret;exact⟨⟨false,rfl,fun h=>by cases h⟩,K0.out⟩
 ·by_cases h2:(2147483647:Int)<(dn.size:Int)
  ·go_enter func7,ntmps7;go_wp2_with fail;go_ret;exact⟨⟨false,rfl,fun h=>by cases h⟩,K0.out⟩
  ·by_cases h3:(2147483647:Int)<(pw.size:Int)
   ·go_enter func7,ntmps7;go_wp2_with fail;go_ret;exact⟨⟨false,rfl,fun h=>by cases h⟩,K0.out⟩
   ·go_enter func7,ntmps7;go_wp2_with fail;go_ret;exact⟨⟨true,rfl,fun _=>⟨by show nm.size<=_;omega,by show dn.size<=_;omega,by show pw.size<=_;omega⟩⟩,K0.out⟩
section
open Go.RowKit
open Go.Proofs.YtjebnpkebccffaaGreatDoorW.PrintLast
def sgStr(n:Int):ByteArray:=if n=1 then⟨#[43]⟩else if n=2 then⟨#[45]⟩else⟨#[]⟩
theorem aP5(n:Int):(sgStr n).size<=1:=by
 unfold sgStr;split
 ·decide
 ·split<;>decide
theorem aK5(n:Int)(w:World)(h0:0<=n)(h2:n<=2):Calls prog 75 #[.int .i64 n] w fun e w'=>e=.returned (.string (sgStr n))/\Kept (fun _=>False) w w':=by
 have K:=hiD ((Kept.refl (fun _=>False) w).alloc (.cells #[.string ⟨#[]⟩,.string ⟨#[43]⟩,.string ⟨#[45]⟩] 9));have hn:n=0\/n=1\/n=2:=by omega
 clear h0 h2;rcases hn with rfl|rfl|rfl;all_goals
  go_enter func75,ntmps75;go_wp2_with fail;go_ret;exact⟨rfl,K.out⟩
def aT6:Nat->ByteArray
 | 0=>⟨#[109]⟩
 | 1=>⟨#[]⟩
 | 2=>⟨#[107]⟩
 | 3=>⟨#[77]⟩
 | 4=>⟨#[71]⟩
 | 5=>⟨#[84]⟩
 | 6=>⟨#[80]⟩
 | 7=>⟨#[69]⟩
 | _=>⟨#[]⟩
def aV6:Nat->ByteArray
 | 0=>⟨#[75,105]⟩
 | 1=>⟨#[77,105]⟩
 | 2=>⟨#[71,105]⟩
 | 3=>⟨#[84,105]⟩
 | 4=>⟨#[80,105]⟩
 | 5=>⟨#[69,105]⟩
 | _=>⟨#[]⟩
def qbase(q:QW):ByteArray:=if q.dot=true then sgStr q.sign++q.num++(⟨#[46]⟩++q.denom)else sgStr q.sign++q.num
def aF0(q:QW):ByteArray :=
 if q.kind=2 then qbase q++aT6 (q.place+1).toNat
 else if q.kind=1 then qbase q++aV6 (q.place-1).toNat
 else if q.upper=true then qbase q++⟨#[69]⟩++sgStr q.psign++q.power
 else qbase q++⟨#[101]⟩++sgStr q.psign++q.power
def dI3(w:World)(q:QW)(e:Ending)(w':World):Prop:=e=.returned (.string (aF0 q))/\Kept (fun _=>False) w w'
theorem bB7(q:QW)(hq:QRight q)(h1:q.num.size<=1000000/\q.denom.size<=1000000)(w:World):Calls prog 31 #[.agg q.cells] w (dI3 w q):=by
 obtain⟨-,-,-,-,hs0,hs2,hkinds⟩:=hq;obtain⟨sg,nm,dt,dn,kd,pl,up,ps,pw⟩:=q;simp only at hs0 hs2 hkinds h1;obtain⟨z1,z2⟩:=h1;have zs:=aP5 sg;have zp:=aP5 ps;have f1:¬ (9223372036854775807<(sgStr sg).size+nm.size):=by omega
 simp only[QW.cells];have k0:Kept (fun _=>False) w (w.alloc (.cells #[.int .i64 sg,.string nm,.bool dt,.string dn,.int .i64 kd,.int .i64 pl,.bool up,.int .i64 ps,.string pw] 23)):=(Kept.refl _ _).alloc _;have hb:=aA0 w (.cells #[.int .i64 sg,.string nm,.bool dt,.string dn,.int .i64 kd,.int .i64 pl,.bool up,.int .i64 ps,.string pw] 23);generalize hW:w.alloc (.cells #[.int .i64 sg,.string nm,.bool dt,.string dn,.int .i64 kd,.int .i64 pl,.bool up,.int .i64 ps,.string pw] 23)=W at *;have hbd:W.drew.heap[w.heap.size]? = _:=hb;obtain⟨c0,c1,c2,c3,c4,c5,c6,c7,c8⟩:=cell9 hbd;have HBd:=hiD hbd;have KD:=hiD k0.drew;clear k0 hb hbd;go_enter func31,ntmps31;go_wp2_with fail;refine start_ (n:=7) (S:=fun w'=>w'.cell? ⟨w.heap.size,0,none⟩=some (.int .i64 sg)/\w'.cell? ⟨w.heap.size,1,none⟩=some (.string nm)) (ds:=[]) #[false,false,false,false,false,false,false] (by kernel_rfl) rfl rfl ⟨c0,c1⟩ (fun hHeld=>?_);refine rgp 0 4 ?_;refine rgp 3 7 ?_;refine rgt 1 5 hHeld ?_;refine rgt 4 8 hHeld ?_;refine one_ (i:=2) (N:=some 6) #[true,true,true,true,true,false,false] rfl rfl (by kernel_rfl) (by decide) (fun K hK=>?_);refine goes_ func75 (by kernel_rfl) rfl #[.int .i64 sg] (by rfl) rfl rfl (by simp only[List.map_toArray,List.map_cons,List.map_nil];rfl) ?_;with_reducible refine(aK5 sg _ (by omega) (by omega)).mono ?_
 rintro e w9 ⟨rfl,hk⟩;have G1:=hiD (hk.at HBd.out (fun f=>f));obtain⟨r0,r1,r2,r3,r4,r5,r6,r7,r8⟩:=cell9 G1.out;have K9:=hiD (KD.out.same hk);clear hk;refine⟨_,rfl,?_⟩;refine hK.out _ _ ⟨r0,r1⟩ (fun hHeld=>?_);clear hK K;refine rgn 6 ?_;refine rgp 5 9 ?_;refine rgp 6 3 ?_;refine done_ (by kernel_rfl) ?_
 have HK2:=hiD hkinds;clear c0 c1 c2 c3 c4 c5 c6 c7 c8 r0 r1 r2 r3 r4 r5 r6 r7 r8 hW hkinds;obtain⟨d0,d1,d2,d3,d4,d5,d6,d7,d8⟩:=cell9 G1.out;have hlt:=aB5 G1.out;have hb9:w9.drew.heap[w.heap.size]? = _:=G1.out;obtain⟨x0,x1,x2,x3,x4,x5,x6,x7,x8⟩:=cell9 hb9;have G1d:=hiD hb9;have K9d:=hiD K9.out.drew;clear hb9;cases dt
 all_goals
  rcases HK2.out with⟨rfl,p1,p2⟩|⟨rfl,p1,p2⟩|⟨rfl,p1,p2,p3,p4,p5⟩
  ·have hp:pl = -1\/pl=0\/pl=1\/pl=2\/pl=3\/pl=4\/pl=5\/pl=6:=by omega
   clear p1 p2 HK2;rcases hp with rfl|rfl|rfl|rfl|rfl|rfl|rfl|rfl;all_goals
    go_wp2_with fail;go_ret;exact⟨rfl,K9.out.alloc _⟩
  ·have hp:pl=1\/pl=2\/pl=3\/pl=4\/pl=5\/pl=6:=by omega
   clear p1 p2 HK2;rcases hp with rfl|rfl|rfl|rfl|rfl|rfl;all_goals
    go_wp2_with fail;go_ret;exact⟨rfl,K9.out.alloc _⟩
  ·clear HK2;cases up
   ·go_wp2_with fail;have f00:¬ (9223372036854775807<(sgStr sg).size+nm.size+1):=by omega
    have f01:¬ (9223372036854775807<(sgStr sg).size+nm.size+1+(sgStr ps).size):=by omega
    have f02:¬ (9223372036854775807<(sgStr sg).size+nm.size+1+(sgStr ps).size+pw.size):=by omega
    have f10:¬ (9223372036854775807<(sgStr sg).size+nm.size+(1+dn.size)+1):=by omega
    have f11:¬ (9223372036854775807<(sgStr sg).size+nm.size+(1+dn.size)+1+(sgStr ps).size):=by omega
    have f12:¬ (9223372036854775807<(sgStr sg).size+nm.size+(1+dn.size)+1+(sgStr ps).size+pw.size):=by omega
    have f20:¬ (9223372036854775807<(sgStr sg).size+nm.size+(dn.size+1)+1):=by omega
    have f21:¬ (9223372036854775807<(sgStr sg).size+nm.size+(dn.size+1)+1+(sgStr ps).size):=by omega
    have f22:¬ (9223372036854775807<(sgStr sg).size+nm.size+(dn.size+1)+1+(sgStr ps).size+pw.size):=by omega
    refine start_ (n:=10) (S:=fun w'=>w'.cell? ⟨w.heap.size,7,none⟩=some (.int .i64 ps)/\w'.cell? ⟨w.heap.size,8,none⟩=some (.string pw)) (ds:=[]) #[false,false,false,false,false,false,false,false,false,false] (by kernel_rfl) rfl rfl ⟨x7,x8⟩ (fun hHeld=>?_);refine rgp 0 50 ?_;refine rgp 1 51 ?_;refine rgp 2 52 ?_;refine rgp 6 56 ?_;refine rgt 3 53 hHeld ?_;refine rgt 7 57 hHeld ?_;refine one_ (i:=4) (N:=some 54) #[true,true,true,true,true,false,true,true,false,false] rfl rfl (by kernel_rfl) (by decide) (fun K hK=>?_);refine goes_ func75 (by kernel_rfl) rfl #[.int .i64 ps] (by rfl) rfl rfl (by simp only[List.map_toArray,List.map_cons,List.map_nil];rfl) ?_;with_reducible refine(aK5 ps _ (by omega) (by omega)).mono ?_
    rintro e w10 ⟨rfl,hk⟩;have G2:=hiD (hk.at G1d.out (fun f=>f));obtain⟨r0,r1,r2,r3,r4,r5,r6,r7,r8⟩:=cell9 G2.out;have K10:=hiD (K9d.out.same hk);clear hk;refine⟨_,rfl,?_⟩;refine hK.out _ _ ⟨r7,r8⟩ (fun hHeld=>?_);clear hK K;refine rgn 54 ?_;refine rgp 5 55 ?_;refine rgp 8 58 ?_;refine rgp 9 2 ?_;refine done_ (by kernel_rfl) ?_
    go_wp2_with fail;go_ret;exact⟨rfl,K10.out⟩
   ·go_wp2_with fail;have f00:¬ (9223372036854775807<(sgStr sg).size+nm.size+1):=by omega
    have f01:¬ (9223372036854775807<(sgStr sg).size+nm.size+1+(sgStr ps).size):=by omega
    have f02:¬ (9223372036854775807<(sgStr sg).size+nm.size+1+(sgStr ps).size+pw.size):=by omega
    have f10:¬ (9223372036854775807<(sgStr sg).size+nm.size+(1+dn.size)+1):=by omega
    have f11:¬ (9223372036854775807<(sgStr sg).size+nm.size+(1+dn.size)+1+(sgStr ps).size):=by omega
    have f12:¬ (9223372036854775807<(sgStr sg).size+nm.size+(1+dn.size)+1+(sgStr ps).size+pw.size):=by omega
    have f20:¬ (9223372036854775807<(sgStr sg).size+nm.size+(dn.size+1)+1):=by omega
    have f21:¬ (9223372036854775807<(sgStr sg).size+nm.size+(dn.size+1)+1+(sgStr ps).size):=by omega
    have f22:¬ (9223372036854775807<(sgStr sg).size+nm.size+(dn.size+1)+1+(sgStr ps).size+pw.size):=by omega
    refine start_ (n:=10) (S:=fun w'=>w'.cell? ⟨w.heap.size,7,none⟩=some (.int .i64 ps)/\w'.cell? ⟨w.heap.size,8,none⟩=some (.string pw)) (ds:=[]) #[false,false,false,false,false,false,false,false,false,false] (by kernel_rfl) rfl rfl ⟨x7,x8⟩ (fun hHeld=>?_);refine rgp 0 41 ?_;refine rgp 1 42 ?_;refine rgp 2 43 ?_;refine rgp 6 47 ?_;refine rgt 3 44 hHeld ?_;refine rgt 7 48 hHeld ?_;refine one_ (i:=4) (N:=some 45) #[true,true,true,true,true,false,true,true,false,false] rfl rfl (by kernel_rfl) (by decide) (fun K hK=>?_);refine goes_ func75 (by kernel_rfl) rfl #[.int .i64 ps] (by rfl) rfl rfl (by simp only[List.map_toArray,List.map_cons,List.map_nil];rfl) ?_;with_reducible refine(aK5 ps _ (by omega) (by omega)).mono ?_
    rintro e w10 ⟨rfl,hk⟩;have G2:=hiD (hk.at G1d.out (fun f=>f));obtain⟨r0,r1,r2,r3,r4,r5,r6,r7,r8⟩:=cell9 G2.out;have K10:=hiD (K9d.out.same hk);clear hk;refine⟨_,rfl,?_⟩;refine hK.out _ _ ⟨r7,r8⟩ (fun hHeld=>?_);clear hK K;refine rgn 45 ?_;refine rgp 5 46 ?_;refine rgp 8 49 ?_;refine rgp 9 2 ?_;refine done_ (by kernel_rfl) ?_
    go_wp2_with fail;go_ret;exact⟨rfl,K10.out⟩
theorem aD5(a b:ByteArray):(a++b).data.toList=a.data.toList++b.data.toList:=by
 rw[ByteArray.data_append,Array.toList_append]
def dnL(q:QW):List UInt8:=if q.dot=true then 46::q.denom.data.toList else []
theorem bB8(q:QW):(qbase q).data.toList=(sgStr q.sign).data.toList++q.num.data.toList++dnL q:=by
 unfold qbase dnL;cases q.dot
 ·rw[if_neg (by decide),if_neg (by decide),aD5,List.append_nil]
 ·rw[if_pos rfl,if_pos rfl,aD5,aD5,aD5];rfl
theorem aP6(n:Int):(sgStr n).data.toList=[]\/(sgStr n).data.toList=[43]\/(sgStr n).data.toList=[45]:=by
 unfold sgStr;split
 ·exact Or.inr (Or.inl rfl)
 ·split
  ·exact Or.inr (Or.inr rfl)
  ·exact Or.inl rfl
theorem aF4{s:ByteArray}(h:allDg s=true):∀ x∈s.data.toList,isDg x.toNat=true:=by
 unfold allDg at h;rwa[List.all_eq_true]at h
theorem cD2{q:QW}(hq:QRight q){suf:ByteArray}(hs:∃ c r,suf.data.toList=c::r/\isSf c.toNat=true):Word (qbase q++suf) (sgStr q.sign).data.toList q.num.data.toList (dnL q) suf.data.toList where
 whole:=by rw[aD5,bB8]
 sign:=aP6 _
 digs:=aF4 hq.num
 frac:=by
  unfold dnL;split
  ·exact Or.inr ⟨_,rfl,aF4 hq.denom⟩
  ·exact Or.inl rfl
 suff:=hs
theorem dY7{l:List UInt8}(h:l.all (fun x=>isSf x.toNat)=true):∀ x∈l,isSf x.toNat=true:=by rwa[List.all_eq_true]at h
end
end Go.Proofs.YtjebnpkebccffaaGreatDoor
