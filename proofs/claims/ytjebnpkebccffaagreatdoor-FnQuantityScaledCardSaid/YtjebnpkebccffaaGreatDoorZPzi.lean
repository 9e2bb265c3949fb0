import Derived.Test.YtjebnpkebccffaaGreatDoorZQme
set_option linter.unusedSimpArgs false
set_option linter.unusedVariables false
set_option linter.unusedSectionVars false
set_option maxRecDepth 100000
set_option maxHeartbeats 8000000
namespace Go.Proofs.YtjebnpkebccffaaGreatDoor
open Go.RowKit Go.Proofs.Tryz
theorem bQ1{k:ByteArray}:∀(l:List (ByteArray×Value)) (i:Nat),(∀ p∈l,p.1≠k)->lkp l k i=none
 | [],_,_=>rfl
 | p::l,i,h=>by
  rw[lkp,if_neg (h p (by simp))];exact bQ1 l (i+1) (fun q hq=>h q (by simp[hq]))
theorem cO6:(sufS decE).all (fun p=>decide (p.1.size<=1))=true:=by decide +kernel
theorem dY8:(sufS binE).all (fun p=>p.1.data.toList[1]? == some 105)=true:=by decide +kernel
theorem aL3{s:ByteArray}{l:List UInt8}(h:s.data.toList≠l):(s.toList==l)=false:=by
 rw[ByteArray.toList_eq]
 simpa using h
theorem bQ2(l:List UInt8)(hd:∀ c∈l,isDg c.toNat=true)(h1:l≠[])(h2:l.length<=18):Lib.parseUintB 64 l=.ok (bv l):=by
 have hp:(10:Nat)^l.length<=10^18:=Nat.pow_le_pow_right (by omega) h2;have e18:(10:Nat)^18=1000000000000000000:=by decide
 unfold Lib.parseUintB;rw[if_neg h1,show(2:Nat)^64-1=18446744073709551615 by decide,cY6 l 0 hd (by omega)];simp
theorem cO7(ps pw:List UInt8)(hp:ps=[]\/ps=[43]\/ps=[45])(hd:∀ c∈pw,isDg c.toNat=true)(h1:pw≠[])(h2:pw.length<=18):Lib.parseIntB 64 (ps++pw)=.ok (if ps=[45]then -(bv pw:Int)else(bv pw:Int)):=by
 have hu:=bQ2 pw hd h1 h2;have hb:=bv_lt pw;have hpw:(10:Nat)^pw.length<=10^18:=Nat.pow_le_pow_right (by omega) h2;have e18:(10:Nat)^18=1000000000000000000:=by decide
 have e63:(2:Nat)^(64-1)=9223372036854775808:=by decide
 rcases hp with rfl|rfl|rfl
 ·rw[if_neg (by simp)];exact(aZ8 pw hd h1 h2).1
 ·rw[if_neg (by decide),List.cons_append,List.nil_append,Lib.parseIntB_plus,hu];simp only[Lib.signlessC];rw[if_neg (by omega)]
 ·rw[if_pos rfl,List.cons_append,List.nil_append,Lib.parseIntB_minus,hu];simp only[Lib.signedC];rw[if_neg (by omega)]
theorem dJ0(s:ByteArray)(c:UInt8)(ps pw:List UInt8)(hs:s.data.toList=c::(ps++pw))(hc:c.toNat=69\/c.toNat=101)(hp:ps=[]\/ps=[43]\/ps=[45])(hd:∀ c∈pw,isDg c.toNat=true)(h1:pw≠[])(h2:pw.length<=3)(x:Int)(hx:x=if ps=[45]then -(bv pw:Int)else(bv pw:Int))(d:Nat)(w:World)(h:Suffixer w d):Calls prog 331 #[.agg #[.pointer (some ⟨d,0,none⟩)],.string s] w (aK4 w 10 x fExp true):=by
 have hsz:=aD1 hs;have hl1:1<=pw.length:=List.length_pos_iff.2 h1;have hpl:ps.length<=1:=by rcases hp with rfl|rfl|rfl<;>simp
 have hsz2:s.size=1+ps.length+pw.length:=by rw[hsz];simp;omega
 have h0:s[0]'(by omega)=c:=by
  have hj':0<s.data.toList.length:=by simpa using(show 0<s.size by omega)
  have:s.data.toList[0]? = some (s[0]'(by omega)):=by rw[List.getElem?_eq_getElem hj'];rfl
  rw[hs]at this;simp at this;exact this.symm
 obtain⟨y,r,hy,hyi⟩:∃ y r,ps++pw=y::r/\y≠105:=by
  rcases hp with rfl|rfl|rfl
  ·cases pw with
   | nil=>exact absurd rfl h1
   | cons a l =>
    refine⟨a,l,rfl,?_⟩;rintro rfl;exact absurd (hd 105 (by simp)) (by decide)
  ·exact⟨43,pw,rfl,by decide⟩
  ·exact⟨45,pw,rfl,by decide⟩
 have hne:∀ l:List UInt8,l.length<=1->s.data.toList≠l:=by
  intro l hl e;rw[hs,hy]at e;rw[<- e]at hl;simp at hl
 have hbv:=bv_lt pw;have hpw:(10:Nat)^pw.length<=10^3:=Nat.pow_le_pow_right (by omega) h2;have e3:(10:Nat)^3=1000:=by decide
 have hxb:-1000<=x/\x<=1000:=by rw[hx];split<;>omega
 refine aG6 d s w 10 x fExp true (fun w1 hk=>?_) ?_ (aL3 (hne _ (by simp))) (aL3 (hne _ (by simp))) (aL3 (hne _ (by simp))) (aL3 (hne _ (by simp))) (aL3 (hne _ (by simp))) (aL3 (hne _ (by simp)))
 ·refine bL8 d s w1 (h.kept hk) (by omega) (bQ1 _ 0 (fun p hp' e=>?_)) (bQ1 _ 0 (fun p hp' e=>?_)) (by omega) (by rw[h0];exact hc) x true (fun w2 _=>?_) 10 x (fun _=>?_) (fun h=>by cases h)
  ·have:=List.all_eq_true.1 cO6 p hp';rw[e]at this;have:=of_decide_eq_true this;omega
  ·have:=List.all_eq_true.1 dY8 p hp';rw[e,hs,hy]at this;simp at this;exact hyi this
  ·have ht:(s.extract 1 s.size).data.toList=ps++pw:=by
    have:=aH1 (s:=s) (a:=[c]) (b:=ps++pw) (c:=[]) (by rw[hs];simp);rw[show [c].length+(ps++pw).length=s.size by rw[hsz2];simp;omega]at this;exact this
   have hpi:=cO7 ps pw hp hd h1 (by omega);rw[<- hx]at hpi;refine(aL6 (s.extract 1 s.size) (by rw[ByteArray.size_extract];omega) x (by rw[ht];exact hpi) w2).mono ?_;rintro e w' ⟨rfl,hk2⟩;exact⟨⟨.nilIface,rfl,fun _=>rfl,fun h=>by cases h⟩,hk2⟩
  ·first
   | exact⟨rfl,rfl⟩
   | exact⟨rfl,by rw[IntKind.wrap_i32];omega⟩
   | (refine⟨rfl,?_⟩;unfold wrap32;omega)
 ·rw[ByteArray.toList_eq,hs];rfl
theorem dJ1(pl:Int)(h1:-1<=pl)(h2:pl<=6)(d:Nat)(w:World)(h:Suffixer w d):Calls prog 331 #[.agg #[.pointer (some ⟨d,0,none⟩)],.string (aT6 (pl+1).toNat)] w (aK4 w 10 (3*pl) fDec true):=by
 have hc:pl = -1\/pl=0\/pl=1\/pl=2\/pl=3\/pl=4\/pl=5\/pl=6:=by omega
 rcases hc with rfl|rfl|rfl|rfl|rfl|rfl|rfl|rfl
 ·exact aX2 d w ⟨#[109]⟩ (-3) (by simp)
 ·exact aX2 d w ⟨#[]⟩ 0 (by simp)
 ·exact aX2 d w ⟨#[107]⟩ 3 (by simp)
 ·exact aX2 d w ⟨#[77]⟩ 6 (by simp)
 ·exact aX2 d w ⟨#[71]⟩ 9 (by simp)
 ·exact aG6 d _ w 10 12 fDec true (fun w1 hk=>aP8 d _ w1 (h.kept hk) 10 12 7 (by kernel_rfl)) (by rw[ByteArray.toList_eq];rfl) (by rw[ByteArray.toList_eq];rfl) (by rw[ByteArray.toList_eq];rfl) (by rw[ByteArray.toList_eq];rfl) (by rw[ByteArray.toList_eq];rfl) (by rw[ByteArray.toList_eq];rfl) (by rw[ByteArray.toList_eq];rfl)
 ·exact aG6 d _ w 10 15 fDec true (fun w1 hk=>aP8 d _ w1 (h.kept hk) 10 15 8 (by kernel_rfl)) (by rw[ByteArray.toList_eq];rfl) (by rw[ByteArray.toList_eq];rfl) (by rw[ByteArray.toList_eq];rfl) (by rw[ByteArray.toList_eq];rfl) (by rw[ByteArray.toList_eq];rfl) (by rw[ByteArray.toList_eq];rfl) (by rw[ByteArray.toList_eq];rfl)
 ·exact aG6 d _ w 10 18 fDec true (fun w1 hk=>aP8 d _ w1 (h.kept hk) 10 18 9 (by kernel_rfl)) (by rw[ByteArray.toList_eq];rfl) (by rw[ByteArray.toList_eq];rfl) (by rw[ByteArray.toList_eq];rfl) (by rw[ByteArray.toList_eq];rfl) (by rw[ByteArray.toList_eq];rfl) (by rw[ByteArray.toList_eq];rfl) (by rw[ByteArray.toList_eq];rfl)
theorem dJ2(pl:Int)(h1:1<=pl)(h2:pl<=6)(d:Nat)(w:World)(h:Suffixer w d):Calls prog 331 #[.agg #[.pointer (some ⟨d,0,none⟩)],.string (aV6 (pl-1).toNat)] w (aK4 w 2 (10*pl) fBin true):=by
 have hc:pl=1\/pl=2\/pl=3\/pl=4\/pl=5\/pl=6:=by omega
 rcases hc with rfl|rfl|rfl|rfl|rfl|rfl
 ·exact aG6 d _ w 2 10 fBin true (fun w1 hk=>aF7 d _ w1 (h.kept hk) 2 10 0 (by kernel_rfl) (by kernel_rfl)) (by rw[ByteArray.toList_eq];rfl) (by rw[ByteArray.toList_eq];rfl) (by rw[ByteArray.toList_eq];rfl) (by rw[ByteArray.toList_eq];rfl) (by rw[ByteArray.toList_eq];rfl) (by rw[ByteArray.toList_eq];rfl) (by rw[ByteArray.toList_eq];rfl)
 ·exact aG6 d _ w 2 20 fBin true (fun w1 hk=>aF7 d _ w1 (h.kept hk) 2 20 1 (by kernel_rfl) (by kernel_rfl)) (by rw[ByteArray.toList_eq];rfl) (by rw[ByteArray.toList_eq];rfl) (by rw[ByteArray.toList_eq];rfl) (by rw[ByteArray.toList_eq];rfl) (by rw[ByteArray.toList_eq];rfl) (by rw[ByteArray.toList_eq];rfl) (by rw[ByteArray.toList_eq];rfl)
 ·exact aG6 d _ w 2 30 fBin true (fun w1 hk=>aF7 d _ w1 (h.kept hk) 2 30 2 (by kernel_rfl) (by kernel_rfl)) (by rw[ByteArray.toList_eq];rfl) (by rw[ByteArray.toList_eq];rfl) (by rw[ByteArray.toList_eq];rfl) (by rw[ByteArray.toList_eq];rfl) (by rw[ByteArray.toList_eq];rfl) (by rw[ByteArray.toList_eq];rfl) (by rw[ByteArray.toList_eq];rfl)
 ·exact aG6 d _ w 2 40 fBin true (fun w1 hk=>aF7 d _ w1 (h.kept hk) 2 40 3 (by kernel_rfl) (by kernel_rfl)) (by rw[ByteArray.toList_eq];rfl) (by rw[ByteArray.toList_eq];rfl) (by rw[ByteArray.toList_eq];rfl) (by rw[ByteArray.toList_eq];rfl) (by rw[ByteArray.toList_eq];rfl) (by rw[ByteArray.toList_eq];rfl) (by rw[ByteArray.toList_eq];rfl)
 ·exact aG6 d _ w 2 50 fBin true (fun w1 hk=>aF7 d _ w1 (h.kept hk) 2 50 4 (by kernel_rfl) (by kernel_rfl)) (by rw[ByteArray.toList_eq];rfl) (by rw[ByteArray.toList_eq];rfl) (by rw[ByteArray.toList_eq];rfl) (by rw[ByteArray.toList_eq];rfl) (by rw[ByteArray.toList_eq];rfl) (by rw[ByteArray.toList_eq];rfl) (by rw[ByteArray.toList_eq];rfl)
 ·exact aG6 d _ w 2 60 fBin true (fun w1 hk=>aF7 d _ w1 (h.kept hk) 2 60 5 (by kernel_rfl) (by kernel_rfl)) (by rw[ByteArray.toList_eq];rfl) (by rw[ByteArray.toList_eq];rfl) (by rw[ByteArray.toList_eq];rfl) (by rw[ByteArray.toList_eq];rfl) (by rw[ByteArray.toList_eq];rfl) (by rw[ByteArray.toList_eq];rfl) (by rw[ByteArray.toList_eq];rfl)
def ch(x:Nat):UInt8:=UInt8.ofNat (48+x)
def txtL(neg:Bool)(l:List Nat):ByteArray:=⟨((if neg=true then [45]else [])++l.map ch).toArray⟩
def txtD(d:Dm):ByteArray:=if d.ds=[]then⟨#[48]⟩else txtL d.neg (wideL d 0)
theorem dT3(y:Nat)(h:y<=9):digS.extract y (y+1)=⟨#[ch y]⟩:=by
 match y,h with
 | 0,_=>rfl
 | 1,_=>rfl
 | 2,_=>rfl
 | 3,_=>rfl
 | 4,_=>rfl
 | 5,_=>rfl
 | 6,_=>rfl
 | 7,_=>rfl
 | 8,_=>rfl
 | 9,_=>rfl
 | n+10,h=>omega
theorem cY8(neg:Bool)(l:List Nat)(x:Nat):txtL neg l++(⟨#[ch x]⟩:ByteArray)=txtL neg (l++[x]):=by
 unfold txtL;rw[List.map_append,<- List.append_assoc];apply ByteArray.ext;rw[ByteArray.data_append];simp
theorem bX1(neg:Bool)(l:List Nat):(txtL neg l).size<=l.length+1:=by
 unfold txtL;show((if neg=true then [45]else [])++l.map ch).toArray.size<=_
 cases neg<;>simp
def intD(d:Dm):Int×Bool :=
 if 0<d.ds.length/\(d.e<0\/19<(d.ds.length:Int)+d.e)then(0,false)
 else if d.neg=true then(wrap64 (IntKind.u64.wrap (-(dv (wideL d 0):Int))),decide (dv (wideL d 0)<=9223372036854775808))
 else(wrap64 (dv (wideL d 0):Int),decide (dv (wideL d 0)<9223372036854775808))
theorem bL4{l:List Nat}(h:∀ x∈l,x<=9)(hl:l.length<=19)(i:Nat):dv (l.take i)<10000000000000000000:=by
 have h1:=dv_lt (l.take i) (fun x hx=>h x (List.mem_of_mem_take hx));have h2:(l.take i).length<=19:=by rw[List.length_take];omega
 exact Nat.lt_of_lt_of_le h1 (Nat.le_trans (Nat.pow_le_pow_right (by omega) h2) (by decide))
def cD4(w:World)(n:Int)(k:Bool)(e:Ending)(w':World):Prop:=e=.returned (.tuple #[.int .i64 n,.bool k])/\Kept (fun _=>False) w w'
def StrIs(w:World)(t:ByteArray)(e:Ending)(w':World):Prop:=e=.returned (.string t)/\Kept (fun _=>False) w w'
theorem bQ3{w:World}{p:Option Addr}{c:Nat}{l:List Nat}{b:Option Nat}(h:NsAt w (.slice p l.length c) l b):∀ i,i<l.length->∃(k o:Nat),p=some ⟨k,o,none⟩/\w.cell? ⟨k,o+i,none⟩=some (.int .i64 ((l.getD i 0:Nat):Int)):=by
 intro i hi;cases b with
 | none=>rw[h.2]at hi;simp at hi
 | some k =>
  obtain⟨o,cap,cs,h1,h2,h3,h4,h5⟩:=h;injection h1 with h1;exact⟨k,o,h1,by rw[aA2 h4];exact h5 i hi⟩
theorem aN8(v:Value)(d:Dm)(w:World)(h:DmAt w v d)(hl:d.ds.length<=5000)(hdg:∀ x∈d.ds,x<=9)(he:-5000<=d.e/\d.e<=5000):Calls prog 17 #[v] w (cD4 w (intD d).1 (intD d).2):=by
 obtain⟨p,c,b,rfl,hs⟩:=h.shape2;have hwl:=bP6 d 0;have hwd:∀ x∈wideL d 0,x<=9:=cJ1 hdg;have hlen:d.ds.length=0\/(0<=d.e/\(d.ds.length:Int)+d.e<=19)->(wideL d 0).length<=19:=fun h=>by
  rcases h with h|h
  ·unfold wideL;rw[if_pos (List.eq_nil_of_length_eq_zero h)];simp
  ·omega
 have hdef:intD d=if 0<d.ds.length/\(d.e<0\/19<(d.ds.length:Int)+d.e)then(0,false)else if d.neg=true then(wrap64 (IntKind.u64.wrap (-(dv (wideL d 0):Int))),decide (dv (wideL d 0)<=9223372036854775808))else(wrap64 (dv (wideL d 0):Int),decide (dv (wideL d 0)<9223372036854775808)):=rfl
 generalize intD d=R at *;generalize hn:d.ds.length=n at *;have k0:Kept (fun _=>False) w (w.alloc (.cells #[.bool d.neg,.slice p n c,.int .i64 d.e] 30)):=(Kept.refl _ _).alloc _;have hb:=aA0 w (.cells #[.bool d.neg,.slice p n c,.int .i64 d.e] 30);generalize hW:w.alloc (.cells #[.bool d.neg,.slice p n c,.int .i64 d.e] 30)=W at *;have K0:=hiD k0;have HB:=hiD hb;obtain⟨c0,c1,c2⟩:=cells3 hb;have HWI:=hiD (cH9 (.agg #[.bool d.neg,.slice p n c,.int .i64 d.e]) d 0 W (⟨_,b,rfl,hs.old k0⟩) (by omega) (by omega) (by omega));generalize wideL d 0=L at *;have HL:=hiD hl;have HE:=hiD he;have HWL:=hiD hwl;have HDG:=hiD hwd;have HDEF:=hiD hdef;have HLEN:=hiD hlen;clear h hs hb k0 hdg hwl hwd hdef hlen;by_cases hg:0<n/\(d.e<0\/19<(n:Int)+d.e)
 ·have HR:Hid (R=(0,false)):=by show R=_;rw[HDEF.out,if_pos hg]
  obtain⟨h1,h2⟩:=hg;have q0:decide (0<(n:Int))=true:=decT (by omega);by_cases he0:d.e<0
  ·go_enter func17,ntmps17;go_wp2_with fail;go_ret2;exact⟨by rw[HR.out];rfl,K0.out⟩
  ·have he1:19<(n:Int)+d.e:=by omega
   go_enter func17,ntmps17;go_wp2_with fail;go_ret2;exact⟨by rw[HR.out];rfl,K0.out⟩
 ·have HR:Hid (R=if d.neg=true then(wrap64 (IntKind.u64.wrap (-(dv L:Int))),decide (dv L<=9223372036854775808))else(wrap64 (dv L:Int),decide (dv L<9223372036854775808))):=by show R=_;rw[HDEF.out,if_neg hg]
  have HL19:=hiD (HLEN.out (by omega));have hcase:n=0\/(0<n/\0<=d.e/\(n:Int)+d.e<=19):=by omega
  clear hg;rcases hcase with rfl|⟨hn0,he0,he1⟩
  ·go_enter func17,ntmps17;go_wp2_with fail;refine HWI.out.mono ?_;rintro e w2 ⟨r,b2,rfl,hr,hk⟩;obtain⟨p2,c2',rfl⟩:=aR1 hr;have hx:=bQ3 hr;have HX:=hiD hx;have HTK:=hiD (bL4 HDG.out HL19.out);have HTS:Hid (∀ i,i<L.length->dv (L.take (i+1))=10*dv (L.take i)+L.getD i 0):=fun i hi=>bI3 L i hi
   have HTA:Hid (L.take L.length=L):=List.take_length;have HDD:Hid (∀ i,i<L.length->L.getD i 0<=9):=fun i hi=>HDG.out _ (aL0 hi);generalize hN:L.length=N at *;have hb2:=hk.at HB.out (fun f=>f);obtain⟨g0,g1,g2⟩:=cells3 hb2;have HK:=hiD (K0.out.same hk);have hNN:N<=19:=HL19.out;have HNN:=hiD hNN;clear hr hk hx hb2 c0 c1 c2 hN HWI hNN;go_wp2_with fail
   go_loop [4,28] (fun v4 v28=>∃ i:Nat,v4=.int .u64 (dv (L.take i):Int)/\v28=.int .i64 (i:Int)/\i<=N) (fun _ v28=>N-uOf v28)
   case atStart=>exact⟨0,by simp[dv],rfl,by omega⟩
   case round =>
    obtain⟨i,rfl,rfl,hi⟩:=hrel;rcases Nat.lt_or_ge i N with hlt|hge
    ·obtain⟨k,o,rfl,cy⟩:=HX.out i hlt;have hNN:=HNN.out;have hts:=HTS.out i hlt;have hb1:=HTK.out (i+1);have hb0:=HDD.out i hlt;have HT:=hiD hts;clear hts;generalize L.getD i 0=y at *;have hT2:=HT.out;generalize hX2:dv (L.take (i+1))=x2 at *;have HX2:=hiD hX2;generalize dv (L.take i)=x at *;have hw1:IntKind.u64.wrap (10*(x:Int))=10*(x:Int):=by rw[IntKind.wrap_u64];omega
     have hw2:IntKind.u64.wrap (10*(x:Int)+(y:Int))=10*(x:Int)+(y:Int):=by rw[IntKind.wrap_u64];omega
     have hw3:IntKind.u64.wrap (y:Int)=(y:Int):=by rw[IntKind.wrap_u64];omega
     have HY:Hid ((x2:Int)=10*(x:Int)+(y:Int)):=by show(x2:Int)=_;omega
     clear hb1 hb0 hT2 hX2;go_wp2_with fail;go_round
     case rel=>exact⟨i+1,by rw[HX2.out,HY.out],rfl,by omega⟩
     case measure=>simp[uOf];omega
    ·obtain rfl:i=N:=by omega
     rw[HTA.out];have hb1:=HTK.out i;rw[HTA.out]at hb1;generalize dv L=x at *;have HBX:=hiD hb1;clear hb1;cases hneg:d.neg with
     | true =>
      rw[hneg]at g0;have HR2:=HR.out;rw[if_pos hneg]at HR2;have HR3:=hiD HR2;clear HR2 hneg;by_cases hfit:x<=9223372036854775808
      ·have hd1:decide ((x:Int)<=9223372036854775808)=true:=decT (by omega);have HD2:Hid (decide (x<=9223372036854775808)=true):=decide_eq_true hfit;clear hfit;go_wp2_with fail;go_ret2;exact⟨by rw[HR3.out,HD2.out];rfl,HK.out⟩
      ·have hd1:decide ((x:Int)<=9223372036854775808)=false:=decF (by omega);have HD2:Hid (decide (x<=9223372036854775808)=false):=decide_eq_false hfit;clear hfit;go_wp2_with fail;go_ret2;exact⟨by rw[HR3.out,HD2.out];rfl,HK.out⟩
     | false =>
      rw[hneg]at g0;have HR2:=HR.out;rw[if_neg (by rw[hneg];decide)]at HR2;have HR3:=hiD HR2;clear HR2 hneg;by_cases hfit:x<9223372036854775808
      ·have hd1:decide ((x:Int)<9223372036854775808)=true:=decT (by omega);have HD2:Hid (decide (x<9223372036854775808)=true):=decide_eq_true hfit;clear hfit;go_wp2_with fail;go_ret2;exact⟨by rw[HR3.out,HD2.out];rfl,HK.out⟩
      ·have hd1:decide ((x:Int)<9223372036854775808)=false:=decF (by omega);have HD2:Hid (decide (x<9223372036854775808)=false):=decide_eq_false hfit;clear hfit;go_wp2_with fail;go_ret2;exact⟨by rw[HR3.out,HD2.out];rfl,HK.out⟩
  ·have q0:decide (0<(n:Int))=true:=decT (by omega);go_enter func17,ntmps17;go_wp2_with fail;refine HWI.out.mono ?_;rintro e w2 ⟨r,b2,rfl,hr,hk⟩;obtain⟨p2,c2',rfl⟩:=aR1 hr;have hx:=bQ3 hr;have HX:=hiD hx;have HTK:=hiD (bL4 HDG.out HL19.out);have HTS:Hid (∀ i,i<L.length->dv (L.take (i+1))=10*dv (L.take i)+L.getD i 0):=fun i hi=>bI3 L i hi
   have HTA:Hid (L.take L.length=L):=List.take_length;have HDD:Hid (∀ i,i<L.length->L.getD i 0<=9):=fun i hi=>HDG.out _ (aL0 hi);generalize hN:L.length=N at *;have hb2:=hk.at HB.out (fun f=>f);obtain⟨g0,g1,g2⟩:=cells3 hb2;have HK:=hiD (K0.out.same hk);have hNN:N<=19:=HL19.out;have HNN:=hiD hNN;clear hr hk hx hb2 c0 c1 c2 hN HWI hNN;go_wp2_with fail
   go_loop [4,28] (fun v4 v28=>∃ i:Nat,v4=.int .u64 (dv (L.take i):Int)/\v28=.int .i64 (i:Int)/\i<=N) (fun _ v28=>N-uOf v28)
   case atStart=>exact⟨0,by simp[dv],rfl,by omega⟩
   case round =>
    obtain⟨i,rfl,rfl,hi⟩:=hrel;rcases Nat.lt_or_ge i N with hlt|hge
    ·obtain⟨k,o,rfl,cy⟩:=HX.out i hlt;have hNN:=HNN.out;have hts:=HTS.out i hlt;have hb1:=HTK.out (i+1);have hb0:=HDD.out i hlt;have HT:=hiD hts;clear hts;generalize L.getD i 0=y at *;have hT2:=HT.out;generalize hX2:dv (L.take (i+1))=x2 at *;have HX2:=hiD hX2;generalize dv (L.take i)=x at *;have hw1:IntKind.u64.wrap (10*(x:Int))=10*(x:Int):=by rw[IntKind.wrap_u64];omega
     have hw2:IntKind.u64.wrap (10*(x:Int)+(y:Int))=10*(x:Int)+(y:Int):=by rw[IntKind.wrap_u64];omega
     have hw3:IntKind.u64.wrap (y:Int)=(y:Int):=by rw[IntKind.wrap_u64];omega
     have HY:Hid ((x2:Int)=10*(x:Int)+(y:Int)):=by show(x2:Int)=_;omega
     clear hb1 hb0 hT2 hX2;go_wp2_with fail;go_round
     case rel=>exact⟨i+1,by rw[HX2.out,HY.out],rfl,by omega⟩
     case measure=>simp[uOf];omega
    ·obtain rfl:i=N:=by omega
     rw[HTA.out];have hb1:=HTK.out i;rw[HTA.out]at hb1;generalize dv L=x at *;have HBX:=hiD hb1;clear hb1;cases hneg:d.neg with
     | true =>
      rw[hneg]at g0;have HR2:=HR.out;rw[if_pos hneg]at HR2;have HR3:=hiD HR2;clear HR2 hneg;by_cases hfit:x<=9223372036854775808
      ·have hd1:decide ((x:Int)<=9223372036854775808)=true:=decT (by omega);have HD2:Hid (decide (x<=9223372036854775808)=true):=decide_eq_true hfit;clear hfit;go_wp2_with fail;go_ret2;exact⟨by rw[HR3.out,HD2.out];rfl,HK.out⟩
      ·have hd1:decide ((x:Int)<=9223372036854775808)=false:=decF (by omega);have HD2:Hid (decide (x<=9223372036854775808)=false):=decide_eq_false hfit;clear hfit;go_wp2_with fail;go_ret2;exact⟨by rw[HR3.out,HD2.out];rfl,HK.out⟩
     | false =>
      rw[hneg]at g0;have HR2:=HR.out;rw[if_neg (by rw[hneg];decide)]at HR2;have HR3:=hiD HR2;clear HR2 hneg;by_cases hfit:x<9223372036854775808
      ·have hd1:decide ((x:Int)<9223372036854775808)=true:=decT (by omega);have HD2:Hid (decide (x<9223372036854775808)=true):=decide_eq_true hfit;clear hfit;go_wp2_with fail;go_ret2;exact⟨by rw[HR3.out,HD2.out];rfl,HK.out⟩
      ·have hd1:decide ((x:Int)<9223372036854775808)=false:=decF (by omega);have HD2:Hid (decide (x<9223372036854775808)=false):=decide_eq_false hfit;clear hfit;go_wp2_with fail;go_ret2;exact⟨by rw[HR3.out,HD2.out];rfl,HK.out⟩
theorem aJ3(v:Value)(d:Dm)(w:World)(h:DmAt w v d)(hl:d.ds.length<=5000)(hdg:∀ x∈d.ds,x<=9)(he:-5000<=d.e/\d.e<=5000):Calls prog 35 #[v] w (StrIs w (txtD d)):=by
 obtain⟨p,c,b,rfl,hs⟩:=h.shape2;have hwl:=bP6 d 0;have hwd:∀ x∈wideL d 0,x<=9:=cJ1 hdg;have hdef0:d.ds.length=0->txtD d=⟨#[48]⟩:=fun h=>by unfold txtD;rw[if_pos (List.eq_nil_of_length_eq_zero h)]
 have hdef1:d.ds.length≠0->txtD d=txtL d.neg (wideL d 0):=fun h=>by unfold txtD;rw[if_neg (fun e=>h (by rw[e];rfl))]
 generalize txtD d=R at *;generalize hn:d.ds.length=n at *;have k0:Kept (fun _=>False) w (w.alloc (.cells #[.bool d.neg,.slice p n c,.int .i64 d.e] 30)):=(Kept.refl _ _).alloc _;have hb:=aA0 w (.cells #[.bool d.neg,.slice p n c,.int .i64 d.e] 30);generalize hW:w.alloc (.cells #[.bool d.neg,.slice p n c,.int .i64 d.e] 30)=W at *;have K0:=hiD k0;have HB:=hiD hb;obtain⟨c0,c1,c2⟩:=cells3 hb;have HWI:=hiD (cH9 (.agg #[.bool d.neg,.slice p n c,.int .i64 d.e]) d 0 W (⟨_,b,rfl,hs.old k0⟩) (by omega) (by omega) (by omega));generalize wideL d 0=L at *;have HL:=hiD hl;have HE:=hiD he;have HWL:=hiD hwl;have HDG:=hiD hwd;have HD0:=hiD hdef0;have HD1:=hiD hdef1;clear h hs hb k0 hdg hwl hwd hdef0 hdef1;by_cases hz:n=0
 ·have HR:=hiD (HD0.out hz);subst hz;go_enter func35,ntmps35;go_wp2_with fail;go_ret;exact⟨by rw[HR.out];rfl,K0.out⟩
 ·have HR:=hiD (HD1.out hz);have q0:((n:Int)==0)=false:=beqF (by omega);have main:∀ neg:Bool,d.neg=neg->Calls prog 35 #[.agg #[.bool d.neg,.slice p n c,.int .i64 d.e]] w (StrIs w R):=by
   intro neg hneg;cases neg
   all_goals
    rw[hneg]at c0 HWI HB HR ⊢;rw[hneg]at hW;go_enter func35,ntmps35;go_wp2_with fail;refine HWI.out.mono ?_;rintro e w2 ⟨r,b2,rfl,hr,hk⟩;obtain⟨p2,c2',rfl⟩:=aR1 hr;have hx:=bQ3 hr;have HX:=hiD hx;have HTS:Hid (∀ ng i,i<L.length->L.getD i 0<=9/\txtL ng (L.take i)++digS.extract (L.getD i 0) (L.getD i 0+1)=txtL ng (L.take (i+1))):=fun ng i hi=>by
     have h9:=HDG.out _ (aL0 hi);exact⟨h9,by rw[dT3 _ h9,cY8,<- bW4 L i hi]⟩
    have HTA:Hid (L.take L.length=L):=List.take_length;have HTL:Hid (∀ ng i,(txtL ng (L.take i)).size<=i+1):=fun ng i=>Nat.le_trans (bX1 ng _) (by rw[List.length_take];omega);have hwl2:=HWL.out;generalize hN:L.length=N at *;have HK:=hiD (K0.out.same hk);have hNB:N<=10000:=by have:=HL.out;have:=HE.out;omega
    have HNN:=hiD hNB;clear hr hk hx hwl2 c0 c1 c2 hNB hN HWI HB hW;go_wp2_with fail
    go_loop [3,15] (fun v3 v15=>∃(ng:Bool) (i:Nat),Hid (R=txtL ng L)/\v3=.string (txtL ng (L.take i))/\v15=.int .i64 (i:Int)/\i<=N) (fun _ v15=>N-uOf v15)
    case atStart=>exact⟨_,0,HR,rfl,rfl,by omega⟩
    case round =>
     obtain⟨ng,i,HRR,rfl,rfl,hi⟩:=hrel;rcases Nat.lt_or_ge i N with hlt|hge
     ·obtain⟨k,o,rfl,cy⟩:=HX.out i hlt;have hNN:=HNN.out;obtain⟨h9,hts⟩:=HTS.out ng i hlt;have HT:=hiD hts;have hsz:=HTL.out ng i;clear hts;generalize L.getD i 0=y at *;generalize txtL ng (L.take i)=t at *;go_wp2_with fail;go_round
      case rel=>exact⟨ng,i+1,HRR,by rw[<- HT.out];rfl,rfl,by omega⟩
      case measure=>simp[uOf];omega
     ·obtain rfl:i=N:=by omega
      rw[HTA.out];go_wp2_with fail;go_ret;exact⟨by rw[HRR.out];rfl,HK.out⟩
  exact main d.neg rfl
section
open Go.RowKit
open Go.Proofs.YtjebnpkebccffaaGreatDoorW.PrintLast
def lexc(A B:List Nat):Nat->Nat->Int
 | 0,_=>0
 | n+1,i=>if A.getD i 0=B.getD i 0 then lexc A B n (i+1)else if A.getD i 0<B.getD i 0 then -1 else 1
def lgr(d f:Dm):Int :=
 if(d.ds.length:Int)+d.e<(f.ds.length:Int)+f.e then -1 else if(f.ds.length:Int)+f.e<(d.ds.length:Int)+d.e then 1 else lexc d.ds f.ds (max d.ds.length f.ds.length) 0
theorem dY9(A B:List Nat):∀ n i,-1<=lexc A B n i/\lexc A B n i<=1:=by
 intro n
 induction n with
 | zero=>intro i;simp[lexc]
 | succ n ih =>
  intro i;unfold lexc;split
  ·exact ih _
  ·split<;>omega
theorem lgr_b(d f:Dm):-1<=lgr d f/\lgr d f<=1:=by
 unfold lgr;split
 ·omega
 ·split
  ·omega
  ·exact dY9 _ _ _ _
theorem bI5{A B:List Nat}{n m i:Nat}(h:i<n\/i<m):lexc A B (max n m-i) i=if A.getD i 0=B.getD i 0 then lexc A B (max n m-(i+1)) (i+1)else if A.getD i 0<B.getD i 0 then -1 else 1:=by
 rw[show max n m-i=(max n m-(i+1))+1 by omega];rfl
theorem cJ3{l:List Nat}{i:Nat}(h:l.length<=i):l.getD i 0=0:=by
 rw[List.getD_eq_getElem?_getD,List.getElem?_eq_none h];rfl
theorem bneT{a b:Int}(h:a≠b):(a != b)=true:=by simp[bne,h]
def IntIs(w:World)(r:Int)(e:Ending)(w':World):Prop:=e=.returned (.int .i64 r)/\Kept (fun _=>False) w w'
theorem cO8(v u:Value)(d f:Dm)(w:World)(h:DmAt w v d)(g:DmAt w u f)(hl:d.ds.length<=10000/\f.ds.length<=10000)(he:-10000<=d.e/\d.e<=10000 /\ -10000<=f.e/\f.e<=10000):
  Calls prog 43 #[v,u] w (IntIs w (lgr d f)):=by
 obtain⟨p,c,b,rfl,hs⟩:=h.shape2;obtain⟨p',c',b',rfl,hs'⟩:=g.shape2;have k0:Kept (fun _=>False) w ((w.alloc (.cells #[.bool d.neg,.slice p d.ds.length c,.int .i64 d.e] 30)).alloc (.cells #[.bool f.neg,.slice p' f.ds.length c',.int .i64 f.e] 30)):=((Kept.refl _ _).alloc _).alloc _;have hb:=aA0 w (.cells #[.bool d.neg,.slice p d.ds.length c,.int .i64 d.e] 30);have hb1:=((Kept.refl (fun _=>False) (w.alloc (.cells #[.bool d.neg,.slice p d.ds.length c,.int .i64 d.e] 30))).alloc (.cells #[.bool f.neg,.slice p' f.ds.length c',.int .i64 f.e] 30)).at hb (fun f=>f);have hb2:=aA0 (w.alloc (.cells #[.bool d.neg,.slice p d.ds.length c,.int .i64 d.e] 30)) (.cells #[.bool f.neg,.slice p' f.ds.length c',.int .i64 f.e] 30);have e2:(w.alloc (.cells #[.bool d.neg,.slice p d.ds.length c,.int .i64 d.e] 30)).heap.size=w.heap.size+1:=by simp
 rw[e2]at hb2;have hsA:=hs.old k0;have hsB:=hs'.old k0;generalize hW:((w.alloc (.cells #[.bool d.neg,.slice p d.ds.length c,.int .i64 d.e] 30)).alloc (.cells #[.bool f.neg,.slice p' f.ds.length c',.int .i64 f.e] 30))=W at *;have K0:=hiD k0;obtain⟨c0,c1,c2⟩:=cells3 hb1;obtain⟨g0,g1,g2⟩:=cells3 hb2;have hb1d:W.drew.heap[w.heap.size]? = _:=hb1;have hb2d:W.drew.heap[w.heap.size+1]? = _:=hb2;obtain⟨c0d,c1d,c2d⟩:=cells3 hb1d;obtain⟨g0d,g1d,g2d⟩:=cells3 hb2d;have hLT:(d.ds.length:Int)+d.e<(f.ds.length:Int)+f.e->lgr d f = -1:=fun h=>by unfold lgr;rw[if_pos h]
 have hGT:(f.ds.length:Int)+f.e<(d.ds.length:Int)+d.e->lgr d f=1:=fun h=>by unfold lgr;rw[if_neg (by omega),if_pos h]
 have hEQ:(d.ds.length:Int)+d.e=(f.ds.length:Int)+f.e->lgr d f=lexc d.ds f.ds (max d.ds.length f.ds.length-0) 0:=fun h=>by unfold lgr;rw[if_neg (by omega),if_neg (by omega)];rfl
 have hox:∀ i,d.ds.length<=i->d.ds.getD i 0=0:=fun i h=>cJ3 h
 have hoy:∀ i,f.ds.length<=i->f.ds.getD i 0=0:=fun i h=>cJ3 h
 generalize lgr d f=G at *;generalize hn:d.ds.length=n at *;generalize hm:f.ds.length=m at *;have hx:∀ i,i<n->∃ k o,p=some ⟨k,o,none⟩/\W.cell? ⟨k,o+i,none⟩=some (.int .i64 ((d.ds.getD i 0:Nat):Int)):=by
  intro i hi;cases b with
  | none=>rw[hsA.2]at hn;simp at hn;omega
  | some k =>
   obtain⟨o,cap,cs,h1,h2,h3,h4,h5⟩:=hsA;injection h1 with h1;exact⟨k,o,h1,by rw[aA2 h4];exact h5 i (by omega)⟩
 have hy:∀ i,i<m->∃ k o,p'=some ⟨k,o,none⟩/\W.cell? ⟨k,o+i,none⟩=some (.int .i64 ((f.ds.getD i 0:Nat):Int)):=by
  intro i hi;cases b' with
  | none=>rw[hsB.2]at hm;simp at hm;omega
  | some k =>
   obtain⟨o,cap,cs,h1,h2,h3,h4,h5⟩:=hsB;injection h1 with h1;exact⟨k,o,h1,by rw[aA2 h4];exact h5 i (by omega)⟩
 generalize d.ds=A at *;generalize f.ds=B at *;have HX:=hiD hx;have HOX:=hiD hox;have HOY:=hiD hoy;have HLT:=hiD hLT;have HGT:=hiD hGT;have HEQ:=hiD hEQ;have HL:=hiD hl;have HY:=hiD hy;clear hb hb1 hb2 hb1d hb2d hsA hsB hs hs' h g hx hy k0 e2 hn hm hox hoy hLT hGT hEQ;go_enter func43,ntmps43;go_wp2_with fail
 go_quiet (fail)
 clear hW;by_cases hne:(n:Int)+d.e=(m:Int)+f.e
 ·have q1:(((n:Int)+d.e)!=((m:Int)+f.e))=false:=by simp[hne]
  have HNE:=hiD hne;clear hne;go_wp2_with fail;have HG0:Hid (G=lexc A B (max n m-0) 0):=HEQ.out HNE.out
  go_loop [7] (fun v7=>∃ i:Nat,v7=.int .i64 (i:Int)/\i<=10000/\Hid (G=lexc A B (max n m-i) i)) (fun v7=>n+m-uOf v7)
  case atStart=>exact⟨0,rfl,by omega,HG0⟩
  case round =>
   obtain⟨i,rfl,hi,HG⟩:=hrel;rcases Nat.lt_or_ge i n with hin|hin
   ·obtain⟨k,o,rfl,cx⟩:=HX.out i hin;rcases Nat.lt_or_ge i m with him|him
    ·obtain⟨k',o',rfl,cy⟩:=HY.out i him;have hst:=bI5 (A:=A) (B:=B) (n:=n) (m:=m) (i:=i) (by omega);rw[<- HG.out]at hst;have HST:=hiD hst;clear hst HG;generalize A.getD i 0=x at *;generalize B.getD i 0=y at *;by_cases he:x=y
     ·subst he;have b1:((x:Int)!=(x:Int))=false:=by simp
      go_wp2_with fail;go_round
      case rel=>exact⟨i+1,rfl,by have:=HL.out;omega,hiD (by rw[HST.out,if_pos rfl])⟩
      case measure=>simp[uOf];omega
     ·have b1:((x:Int)!=(y:Int))=true:=bneT (by omega);have E1:Hid (x≠y):=he;by_cases hlt:x<y
      ·have b2:decide ((x:Int)<(y:Int))=true:=decT (by omega);have b6:decide (x<y)=true:=decide_eq_true hlt;have E2:Hid (G = -1):=by show G = -1;rw[HST.out,if_neg he,if_pos hlt]
       clear he hlt;go_wp2_with fail;go_ret;exact⟨by rw[E2.out];rfl,K0.out.drewN _⟩
      ·have b2:decide ((x:Int)<(y:Int))=false:=decF (by omega);have b6:decide (x<y)=false:=decide_eq_false hlt;have E2:Hid (G=1):=by show G=1;rw[HST.out,if_neg he,if_neg hlt]
       clear he hlt;go_wp2_with fail;go_ret;exact⟨by rw[E2.out];rfl,K0.out.drewN _⟩
    ·skip;have hst:=bI5 (A:=A) (B:=B) (n:=n) (m:=m) (i:=i) (by omega);rw[<- HG.out]at hst;rw[HOY.out i (by omega)]at hst;have HST:=hiD hst;clear hst HG;generalize A.getD i 0=x at *;by_cases he:x=0
     ·subst he;go_wp2_with fail;go_round
      case rel=>exact⟨i+1,rfl,by have:=HL.out;omega,hiD (by rw[HST.out,if_pos rfl])⟩
      case measure=>simp[uOf];omega
     ·have b1:((x:Int)!=(0:Int))=true:=bneT (by omega);have E1:Hid (x≠0):=he;have b3:((x:Int)==0)=false:=beqF (by omega);have b4:(x==0)=false:=by simpa using he
      have b5:(x != 0)=true:=by simp[bne,b4]
      by_cases hlt:x<0
      ·exact absurd hlt (Nat.not_lt_zero _)
      ·have b2:decide ((x:Int)<(0:Int))=false:=decF (by omega);have b6:decide (x<0)=false:=decide_eq_false hlt;have E2:Hid (G=1):=by show G=1;rw[HST.out,if_neg he,if_neg hlt]
       clear he hlt;go_wp2_with fail;go_ret;exact⟨by rw[E2.out];rfl,K0.out.drewN _⟩
   ·rcases Nat.lt_or_ge i m with him|him
    ·obtain⟨k',o',rfl,cy⟩:=HY.out i him;have hst:=bI5 (A:=A) (B:=B) (n:=n) (m:=m) (i:=i) (by omega);rw[<- HG.out]at hst;rw[HOX.out i (by omega)]at hst;have HST:=hiD hst;clear hst HG;generalize B.getD i 0=y at *;by_cases he:0=y
     ·subst he;go_wp2_with fail;go_round
      case rel=>exact⟨i+1,rfl,by have:=HL.out;omega,hiD (by rw[HST.out,if_pos rfl])⟩
      case measure=>simp[uOf];omega
     ·have b1:((0:Int)!=(y:Int))=true:=bneT (by omega);have E1:Hid (0≠y):=he;have b3:((0:Int)==(y:Int))=false:=beqF (by omega);have b4:(0==y)=false:=by simpa using he
      have b5:(0 != y)=true:=by simp[bne,b4]
      by_cases hlt:0<y
      ·have b2:decide ((0:Int)<(y:Int))=true:=decT (by omega);have b6:decide (0<y)=true:=decide_eq_true hlt;have E2:Hid (G = -1):=by show G = -1;rw[HST.out,if_neg he,if_pos hlt]
       clear he hlt;go_wp2_with fail;go_ret;exact⟨by rw[E2.out];rfl,K0.out.drewN _⟩
      ·exact absurd (Nat.pos_of_ne_zero (fun h=>he h.symm)) hlt
    ·have hg:=HG.out;rw[show max n m-i=0 by omega]at hg;have HG2:Hid (G=0):=hg;clear hg HG;go_wp2_with fail;go_ret;exact⟨by rw[HG2.out];rfl,K0.out.drewN _⟩
 ·have q1:(((n:Int)+d.e)!=((m:Int)+f.e))=true:=by simp[hne]
  have HK:=hiD (K0.out);by_cases hlt:(n:Int)+d.e<(m:Int)+f.e
  ·go_wp2_with fail;go_ret;exact⟨by rw[HLT.out hlt];rfl,K0.out.drewN _⟩
  ·go_wp2_with fail;go_ret;exact⟨by rw[HGT.out (by omega)];rfl,K0.out.drewN _⟩
def cmpD(d f:Dm):Int:=if sgnD d=sgnD f then(if sgnD d<0 then -lgr d f else if 0<sgnD d then lgr d f else 0)else if sgnD d<sgnD f then -1 else 1
theorem aV7(v u:Value)(d f:Dm)(w:World)(h:DmAt w v d)(g:DmAt w u f)(hl:d.ds.length<=10000/\f.ds.length<=10000)(he:-10000<=d.e/\d.e<=10000 /\ -10000<=f.e/\f.e<=10000):
  Calls prog 34 #[v,u] w (IntIs w (cmpD d f)):=by
 have HV:=hiD h;have HU:=hiD g;obtain⟨p,c,b,rfl,hs⟩:=h.shape2;obtain⟨p',c',b',rfl,hs'⟩:=g.shape2;have k0:Kept (fun _=>False) w ((w.alloc (.cells #[.bool d.neg,.slice p d.ds.length c,.int .i64 d.e] 30)).alloc (.cells #[.bool f.neg,.slice p' f.ds.length c',.int .i64 f.e] 30)):=((Kept.refl _ _).alloc _).alloc _;have hb:=aA0 w (.cells #[.bool d.neg,.slice p d.ds.length c,.int .i64 d.e] 30);have hb1:=((Kept.refl (fun _=>False) (w.alloc (.cells #[.bool d.neg,.slice p d.ds.length c,.int .i64 d.e] 30))).alloc (.cells #[.bool f.neg,.slice p' f.ds.length c',.int .i64 f.e] 30)).at hb (fun f=>f);have hb2:=aA0 (w.alloc (.cells #[.bool d.neg,.slice p d.ds.length c,.int .i64 d.e] 30)) (.cells #[.bool f.neg,.slice p' f.ds.length c',.int .i64 f.e] 30);have e2:(w.alloc (.cells #[.bool d.neg,.slice p d.ds.length c,.int .i64 d.e] 30)).heap.size=w.heap.size+1:=by simp
 rw[e2]at hb2;generalize hW:((w.alloc (.cells #[.bool d.neg,.slice p d.ds.length c,.int .i64 d.e] 30)).alloc (.cells #[.bool f.neg,.slice p' f.ds.length c',.int .i64 f.e] 30))=W at *;generalize hn:d.ds.length=n at *;generalize hm:f.ds.length=m at *;have K0:=hiD k0;have H1:=hiD hb1;have H2:=hiD hb2;have hvd:∀ w',Kept (fun _=>False) w w'->DmAt w' (.agg #[.bool d.neg,.slice p n c,.int .i64 d.e]) d:=fun w' hk=>HV.out.old hk
 have hud:∀ w',Kept (fun _=>False) w w'->DmAt w' (.agg #[.bool f.neg,.slice p' m c',.int .i64 f.e]) f:=fun w' hk=>HU.out.old hk
 have HVD:=hiD hvd;have HUD:=hiD hud;obtain⟨c0,c1,c2⟩:=cells3 hb1;obtain⟨g0,g1,g2⟩:=cells3 hb2;have hb1d:W.drew.heap[w.heap.size]? = _:=hb1;have hb2d:W.drew.heap[w.heap.size+1]? = _:=hb2;obtain⟨c0d,c1d,c2d⟩:=cells3 hb1d;obtain⟨g0d,g1d,g2d⟩:=cells3 hb2d;have HLL:=hiD hl;have HEE:=hiD he;clear h g hs hs' hvd hud hb hb1 hb2 hb1d hb2d k0 e2 hl he;have kd:=K0.out.drew;have KD:=hiD kd;have H1d:Hid (W.drew.heap[w.heap.size]? = _):=H1;have H2d:Hid (W.drew.heap[w.heap.size+1]? = _):=H2;have s1:=sgnD_b d;have s2:=sgnD_b f;clear kd;go_enter func34,ntmps34;go_wp2_with fail
 -- region
 refine start_ (n:=6) (S:=fun w'=>w'.cell? ⟨w.heap.size,0,none⟩=some (.bool d.neg)/\w'.cell? ⟨w.heap.size,1,none⟩=some (.slice p n c)/\w'.cell? ⟨w.heap.size,2,none⟩=some (.int .i64 d.e)/\w'.cell? ⟨w.heap.size+1,0,none⟩=some (.bool f.neg)/\w'.cell? ⟨w.heap.size+1,1,none⟩=some (.slice p' m c')/\w'.cell? ⟨w.heap.size+1,2,none⟩=some (.int .i64 f.e)) (ds:=[]) #[false,false,false,false,false,false] (by kernel_rfl) rfl rfl ⟨c0d,c1d,c2d,g0d,g1d,g2d⟩ (fun hHeld=>?_);refine rgt 0 7 hHeld ?_;refine rgt 2 9 hHeld ?_;refine one_ (i:=1) (N:=some 8) #[true,true,true,false,false,false] rfl rfl (by kernel_rfl) (by decide) (fun K hK=>?_);refine goes_ func19 (by kernel_rfl) rfl #[(.agg #[.bool d.neg,.slice p n c,.int .i64 d.e])] (by rfl) rfl rfl (by simp only[List.map_toArray,List.map_cons,List.map_nil];rfl) ?_;with_reducible refine(aM2 _ d _ (HVD.out _ KD.out)).mono ?_
 rintro e w9 ⟨rfl,hk⟩;have G1:=hiD (hk.at H1d.out (fun f=>f));have G2:=hiD (hk.at H2d.out (fun f=>f));obtain⟨r0,r1,r2⟩:=cells3 G1.out;obtain⟨t0,t1,t2⟩:=cells3 G2.out;have K9:=hiD (KD.out.same hk);clear hk;refine⟨_,rfl,?_⟩;refine hK.out _ _ ⟨r0,r1,r2,t0,t1,t2⟩ (fun hHeld=>?_);clear hK K;refine rgn 8 ?_;refine one_ (i:=3) (N:=some 10) #[true,true,true,true,false,false] rfl rfl (by kernel_rfl) (by decide) (fun K hK=>?_);refine goes_ func19 (by kernel_rfl) rfl #[(.agg #[.bool f.neg,.slice p' m c',.int .i64 f.e])] (by rfl) rfl rfl (by simp only[List.map_toArray,List.map_cons,List.map_nil];rfl) ?_;with_reducible refine(aM2 _ f _ (HUD.out _ K9.out)).mono ?_
 rintro e w10 ⟨rfl,hk⟩;have G3:=hiD (hk.at G1.out (fun f=>f));have G4:=hiD (hk.at G2.out (fun f=>f));obtain⟨r0,r1,r2⟩:=cells3 G3.out;obtain⟨t0,t1,t2⟩:=cells3 G4.out;have K10:=hiD (K9.out.same hk);clear hk;refine⟨_,rfl,?_⟩;refine hK.out _ _ ⟨r0,r1,r2,t0,t1,t2⟩ (fun hHeld=>?_);clear hK K;refine rgn 10 ?_;refine rgp 4 5 ?_;refine rgp 5 6 ?_;refine done_ (by kernel_rfl) ?_
 have HCD:Hid (cmpD d f=if sgnD d=sgnD f then(if sgnD d<0 then -lgr d f else if 0<sgnD d then lgr d f else 0)else if sgnD d<sgnD f then -1 else 1):=rfl
 have hlb:=lgr_b d f;generalize cmpD d f=CD at *;generalize sgnD d=x at *;generalize sgnD f=y at *;have HV2:=hiD (HVD.out _ K10.out);have HU2:=hiD (HUD.out _ K10.out);have HLG:=hiD (cO8 _ _ d f w10 HV2.out HU2.out (by rw[hn,hm];exact HLL.out) HEE.out);generalize lgr d f=LG at *;obtain⟨u0,u1,u2⟩:=cells3 G3.out;obtain⟨y0,y1,y2⟩:=cells3 G4.out;clear c0 c1 c2 g0 g1 g2 c0d c1d c2d g0d g1d g2d hHeld;by_cases hxy:x=y
 ·subst hxy;have q1:(x != x)=false:=by simp
  by_cases hneg:x<0
  ·have E:Hid (CD = -LG):=by show CD = -LG;rw[HCD.out,if_pos rfl,if_pos hneg]
   go_wp2_with fail;refine HLG.out.mono ?_;rintro e w11 ⟨rfl,hk⟩;have hw:IntKind.i64.wrap (-LG) = -LG:=by rw[IntKind.wrap_i64];omega
   go_wp2_with fail;go_ret;exact⟨by rw[E.out];rfl,K10.out.same hk⟩
  ·by_cases hpos:0<x
   ·have E:Hid (CD=LG):=by show CD=LG;rw[HCD.out,if_pos rfl,if_neg hneg,if_pos hpos]
    go_wp2_with fail;refine HLG.out.mono ?_;rintro e w11 ⟨rfl,hk⟩;go_wp2_with fail;go_ret;exact⟨by rw[E.out];rfl,K10.out.same hk⟩
   ·have E:Hid (CD=0):=by show CD=0;rw[HCD.out,if_pos rfl,if_neg hneg,if_neg hpos]
    go_wp2_with fail;go_ret;exact⟨by rw[E.out];rfl,K10.out⟩
 ·have q1:(x != y)=true:=by simp[hxy]
  by_cases hlt:x<y
  ·have E:Hid (CD = -1):=by show CD = -1;rw[HCD.out,if_neg hxy,if_pos hlt]
   go_wp2_with fail;go_ret;exact⟨by rw[E.out];rfl,K10.out⟩
  ·have E:Hid (CD=1):=by show CD=1;rw[HCD.out,if_neg hxy,if_neg hlt]
   go_wp2_with fail;go_ret;exact⟨by rw[E.out];rfl,K10.out⟩
end
section
open Go.RowKit
open Go.Proofs.YtjebnpkebccffaaGreatDoorW.PrintLast
def dM2(w:World)(r:Bool)(e:Ending)(w':World):Prop:=e=.returned (.bool r)/\Kept (fun _=>False) w w'
def maxD:Dm:=decL (decide ((9223372036854775807:Int)<0)) (dgs (9223372036854775807:Int).natAbs) 0
def mayD(d f:Dm):Bool:=(decide (d.ds.length=0)||decide (-3<=d.e))&&decide (cmpD ⟨false,d.ds,d.e⟩ f<=0)
theorem dM3(d f:Dm):-1<=cmpD d f/\cmpD d f<=1:=by
 have:=lgr_b d f;unfold cmpD;split
 ·split
  ·omega
  ·split<;>omega
 ·split<;>omega
theorem bI6(v:Value)(d:Dm)(w:World)(h:DmAt w v d)(hl:d.ds.length<=10000)(he:-10000<=d.e/\d.e<=10000):Calls prog 33 #[v] w (dM2 w (mayD d maxD)):=by
 show Calls prog 33 #[v] w (dM2 w (mayD d (decL (decide ((9223372036854775807:Int)<0)) (dgs (9223372036854775807:Int).natAbs) 0)));obtain⟨p,c,b,rfl,hs⟩:=h.shape2;generalize hn:d.ds.length=n at *;have k0:Kept (fun _=>False) w ((w.alloc (.cells #[.bool d.neg,.slice p n c,.int .i64 d.e] 30)).alloc (.cells #[.bool false,.slice p n c,.int .i64 d.e] 30)):=((Kept.refl _ _).alloc _).alloc _;have hb:=aA0 w (.cells #[.bool d.neg,.slice p n c,.int .i64 d.e] 30);have hb1:=((Kept.refl (fun _=>False) (w.alloc (.cells #[.bool d.neg,.slice p n c,.int .i64 d.e] 30))).alloc (.cells #[.bool false,.slice p n c,.int .i64 d.e] 30)).at hb (fun f=>f);have hb2:=aA0 (w.alloc (.cells #[.bool d.neg,.slice p n c,.int .i64 d.e] 30)) (.cells #[.bool false,.slice p n c,.int .i64 d.e] 30);have e2:(w.alloc (.cells #[.bool d.neg,.slice p n c,.int .i64 d.e] 30)).heap.size=w.heap.size+1:=by simp
 rw[e2]at hb2;generalize hW:((w.alloc (.cells #[.bool d.neg,.slice p n c,.int .i64 d.e] 30)).alloc (.cells #[.bool false,.slice p n c,.int .i64 d.e] 30))=W at *;have KD:=hiD k0.drew;have hb1d:W.drew.heap[w.heap.size]? = _:=hb1;have hb2d:W.drew.heap[w.heap.size+1]? = _:=hb2;obtain⟨c0d,c1d,c2d⟩:=cells3 hb1d;obtain⟨g0d,g1d,g2d⟩:=cells3 hb2d;have H1d:=hiD hb1d;have H2d:=hiD hb2d;have hvd:∀ w',Kept (fun _=>False) w w'->DmAt w' (.agg #[.bool false,.slice p n c,.int .i64 d.e]) ⟨false,d.ds,d.e⟩:=fun w' hk=>⟨_,b,rfl,hs.old hk⟩;have HVD:=hiD hvd;have HLL:=hiD hl;have HEE:=hiD he;have HD9:Hid (DmB (decL (decide ((9223372036854775807:Int)<0)) (dgs (9223372036854775807:Int).natAbs) 0) 20 (0+(20:Nat))):=bV0 (aZ1 20 _ (by decide)).2 (aZ1 20 _ (by decide)).1 (by omega) (by omega);generalize hD9:decL (decide ((9223372036854775807:Int)<0)) (dgs (9223372036854775807:Int).natAbs) 0=D9 at *;have hmd:mayD d D9=((decide (n=0)||decide (-3<=d.e))&&decide (cmpD ⟨false,d.ds,d.e⟩ D9<=0)):=by unfold mayD;rw[hn]
 have hcc:∀ w' v9,DmAt w' (.agg #[.bool false,.slice p n c,.int .i64 d.e]) ⟨false,d.ds,d.e⟩->DmAt w' v9 D9->Calls prog 34 #[.agg #[.bool false,.slice p n c,.int .i64 d.e],v9] w' (IntIs w' (cmpD ⟨false,d.ds,d.e⟩ D9)):=fun w' v9 h1 h2 =>
  aV7 _ v9 ⟨false,d.ds,d.e⟩ D9 w' h1 h2 (by show d.ds.length<=10000/\_;rw[hn];exact⟨HLL.out,by have:=HD9.out.len;omega⟩) (by have:=HD9.out.lo;have:=HD9.out.hi;have:=HEE.out;exact⟨by show _<=d.e;omega,by show d.e<=_;omega,by omega,by omega⟩)
 have hcb:=dM3 ⟨false,d.ds,d.e⟩ D9;generalize cmpD ⟨false,d.ds,d.e⟩ D9=C at *;generalize mayD d D9=MD at *;have HCC:=hiD hcc;have HMD:=hiD hmd;clear hcc hmd;clear h hs hvd hb hb1 hb2 hb1d hb2d k0 e2 hl he;go_enter func33,ntmps33;go_wp2_with fail;clear hW;by_cases hz:n=0
 ·have q1:((n:Int)==0)=true:=beqT (by omega);have HZ:=hiD hz;clear hz;refine start_ (n:=16) (S:=fun w'=>w'.cell? ⟨w.heap.size,0,none⟩=some (.bool d.neg)/\w'.cell? ⟨w.heap.size,1,none⟩=some (.slice p n c)/\w'.cell? ⟨w.heap.size,2,none⟩=some (.int .i64 d.e)/\w'.cell? ⟨w.heap.size+1,0,none⟩=some (.bool false)/\w'.cell? ⟨w.heap.size+1,1,none⟩=some (.slice p n c)/\w'.cell? ⟨w.heap.size+1,2,none⟩=some (.int .i64 d.e)) (ds:=[]) #[false,false,false,false,false,false,false,false,false,false,false,false,false,false,false,false] (by kernel_rfl) rfl rfl ⟨c0d,c1d,c2d,g0d,g1d,g2d⟩ (fun hHeld=>?_);refine rgp 0 6 ?_;refine rgt 1 7 hHeld ?_;refine rgp 2 8 ?_;refine rgp 3 9 ?_;refine rgp 4 10 ?_;refine rgu 5 11 ?_;refine rgu 6 12 ?_;refine rgu 7 13 ?_;refine rgp 8 14 ?_;refine rgp 9 15 ?_;refine rgt 10 16 hHeld ?_;refine one_ (i:=11) (N:=some 17) #[true,true,true,true,true,true,true,true,true,true,true,true,false,false,false,false] rfl rfl (by kernel_rfl) (by decide) (fun K hK=>?_);refine goes_ func14 (by kernel_rfl) rfl #[.int .i64 9223372036854775807,.int .i64 0] (by rfl) rfl rfl (by simp only[List.map_toArray,List.map_cons,List.map_nil];rfl) ?_;with_reducible refine(aE0 9223372036854775807 0 _ (by omega) (by omega)).mono ?_
  rintro e w9 ⟨v9,rfl,hv9,hk⟩;have G1:=hiD (hk.at H1d.out (fun f=>f));have G2:=hiD (hk.at H2d.out (fun f=>f));obtain⟨r0,r1,r2⟩:=cells3 G1.out;obtain⟨t0,t1,t2⟩:=cells3 G2.out;have K9:=hiD (KD.out.same hk);rw[hD9]at hv9;obtain⟨p9,c9,b9,rfl,hs9⟩:=hv9.shape2;have V9:=hiD hv9;clear hk hv9;refine⟨_,rfl,?_⟩;refine hK.out _ _ ⟨r0,r1,r2,t0,t1,t2⟩ (fun hHeld=>?_);clear hK K;refine rgn 17 ?_;refine one_ (i:=12) (N:=some 18) #[true,true,true,true,true,true,true,true,true,true,true,true,true,false,false,false] rfl rfl (by kernel_rfl) (by decide) (fun K hK=>?_);refine goes_ func34 (by kernel_rfl) rfl #[.agg #[.bool false,.slice p n c,.int .i64 d.e],.agg #[.bool D9.neg,.slice p9 D9.ds.length c9,.int .i64 D9.e]] (by rfl) rfl rfl (by simp only[List.map_toArray,List.map_cons,List.map_nil];rfl) ?_;with_reducible refine(HCC.out _ _ (HVD.out _ K9.out) V9.out).mono ?_
  rintro e w10 ⟨rfl,hk⟩;have G3:=hiD (hk.at G1.out (fun f=>f));have G4:=hiD (hk.at G2.out (fun f=>f));obtain⟨r0,r1,r2⟩:=cells3 G3.out;obtain⟨t0,t1,t2⟩:=cells3 G4.out;have K10:=hiD (K9.out.same hk);clear hk;refine⟨_,rfl,?_⟩;refine hK.out _ _ ⟨r0,r1,r2,t0,t1,t2⟩ (fun hHeld=>?_);clear hK K;refine rgn 18 ?_;refine rgp 13 19 ?_;refine rgp 14 20 ?_;refine rgp 15 2 ?_;refine done_ (by kernel_rfl) ?_
  go_wp2_with fail;go_ret;exact⟨by rw[HMD.out];simp[HZ.out],K10.out⟩
 ·have q1:((n:Int)==0)=false:=beqF (by omega);have q1':decide (n=0)=false:=decide_eq_false hz;by_cases hlo:-3<=d.e
  ·have q2:decide (-3<=d.e)=true:=decT hlo;clear hz hlo;refine start_ (n:=16) (S:=fun w'=>w'.cell? ⟨w.heap.size,0,none⟩=some (.bool d.neg)/\w'.cell? ⟨w.heap.size,1,none⟩=some (.slice p n c)/\w'.cell? ⟨w.heap.size,2,none⟩=some (.int .i64 d.e)/\w'.cell? ⟨w.heap.size+1,0,none⟩=some (.bool false)/\w'.cell? ⟨w.heap.size+1,1,none⟩=some (.slice p n c)/\w'.cell? ⟨w.heap.size+1,2,none⟩=some (.int .i64 d.e)) (ds:=[]) #[false,false,false,false,false,false,false,false,false,false,false,false,false,false,false,false] (by kernel_rfl) rfl rfl ⟨c0d,c1d,c2d,g0d,g1d,g2d⟩ (fun hHeld=>?_);refine rgp 0 6 ?_;refine rgt 1 7 hHeld ?_;refine rgp 2 8 ?_;refine rgp 3 9 ?_;refine rgp 4 10 ?_;refine rgp 5 11 ?_;refine rgt 6 12 hHeld ?_;refine rgp 7 13 ?_;refine rgp 8 14 ?_;refine rgp 9 15 ?_;refine rgt 10 16 hHeld ?_;refine one_ (i:=11) (N:=some 17) #[true,true,true,true,true,true,true,true,true,true,true,true,false,false,false,false] rfl rfl (by kernel_rfl) (by decide) (fun K hK=>?_);refine goes_ func14 (by kernel_rfl) rfl #[.int .i64 9223372036854775807,.int .i64 0] (by rfl) rfl rfl (by simp only[List.map_toArray,List.map_cons,List.map_nil];rfl) ?_;with_reducible refine(aE0 9223372036854775807 0 _ (by omega) (by omega)).mono ?_
   rintro e w9 ⟨v9,rfl,hv9,hk⟩;have G1:=hiD (hk.at H1d.out (fun f=>f));have G2:=hiD (hk.at H2d.out (fun f=>f));obtain⟨r0,r1,r2⟩:=cells3 G1.out;obtain⟨t0,t1,t2⟩:=cells3 G2.out;have K9:=hiD (KD.out.same hk);rw[hD9]at hv9;obtain⟨p9,c9,b9,rfl,hs9⟩:=hv9.shape2;have V9:=hiD hv9;clear hk hv9;refine⟨_,rfl,?_⟩;refine hK.out _ _ ⟨r0,r1,r2,t0,t1,t2⟩ (fun hHeld=>?_);clear hK K;refine rgn 17 ?_;refine one_ (i:=12) (N:=some 18) #[true,true,true,true,true,true,true,true,true,true,true,true,true,false,false,false] rfl rfl (by kernel_rfl) (by decide) (fun K hK=>?_);refine goes_ func34 (by kernel_rfl) rfl #[.agg #[.bool false,.slice p n c,.int .i64 d.e],.agg #[.bool D9.neg,.slice p9 D9.ds.length c9,.int .i64 D9.e]] (by rfl) rfl rfl (by simp only[List.map_toArray,List.map_cons,List.map_nil];rfl) ?_;with_reducible refine(HCC.out _ _ (HVD.out _ K9.out) V9.out).mono ?_
   rintro e w10 ⟨rfl,hk⟩;have G3:=hiD (hk.at G1.out (fun f=>f));have G4:=hiD (hk.at G2.out (fun f=>f));obtain⟨r0,r1,r2⟩:=cells3 G3.out;obtain⟨t0,t1,t2⟩:=cells3 G4.out;have K10:=hiD (K9.out.same hk);clear hk;refine⟨_,rfl,?_⟩;refine hK.out _ _ ⟨r0,r1,r2,t0,t1,t2⟩ (fun hHeld=>?_);clear hK K;refine rgn 18 ?_;refine rgp 13 19 ?_;refine rgp 14 20 ?_;refine rgp 15 2 ?_;refine done_ (by kernel_rfl) ?_
   go_wp2_with fail;go_ret;exact⟨by rw[HMD.out,q2];simp,K10.out⟩
  ·have q2:decide (-3<=d.e)=false:=decF hlo;clear hz hlo;refine start_ (n:=16) (S:=fun w'=>w'.cell? ⟨w.heap.size,0,none⟩=some (.bool d.neg)/\w'.cell? ⟨w.heap.size,1,none⟩=some (.slice p n c)/\w'.cell? ⟨w.heap.size,2,none⟩=some (.int .i64 d.e)/\w'.cell? ⟨w.heap.size+1,0,none⟩=some (.bool false)/\w'.cell? ⟨w.heap.size+1,1,none⟩=some (.slice p n c)/\w'.cell? ⟨w.heap.size+1,2,none⟩=some (.int .i64 d.e)) (ds:=[]) #[false,false,false,false,false,false,false,false,false,false,false,false,false,false,false,false] (by kernel_rfl) rfl rfl ⟨c0d,c1d,c2d,g0d,g1d,g2d⟩ (fun hHeld=>?_);refine rgp 0 6 ?_;refine rgt 1 7 hHeld ?_;refine rgp 2 8 ?_;refine rgp 3 9 ?_;refine rgp 4 10 ?_;refine rgp 5 11 ?_;refine rgt 6 12 hHeld ?_;refine rgp 7 13 ?_;refine rgp 8 14 ?_;refine rgp 9 15 ?_;refine rgu 10 16 ?_;refine rgu 11 17 ?_;refine rgu 12 18 ?_;refine rgu 13 19 ?_;refine rgp 14 20 ?_;refine rgp 15 2 ?_;refine done_ (by kernel_rfl) ?_
   go_wp2_with fail;go_ret;exact⟨by rw[HMD.out,q2,q1'];rfl,KD.out⟩
end
end Go.Proofs.YtjebnpkebccffaaGreatDoor
