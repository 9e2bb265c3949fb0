import Derived.Test.YtjebnpkebccffaaGreatDoorZRgn
import Derived.Laws.RangeAny
import Derived.Lib.OthersKept
import Derived.Deep.Cut
import Derived.Deep.CutBlock
import Derived.Deep.CutRange
import Derived.WalkMore
import Derived.Maps.Own
import Derived.MapKept
set_option linter.unusedSimpArgs false
set_option linter.unusedVariables false
set_option linter.unusedSectionVars false
set_option maxRecDepth 100000
set_option maxHeartbeats 8000000
namespace Go.Proofs.YtjebnpkebccffaaGreatDoor
open Go.RowKit Go.Proofs.Tryz
def aC2(p:Nat->Bool):List UInt8->Nat
 | []=>0
 | c::r=>if p c.toNat then aC2 p r+1 else 0
def skip(p:Nat->Bool)(s:ByteArray)(i:Nat):Nat:=i+aC2 p (s.data.toList.drop i)
theorem bR4(s:ByteArray)(i:Nat)(h:i<s.size):s.data.toList.drop i=s[i]::s.data.toList.drop (i+1):=by
 have h':i<s.data.toList.length:=by simpa using h
 rw[List.drop_eq_getElem_cons h'];rfl
theorem aS1{p:Nat->Bool}{s:ByteArray}{i:Nat}(h:i<s.size)(hp:p (s[i].toNat)=false):skip p s i=i:=by
 unfold skip;rw[bR4 s i h];simp[aC2,hp]
theorem aO1{p:Nat->Bool}{s:ByteArray}{i:Nat}(h:i<s.size)(hp:p (s[i].toNat)=true):skip p s i=skip p s (i+1):=by
 unfold skip;rw[bR4 s i h];simp[aC2,hp];omega
theorem aM5{p:Nat->Bool}{s:ByteArray}{i:Nat}(h:s.size<=i):skip p s i=i:=by
 unfold skip;rw[List.drop_eq_nil_of_le (by simpa using h)];simp[aC2]
theorem cR0(p:Nat->Bool)(s:ByteArray)(i:Nat):i<=skip p s i:=Nat.le_add_right _ _
theorem aS2(p:Nat->Bool)(l:List UInt8):aC2 p l<=l.length:=by
 induction l with
 | nil=>simp[aC2]
 | cons c r ih=>unfold aC2;split<;>simp<;>omega
theorem dN7{p:Nat->Bool}{s:ByteArray}{i:Nat}(h:i<=s.size):skip p s i<=s.size:=by
 have:=aS2 p (s.data.toList.drop i);unfold skip;have e:(s.data.toList.drop i).length=s.size-i:=by simp[List.length_drop]
 omega
theorem cK6(p:Nat->Bool)(l:List UInt8)(j:Nat)(h:j<aC2 p l):∃ c,l[j]? = some c/\p c.toNat=true:=by
 induction l generalizing j with
 | nil=>simp[aC2]at h
 | cons c r ih =>
  unfold aC2 at h;split at h
  ·cases j with
   | zero=>exact⟨c,rfl,by assumption⟩
   | succ j=>simpa using ih j (by omega)
  ·omega
theorem dB4{p:Nat->Bool}{s:ByteArray}{i j:Nat}(h1:i<=j)(h2:j<skip p s i)(hj:j<s.size):p (s[j].toNat)=true:=by
 unfold skip at h2;obtain⟨c,hc,hp⟩:=cK6 p _ (j-i) (show j-i<aC2 p (s.data.toList.drop i)by omega);rw[List.getElem?_drop,show i+(j-i)=j by omega]at hc;have:s.data.toList[j]? = some s[j]:=by
  have hj':j<s.data.toList.length:=by simpa using hj
  rw[List.getElem?_eq_getElem hj'];rfl
 rw[this]at hc;injection hc with hc;rw[hc];exact hp
def isZ(c:Nat):Bool:=c==48
def isDg(c:Nat):Bool:=decide (48<=c)&&decide (c<=57)
def isSf(c:Nat):Bool:=c==101||c==69||c==105||c==110||c==117||c==109||c==107||c==75||c==77||c==71||c==84||c==80
def isSg(c:Nat):Bool:=c==43||c==45
def aD6(s:ByteArray)(i:Nat):Nat:=match s.data.toList[i]? with|some c=>c.toNat|none=>0
theorem aO2{s:ByteArray}{i:Nat}(h:i<s.size):aD6 s i=s[i].toNat:=by
 have hj':i<s.data.toList.length:=by simpa using h
 unfold aD6;rw[List.getElem?_eq_getElem hj'];rfl
theorem aO3{s:ByteArray}{i:Nat}(h:s.size<=i):aD6 s i=0:=by
 unfold aD6;rw[List.getElem?_eq_none (by simpa using h)]
structure PQ where
 pos:Bool
 value:ByteArray
 num:ByteArray
 denom:ByteArray
 suffix:ByteArray
 ok:Bool
def str0:ByteArray:=⟨#[48]⟩
def noStr:ByteArray:=⟨#[]⟩
def sgnLen(s:ByteArray):Nat:=if isSg (aD6 s 0)then 1 else 0
def aM6(s:ByteArray)(f:Nat):Nat:=if isSg (aD6 s f)then f+1 else f
def aO4(s:ByteArray)(p:Bool)(num denom:ByteArray)(a:Nat):PQ :=
 if skip isDg s (aM6 s (skip isSf s a))=s.size then⟨p,s.extract 0 a,num,denom,s.extract a s.size,true⟩
 else⟨p,s.extract 0 a,num,denom,noStr,false⟩
def pqNum(s:ByteArray)(z n:Nat):ByteArray:=if n=z then str0 else s.extract z n
def pqB(s:ByteArray)(p:Bool)(z n:Nat):PQ :=
 if n=s.size then⟨p,s,s.extract z s.size,noStr,noStr,true⟩else
 if aD6 s n=46 then
  if skip isDg s (n+1)=s.size then⟨p,s,pqNum s z n,s.extract (n+1) s.size,noStr,true⟩
  else aO4 s p (pqNum s z n) (s.extract (n+1) (skip isDg s (n+1))) (skip isDg s (n+1))
 else aO4 s p (pqNum s z n) noStr n
def pqA(s:ByteArray)(p:Bool)(z:Nat):PQ :=
 if z=s.size then⟨p,str0,str0,noStr,noStr,true⟩else pqB s p z (skip isDg s z)
def pq(s:ByteArray):PQ:=pqA s (!(aD6 s 0==45)) (skip isZ s (sgnLen s))
theorem cR1{s:ByteArray}{f:Nat}(h:f<=s.size):f<=aM6 s f/\aM6 s f<=s.size:=by
 unfold aM6;split
 ·rename_i hs;by_cases hf:f<s.size
  ·omega
  ·rw[aO3 (by omega)]at hs;simp[isSg]at hs
 ·omega
theorem aJ5{p:Nat->Bool}{a b:List UInt8}(ha:∀ x∈a,p x.toNat=true):aC2 p (a++b)=a.length+aC2 p b:=by
 induction a with
 | nil=>simp
 | cons c r ih =>
  have h1:=ha c (by simp);have h2:=ih (fun x hx=>ha x (by simp[hx]));simp[aC2,h1,h2];omega
theorem aX1{p:Nat->Bool}{c:UInt8}{r:List UInt8}(h:p c.toNat=false):aC2 p (c::r)=0:=by simp[aC2,h]
theorem bC3{p:Nat->Bool}{a:List UInt8}{c:UInt8}{r:List UInt8}(h:p c.toNat=false):aC2 p (a++c::r)=aC2 p a:=by
 induction a with
 | nil=>simp[aC2,h]
 | cons d a ih=>simp[aC2,ih]
theorem aH0{p:Nat->Bool}{s:ByteArray}{pre rest:List UInt8}(h:s.data.toList=pre++rest):skip p s pre.length=pre.length+aC2 p rest:=by
 unfold skip;rw[h,List.drop_left]
theorem aE1{s:ByteArray}{pre:List UInt8}{c:UInt8}{r:List UInt8}(h:s.data.toList=pre++c::r):aD6 s pre.length=c.toNat:=by
 unfold aD6;rw[h];simp
theorem aD1{s:ByteArray}{l:List UInt8}(h:s.data.toList=l):s.size=l.length:=by
 rw[<- h];simp
theorem aS3{a b:ByteArray}(h:a.data.toList=b.data.toList):a=b:=by
 obtain⟨a⟩:=a;obtain⟨b⟩:=b;congr;exact Array.toList_inj.1 h
theorem bR5(s:ByteArray)(i j:Nat):(s.extract i j).data.toList=(s.data.toList.drop i).take (j-i):=by
 simp[ByteArray.data_extract,Array.toList_extract,List.extract]
theorem aH1{s:ByteArray}{a b c:List UInt8}(h:s.data.toList=a++b++c):(s.extract a.length (a.length+b.length)).data.toList=b:=by
 rw[bR5,h,List.append_assoc,List.drop_left,Nat.add_sub_cancel_left,List.take_left]
structure Word (s:ByteArray) (sg num dn suf:List UInt8):Prop where
 whole:s.data.toList=sg++num++dn++suf
 sign:sg=[]\/sg=[43]\/sg=[45]
 digs:∀ x∈num,isDg x.toNat=true
 frac:dn=[]\/∃ ds,dn=46::ds/\∀ x∈ds,isDg x.toNat=true
 suff:∃ c r,suf=c::r/\isSf c.toNat=true
theorem sf_no{c:Nat}(h:isSf c=true):isDg c=false/\isZ c=false/\isSg c=false/\c≠46:=by
 simp only[isSf,Bool.or_eq_true,beq_iff_eq]at h;rcases h with((((((((((h|h)|h)|h)|h)|h)|h)|h)|h)|h)|h)|h<;>subst h<;>decide
theorem dg_no{c:Nat}(h:isDg c=true):isSg c=false/\isSf c=false/\c≠46:=by
 simp[isDg]at h;refine⟨?_,?_,by omega⟩
 ·simp[isSg];omega
 ·simp[isSf];omega
def bR6(s:ByteArray)(n:Nat)(dn:List UInt8):ByteArray:=if dn=[]then noStr else s.extract (n+1) (n+dn.length)
theorem dN8{s:ByteArray}{sg num dn suf:List UInt8}(W:Word s sg num dn suf):
  pq s=aO4 s (!(sg==[45])) (pqNum s (sg.length+aC2 isZ num) (sg.length+num.length)) (bR6 s (sg.length+num.length) dn) (sg.length+num.length+dn.length):=by
 obtain⟨hw,hsg,hnum,hdn,c,r,rfl,hc⟩:=W;obtain⟨c1,c2,c3,c4⟩:=sf_no hc;have hsz:=aD1 hw;simp at hsz
 -- the first byte behind the number is no digit
 obtain⟨d,rest,hd,d1,d2⟩:∃ d rest,dn++c::r=d::rest/\isDg d.toNat=false/\isZ d.toNat=false/\isSg d.toNat=false:=by
  rcases hdn with rfl|⟨ds,rfl,_⟩
  ·exact⟨c,r,rfl,c1,c2,c3⟩
  ·exact⟨46,_,rfl,by decide,by decide,by decide⟩
 have hs0:sgnLen s=sg.length/\(!(aD6 s 0==45)) = !(sg==[45]):=by
  rcases hsg with rfl|rfl|rfl
  ·have:∃ x y,s.data.toList=[]++x::y/\isSg x.toNat=false:=by
    cases num with
    | nil=>exact⟨d,rest,by rw[hw,<- hd];simp,d2.2⟩
    | cons a l=>exact⟨a,_,by rw[hw];rfl,(dg_no (hnum a (by simp))).1⟩
   obtain⟨x,y,h1,h2⟩:=this;have:=aE1 h1;simp at this;refine⟨by simp[sgnLen,this,h2],?_⟩;rw[this];simp[isSg]at h2;simp[h2]
  ·have:=aE1 (pre:=[]) (c:=43) (r:=num++dn++c::r) (s:=s) (by rw[hw];simp);simp at this;exact⟨by simp[sgnLen,this,isSg],by rw[this];rfl⟩
  ·have:=aE1 (pre:=[]) (c:=45) (r:=num++dn++c::r) (s:=s) (by rw[hw];simp);simp at this;exact⟨by simp[sgnLen,this,isSg],by rw[this];rfl⟩
 obtain⟨hs1,hs2⟩:=hs0;have hz:skip isZ s sg.length=sg.length+aC2 isZ num:=by
  rw[aH0 (pre:=sg) (rest:=num++(dn++c::r)) (by rw[hw];simp),hd,bC3 d2.1]
 have hk:=aS2 isZ num;have hn:skip isDg s (sg.length+aC2 isZ num)=sg.length+num.length:=by
  have e:(sg++num.take (aC2 isZ num)).length=sg.length+aC2 isZ num:=by simp;omega
  rw[<- e,aH0 (rest:=num.drop (aC2 isZ num)++(dn++c::r)) (by rw[hw];simp[<- List.append_assoc];rw[List.append_assoc sg,List.take_append_drop]),hd,aJ5 (fun x hx=>hnum x (List.mem_of_mem_drop hx)),aX1 d1,e];simp;omega
 unfold pq;rw[hs1,hs2,hz];unfold pqA;rw[if_neg (by omega),hn];unfold pqB;rw[if_neg (by omega)];have hb:aD6 s (sg.length+num.length)=d.toNat:=by
  have:=aE1 (pre:=sg++num) (c:=d) (r:=rest) (s:=s) (by rw[hw,<- hd];simp)
  simpa using this
 rcases hdn with rfl|⟨ds,rfl,hds⟩
 ·simp at hd;obtain⟨rfl,rfl⟩:=hd;rw[if_neg (by rw[hb];exact c4)];simp[bR6]
 ·simp at hd;obtain⟨rfl,rfl⟩:=hd;have hd2:skip isDg s (sg.length+num.length+1)=sg.length+num.length+1+ds.length:=by
   have e:(sg++num++[46]).length=sg.length+num.length+1:=by simp;omega
   rw[<- e,aH0 (rest:=ds++c::r) (by rw[hw];simp),aJ5 hds,aX1 c1,e];rfl
  rw[if_pos (by rw[hb];rfl),hd2,if_neg (by simp at hsz;omega)];unfold bR6;rw[if_neg (by simp),show(46::ds).length=ds.length+1 from rfl,show sg.length+num.length+(ds.length+1)=sg.length+num.length+1+ds.length by omega]
theorem cR2{s:ByteArray}{sg num dn suf:List UInt8}(W:Word s sg num dn suf)(hs:∀ x∈suf,isSf x.toNat=true)(p:Bool)(nm dm:ByteArray):
  aO4 s p nm dm (sg.length+num.length+dn.length)=⟨p,s.extract 0 (sg.length+num.length+dn.length),nm,dm,⟨suf.toArray⟩,true⟩:=by
 have hw:=W.whole;have hsz:=aD1 hw;simp at hsz;have e:(sg++num++dn).length=sg.length+num.length+dn.length:=by simp;omega
 have hf:skip isSf s (sg.length+num.length+dn.length)=s.size:=by
  rw[<- e,aH0 (rest:=suf++[]) (by rw[hw];simp),aJ5 hs];simp[aC2];omega
 unfold aO4;rw[hf];have:aM6 s s.size=s.size:=by unfold aM6;rw[aO3 (Nat.le_refl _)];rfl
 rw[this,aM5 (Nat.le_refl _),if_pos rfl];congr 1;apply aS3;have:=aH1 (s:=s) (a:=sg++num++dn) (b:=suf) (c:=[]) (by rw[hw];simp);rw[e]at this;have hsz2:s.size=sg.length+num.length+dn.length+suf.length:=by omega
 rw[hsz2];exact this
def sfx:ByteArray:=⟨#[101,69,105,110,117,109,107,75,77,71,84,80]⟩
theorem cK7:∀ j:Fin sfx.size,(sfx[j.val]'j.isLt).toNat<128:=by decide
theorem dN9:∀ j:Fin sfx.size,isSf (sfx[j.val]'j.isLt).toNat=true:=by decide
theorem cR3(j:Nat)(h:j<sfx.size):(sfx[j]'h).toNat<128:=cK7 ⟨j,h⟩
theorem dV8(j:Nat)(h:j<sfx.size):isSf (sfx[j]'h).toNat=true:=dN9 ⟨j,h⟩
theorem dV9(c:Nat)(h:∀ j (hj:j<sfx.size),(sfx[j]'hj).toNat≠c):isSf c=false:=by
 cases hc:isSf c with
 | false=>rfl
 | true =>
  exfalso
  simp only[isSf,Bool.or_eq_true,beq_iff_eq]at hc;rcases hc with((((((((((hc|hc)|hc)|hc)|hc)|hc)|hc)|hc)|hc)|hc)|hc)|hc
  ·exact h 0 (by decide) hc.symm
  ·exact h 1 (by decide) hc.symm
  ·exact h 2 (by decide) hc.symm
  ·exact h 3 (by decide) hc.symm
  ·exact h 4 (by decide) hc.symm
  ·exact h 5 (by decide) hc.symm
  ·exact h 6 (by decide) hc.symm
  ·exact h 7 (by decide) hc.symm
  ·exact h 8 (by decide) hc.symm
  ·exact h 9 (by decide) hc.symm
  ·exact h 10 (by decide) hc.symm
  ·exact h 11 (by decide) hc.symm
theorem cK8(s:ByteArray)(hs:s.size=1):Utf8.decode s 0=(if(s[0]'(by omega)).toNat<128 then(s[0]'(by omega)).toNat else 65533,1):=by
 by_cases h:(s[0]'(by omega)).toNat<128
 ·rw[decode_ascii s 0 (by omega) h,if_pos h]
 ·have e:s.get! (0+0)=s[0]'(by omega):=by
   show s.get! 0=_;have h0:0<s.size:=by omega
   simp[ByteArray.get!,getElem!_pos,h0];rfl
  rw[if_neg h];simp only[Utf8.decode,e,hs];rw[if_neg h];simp[Utf8.runeError]
theorem bK5{c:Nat}(h:128<=c):isSf c=false:=by
 cases hc:isSf c with
 | false=>rfl
 | true =>
  simp only[isSf,Bool.or_eq_true,beq_iff_eq]at hc;omega
def rune(c:Nat):Nat:=if c<128 then c else 65533
theorem bR7(c:Nat):isSf (rune c)=isSf c:=by
 unfold rune;split
 ·rfl
 ·rw[bK5 (by omega),bK5 (by omega)]
def dW0(w:World)(c:Nat)(e:Ending)(w':World):Prop:=(∃ v:Int,e=.returned (.int .i64 v)/\(v=0/\isSf c=true\/v = -1/\isSf c=false))/\Kept (fun _=>False) w w'
theorem bJ3(s:ByteArray)(c:Nat)(hs:s.size=1)(hc:(s[0]'(by omega)).toNat=c)(w:World):
  Calls prog 123 #[.string s,.string sfx] w (dW0 w c):=by
 have hd:=cK8 s hs;rw[hc]at hd;have n1:∀ ty,(Instr.next (.pointer (some ⟨w.heap.size,0,none⟩)) true ty).run prog (w.iter s 0)=.ok (.tuple #[.bool true,.int .i64 0,.int .i32 (rune c:Nat)]) (w.iter s 1):=by
  intro ty;rw[run_next_any w s 0 ty (by omega),hd];rfl
 have hk1:(w.iter s 1).heap[w.heap.size]? = some (.stringIter s 1):=World.iter_heap w s 1;have K1:Kept (fun _=>False) w (w.iter s 1):=(Kept.refl _ w).alloc _;obtain⟨W1,hW1⟩:∃ W,w.iter s 1=W:=⟨_,rfl⟩;rw[hW1]at n1 hk1 K1;have HK1:=hiD K1;have n2:∀ j (h:j<sfx.size) ty,(Instr.next (.pointer (some ⟨W1.heap.size,0,none⟩)) true ty).run prog (W1.iter sfx j)=.ok (.tuple #[.bool true,.int .i64 j,.int .i32 (sfx[j]'h).toNat]) (W1.iter sfx (j+1)):=fun j h ty=>run_next_ascii W1 sfx j ty h (cR3 j h);have n3:∀ ty,(Instr.next (.pointer (some ⟨W1.heap.size,0,none⟩)) true ty).run prog (W1.iter sfx 12)=.ok (.tuple #[.bool false]) (W1.iter sfx 12):=fun ty=>run_next_end W1 sfx 12 ty (by decide);have hk2:(W1.iter sfx 12).heap[w.heap.size]? = some (.stringIter s 1):=((Kept.refl (fun _=>False) W1).alloc (.stringIter sfx 12)).at hk1 (fun f=>f);have n4:∀ ty,(Instr.next (.pointer (some ⟨w.heap.size,0,none⟩)) true ty).run prog (W1.iter sfx 12)=.ok (.tuple #[.bool false]) (W1.iter sfx 12):=fun ty=>Lib.run_next_end_at _ _ s 1 ty hk2 (by omega);clear hd hk1 hk2 K1;go_enter func123,ntmps123;go_wp2_with fail;refine wp_loop_rounds 2 ?_;rw[rounds_succ];go_wp2_with fail;have hs12:sfx.size=12:=rfl
 go_loopw [8] (fun _ wr=>∃ j,j<=12/\wr=W1.iter sfx j/\∀ k (hk:k<sfx.size),k<j->(sfx[k]'hk).toNat≠rune c) (fun _ wr=>12-wr.iterPos W1.heap.size)
 case atStart=>exact⟨0,by omega,rfl,fun k _ h=>by omega⟩
 case round =>
  obtain⟨j,hj,rfl,hno⟩:=hrel;rcases Nat.lt_or_ge j 12 with hlt|hge
  ·have n5:=n2 j (by omega);by_cases he:(sfx[j]'(by omega)).toNat=rune c
   ·have hsf:=dV8 j (by omega);rw[he,bR7]at hsf;have g1:(((rune c:Nat):Int)==(((sfx[j]'(by omega)).toNat:Nat):Int))=true:=beqT (by omega);go_wp2_with fail;go_ret;exact⟨⟨0,rfl,Or.inl ⟨rfl,hsf⟩⟩,HK1.out.alloc _⟩
   ·have hno':∀ k (hk:k<sfx.size),k<j+1->(sfx[k]'hk).toNat≠rune c:=fun k hk h=>by
     by_cases hkj:k=j
     ·subst hkj;exact he
     ·exact hno k hk (by omega)
    have HNO:=hiD hno';have g1:(((rune c:Nat):Int)==(((sfx[j]'(by omega)).toNat:Nat):Int))=false:=beqF (by omega);clear hno hno';go_wp2_with fail;go_roundw
    case rel=>exact⟨j+1,by omega,rfl,HNO.out⟩
    case measure=>simp;omega
  ·obtain rfl:j=12:=by omega
   have hsf:=dV9 (rune c) (fun k hk=>hno k hk (by omega));rw[bR7]at hsf;clear hno;go_wp2_with fail;rw[rounds_succ];go_wp2_with fail;go_ret;exact⟨⟨-1,rfl,Or.inr ⟨rfl,hsf⟩⟩,HK1.out.alloc _⟩
theorem bJ4(s:ByteArray)(c:Nat)(hs:s.size=1)(hc:(s[0]'(by omega)).toNat=c)(w:World):
  Calls prog 88 #[.string s,.string sfx] w fun e w'=>e=.returned (.bool (isSf c))/\Kept (fun _=>False) w w':=by
 go_enter func88,ntmps88;go_wp2_with fail;refine(bJ3 s c hs hc w).mono ?_;rintro e w1 ⟨⟨v,rfl,h⟩,hk⟩;rcases h with⟨rfl,h⟩|⟨rfl,h⟩
 ·go_wp2_with fail;go_ret;exact⟨by rw[h];rfl,hk⟩
 ·go_wp2_with fail;go_ret;exact⟨by rw[h];rfl,hk⟩
def pqV(ev:Value)(r:PQ):Value:=.tuple #[.bool r.pos,.string r.value,.string r.num,.string r.denom,.string r.suffix,if r.ok then .nilIface else ev]
def dB5(w:World)(ev:Value)(r:PQ)(e:Ending)(w':World):Prop:=e=.returned (pqV ev r)/\Kept (fun _=>False) w w'
theorem cR4(s:ByteArray):sgnLen s<=s.size:=by
 unfold sgnLen;split
 ·rename_i h;rcases Nat.eq_zero_or_pos s.size with h0|h0
  ·rw[aO3 (by omega)]at h;simp[isSg]at h
  ·omega
 ·omega
theorem bZ0{w:World}{b i:Nat}{v:Value}(h:w.cell? ⟨b,i,none⟩=some v):b<w.heap.size:=by
 rcases Nat.lt_or_ge b w.heap.size with h'|h'
 ·exact h'
 ·have:w.heap[b]? = none:=Array.getElem?_eq_none h';simp[World.cell?,this]at h
theorem cK9{w w':World}{b i:Nat}{v:Value}(hb:w'.heap[b]? = w.heap[b]?)(h:w.cell? ⟨b,i,none⟩=some v):w'.cell? ⟨b,i,none⟩=some v:=by
 rw[<- h];simp[World.cell?,hb]
theorem aG5(s:ByteArray)(hs:s.size<=2147483647)(w:World)(ev:Value)(hev:w.cell? ⟨0,0,none⟩=some ev):Calls prog 49 #[.string s] w (dB5 w ev (pq s)):=by
 have HEV:=hiD hev;clear hev;go_enter func49,ntmps49;go_wp2_with fail
 go_step3
 go_upto_if 20 with fail
 go_cut [2,8]from 16 (fun v2 v8 wx=>v2=.bool (!(aD6 s 0==45))/\v8=.int .i64 ((sgnLen s:Nat):Int)/\wx=w)
 case first =>
  as_aux_lemma =>
   rcases Nat.eq_zero_or_pos s.size with h0|h0
   ·have hb:=aO3 (s:=s) (i:=0) (by omega);go_wp2_with fail;go_meet
    case rel=>exact⟨by rw[hb];rfl,by unfold sgnLen;rw[hb];rfl,rfl⟩
   ·have hb:=aO2 h0;by_cases h45:s[0].toNat=45
    ·have g1:((s[0].toNat:Int)==45)=true:=beqT (by omega);have hs1:sgnLen s=1:=by unfold sgnLen;rw[hb,h45];rfl
     have hb1:(!(aD6 s 0==45))=false:=by rw[hb,h45];rfl
     have HS1:=hiD hs1;have HB1:=hiD hb1;clear hb hb1 hs1 h45;go_wp2_with fail;go_meet
     case rel=>exact⟨by rw[HB1.out],by rw[HS1.out];rfl,rfl⟩
    ·have g1:((s[0].toNat:Int)==45)=false:=beqF (by omega);have hb1:(!(aD6 s 0==45))=true:=by rw[hb];simp[h45]
     by_cases h43:s[0].toNat=43
     ·have g2:((s[0].toNat:Int)==43)=true:=beqT (by omega);have hs1:sgnLen s=1:=by unfold sgnLen;rw[hb,h43];rfl
      have HS1:=hiD hs1;have HB1:=hiD hb1;clear hb hb1 hs1 h45 h43;go_wp2_with fail;go_meet
      case rel=>exact⟨by rw[HB1.out],by rw[HS1.out];rfl,rfl⟩
     ·have g2:((s[0].toNat:Int)==43)=false:=beqF (by omega);have hs1:sgnLen s=0:=by unfold sgnLen;rw[hb];simp[isSg,h45,h43]
      have HS1:=hiD hs1;have HB1:=hiD hb1;clear hb hb1 hs1 h45 h43;go_wp2_with fail;go_meet
      case rel=>exact⟨by rw[HB1.out],by rw[HS1.out];rfl,rfl⟩
 case rest =>
  obtain⟨rfl,rfl,rfl⟩:=hcut;go_wp2_with fail
  go_step3
  go_upto_block 1 with fail
  go_cut [8,10]from 16 (fun v8 v10 wx=>v8=.int .i64 ((skip isZ s (sgnLen s):Nat):Int)/\v10=v8/\skip isZ s (sgnLen s)<s.size/\wx=wc)
  case first =>
   as_aux_lemma =>
    have hsl:=cR4 s;go_wp2_with fail
    go_loop [8,10] (fun v8 v10=>∃ i:Nat,v8=.int .i64 (i:Int)/\v10=.int .i64 (i:Int)/\i<=s.size/\skip isZ s i=skip isZ s (sgnLen s)) (fun _ v10=>s.size-(intOf v10).toNat)
    case atStart=>exact⟨sgnLen s,rfl,rfl,hsl,rfl⟩
    case round =>
     obtain⟨i,rfl,rfl,hi,he⟩:=hrel;have HE:=hiD he;rcases Nat.lt_or_ge i s.size with hlt|hge
     ·by_cases h48:s[i].toNat=48
      ·have g1:((s[i].toNat:Int)==48)=true:=beqT (by omega);have hst:=aO1 (p:=isZ) hlt (by simp[isZ,h48]);have HST:=hiD hst;clear he hst h48;go_wp2_with fail;go_round
       case rel=>exact⟨i+1,rfl,rfl,by omega,by rw[<- HST.out];exact HE.out⟩
       case measure=>simp[intOf];omega
      ·have g1:((s[i].toNat:Int)==48)=false:=beqF (by omega);have hst:=aS1 (p:=isZ) hlt (by simp[isZ,h48]);rw[he]at hst;have HST:=hiD hst;clear he hst h48;go_wp2_with fail;go_meet
       case rel=>exact⟨by rw[HST.out],rfl,by rw[HST.out];exact hlt,rfl⟩
     ·have hz:skip isZ s (sgnLen s)=s.size:=by rw[<- he,aM5 (by omega)];omega
      have hpq:pq s=⟨!(aD6 s 0==45),str0,str0,noStr,noStr,true⟩:=by
       unfold pq pqA;rw[if_pos hz]
      have HPQ:=hiD hpq;clear he hz hpq;go_wp2_with fail;refine bodyPost_ret (v:=.tuple #[.bool (!(aD6 s 0==45)),.string str0,.string str0,.string noStr,.string noStr,.nilIface]) ?_ rfl ⟨by rw[HPQ.out];rfl,Kept.refl _ _⟩;simp[results,Tryz.f49,loadVar,go_sem,str0,noStr]
  case rest =>
   obtain⟨rfl,rfl,hz,rfl⟩:=hcut;have hpqB:pq s=pqB s (!(aD6 s 0==45)) (skip isZ s (sgnLen s)) (skip isDg s (skip isZ s (sgnLen s))):=by
    unfold pq pqA;rw[if_neg (by omega)]
   generalize skip isZ s (sgnLen s)=z at *;generalize hN:skip isDg s z=n at *;have HN:=hiD hN;have hzn:z<=n:=by rw[<- hN];exact cR0 _ _ _
   have HPQ:=hiD hpqB;clear hN hpqB;go_wp2_with fail
   go_step3
   go_upto_block 4 with fail
   go_cut [4,8,11]from 16 (fun v4 v8 v11 wx=>v4=.string (s.extract z n)/\v8=.int .i64 (n:Int)/\v11=v8/\n<s.size/\wx=wc)
   case first =>
    as_aux_lemma =>
     go_wp2_with fail
     go_loop [8,11] (fun v8 v11=>v8=.int .i64 (z:Int)/\∃ i:Nat,v11=.int .i64 (i:Int)/\z<=i/\i<=s.size/\Hid (skip isDg s i=n)) (fun _ v11=>s.size-(intOf v11).toNat)
     case atStart=>exact⟨rfl,z,rfl,Nat.le_refl _,by omega,HN⟩
     case round =>
      obtain⟨rfl,i,rfl,hzi,hi,HE⟩:=hrel;rcases Nat.lt_or_ge i s.size with hlt|hge
      ·by_cases hd:isDg s[i].toNat=true
       ·have HST:=hiD (aO1 hlt hd);simp only[isDg,Bool.and_eq_true,decide_eq_true_eq]at hd;obtain⟨d1,d2⟩:=hd;go_wp2_with fail;all_goals (try (exfalso;omega))
        all_goals
         go_round
         case rel=>exact⟨rfl,i+1,rfl,by omega,by omega,by rw[<- HST.out];exact HE⟩
         case measure=>simp[intOf];omega
       ·have hd0:isDg s[i].toNat=false:=by simpa using hd
        have hst:=aS1 hlt hd0;rw[HE.out]at hst;have HNI:=hiD hst;clear hst hd0;have hd1:¬ (48<=s[i].toNat/\s[i].toNat<=57):=by simpa[isDg]using hd
        have g0:((s[i].toNat:Int)==48)=false:=beqF (by omega);have g1:((s[i].toNat:Int)==49)=false:=beqF (by omega);have g2:((s[i].toNat:Int)==50)=false:=beqF (by omega);have g3:((s[i].toNat:Int)==51)=false:=beqF (by omega);have g4:((s[i].toNat:Int)==52)=false:=beqF (by omega);have g5:((s[i].toNat:Int)==53)=false:=beqF (by omega);have g6:((s[i].toNat:Int)==54)=false:=beqF (by omega);have g7:((s[i].toNat:Int)==55)=false:=beqF (by omega);have g8:((s[i].toNat:Int)==56)=false:=beqF (by omega);have g9:((s[i].toNat:Int)==57)=false:=beqF (by omega);clear hd hd1;go_wp2_with fail;go_meet
        case rel=>exact⟨by rw[HNI.out],by rw[HNI.out],rfl,by rw[HNI.out];exact hlt,rfl⟩
      ·have hni:n=s.size:=by rw[<- HE.out,aM5 (by omega)];omega
       have hpq:pq s=⟨!(aD6 s 0==45),s,s.extract z s.size,noStr,noStr,true⟩:=by
        rw[HPQ.out];unfold pqB;rw[if_pos hni]
       have HPQ2:=hiD hpq;clear hpq;go_wp2_with fail;refine bodyPost_ret (v:=.tuple #[.bool (!(aD6 s 0==45)),.string s,.string (s.extract z s.size),.string noStr,.string noStr,.nilIface]) ?_ rfl ⟨by rw[HPQ2.out];rfl,Kept.refl _ _⟩;simp[results,Tryz.f49,loadVar,go_sem,noStr]
   case rest =>
    obtain⟨rfl,rfl,rfl,hn,rfl⟩:=hcut;have hex:(s.extract z n).size=n-z:=by rw[ByteArray.size_extract];omega
    go_upto_if 79 with fail
    go_cut [4]from 16 (fun v4 wx=>v4=.string (pqNum s z n)/\wx=wc)
    case first =>
     as_aux_lemma =>
      by_cases he:n=z
      ·have hq:pqNum s z n=str0:=if_pos he;have HQ:=hiD hq;have g:(((s.extract z n).size:Nat):Int)==0:=by rw[hex];simp;omega
       clear hq;go_wp2_with fail;go_meet
       case rel=>exact⟨by rw[HQ.out];rfl,rfl⟩
      ·have hq:pqNum s z n=s.extract z n:=if_neg he;have HQ:=hiD hq;have g:((((s.extract z n).size:Nat):Int)==0)=false:=beqF (by rw[hex];omega);clear hq;go_wp2_with fail;go_meet
       case rel=>exact⟨by rw[HQ.out],rfl⟩
    case rest =>
     obtain⟨rfl,rfl⟩:=hcut;have hbn:=aO2 hn
     go_upto_if 88 with fail
     go_cut [5,8,12]from 16 (fun v5 v8 v12 wx=>∃(dm:ByteArray) (a:Nat),v5=.string dm/\v8=.int .i64 (a:Int)/\Hid (pq s=aO4 s (!(aD6 s 0==45)) (pqNum s z n) dm a)/\a<s.size/\wx=wc)
     case first =>
      as_aux_lemma =>
       by_cases h46:s[n].toNat=46
       ·have g:((s[n].toNat:Int)==46)=true:=beqT (by omega);have hpqD:pq s=if skip isDg s (n+1)=s.size then⟨!(aD6 s 0==45),s,pqNum s z n,s.extract (n+1) s.size,noStr,true⟩else aO4 s (!(aD6 s 0==45)) (pqNum s z n) (s.extract (n+1) (skip isDg s (n+1))) (skip isDg s (n+1)):=by
         rw[HPQ.out];unfold pqB;rw[if_neg (by omega),if_pos (by rw[hbn];exact h46)]
        generalize hD:skip isDg s (n+1)=d at *;have HD:=hiD hD;have HPD:=hiD hpqD;generalize hnum:pqNum s z n=num at *;clear hD hpqD h46 hbn;go_wp2_with fail
        go_step3
        go_wp2_with fail
        go_step3
        go_wp2_with fail
        go_loop [8,12] (fun v8 v12=>v8=.int .i64 ((n:Int)+1)/\∃ i:Nat,v12=.int .i64 (i:Int)/\n+1<=i/\i<=s.size/\Hid (skip isDg s i=d)) (fun _ v12=>s.size-(intOf v12).toNat)
        case atStart=>exact⟨rfl,n+1,rfl,Nat.le_refl _,by omega,HD⟩
        case round =>
         obtain⟨rfl,i,rfl,hzi,hi,HE⟩:=hrel;rcases Nat.lt_or_ge i s.size with hlt|hge
         ·by_cases hd:isDg s[i].toNat=true
          ·have HST:=hiD (aO1 hlt hd);simp only[isDg,Bool.and_eq_true,decide_eq_true_eq]at hd;obtain⟨d1,d2⟩:=hd;go_wp2_with fail;all_goals (try (exfalso;omega))
           all_goals
            go_round
            case rel=>exact⟨rfl,i+1,rfl,by omega,by omega,by rw[<- HST.out];exact HE⟩
            case measure=>simp[intOf];omega
          ·have hd0:isDg s[i].toNat=false:=by simpa using hd
           have hst:=aS1 hlt hd0;rw[HE.out]at hst;have HNI:=hiD hst;have hpt:=HPD.out;rw[if_neg (by omega)]at hpt;have HPT:=hiD hpt;clear hst hd0 hpt;have hd1:¬ (48<=s[i].toNat/\s[i].toNat<=57):=by simpa[isDg]using hd
           have g0:((s[i].toNat:Int)==48)=false:=beqF (by omega);have g1:((s[i].toNat:Int)==49)=false:=beqF (by omega);have g2:((s[i].toNat:Int)==50)=false:=beqF (by omega);have g3:((s[i].toNat:Int)==51)=false:=beqF (by omega);have g4:((s[i].toNat:Int)==52)=false:=beqF (by omega);have g5:((s[i].toNat:Int)==53)=false:=beqF (by omega);have g6:((s[i].toNat:Int)==54)=false:=beqF (by omega);have g7:((s[i].toNat:Int)==55)=false:=beqF (by omega);have g8:((s[i].toNat:Int)==56)=false:=beqF (by omega);have g9:((s[i].toNat:Int)==57)=false:=beqF (by omega);clear hd hd1;go_wp2_with fail;go_meet
           case rel=>exact⟨_,i,rfl,rfl,by rw[<- HNI.out];exact HPT,hlt,rfl⟩
         ·have hdi:d=s.size:=by rw[<- HE.out,aM5 (by omega)];omega
          have hpt:=HPD.out;rw[if_pos hdi]at hpt;have HPT:=hiD hpt;clear hpt;go_wp2_with fail;refine bodyPost_ret (v:=.tuple #[.bool (!(aD6 s 0==45)),.string s,.string num,.string (s.extract (n+1) s.size),.string noStr,.nilIface]) ?_ rfl ⟨by rw[HPT.out];rfl,Kept.refl _ _⟩;simp[results,Tryz.f49,loadVar,go_sem,noStr]
       ·have g:((s[n].toNat:Int)==46)=false:=beqF (by omega);have hpqD:pq s=aO4 s (!(aD6 s 0==45)) (pqNum s z n) noStr n:=by
         rw[HPQ.out];unfold pqB;rw[if_neg (by omega),if_neg (by rw[hbn];exact h46)]
        have HPD:=hiD hpqD;clear hpqD h46 hbn;go_wp2_with fail;go_meet
        case rel=>exact⟨noStr,n,rfl,rfl,HPD,hn,rfl⟩
     case rest =>
      obtain⟨dm,a,rfl,rfl,HPT,ha,rfl⟩:=hcut;generalize pqNum s z n=num at *;have hfle:=dN7 (p:=isSf) (Nat.le_of_lt ha);have hfge:=cR0 isSf s a;generalize hF:skip isSf s a=f at *;have HF:=hiD hF;clear hF
      go_upto_block 10 with fail
      go_cut [6,8,14]from 16 (fun v6 v8 v14 wx=>v6=.string noStr/\v8=.int .i64 (f:Int)/\v14=v8/\f<s.size/\Hid (Kept (fun _=>False) wc wx))
      case first =>
       as_aux_lemma =>
        go_wp2_with fail
        go_loopw [6,8,14] (fun v6 v8 v14 wr=>v6=.string noStr/\v8=.int .i64 (a:Int)/\∃ i:Nat,v14=.int .i64 (i:Int)/\a<=i/\i<=s.size/\Hid (skip isSf s i=f)/\Hid (Kept (fun _=>False) wc wr)) (fun _ _ v14 _=>s.size-(intOf v14).toNat)
        case atStart=>exact⟨rfl,rfl,a,rfl,Nat.le_refl _,by omega,HF,hiD (Kept.refl _ _)⟩
        case round =>
         obtain⟨rfl,rfl,i,rfl,hzi,hi,HE,HK⟩:=hrel;rcases Nat.lt_or_ge i s.size with hlt|hge
         ·have hx1:(s.extract i (i+1)).size=1:=by rw[ByteArray.size_extract];omega
          have hx2:((s.extract i (i+1))[0]'(by omega)).toNat=s[i].toNat:=by
           simp[ByteArray.getElem_extract]
          have HZ:=hiD (bJ4 (s.extract i (i+1)) s[i].toNat hx1 hx2 wr);by_cases hd:isSf s[i].toNat=true
          ·have HST:=hiD (aO1 hlt hd);rw[hd]at HZ;clear hd hx1 hx2;go_wp2_with fail;refine HZ.out.mono ?_;rintro e w1 ⟨rfl,hk⟩;have HK1:=hiD (HK.out.same hk);clear hk HZ;go_wp2_with fail;go_roundw
           case rel=>exact⟨rfl,rfl,i+1,rfl,by omega,by omega,by rw[<- HST.out];exact HE,HK1⟩
           case measure=>simp[intOf];omega
          ·have hd0:isSf s[i].toNat=false:=by simpa using hd
           have hst:=aS1 hlt hd0;rw[HE.out]at hst;have HNI:=hiD hst;rw[hd0]at HZ;clear hst hd0 hd hx1 hx2;go_wp2_with fail;refine HZ.out.mono ?_;rintro e w1 ⟨rfl,hk⟩;have HK1:=hiD (HK.out.same hk);clear hk HZ;go_wp2_with fail;go_meet
           case rel=>exact⟨rfl,by rw[HNI.out],rfl,by rw[HNI.out];exact hlt,HK1⟩
         ·have hfi:f=s.size:=by rw[<- HE.out,aM5 (by omega)];omega
          have hpt:pq s=⟨!(aD6 s 0==45),s.extract 0 a,num,dm,s.extract a s.size,true⟩:=by
           rw[HPT.out];unfold aO4;have e1:aM6 s s.size=s.size:=by unfold aM6;rw[aO3 (Nat.le_refl _)];rfl
           rw[HF.out,hfi,e1,aM5 (Nat.le_refl _),if_pos rfl]
          have HPT2:=hiD hpt;clear hpt;go_wp2_with fail;refine bodyPost_ret (v:=.tuple #[.bool (!(aD6 s 0==45)),.string (s.extract 0 a),.string num,.string dm,.string (s.extract a s.size),.nilIface]) ?_ rfl ⟨by rw[HPT2.out];rfl,HK.out⟩;simp[results,Tryz.f49,loadVar,go_sem]
      case rest =>
       obtain⟨rfl,rfl,rfl,hf,HK⟩:=hcut;have hbf:=aO2 hf;have hg1:=cR1 (s:=s) (f:=f) (by omega);generalize hG:aM6 s f=g at *;have HG:=hiD hG;clear hG;have hpqE:pq s=if skip isDg s g=s.size then⟨!(aD6 s 0==45),s.extract 0 a,num,dm,s.extract a s.size,true⟩else⟨!(aD6 s 0==45),s.extract 0 a,num,dm,noStr,false⟩:=by
        rw[HPT.out];unfold aO4;rw[HF.out,HG.out]
       have HPE:=hiD hpqE;clear hpqE;generalize hD:skip isDg s g=d at *;have HD:=hiD hD;clear hD
       go_upto_if 147 with fail
       go_cut [8]from 16 (fun v8 wx=>v8=.int .i64 (g:Int)/\wx=wc)
       case first =>
        as_aux_lemma =>
         by_cases h45:s[f].toNat=45
         ·have k1:((s[f].toNat:Int)==45)=true:=beqT (by omega);have hg:g=f+1:=by rw[<- HG.out];unfold aM6;rw[hbf,h45];rfl
          subst hg;clear hbf h45;go_wp2_with fail;go_meet
          case rel=>exact⟨rfl,rfl⟩
         ·have k1:((s[f].toNat:Int)==45)=false:=beqF (by omega);by_cases h43:s[f].toNat=43
          ·have k2:((s[f].toNat:Int)==43)=true:=beqT (by omega);have hg:g=f+1:=by rw[<- HG.out];unfold aM6;rw[hbf,h43];rfl
           subst hg;clear hbf h45 h43;go_wp2_with fail;go_meet
           case rel=>exact⟨rfl,rfl⟩
          ·have k2:((s[f].toNat:Int)==43)=false:=beqF (by omega);have hg:g=f:=by rw[<- HG.out];unfold aM6;rw[hbf];simp[isSg,h43,h45]
           have HGF:=hiD hg;clear hbf h45 h43 hg;go_wp2_with fail;go_meet
           case rel=>exact⟨by rw[HGF.out],rfl⟩
       case rest =>
        obtain⟨rfl,rfl⟩:=hcut;have hev:wc.cell? ⟨0,0,none⟩=some ev:=by
         have h0:0<_:=bZ0 HEV.out;exact cK9 (HK.out.block 0 h0 (fun f=>f)) HEV.out
        go_wp2_with fail
        go_step3
        go_wp2_with fail
        go_loop [6,15] (fun v6 v15=>v6=.string noStr/\∃ i:Nat,v15=.int .i64 (i:Int)/\g<=i/\i<=s.size/\Hid (skip isDg s i=d)) (fun _ v15=>s.size-(intOf v15).toNat)
        case atStart=>exact⟨rfl,g,rfl,Nat.le_refl _,by omega,HD⟩
        case round =>
         obtain⟨rfl,i,rfl,hzi,hi,HE⟩:=hrel;rcases Nat.lt_or_ge i s.size with hlt|hge
         ·by_cases hd:isDg s[i].toNat=true
          ·have HST:=hiD (aO1 hlt hd);simp only[isDg,Bool.and_eq_true,decide_eq_true_eq]at hd;obtain⟨d1,d2⟩:=hd;go_wp2_with fail;all_goals (try (exfalso;omega))
           all_goals
            go_round
            case rel=>exact⟨rfl,i+1,rfl,by omega,by omega,by rw[<- HST.out];exact HE⟩
            case measure=>simp[intOf];omega
          ·have hd0:isDg s[i].toNat=false:=by simpa using hd
           have hst:=aS1 hlt hd0;rw[HE.out]at hst;have hpt:=HPE.out;rw[if_neg (by omega)]at hpt;have HPT2:=hiD hpt;clear hst hd0 hpt;have hd1:¬ (48<=s[i].toNat/\s[i].toNat<=57):=by simpa[isDg]using hd
           have g0:((s[i].toNat:Int)==48)=false:=beqF (by omega);have g1:((s[i].toNat:Int)==49)=false:=beqF (by omega);have g2:((s[i].toNat:Int)==50)=false:=beqF (by omega);have g3:((s[i].toNat:Int)==51)=false:=beqF (by omega);have g4:((s[i].toNat:Int)==52)=false:=beqF (by omega);have g5:((s[i].toNat:Int)==53)=false:=beqF (by omega);have g6:((s[i].toNat:Int)==54)=false:=beqF (by omega);have g7:((s[i].toNat:Int)==55)=false:=beqF (by omega);have g8:((s[i].toNat:Int)==56)=false:=beqF (by omega);have g9:((s[i].toNat:Int)==57)=false:=beqF (by omega);clear hd hd1;go_wp2_with fail;refine bodyPost_ret (v:=.tuple #[.bool (!(aD6 s 0==45)),.string (s.extract 0 a),.string num,.string dm,.string noStr,ev]) ?_ rfl ⟨by rw[HPT2.out];rfl,HK.out⟩;simp[results,Tryz.f49,loadVar,go_sem]
         ·have hdi:d=s.size:=by rw[<- HE.out,aM5 (by omega)];omega
          have hpt:=HPE.out;rw[if_pos hdi]at hpt;have HPT2:=hiD hpt;clear hpt;go_wp2_with fail;refine bodyPost_ret (v:=.tuple #[.bool (!(aD6 s 0==45)),.string (s.extract 0 a),.string num,.string dm,.string (s.extract a s.size),.nilIface]) ?_ rfl ⟨by rw[HPT2.out];rfl,HK.out⟩;simp[results,Tryz.f49,loadVar,go_sem]
section
open Go.RowKit
section
variable {κ:Type} [DecidableEq κ]
def lkp(l:List (κ×Value))(k:κ)(i:Nat):Option (Nat×Value) :=
 match l with
 | []=>none
 | p::ps=>if p.1=k then some (i,p.2)else lkp ps k (i+1)
def putM(l:List (κ×Value))(k:κ)(v:Value):List (κ×Value) :=
 match l with
 | []=>[(k,v)]
 | p::ps=>if p.1=k then(k,v)::ps else p::putM ps k v
def Ents(enc:κ->Value)(l:List (κ×Value))(es:List MapEntry):Prop:=es.map (fun e=>(e.key,e.val))=l.map (fun p=>(enc p.1,p.2))
def MapIs(enc:κ->Value)(w:World)(r:Nat)(l:List (κ×Value)):Prop:=∃ es clock,w.heap[r]? = some (.map es clock)/\Ents enc l es.toList
structure KeyLaw' (enc:κ->Value) (kt:TypeId):Prop where
 check:∀ k e w,(Instr.checkKey e 10000 kt (enc k)).run prog w=.ok () w
 find:∀ k l es w,Ents enc l es->(Instr.findKey kt (enc k) es).run prog w=.ok (lkp l k 0) w
 same:∀ k,Instr.sameBits 10000 (enc k) (enc k)=true
theorem dB6(l:List (κ×Value))(k:κ)(i:Nat):(lkp l k i=none/\putM l k=fun v=>l++[(k,v)])\/∃ j v0,lkp l k i=some (i+j,v0)/\j<l.length/\l[j]? = some (k,v0)/\∀ v,putM l k v=l.set j (k,v):=by
 induction l generalizing i with
 | nil=>exact Or.inl ⟨rfl,rfl⟩
 | cons p ps ih =>
  by_cases h:p.1=k
  ·refine Or.inr ⟨0,p.2,by simp[lkp,h],by simp,?_,fun v=>by simp[putM,h]⟩;obtain⟨a,b⟩:=p;simp at h ⊢;exact h
  ·rcases ih (i+1)with⟨h1,h2⟩|⟨j,v0,h1,h2,h3,h4⟩
   ·refine Or.inl ⟨by simp[lkp,h,h1],?_⟩
    funext v
    have:=congrFun h2 v;simp[putM,h,this]
   ·refine Or.inr ⟨j+1,v0,by simp[lkp,h,h1];omega,by simp;omega,by simpa using h3,fun v=>by simp[putM,h,h4]⟩
theorem cL0(enc:κ->Value)(mty kt et:TypeId)(hm:prog.underlying mty=some (.map kt et))(K:KeyLaw' enc kt)(w:World)(r:Nat)(l:List (κ×Value))(h:MapIs enc w r l)(k:κ)(v:Value):
  ∃ es clock,(Instr.mapUpdate mty (.map (some r)) (enc k) v).run prog w=.ok () { w with heap:=w.heap.setIfInBounds r (.map es clock) }/\Ents enc (putM l k v) es.toList:=by
 obtain⟨es,clock,hb,he⟩:=h;have hf:=K.find k l es.toList w he;rcases dB6 l k 0 with⟨h1,h2⟩|⟨j,v0,h1,h2,h3,h4⟩
 ·rw[h1]at hf;refine⟨es.push { key:=enc k,val:=v,born:=clock },clock+1,?_,?_⟩
  ·simp[Instr.mapUpdate,run_underlying hm,MapKept.run_getObj_map hb,K.check,hf,MapKept.run_setObj_map _ hb,Result.andThen]
  ·rw[congrFun h2 v];unfold Ents at *;simp[he]
 ·rw[h1]at hf;have hlen:es.size=l.length:=by
   have:=congrArg List.length he
   simpa using this
  have hj:es[j]? = some (es[j]'(by omega)):=Array.getElem?_eq_getElem (by omega);have hkey:(es[j]'(by omega)).key=enc k:=by
   have:=congrArg (fun x=>x[j]?) he;simp[h3,hj]at this;exact this.1
  refine⟨es.modify j fun e=>{ e with key:=enc k,val:=v },clock,?_,?_⟩
  ·simp[Instr.mapUpdate,run_underlying hm,MapKept.run_getObj_map hb,K.check,hf,MapKept.run_setObj_map _ hb,Result.andThen,hj,Instr.keyThatStays,hkey,K.same]
  ·rw[h4];unfold Ents at *;have e1:(es.modify j fun e=>{ e with key:=enc k,val:=v }).toList.map (fun e=>(e.key,e.val))=(es.toList.map (fun e=>(e.key,e.val))).set j (enc k,v):=by
    apply List.ext_getElem?;intro i;simp only[List.getElem?_map,Array.getElem?_toList,Array.getElem?_modify,List.getElem?_set,List.length_map,Array.length_toList];by_cases hij:j=i
    ·subst hij;rw[if_pos rfl,if_pos rfl,if_pos (by omega),hj];rfl
    ·rw[if_neg hij,if_neg hij]
   rw[e1,he,List.map_set]
theorem bF5{enc:κ->Value}{w:World}{r:Nat}{l:List (κ×Value)}(h:MapIs enc w r l):r<w.heap.size:=by
 obtain⟨es,clock,hb,_⟩:=h;exact(Array.getElem?_eq_some_iff.1 hb).1
theorem cF3(enc:κ->Value)(mty kt et:TypeId)(hm:prog.underlying mty=some (.map kt et))(K:KeyLaw' enc kt)(w:World)(r:Nat)(l:List (κ×Value))(h:MapIs enc w r l)(k:κ)(z:Value)(hz:(zeroValue et).run prog w=.ok z w):
  (Instr.lookup mty (.map (some r)) (enc k) true).run prog w=.ok (.tuple #[((lkp l k 0).map (·.2)).getD z,.bool (lkp l k 0).isSome]) w:=by
 obtain⟨es,clock,hb,he⟩:=h;have hf:=K.find k l es.toList w he;cases hl:lkp l k 0 with
 | none =>
  rw[hl]at hf;simp[Instr.lookup,run_underlying hm,MapKept.run_getObj_map hb,K.check,hf,hz,Result.andThen]
 | some p =>
  rw[hl]at hf;obtain⟨i,v⟩:=p;simp[Instr.lookup,run_underlying hm,MapKept.run_getObj_map hb,K.check,hf,Result.andThen]
end
def encS(s:ByteArray):Value:=.string s
def encP(p:Int×Int):Value:=.agg #[.int .i32 p.1,.int .i32 p.2]
theorem keyS(kt:TypeId)(hk:prog.underlying kt=some .string):KeyLaw' encS kt where
 check k e w:=MapKept.run_checkKey (k:=encS k) hk (by simp[MapKept.IsKey,encS]) e 9999
 find k l es w h:=by
  refine MapKept.run_findKey hk ?_;have aux:∀(l:List (ByteArray×Value)) (es:List MapEntry) (i:Nat),Ents encS l es->Instr.findNow .string (encS k) es i=some (lkp l k i):=by
   intro l
   induction l with
   | nil =>
    intro es i h;cases es with
    | nil=>rfl
    | cons e es=>simp[Ents]at h
   | cons p ps ih =>
    intro es i h;cases es with
    | nil=>simp[Ents]at h
    | cons e es =>
     simp[Ents]at h;obtain⟨⟨h1,h2⟩,h3⟩:=h;have ih':=ih es (i+1) (by simpa[Ents]using h3);unfold Instr.findNow lkp;rw[h1];by_cases hp:p.1=k
     ·have hb:(k==p.1)=true:=(MapKept.bytes_beq _ _).2 hp.symm;rw[if_pos hp];simp[encS,Instr.sameNow,hb,h2]
     ·have hb:(k==p.1)=false:=by
       cases hc:k==p.1
       ·rfl
       ·exact absurd ((MapKept.bytes_beq _ _).1 hc).symm hp
      rw[if_neg hp];simp[encS,Instr.sameNow,hb];exact ih'
  exact aux l es 0 h
 same k:=(MapKept.bytes_beq k k).2 rfl
open Go.RowKit
theorem ckP(k:Int×Int)(e:Bool)(w:World):(Instr.checkKey e 10000 155 (encP k)).run prog w=.ok () w:=by kernel_rfl
theorem eqP(a b c d:Int)(w:World):(Op.equal 155 (.agg #[.int .i32 a,.int .i32 b]) (.agg #[.int .i32 c,.int .i32 d])).run prog w=.ok (a==c&&b==d) w:=by
 have hS:prog.underlying 155=some (.struct (prog.fieldsOf 155)):=by kernel_rfl
 have hp:prog.stoodInHeld 155=false:=by kernel_rfl
 show(Op.equalIn (9999+1) 155 _ _).run prog w=_;rw[run_equalIn_agg w 9999 155 _ _ hS hp];simp only[Program.fieldsOf,underlying155];go_simp;by_cases h1:a=c<;>by_cases h2:b=d<;>simp[h1,h2]
theorem keyP:KeyLaw' encP 155 where
 check k e w:=ckP k e w
 find k l es w h:=by
  have hS:prog.underlying 155=some (.struct (prog.fieldsOf 155)):=by kernel_rfl
  have aux:∀(l:List ((Int×Int)×Value)) (es:List MapEntry) (i:Nat),Ents encP l es->(Instr.findAsking 155 (encP k) es i).run prog w=.ok (lkp l k i) w:=by
   intro l
   induction l with
   | nil =>
    intro es i h;cases es with
    | nil=>rfl
    | cons e es=>simp[Ents]at h
   | cons p ps ih =>
    intro es i h;cases es with
    | nil=>simp[Ents]at h
    | cons e es =>
     simp[Ents]at h;obtain⟨⟨h1,h2⟩,h3⟩:=h;have ih':=ih es (i+1) (by simpa[Ents]using h3);obtain⟨⟨a,b⟩,v⟩:=p;obtain⟨c,d⟩:=k;have he:=eqP c d a b w;unfold Instr.findAsking lkp;simp only[encP]at h1;simp only[h1,encP,Sem.run_bind,he,Result.andThen_ok];by_cases hp:(a,b)=(c,d)
     ·rw[if_pos hp];injection hp with hp1 hp2;subst hp1 hp2;simp[h2]
     ·rw[if_neg hp];have:(c==a&&d==b)=false:=by
       cases hh:(c==a&&d==b)
       ·rfl
       ·simp at hh;exact absurd (by rw[hh.1,hh.2]) hp
      simp only[this];exact ih'
  have hnow:Instr.findNow (.struct (prog.fieldsOf 155)) (encP k) es 0=if es=[]then some none else none:=by
   cases es with
   | nil=>rfl
   | cons e es=>simp[Instr.findNow,Instr.sameNow,encP]
  unfold Instr.findKey;simp only[Sem.run_bind,run_underlying hS,Result.andThen_ok,hnow];by_cases hes:es=[]
  ·subst hes;simp only[if_pos];exact aux l [] 0 h
  ·simp only[if_neg hes];exact aux l es 0 h
 same k:=by
  simp[encP,Instr.sameBits]
def BytesAt(w:World)(v:Value)(t:ByteArray):Prop:=∃ g cap cs fr,v=.slice (some ⟨g,0,none⟩) t.size cap/\w.heap[g]? = some (.cells cs 5 fr)/\∀ j (h:j<t.size),cs[j]? = some (.int .u8 (t[j].toNat:Int))
def RelM(w:World):List ((Int×Int)×Value)->List ((Int×Int)×ByteArray)->Prop
 | [],[]=>True
 | p::l,q::m=>p.1=q.1/\BytesAt w p.2 q.2/\RelM w l m
 | _,_=>False
def putT(l:List ((Int×Int)×ByteArray))(k:Int×Int)(v:ByteArray):List ((Int×Int)×ByteArray) :=
 match l with
 | []=>[(k,v)]
 | p::ps=>if p.1=k then(k,v)::ps else p::putT ps k v
def lkT(l:List ((Int×Int)×ByteArray))(k:Int×Int):Option ByteArray :=
 match l with
 | []=>none
 | p::ps=>if p.1=k then some p.2 else lkT ps k
theorem RelM.put{w:World}{l:List ((Int×Int)×Value)}{m:List ((Int×Int)×ByteArray)}(h:RelM w l m)(k:Int×Int){v:Value}{t:ByteArray}(hv:BytesAt w v t):RelM w (putM l k v) (putT m k t):=by
 induction l generalizing m with
 | nil =>
  cases m with
  | nil=>exact⟨rfl,hv,trivial⟩
  | cons q m=>exact absurd h (by simp[RelM])
 | cons p l ih =>
  cases m with
  | nil=>exact absurd h (by simp[RelM])
  | cons q m =>
   obtain⟨h1,h2,h3⟩:=h;by_cases hk:p.1=k
   ·simp only[putM,putT,<- h1,if_pos hk];exact⟨rfl,hv,h3⟩
   ·simp only[putM,putT,<- h1,if_neg hk];exact⟨h1,h2,ih h3⟩
theorem RelM.look{w:World}{l:List ((Int×Int)×Value)}{m:List ((Int×Int)×ByteArray)}(h:RelM w l m)(k:Int×Int){t:ByteArray}(ht:lkT m k=some t)(i:Nat):∃ j v,lkp l k i=some (j,v)/\BytesAt w v t:=by
 induction l generalizing m i with
 | nil =>
  cases m with
  | nil=>simp[lkT]at ht
  | cons q m=>exact absurd h (by simp[RelM])
 | cons p l ih =>
  cases m with
  | nil=>exact absurd h (by simp[RelM])
  | cons q m =>
   obtain⟨h1,h2,h3⟩:=h;by_cases hk:p.1=k
   ·simp only[lkT,<- h1,if_pos hk]at ht;injection ht with ht;subst ht;exact⟨i,p.2,by simp only[lkp,if_pos hk],h2⟩
   ·simp only[lkT,<- h1,if_neg hk]at ht;obtain⟨j,v,e1,e2⟩:=ih h3 ht (i+1);exact⟨j,v,by simp only[lkp,if_neg hk];exact e1,e2⟩
theorem RelM.mono{w w':World}(hb:∀ v t,BytesAt w v t->BytesAt w' v t):∀ {l:List ((Int×Int)×Value)} {m:List ((Int×Int)×ByteArray)},RelM w l m->RelM w' l m
 | [],[],_=>trivial
 | _::_,_::_,h=>⟨h.1,hb _ _ h.2.1,RelM.mono hb h.2.2⟩
 | [],_::_,h=>absurd h (by simp[RelM])
 | _::_,[],h=>absurd h (by simp[RelM])
theorem BytesAt.kept{S:Nat->Prop}{w w':World}{v:Value}{t:ByteArray}(h:BytesAt w v t)(hk:Kept S w w')(hS:∀ g cs fr,w.heap[g]? = some (.cells cs 5 fr)->¬ S g):BytesAt w' v t:=by
 obtain⟨g,cap,cs,fr,h1,h2,h3⟩:=h;exact⟨g,cap,cs,fr,h1,by rw[hk.block g (aB5 h2) (hS g cs fr h2)];exact h2,h3⟩
theorem MapIs.kept{κ:Type}[DecidableEq κ]{enc:κ->Value}{S:Nat->Prop}{w w':World}{r:Nat}{l:List (κ×Value)}(h:MapIs enc w r l)(hk:Kept S w w')(hS:¬ S r):MapIs enc w' r l:=by
 have hl:=bF5 h;obtain⟨es,clock,h1,h2⟩:=h;exact⟨es,clock,by rw[hk.block r hl hS];exact h1,h2⟩
theorem MapIs.new{κ:Type}[DecidableEq κ](enc:κ->Value)(w:World):MapIs enc (w.alloc (.map #[] 0)) w.heap.size []:=⟨#[],0,(MapKept.heap_alloc w _).1,by simp[Ents]⟩
structure Lst (w:World) (d o r1 r2 r3:Nat) (l1:List (ByteArray×Value)) (l2:List ((Int×Int)×Value)) (tx:List ((Int×Int)×ByteArray)):Prop where
 c0:w.cell? ⟨d,o,none⟩=some (.map (some r1))
 c1:w.cell? ⟨d,o+1,none⟩=some (.map (some r2))
 c2:w.cell? ⟨d,o+2,none⟩=some (.map (some r3))
 m1:MapIs encS w r1 l1
 m2:MapIs encP w r2 l2
 m3:∃ l3,MapIs encP w r3 l3/\RelM w l3 tx
 o1:d<r1
 o2:r1<r2
 o3:r2<r3
end
end Go.Proofs.YtjebnpkebccffaaGreatDoor
