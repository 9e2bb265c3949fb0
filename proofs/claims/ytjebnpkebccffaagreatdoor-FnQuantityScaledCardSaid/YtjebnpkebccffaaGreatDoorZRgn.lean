import Derived.Test.YtjebnpkebccffaaGreatDoorZWLast
import Derived.Test.YtjebnpkebccffaaGreatDoorProg
import Derived.Below
import Derived.WalkKit
import Derived.Laws.CopyOwn
import Derived.Lib.Hide
import Derived.BigQuiet
import Derived.Deep.QuietTactic
import Derived.WalkSpells
import Derived.WalkLawsBesides
set_option linter.unusedSimpArgs false
set_option linter.unusedVariables false
set_option linter.unusedSectionVars false
set_option maxRecDepth 100000
set_option maxHeartbeats 8000000
namespace Go.Proofs.YtjebnpkebccffaaGreatDoor
open Go.RowKit Go.Proofs.Tryz
section
open Go Go.RowKit
open Go.Proofs.YtjebnpkebccffaaGreatDoorW.PrintLast
theorem hiD{p:Prop}(h:p):Go.RowKit.Hid p:=h
section
variable {P:Program} {ops:Array Oper} {Q:Exit → Act → World → Prop} {md:Region.Mode} {S:World → Prop} {ds:List Nat}
theorem rgp(i N:Nat){oi:Oper}{v:Value}{fuel:Nat}{l l':Array Bool}{a a':Act}{w:World}(h:wpAnyLast P md ops Q S ds fuel l' a' w)(hi:ops[i]? = some oi:=by rfl)(hN:oi.dst=some N:=by rfl)(hl:l.setIfInBounds i true=l':=by simp only[List.setIfInBounds_toArray,List.set_cons_zero,List.set_cons_succ];rfl)(hc:anyB md ops l l' i=true:=by kernel_rfl)(hQ:∀ c a w,Q (.panic c) (a.put oi.dst v) w → Q (.panic c) a w:=by exact fun _ _ _ h=>h)(hw:Region.wanted oi (yielded ops a.tmps)=true:=by rfl)(hy:∀ w,(execOp a.eval oi).run P w=.ok (.value v) w:=by intro w';go_simp;with_reducible rfl)(ha:a.put (some N) v=a':=by simp only[Act.put,List.setIfInBounds_toArray,List.set_cons_zero,List.set_cons_succ,i64_w,i32_w];rfl):wpAnyLast P md ops Q S ds (fuel+1) l a w :=
 pure_ l' hi hN hc hQ (Or.inl ⟨hw,hy⟩) ha h
theorem rgu(i N:Nat){oi:Oper}{fuel:Nat}{l l':Array Bool}{a a':Act}{w:World}(h:wpAnyLast P md ops Q S ds fuel l' a' w)(hi:ops[i]? = some oi:=by rfl)(hN:oi.dst=some N:=by rfl)(hl:l.setIfInBounds i true=l':=by simp only[List.setIfInBounds_toArray,List.set_cons_zero,List.set_cons_succ];rfl)(hc:anyB md ops l l' i=true:=by kernel_rfl)(hQ:∀ c a w,Q (.panic c) (a.put oi.dst undef) w → Q (.panic c) a w:=by exact fun _ _ _ h=>h)(hw:Region.wanted oi (yielded ops a.tmps)=false:=by rfl)(ha:a.put (some N) undef=a':=by simp only[Act.put,List.setIfInBounds_toArray,List.set_cons_zero,List.set_cons_succ,i64_w,i32_w];rfl):wpAnyLast P md ops Q S ds (fuel+1) l a w :=
 pure_ l' hi hN hc hQ (Or.inr ⟨hw,rfl⟩) ha h
theorem rgt(i N:Nat){oi:Oper}{v:Value}{fuel:Nat}{l l':Array Bool}{a a':Act}{w:World}(hS:S w)(h:wpAnyLast P md ops Q S ds fuel l' a' w)(hi:ops[i]? = some oi:=by rfl)(hN:oi.dst=some N:=by rfl)(hl:l.setIfInBounds i true=l':=by simp only[List.setIfInBounds_toArray,List.set_cons_zero,List.set_cons_succ];rfl)(hc:takeB md ops ds l l' i=true:=by kernel_rfl)(hQ:∀ c a w,Q (.panic c) (a.put oi.dst v) w → Q (.panic c) a w:=by exact fun _ _ _ h=>h)(hw:Region.wanted oi (yielded ops a.tmps)=true:=by rfl)(hy:∀ w,S w → (execOp a.eval oi).run P w=.ok (.value v) w:=by intro w' hs;repeat (obtain⟨_,hs⟩:=hs);go_simp;with_reducible rfl)(ha:a.put (some N) v=a':=by simp only[Act.put,List.setIfInBounds_toArray,List.set_cons_zero,List.set_cons_succ,i64_w,i32_w];rfl):wpAnyLast P md ops Q S ds (fuel+1) l a w :=
 take_ l' hi hN hc hQ (Or.inl ⟨hw,hy⟩) hS ha h
theorem rgn(N:Nat){fuel:Nat}{l:Array Bool}{a a':Act}{v:Value}{w:World}(h:wpAnyLast P md ops Q S ds fuel l a' w)(ha:Act.put a (some N) v=a':=by simp only[Act.put,List.setIfInBounds_toArray,List.set_cons_zero,List.set_cons_succ,i64_w,i32_w];rfl):wpAnyLast P md ops Q S ds fuel l (Act.put a (some N) v) w :=
 norm_ ha h
end
end
def B64:Nat:=18446744073709551616
theorem aA6:0<B64:=by unfold B64;omega
theorem cP8:B64=18446744073709551616:=rfl
def val:List Nat->Nat
 | []=>0
 | x::l=>x+B64*val l
def dig(n:Nat):List Nat:=if _h:n=0 then []else(n%B64)::dig (n/B64)
termination_by n
decreasing_by exact Nat.div_lt_self (Nat.pos_of_ne_zero _h) (by unfold B64;omega)
theorem aC4:dig 0=[]:=by unfold dig;simp
theorem aV8{n:Nat}(h:n≠0):dig n=(n%B64)::dig (n/B64):=by
 rw[dig,dif_neg h]
theorem aH5{n:Nat}(h:n≠0)(hn:n<B64):dig n=[n]:=by
 rw[aV8 h,Nat.mod_eq_of_lt hn,Nat.div_eq_of_lt hn,aC4]
theorem dN2:val []=0:=rfl
theorem aG8(x:Nat)(l:List Nat):val (x::l)=x+B64*val l:=rfl
theorem aT8(a b:List Nat):val (a++b)=val a+B64^a.length*val b:=by
 induction a with
 | nil=>simp[val]
 | cons x a ih=>simp only[List.cons_append,aG8,ih,List.length_cons,Nat.pow_succ,Nat.mul_add,Nat.mul_comm,Nat.mul_assoc,Nat.add_assoc]
theorem aJ4(n:Nat):val (dig n)=n:=by
 induction n using Nat.strongRecOn with
 | _ n ih =>
  by_cases h:n=0
  ·subst h;rw[aC4];rfl
  ·rw[aV8 h,aG8,ih _ (Nat.div_lt_self (Nat.pos_of_ne_zero h) (by unfold B64;omega))];have:=Nat.mod_add_div n B64;exact this
theorem aN9(n:Nat):∀ x∈dig n,x<B64:=by
 induction n using Nat.strongRecOn with
 | _ n ih =>
  by_cases h:n=0
  ·subst h;rw[aC4];simp
  ·rw[aV8 h];intro x hx;rcases List.mem_cons.1 hx with h1|h1
   ·subst h1;exact Nat.mod_lt _ aA6
   ·exact ih _ (Nat.div_lt_self (Nat.pos_of_ne_zero h) (by unfold B64;omega)) x h1
theorem bF1{l:List Nat}(h:∀ x∈l,x<B64):val l<B64^l.length:=by
 induction l with
 | nil=>simp[val]
 | cons x l ih =>
  have h1:=ih (fun y hy=>h y (List.mem_cons_of_mem _ hy));have h2:=h x (List.mem_cons_self ..);rw[aG8,List.length_cons,Nat.pow_succ];have h3:B64*(val l+1)<=B64*B64^l.length:=Nat.mul_le_mul_left _ h1;rw[Nat.mul_add]at h3;rw[Nat.mul_comm (B64^l.length)];omega
theorem aD0(n:Nat):n<B64^(dig n).length:=by
 have:=bF1 (aN9 n);rwa[aJ4]at this
theorem cE6{n:Nat}(h:n≠0):dig n≠[]:=by rw[aV8 h];simp
theorem aB3{n:Nat}(h:n≠0):0<(dig n).length:=List.length_pos_iff.2 (cE6 h)
theorem cK2{n:Nat}:dig n=[]↔n=0:=⟨fun h=>by by_cases h0:n=0;exact h0;exact absurd h (cE6 h0),fun h=>by rw[h,aC4]⟩
theorem aD3{n k:Nat}(h:n<B64^k):(dig n).length<=k:=by
 induction k generalizing n with
 | zero =>
  have:n=0:=by simp at h;exact h
  subst this;simp[aC4]
 | succ k ih =>
  by_cases h0:n=0
  ·subst h0;simp[aC4]
  ·rw[aV8 h0,List.length_cons];have:n/B64<B64^k:=by rw[Nat.div_lt_iff_lt_mul aA6];rwa[Nat.pow_succ]at h
   have:=ih this;omega
theorem cK3{n k:Nat}(h:B64^k<=n):k<(dig n).length:=by
 have h1:=aD0 n;exact(Nat.pow_lt_pow_iff_right (by unfold B64;omega)).1 (Nat.lt_of_le_of_lt h h1)
theorem aM4{a b:Nat}(h:a<=b):(dig a).length<=(dig b).length:=aD3 (Nat.lt_of_le_of_lt h (aD0 b))
theorem dN3{l:List Nat}(h:∀ x∈l,x<B64):∃ k,l=dig (val l)++List.replicate k 0:=by
 induction l with
 | nil=>exact⟨0,by simp[val,aC4]⟩
 | cons x l ih =>
  obtain⟨k,hk⟩:=ih (fun y hy=>h y (List.mem_cons_of_mem _ hy));have hx:=h x (List.mem_cons_self ..);by_cases h0:val (x::l)=0
  ·rw[h0,aC4];rw[aG8]at h0;have hx0:x=0:=by omega
   have hl0:val l=0:=by
    rcases Nat.mul_eq_zero.1 (show B64*val l=0 by omega)with h1|h1
    ·exact absurd h1 (by unfold B64;omega)
    ·exact h1
   rw[hl0,aC4,List.nil_append]at hk;exact⟨k+1,by rw[List.replicate_succ,hx0];simp;exact hk⟩
  ·refine⟨k,?_⟩;rw[aV8 h0,aG8,Nat.add_mul_mod_self_left,Nat.mod_eq_of_lt hx,Nat.add_mul_div_left _ _ aA6,Nat.div_eq_of_lt hx,Nat.zero_add,List.cons_append,<- hk]
theorem aK2{l:List Nat}(h:∀ x∈l,x<B64):(dig (val l)).length<=l.length/\l.take (dig (val l)).length=dig (val l)/\∀ i,(dig (val l)).length<=i->i<l.length->l[i]? = some 0:=by
 obtain⟨k,hk⟩:=dN3 h;have hlen:l.length=(dig (val l)).length+k:=by
  conv=>lhs;rw[hk]
  simp
 refine⟨by omega,?_,fun i h1 h2=>?_⟩
 ·conv=>lhs;arg 2;rw[hk]
  simp
 ·rw[hk,List.getElem?_append_right h1,List.getElem?_replicate,if_pos (by omega)]
theorem dB0{n:Nat}(h:n≠0):(dig n)[(dig n).length-1]?≠some 0:=by
 intro h0;have hp:=aB3 h;have h1:dig n=(dig n).take ((dig n).length-1)++[0]:=by
  have h2:=List.getElem?_eq_some_iff.1 h0;obtain⟨h3,h4⟩:=h2
  conv=>lhs;rw[<- List.take_append_drop ((dig n).length-1) (dig n)]
  congr 1;rw[List.drop_eq_getElem_cons h3,h4];simp;omega
 have h5:val (dig n)=val ((dig n).take ((dig n).length-1)):=by
  conv=>lhs;rw[h1]
  rw[aT8];simp[val]
 rw[aJ4]at h5;have h6:=bF1 (l:=(dig n).take ((dig n).length-1)) (fun x hx=>aN9 n x (List.mem_of_mem_take hx));rw[<- h5]at h6;have h7:=aD3 h6;rw[List.length_take]at h7;omega
def maL:List Nat->Nat->Nat->List Nat
 | [],_,_=>[]
 | x::l,y,c=>((x*y+c)%B64)::maL l y ((x*y+c)/B64)
def maC:List Nat->Nat->Nat->Nat
 | [],_,c=>c
 | x::l,y,c=>maC l y ((x*y+c)/B64)
theorem aS0(l:List Nat)(y c:Nat):(maL l y c).length=l.length:=by
 induction l generalizing c with
 | nil=>rfl
 | cons x l ih=>simp[maL,ih]
theorem dK6(l:List Nat)(y c:Nat):val (maL l y c)+B64^l.length*maC l y c=val l*y+c:=by
 induction l generalizing c with
 | nil=>simp[maL,maC,val]
 | cons x l ih =>
  have h1:=ih ((x*y+c)/B64);have h2:=Nat.mod_add_div (x*y+c) B64;simp only[maL,maC,aG8,List.length_cons,Nat.pow_succ];have h3:B64*(val (maL l y ((x*y+c)/B64))+B64^l.length*maC l y ((x*y+c)/B64))=B64*(val l*y+(x*y+c)/B64):=by rw[h1]
  rw[Nat.mul_add,Nat.mul_add]at h3;rw[Nat.add_mul,Nat.mul_comm (B64^l.length) B64,Nat.mul_assoc B64 (B64^l.length),Nat.mul_assoc B64 (val l)];omega
theorem cP9{x y c:Nat}(hx:x<B64)(hy:y<B64)(hc:c<B64):(x*y+c)/B64<B64:=by
 rw[Nat.div_lt_iff_lt_mul aA6];have:x*y<=(B64-1)*(B64-1):=Nat.mul_le_mul (by omega) (by omega);have e:(B64-1)*(B64-1)+B64<=B64*B64:=by unfold B64;omega
 omega
theorem cQ0{l:List Nat}{y c:Nat}(h:∀ x∈l,x<B64)(hy:y<B64)(hc:c<B64):maC l y c<B64:=by
 induction l generalizing c with
 | nil=>exact hc
 | cons x l ih=>exact ih (fun z hz=>h z (List.mem_cons_of_mem _ hz)) (cP9 (h x (List.mem_cons_self ..)) hy hc)
theorem dK7(l:List Nat)(y c:Nat):∀ x∈maL l y c,x<B64:=by
 induction l generalizing c with
 | nil=>simp[maL]
 | cons x l ih =>
  intro z hz;rcases List.mem_cons.1 hz with h|h
  ·subst h;exact Nat.mod_lt _ aA6
  ·exact ih _ z h
theorem bR2(l:List Nat)(i:Nat)(h:i<l.length):val l=val (l.take i)+B64^i*(l[i]+B64*val (l.drop (i+1))):=by
 have h1:l=l.take i++(l[i]::l.drop (i+1)):=by
  rw[<- List.drop_eq_getElem_cons h,List.take_append_drop]
 have h2:val l=val (l.take i++(l[i]::l.drop (i+1))):=by rw[<- h1]
 rw[h2,aT8,aG8,List.length_take,Nat.min_eq_left (by omega)]
theorem bF2{a b:Nat}(h:(dig a).length<(dig b).length):a<b:=by
 rcases Nat.lt_or_ge a b with h1|h1
 ·exact h1
 ·have:=aM4 h1;omega
theorem dB1{xs ys:List Nat}(hx:∀ x∈xs,x<B64)(hl:xs.length=ys.length)(i:Nat)(hi:i<xs.length)(hd:xs.drop (i+1)=ys.drop (i+1))(h:xs[i]<ys[i]'(hl▸hi)):val xs<val ys:=by
 rw[bR2 xs i hi,bR2 ys i (hl▸hi),hd];have h1:val (xs.take i)<B64^i:=by
  have:=bF1 (l:=xs.take i) (fun x hx'=>hx x (List.mem_of_mem_take hx'));rwa[List.length_take,Nat.min_eq_left (by omega)]at this
 have h2:B64^i*(xs[i]+1+B64*val (ys.drop (i+1)))<=B64^i*(ys[i]'(hl▸hi)+B64*val (ys.drop (i+1))):=Nat.mul_le_mul_left _ (by omega);have h3:B64^i*(xs[i]+1+B64*val (ys.drop (i+1)))=B64^i*(xs[i]+B64*val (ys.drop (i+1)))+B64^i:=by
  rw[show xs[i]+1+B64*val (ys.drop (i+1))=(xs[i]+B64*val (ys.drop (i+1)))+1 by omega,Nat.mul_add,Nat.mul_one]
 omega
theorem dN4(n:Nat):(dig n).getD 0 0=n%B64:=by
 by_cases h:n=0
 ·subst h;simp[aC4]
 ·rw[aV8 h];rfl
theorem aV9{n:Nat}:(dig n).length<=1↔n<B64:=by
 constructor
 ·intro h;have h1:=aD0 n;have h2:B64^(dig n).length<=B64^1:=Nat.pow_le_pow_right aA6 h;rw[Nat.pow_one]at h2;omega
 ·intro h;exact aD3 (by rwa[Nat.pow_one])
def adS(x y c:Nat):Nat:=(x+y+c)%B64
def adC(x y c:Nat):Nat:=(x+y+c)/B64
def sbD(x y c:Nat):Nat:=(x+B64-y-c)%B64
def sbB(x y c:Nat):Nat:=if x<y+c then 1 else 0
def mwL(x y c:Nat):Nat:=(x*y+c)%B64
def mwH(x y c:Nat):Nat:=(x*y+c)/B64
theorem cE7(x y c:Nat):adS x y c<B64:=Nat.mod_lt _ aA6
theorem aX0{x y c:Nat}(hx:x<B64)(hy:y<B64)(hc:c<=1):adC x y c<=1:=by
 unfold adC;have:(x+y+c)/B64<2:=by rw[Nat.div_lt_iff_lt_mul aA6];omega
 omega
theorem cE8(x y c:Nat):adS x y c+B64*adC x y c=x+y+c:=Nat.mod_add_div _ _
theorem cQ1(x y c:Nat):sbD x y c<B64:=Nat.mod_lt _ aA6
theorem aO0(x y c:Nat):sbB x y c<=1:=by unfold sbB;split<;>omega
theorem cQ2{x y c:Nat}(hx:x<B64)(hy:y<B64)(hc:c<=1):sbD x y c+y+c=x+B64*sbB x y c:=by
 unfold sbD sbB;split
 ·rename_i h;rw[Nat.mod_eq_of_lt (by omega)];omega
 ·rename_i h;rw[show x+B64-y-c=(x-y-c)+B64 by omega,Nat.add_mod_right,Nat.mod_eq_of_lt (by omega)];omega
theorem aR5(x y c:Nat):mwL x y c<B64:=Nat.mod_lt _ aA6
theorem cE9{x y c:Nat}(hx:x<B64)(hy:y<B64)(hc:c<B64):mwH x y c<B64:=cP9 hx hy hc
theorem bK4(x y c:Nat):mwL x y c+B64*mwH x y c=x*y+c:=Nat.mod_add_div _ _
theorem cF0(l:List Nat)(x y c:Nat):maC (l++[x]) y c=mwH x y (maC l y c):=by
 induction l generalizing c with
 | nil=>rfl
 | cons z l ih=>exact ih _
theorem cF1(l:List Nat)(x y c:Nat):maL (l++[x]) y c=maL l y c++[mwL x y (maC l y c)]:=by
 induction l generalizing c with
 | nil=>rfl
 | cons z l ih=>simp only[List.cons_append,maL,maC,ih]
theorem aJ8(l:List Nat)(j:Nat)(h:j<l.length):l.take (j+1)=l.take j++[l.getD j 0]:=by
 rw[List.take_succ_eq_append_getElem h,List.getD_eq_getElem?_getD,List.getElem?_eq_getElem h];rfl
theorem bF3{l:List Nat}(h:∀ x∈l,x<B64)(i:Nat):l.getD i 0<B64:=by
 rw[List.getD_eq_getElem?_getD];rcases Nat.lt_or_ge i l.length with h1|h1
 ·rw[List.getElem?_eq_getElem h1];exact h _ (List.getElem_mem h1)
 ·rw[List.getElem?_eq_none h1];exact aA6
theorem cQ3{l:List Nat}(h:∀ x∈l,x<B64)(j:Nat):∀ x∈l.take j,x<B64:=fun x hx=>h x (List.mem_of_mem_take hx)
theorem cQ4(l:List Nat)(h:∀ x∈l,x<B64):(dig (val l)).length<=l.length:=(aK2 h).1
theorem cQ5{l:List Nat}(h:∀ x∈l,x<B64){p:Nat}(h1:(dig (val l)).length<=p+1)(hp:p<l.length)(h0:l.getD p 0=0):(dig (val l)).length<=p:=by
 rcases Nat.lt_or_ge p (dig (val l)).length with h2|h2
 ·exfalso
  have h3:(dig (val l)).length=p+1:=by omega
  have hne:val l≠0:=by intro e;rw[e,aC4]at h3;simp at h3
  have h4:=dB0 hne;rw[<- (aK2 h).2.1,List.getElem?_take]at h4;apply h4;rw[(aK2 h).2.1,h3,if_pos (by omega),Nat.add_sub_cancel,List.getElem?_eq_getElem hp];rw[List.getD_eq_getElem?_getD,List.getElem?_eq_getElem hp]at h0;exact congrArg some h0
 ·exact h2
theorem dN5{l:List Nat}(h:∀ x∈l,x<B64){p:Nat}(hp:p<l.length)(h0:l.getD p 0≠0):p+1<=(dig (val l)).length:=by
 rcases Nat.lt_or_ge p (dig (val l)).length with h2|h2
 ·omega
 ·exfalso
  have:=(aK2 h).2.2 p h2 hp;apply h0;rw[List.getD_eq_getElem?_getD,this];rfl
theorem dB2{l:List Nat}(h:∀ x∈l,x<B64)(i:Nat)(hi:i<(dig (val l)).length):(dig (val l)).getD i 0=l.getD i 0:=by
 have:=(aK2 h).2.1;rw[<- this]at hi
 conv=>lhs;rw[<- this]
 rw[List.length_take]at hi;rw[List.getD_eq_getElem?_getD,List.getD_eq_getElem?_getD,List.getElem?_take,if_pos (by omega)]
def cmpN(n m:Nat):Int:=if n<m then -1 else if m<n then 1 else 0
theorem bA4{n m:Nat}(h:n<m):cmpN n m = -1:=by unfold cmpN;rw[if_pos h]
theorem bA5{n m:Nat}(h:m<n):cmpN n m=1:=by unfold cmpN;rw[if_neg (by omega),if_pos h]
theorem bY5{n m:Nat}(h:n=m):cmpN n m=0:=by unfold cmpN;rw[if_neg (by omega),if_neg (by omega)]
theorem bY6{n m:Nat}(h:(dig n).length<(dig m).length):cmpN n m = -1:=bA4 (bF2 h)
theorem bY7{n m:Nat}(h:(dig m).length<(dig n).length):cmpN n m=1:=bA5 (bF2 h)
theorem bF4{l:List Nat}{p:Nat}(h:p<l.length):l.drop p=l.getD p 0::l.drop (p+1):=by
 rw[List.drop_eq_getElem_cons h,List.getD_eq_getElem?_getD,List.getElem?_eq_getElem h];rfl
theorem cF2{n m p:Nat}(hl:(dig n).length=(dig m).length)(hp:p<(dig n).length)(hd:(dig n).drop (p+1)=(dig m).drop (p+1))(h:(dig n).getD p 0<(dig m).getD p 0):n<m:=by
 have:=dB1 (aN9 n) hl p hp hd (by
  rw[List.getD_eq_getElem?_getD,List.getD_eq_getElem?_getD,List.getElem?_eq_getElem hp,List.getElem?_eq_getElem (hl▸hp)]at h;exact h)
 rwa[aJ4,aJ4]at this
theorem dB3{n m:Nat}(h:dig n=dig m):n=m:=by rw[<- aJ4 n,h,aJ4]
theorem beqF{a b:Int}(h:a≠b):(a==b)=false:=beq_false_of_ne h
theorem beqT{a b:Int}(h:a=b):(a==b)=true:=by rw[h];exact beq_self_eq_true b
theorem decF{p:Prop}[Decidable p](h:¬ p):decide p=false:=decide_eq_false h
theorem decT{p:Prop}[Decidable p](h:p):decide p=true:=decide_eq_true h
structure Kept (S:Nat->Prop) (w w':World):Prop where
 os:w'.os=w.os
 tape:w'.tape=w.tape
 output:w'.output=w.output
 size:w.heap.size<=w'.heap.size
 block:∀ k,k<w.heap.size->¬ S k->w'.heap[k]? = w.heap[k]?
theorem Kept.refl(S:Nat->Prop)(w:World):Kept S w w:=⟨rfl,rfl,rfl,Nat.le_refl _,fun _ _ _=>rfl⟩
theorem Kept.trans{S T U:Nat->Prop}{a b c:World}(h:Kept S a b)(k:Kept T b c)(hS:∀ i,i<a.heap.size->S i->U i)(hT:∀ i,i<a.heap.size->T i->U i):Kept U a c :=
 ⟨k.os.trans h.os,k.tape.trans h.tape,k.output.trans h.output,Nat.le_trans h.size k.size,
 fun i hi hu=>(k.block i (Nat.lt_of_lt_of_le hi h.size) (fun ht=>hu (hT i hi ht))).trans (h.block i hi (fun hs=>hu (hS i hi hs)))⟩
theorem Kept.same{S:Nat->Prop}{a b c:World}(h:Kept S a b)(k:Kept S b c):Kept S a c:=h.trans k (fun _ _ h=>h) (fun _ _ h=>h)
theorem Kept.mono{S U:Nat->Prop}{a b:World}(h:Kept S a b)(hS:∀ i,i<a.heap.size->S i->U i):Kept U a b :=
 ⟨h.os,h.tape,h.output,h.size,fun i hi hu=>h.block i hi (fun hs=>hu (hS i hi hs))⟩
theorem Kept.alloc{S:Nat->Prop}{a b:World}(h:Kept S a b)(o:Obj):Kept S a (b.alloc o) :=
 ⟨h.os,h.tape,h.output,by have:=h.size;simp;omega,fun k hk hs=>(Below.heap_alloc _ _ _ (by have:=h.size;omega)).trans (h.block k hk hs)⟩
theorem Kept.setCell{S:Nat->Prop}{a b:World}(h:Kept S a b)(p:Addr)(u:Value)(hp:p.block<a.heap.size->S p.block):Kept S a (b.setCell p u) :=
 ⟨h.os,h.tape,h.output,by simpa using h.size,fun k hk hs=>(Below.heap_setCell _ _ _ _ (fun e=>hs (by subst e;exact hp hk))).trans (h.block k hk hs)⟩
theorem Kept.drew{S:Nat->Prop}{a b:World}(h:Kept S a b):Kept S a b.drew:=⟨h.os,h.tape,h.output,h.size,h.block⟩
theorem Kept.drewN{S:Nat->Prop}{a b:World}(h:Kept S a b)(n:Nat):Kept S a (b.drewN n):=⟨h.os,h.tape,h.output,h.size,h.block⟩
theorem Kept.below{w w':World}(h:Kept (fun _=>False) w w'):Below w.heap.size w w':=⟨h.os,h.tape,h.output,h.size,fun k hk=>h.block k hk (fun f=>f)⟩
theorem Kept.ofBelow{w w':World}(h:Below w.heap.size w w')(S:Nat->Prop):Kept S w w':=⟨h.os,h.tape,h.output,h.size,fun k hk _=>h.block k hk⟩
theorem Kept.at{S:Nat->Prop}{w w':World}(h:Kept S w w'){k:Nat}{o:Obj}(ho:w.heap[k]? = some o)(hs:¬ S k):w'.heap[k]? = some o:=by
 have hk:k<w.heap.size:=by
  rcases Nat.lt_or_ge k w.heap.size with h'|h'
  ·exact h'
  ·rw[Array.getElem?_eq_none h']at ho;cases ho
 rw[h.block k hk hs,ho]
theorem aB5{w:World}{k:Nat}{o:Obj}(ho:w.heap[k]? = some o):k<w.heap.size:=by
 rcases Nat.lt_or_ge k w.heap.size with h'|h'
 ·exact h'
 ·rw[Array.getElem?_eq_none h']at ho;cases ho
theorem aA2{w:World}{b:Nat}{cs:Array Value}{T:TypeId}{fz:Nat×Nat}(h:w.heap[b]? = some (.cells cs T fz))(i:Nat):w.cell? ⟨b,i,none⟩=cs[i]?:=by
 simp[World.cell?,h]
theorem aA1{w:World}{b:Nat}{cs:Array Value}{T:TypeId}(h:w.heap[b]? = some (.cells cs T (0,0)))(i:Nat):w.frozen? ⟨b,i,none⟩=false:=by
 simp[World.frozen?,h]
theorem aA3{w:World}{b:Nat}{cs:Array Value}{T:TypeId}{fz:Nat×Nat}(h:w.heap[b]? = some (.cells cs T fz))(i:Nat)(v:Value):(w.setCell ⟨b,i,none⟩ v).heap[b]? = some (.cells (cs.setIfInBounds i v) T fz):=by
 simp[World.setCell,Array.getElem?_modify,h]
theorem aA7{w:World}{k b i:Nat}{v:Value}(h:k≠b):(w.setCell ⟨b,i,none⟩ v).heap[k]? = w.heap[k]?:=Below.heap_setCell _ _ _ _ h
theorem aA0(w:World)(o:Obj):(w.alloc o).heap[w.heap.size]? = some o:=by
 show(w.heap.push o)[w.heap.size]? = _;simp
def aB2(w:World)(b o:Nat):List Nat->World
 | []=>w
 | x::l=>aB2 (w.setCell ⟨b,o,none⟩ (.int .u64 (x:Int))) b (o+1) l
def putC(cs:Array Value)(o:Nat):List Nat->Array Value
 | []=>cs
 | x::l=>putC (cs.setIfInBounds o (.int .u64 (x:Int))) (o+1) l
theorem aI8(w:World)(b o:Nat)(l:List Nat)(x:Nat):aB2 w b o (l++[x])=(aB2 w b o l).setCell ⟨b,o+l.length,none⟩ (.int .u64 (x:Int)):=by
 induction l generalizing w o with
 | nil=>simp[aB2]
 | cons y l ih=>simp only[List.cons_append,aB2,List.length_cons,ih];congr 2;omega
theorem aB1(cs:Array Value)(o:Nat)(l:List Nat):(putC cs o l).size=cs.size:=by
 induction l generalizing cs o with
 | nil=>rfl
 | cons x l ih=>simp[putC,ih]
theorem aB9{w:World}{b:Nat}{cs:Array Value}{T:TypeId}{fz:Nat×Nat}(h:w.heap[b]? = some (.cells cs T fz))(o:Nat)(l:List Nat):(aB2 w b o l).heap[b]? = some (.cells (putC cs o l) T fz):=by
 induction l generalizing w o cs with
 | nil=>exact h
 | cons x l ih=>exact ih (aA3 h _ _) (o+1)
theorem bY8(w:World){b k:Nat}(o:Nat)(l:List Nat)(h:k≠b):(aB2 w b o l).heap[k]? = w.heap[k]?:=by
 induction l generalizing w o with
 | nil=>rfl
 | cons x l ih=>rw[aB2,ih,aA7 h]
theorem aE6{S:Nat->Prop}{a w:World}(h:Kept S a w)(b o:Nat)(l:List Nat)(hb:b<a.heap.size->S b):Kept S a (aB2 w b o l):=by
 induction l generalizing w o with
 | nil=>exact h
 | cons x l ih=>exact ih (h.setCell _ _ hb) (o+1)
theorem aW0(cs:Array Value)(o:Nat)(l:List Nat)(i:Nat)(h1:o<=i)(h2:i<o+l.length)(h3:i<cs.size):(putC cs o l)[i]? = some (.int .u64 (l.getD (i-o) 0:Nat)):=by
 induction l generalizing cs o with
 | nil=>simp at h2;omega
 | cons x l ih =>
  simp only[putC];rcases Nat.lt_or_ge o i with h|h
  ·rw[ih _ (o+1) (by omega) (by simp at h2;omega) (by simpa using h3)];congr 3;rw[show i-o=(i-(o+1))+1 by omega];simp
  ·have:i=o:=by omega
   subst this;have e:∀(l:List Nat) (cs:Array Value) (o':Nat),i<o'->(putC cs o' l)[i]? = cs[i]?:=by
    intro l
    induction l with
    | nil=>intros;rfl
    | cons y l ih2 =>
     intro cs o' ho;rw[putC,ih2 _ _ (by omega),Array.getElem?_setIfInBounds,if_neg (by omega)]
   rw[e _ _ _ (by omega),Array.getElem?_setIfInBounds,if_pos rfl,if_pos h3];simp
theorem aD8(cs:Array Value)(o:Nat)(l:List Nat)(i:Nat)(h:i<o\/o+l.length<=i):(putC cs o l)[i]? = cs[i]?:=by
 induction l generalizing cs o with
 | nil=>rfl
 | cons y l ih =>
  simp only[List.length_cons]at h;rw[putC,ih _ _ (by omega),Array.getElem?_setIfInBounds,if_neg (by omega)]
def Has(cs:Array Value)(o:Nat)(l:List Nat):Prop:=∀ i,i<l.length->cs[o+i]? = some (.int .u64 (l.getD i 0:Nat))
theorem aI9(cs:Array Value)(o:Nat)(l:List Nat)(h:o+l.length<=cs.size):Has (putC cs o l) o l:=by
 intro i hi;rw[aW0 cs o l (o+i) (by omega) (by omega) (by omega)];congr 3;congr 1;omega
theorem aF1{w:World}{zb zo xb xo:Nat}{cz cx:Array Value}{Tz Tx:TypeId}{fz fx:Nat×Nat}{xs l:List Nat}(hz:w.heap[zb]? = some (.cells cz Tz fz))(hx:w.heap[xb]? = some (.cells cx Tx fx))(hxc:Has cx xo xs)(j:Nat)(hj:j<xs.length)(hsep:zb=xb->zo+l.length<=xo+j\/xo+j<zo):(aB2 w zb zo l).cell? ⟨xb,xo+j,none⟩=some (.int .u64 ((xs.getD j 0:Nat):Int)):=by
 by_cases he:zb=xb
 ·subst he;rw[hz]at hx;injection hx with hx;injection hx with h1 h2 h3;subst h1;rw[aA2 (aB9 hz zo l),aD8 _ _ _ _ (by rcases hsep rfl with h|h;exact Or.inr h;exact Or.inl h)];exact hxc j hj
 ·rw[aA2 ((bY8 w zo l (Ne.symm he)).trans hx)];exact hxc j hj
theorem aK8{w:World}{zb zo:Nat}{cz:Array Value}{Tz:TypeId}{l:List Nat}(hz:w.heap[zb]? = some (.cells cz Tz (0,0)))(j:Nat)(hl:l.length=j)(hj:zo+j<cz.size):
  (∃ u,(aB2 w zb zo l).cell? ⟨zb,zo+j,none⟩=some u)/\(aB2 w zb zo l).frozen? ⟨zb,zo+j,none⟩=false:=by
 have h:=aB9 hz zo l;refine⟨⟨cz[zo+j],?_⟩,aA1 h _⟩;rw[aA2 h,aD8 _ _ _ _ (Or.inr (by omega))];exact Array.getElem?_eq_getElem hj
def BufAt(w:World)(v:Value):Option Nat->Prop
 | none=>v=.slice none 0 0
 | some k=>∃ l cs,v=.slice (some ⟨k,0,none⟩) l cs.size/\w.heap[k]? = some (.cells cs 165 (0,0))/\l<=cs.size/\0<cs.size/\cs.size<=1000000
def NatAt(w:World)(v:Value)(n:Nat):Option Nat->Prop
 | none=>v=.slice none 0 0/\n=0
 | some k=>∃ cs,v=.slice (some ⟨k,0,none⟩) (dig n).length cs.size/\w.heap[k]? = some (.cells cs 165 (0,0))/\(dig n).length<=cs.size/\0<cs.size/\cs.size<=1000000/\Has cs 0 (dig n)
theorem NatAt.buf{w:World}{v:Value}{n:Nat}{b:Option Nat}(h:NatAt w v n b):BufAt w v b:=by
 cases b with
 | none=>exact h.1
 | some k=>obtain⟨cs,h1,h2,h3,h4,h5,_⟩:=h;exact⟨_,cs,h1,h2,h3,h4,h5⟩
theorem NatAt.lt{w:World}{v:Value}{n k:Nat}(h:NatAt w v n (some k)):k<w.heap.size:=by
 obtain⟨cs,_,h2,_⟩:=h;exact aB5 h2
theorem BufAt.lt{w:World}{v:Value}{k:Nat}(h:BufAt w v (some k)):k<w.heap.size:=by
 obtain⟨l,cs,_,h2,_⟩:=h;exact aB5 h2
theorem NatAt.move{w w':World}{v:Value}{n:Nat}{b:Option Nat}(h:NatAt w v n b)(hk:∀ k,b=some k->w'.heap[k]? = w.heap[k]?):NatAt w' v n b:=by
 cases b with
 | none=>exact h
 | some k=>obtain⟨cs,h1,h2,h3⟩:=h;exact⟨cs,h1,(hk k rfl).trans h2,h3⟩
theorem BufAt.move{w w':World}{v:Value}{b:Option Nat}(h:BufAt w v b)(hk:∀ k,b=some k->w'.heap[k]? = w.heap[k]?):BufAt w' v b:=by
 cases b with
 | none=>exact h
 | some k=>obtain⟨l,cs,h1,h2,h3⟩:=h;exact⟨l,cs,h1,(hk k rfl).trans h2,h3⟩
theorem NatAt.kept{S:Nat->Prop}{w w':World}{v:Value}{n:Nat}{b:Option Nat}(h:NatAt w v n b)(hk:Kept S w w')(hs:∀ k,b=some k->¬ S k):NatAt w' v n b :=
 h.move fun k hb=>by subst hb;exact hk.block k h.lt (hs k rfl)
theorem BufAt.kept{S:Nat->Prop}{w w':World}{v:Value}{b:Option Nat}(h:BufAt w v b)(hk:Kept S w w')(hs:∀ k,b=some k->¬ S k):BufAt w' v b :=
 h.move fun k hb=>by subst hb;exact hk.block k h.lt (hs k rfl)
theorem aW1{w:World}{b:Nat}{cs:Array Value}{T:TypeId}(h:w.heap[b]? = some (.cells cs T (0,0)))(o:Nat)(l:List Nat):aB2 w b o l=w.setRow b (putC cs o l):=by
 induction l generalizing w o cs with
 | nil=>exact(setRow_self w b cs T (0,0) h).symm
 | cons x l ih =>
  rw[aB2,ih (aA3 h _ _),setCell_eq_setRow w b o cs T (0,0) _ h,setRow_setRow];rfl
theorem cQ6(cs:Array Value)(o:Nat)(l:List Nat)(h:o+l.length<=cs.size):(cs.toList.take o++(l.map (fun x=>Value.int .u64 ((x:Nat):Int))++cs.toList.drop (o+l.length))).toArray=putC cs o l:=by
 apply Array.ext_getElem?;intro i;rw[List.getElem?_toArray];rcases Nat.lt_or_ge i o with h1|h1
 ·rw[aD8 _ _ _ _ (Or.inl h1),List.getElem?_append_left (by simp;omega),List.getElem?_take,if_pos h1,Array.getElem?_toList]
 ·rw[List.getElem?_append_right (by simp;omega)];simp only[List.length_take,Array.length_toList];rw[Nat.min_eq_left (by omega)];rcases Nat.lt_or_ge i (o+l.length)with h2|h2
  ·rw[aW0 cs o l i h1 h2 (by omega),List.getElem?_append_left (by simp;omega)];rw[List.getElem?_map,List.getD_eq_getElem?_getD,List.getElem?_eq_getElem (by omega)];rfl
  ·rw[aD8 _ _ _ _ (Or.inr h2),List.getElem?_append_right (by simp;omega)];simp only[List.length_map];rw[List.getElem?_drop,Array.getElem?_toList];congr 1;omega
theorem aG9{w:World}{ops:Array Oper}{rest:List Oper}{o:Oper}{a:Act}{Q:Exit->Act->World->Prop}(hgd:o.guard=none)(d s:Operand)(dT sT:TypeId)(ho:o.op=.call { callee:=.builtin .copy,args:=#[d,s],argTypes:=#[dT,sT] })(hu:prog.underlying dT=some (.slice 165))(g off dLen dCap sb so sLen sCap:Nat)(hd:a.eval d=.slice (some ⟨g,off,none⟩) dLen dCap)(hs:a.eval s=.slice (some ⟨sb,so,none⟩) sLen sCap)(cur:Array Value)(t:TypeId)(hg:w.heap[g]? = some (.cells cur t (0,0)))(cx:Array Value)(tx:TypeId)(fx:Nat×Nat)(hx:w.heap[sb]? = some (.cells cx tx fx))(l:List Nat)(hn:l.length=Nat.min sLen dLen)(hsrc:Has cx so l)(hfit:off+l.length<=cur.size)(h:wpList prog ops Q rest (a.put o.dst (goInt l.length)) (aB2 w g off l)):wpList prog ops Q (o::rest) a w:=by
 refine wpList_copy_own hgd d s dT sT ho 165 hu (by kernel_rfl) g off dLen dCap ⟨sb,so,none⟩ sLen sCap hd hs cur t hg (l.map fun x=>Value.int .u64 ((x:Nat):Int)) (by simpa using hn) ?_ (by simpa using hfit) ?_ ?_
 ·intro j v hj;rw[List.getElem?_map]at hj;obtain⟨x,hx1,hx2⟩:=Option.map_eq_some_iff.1 hj;have hj':=(List.getElem?_eq_some_iff.1 hx1).1;rw[Addr.add_lit];rw[aA2 hx,hsrc j hj',<- hx2,List.getD_eq_getElem?_getD,hx1];rfl
 ·intro v hv;obtain⟨_,_,rfl⟩:=List.mem_map.1 hv;rfl
 ·rw[aW1 hg]at h;simp only[List.length_map];rw[cQ6 cur off l hfit];exact h
def zw(n:Nat):Array Value:=madeCells #[.int .u64 0] n
theorem bL7(n:Nat):(zw n).size=n:=size_madeCells _ _
theorem Tryz.info165:(prog.info? 165).map (fun i=>(i.zero,i.size,i.bytes))=some (some (.int .u64 0),1,8):=by kernel_rfl
theorem bR3(t:TypeId)(ht:prog.underlying t=some (.slice 165))(n c:Nat)(L C:Int)(hL:L=n)(hC:C=c)(h1:n<=c)(h2:c<=1000000)(w:World):
  (Instr.makeSlice t (.int .i64 L) (.int .i64 C)).run prog w=.ok (.slice (some ⟨w.heap.size,0,none⟩) n c) (w.alloc (.cells (zw c) 165)):=by
 obtain⟨i0,hi,hz0,hz1,hz2⟩:=info_parts Tryz.info165;subst hL;subst hC;have:=run_make (P:=prog) w t 165 i0 _ ht hi hz0 .i64 .i64 n c (by omega) (by omega) (by rw[hz2];omega) (by omega);rw[this];simp only[Int.toNat_natCast,hz1,Nat.mul_one];rfl
def Made(w:World)(b:Option Nat)(n:Nat)(e:Ending)(w':World):Prop :=
 ∃ k cs,e=.returned (.slice (some ⟨k,0,none⟩) n cs.size)/\w'.heap[k]? = some (.cells cs 165 (0,0))/\n<=cs.size/\0<cs.size/\cs.size<=1000000/\((b=some k/\w'=w)\/(k=w.heap.size/\w'=w.alloc (.cells cs 165)))
def IntOk(w:World)(n:Int)(k:Bool)(e:Ending)(w':World):Prop:=e=.returned (.tuple #[.int .i64 n,.bool k])/\w=w'
def MulRes(w:World)(p:Int)(e:Ending)(w':World):Prop:=(∃(c:Int) (k:Bool),e=.returned (.tuple #[.int .i64 c,.bool k])/\((-9223372036854775807<=p/\p<=9223372036854775807)->c=p/\k=true)/\(¬ (-9223372036854775807<=p/\p<=9223372036854775807)->k=false))/\Kept (fun _=>False) w w'
theorem MulRes.fits{w w':World}{p:Int}{e:Ending}(h:MulRes w p e w')(h1:-9223372036854775807<=p)(h2:p<=9223372036854775807):e=.returned (.tuple #[.int .i64 p,.bool true])/\Kept (fun _=>False) w w':=by
 obtain⟨⟨c,k,rfl,h3,-⟩,hk⟩:=h;obtain⟨rfl,rfl⟩:=h3 ⟨h1,h2⟩;exact⟨rfl,hk⟩
theorem MulRes.over{w w':World}{p:Int}{e:Ending}(h:MulRes w p e w')(h1:¬ (-9223372036854775807<=p/\p<=9223372036854775807)):∃ c:Int,e=.returned (.tuple #[.int .i64 c,.bool false])/\Kept (fun _=>False) w w':=by
 obtain⟨⟨c,k,rfl,-,h3⟩,hk⟩:=h;obtain rfl:=h3 h1;exact⟨c,rfl,hk⟩
theorem aG2(x b:Int):x.tdiv b=if 0<=x then x/b else -((-x)/b):=by
 split
 ·rename_i h;exact Int.tdiv_eq_ediv_of_nonneg h
 ·rename_i h;have e:x = -(-x):=by omega
  rw[e,Int.neg_tdiv,Int.tdiv_eq_ediv_of_nonneg (by omega)];simp
theorem aC1{w w':World}{p c:Int}{k:Bool}(h1:(-9223372036854775807<=p/\p<=9223372036854775807)->c=p/\k=true)(h2:¬ (-9223372036854775807<=p/\p<=9223372036854775807)->k=false)(hk:Kept (fun _=>False) w w'):MulRes w p (.returned (.tuple #[.int .i64 c,.bool k])) w':=⟨⟨c,k,rfl,h1,h2⟩,hk⟩
theorem cQ7(a:Int)(w:World)(h1:-9223372036854775808<=a)(h2:a<=9223372036854775807):Calls prog 152 #[.int .i64 a] w (MulRes w (a*10)):=by
 by_cases h0:a=0
 ·have H:=aC1 (w:=w) (p:=a*10) (c:=0) (k:=true) (fun _=>⟨by omega,rfl⟩) (fun h=>by omega) (Kept.refl _ _);have HH:=hiD H;clear H;subst h0;go_enter func152,ntmps152;go_wp2_with fail;go_ret2;exact HH.out
 ·by_cases h3:a=1
  ·have H:=aC1 (w:=w) (p:=a*10) (c:=10) (k:=true) (fun _=>⟨by omega,rfl⟩) (fun h=>by omega) (Kept.refl _ _);have HH:=hiD H;clear H;subst h3;go_enter func152,ntmps152;go_wp2_with fail;go_ret2;exact HH.out
  ·have g0:(a==0)=false:=beqF h0;have g1:(a==1)=false:=beqF h3;by_cases h4:a = -9223372036854775808
   ·have H:=aC1 (w:=w) (p:=a*10) (c:=0) (k:=false) (fun h=>by omega) (fun h=>rfl) (Kept.refl _ _);have HH:=hiD H;clear H;subst h4;go_enter func152,ntmps152;go_wp2_with fail;go_ret2;exact HH.out
   ·have g4:(a == -9223372036854775808)=false:=beqF h4;by_cases h5:-9223372036854775807<=a*10/\a*10<=9223372036854775807
    ·have H:=aC1 (w:=w) (p:=a*10) (c:=a*10) (k:=true) (fun _=>⟨rfl,rfl⟩) (fun h=>absurd h5 h) (Kept.refl _ _);have HH:=hiD H;have g5:((a*10).tdiv 10==a)=true:=beqT (by rw[aG2];split<;>omega);obtain⟨b1,b2⟩:=h5;have g6:wrap64 (a*10)=a*10:=by unfold wrap64;omega
     clear H h0 h3 h4;go_enter func152,ntmps152;go_wp2_with fail;go_ret2;exact HH.out
    ·have H:=aC1 (w:=w) (p:=a*10) (c:=wrap64 (a*10)) (k:=false) (fun h=>absurd h h5) (fun h=>rfl) (Kept.refl _ _);have HH:=hiD H;have g5:((wrap64 (a*10)).tdiv 10==a)=false:=beqF (by rw[aG2];unfold wrap64;split<;>omega);have g7:(wrap64 ((wrap64 (a*10)).tdiv 10)==a)=false:=beqF (by rw[aG2];unfold wrap64;split<;>omega);clear H h0 h3 h4 h5;go_enter func152,ntmps152;go_wp2_with fail;go_ret2;exact HH.out
theorem cK4(a:Int)(w:World)(h1:-9223372036854775808<=a)(h2:a<=9223372036854775807):Calls prog 153 #[.int .i64 a] w (MulRes w (a*100)):=by
 by_cases h0:a=0
 ·have H:=aC1 (w:=w) (p:=a*100) (c:=0) (k:=true) (fun _=>⟨by omega,rfl⟩) (fun h=>by omega) (Kept.refl _ _);have HH:=hiD H;clear H;subst h0;go_enter func153,ntmps153;go_wp2_with fail;go_ret2;exact HH.out
 ·by_cases h3:a=1
  ·have H:=aC1 (w:=w) (p:=a*100) (c:=100) (k:=true) (fun _=>⟨by omega,rfl⟩) (fun h=>by omega) (Kept.refl _ _);have HH:=hiD H;clear H;subst h3;go_enter func153,ntmps153;go_wp2_with fail;go_ret2;exact HH.out
  ·have g0:(a==0)=false:=beqF h0;have g1:(a==1)=false:=beqF h3;by_cases h4:a = -9223372036854775808
   ·have H:=aC1 (w:=w) (p:=a*100) (c:=0) (k:=false) (fun h=>by omega) (fun h=>rfl) (Kept.refl _ _);have HH:=hiD H;clear H;subst h4;go_enter func153,ntmps153;go_wp2_with fail;go_ret2;exact HH.out
   ·have g4:(a == -9223372036854775808)=false:=beqF h4;by_cases h5:-9223372036854775807<=a*100/\a*100<=9223372036854775807
    ·have H:=aC1 (w:=w) (p:=a*100) (c:=a*100) (k:=true) (fun _=>⟨rfl,rfl⟩) (fun h=>absurd h5 h) (Kept.refl _ _);have HH:=hiD H;have g5:((a*100).tdiv 100==a)=true:=beqT (by rw[aG2];split<;>omega);obtain⟨b1,b2⟩:=h5;have g6:wrap64 (a*100)=a*100:=by unfold wrap64;omega
     clear H h0 h3 h4;go_enter func153,ntmps153;go_wp2_with fail;go_ret2;exact HH.out
    ·have H:=aC1 (w:=w) (p:=a*100) (c:=wrap64 (a*100)) (k:=false) (fun h=>absurd h h5) (fun h=>rfl) (Kept.refl _ _);have HH:=hiD H;have g5:((wrap64 (a*100)).tdiv 100==a)=false:=beqF (by rw[aG2];unfold wrap64;split<;>omega);have g7:(wrap64 ((wrap64 (a*100)).tdiv 100)==a)=false:=beqF (by rw[aG2];unfold wrap64;split<;>omega);clear H h0 h3 h4 h5;go_enter func153,ntmps153;go_wp2_with fail;go_ret2;exact HH.out
theorem bY9(a:Int)(w:World)(h1:-9223372036854775808<=a)(h2:a<=9223372036854775807):Calls prog 154 #[.int .i64 a] w (MulRes w (a*1000)):=by
 by_cases h0:a=0
 ·have H:=aC1 (w:=w) (p:=a*1000) (c:=0) (k:=true) (fun _=>⟨by omega,rfl⟩) (fun h=>by omega) (Kept.refl _ _);have HH:=hiD H;clear H;subst h0;go_enter func154,ntmps154;go_wp2_with fail;go_ret2;exact HH.out
 ·by_cases h3:a=1
  ·have H:=aC1 (w:=w) (p:=a*1000) (c:=1000) (k:=true) (fun _=>⟨by omega,rfl⟩) (fun h=>by omega) (Kept.refl _ _);have HH:=hiD H;clear H;subst h3;go_enter func154,ntmps154;go_wp2_with fail;go_ret2;exact HH.out
  ·have g0:(a==0)=false:=beqF h0;have g1:(a==1)=false:=beqF h3;by_cases h4:a = -9223372036854775808
   ·have H:=aC1 (w:=w) (p:=a*1000) (c:=0) (k:=false) (fun h=>by omega) (fun h=>rfl) (Kept.refl _ _);have HH:=hiD H;clear H;subst h4;go_enter func154,ntmps154;go_wp2_with fail;go_ret2;exact HH.out
   ·have g4:(a == -9223372036854775808)=false:=beqF h4;by_cases h5:-9223372036854775807<=a*1000/\a*1000<=9223372036854775807
    ·have H:=aC1 (w:=w) (p:=a*1000) (c:=a*1000) (k:=true) (fun _=>⟨rfl,rfl⟩) (fun h=>absurd h5 h) (Kept.refl _ _);have HH:=hiD H;have g5:((a*1000).tdiv 1000==a)=true:=beqT (by rw[aG2];split<;>omega);obtain⟨b1,b2⟩:=h5;have g6:wrap64 (a*1000)=a*1000:=by unfold wrap64;omega
     clear H h0 h3 h4;go_enter func154,ntmps154;go_wp2_with fail;go_ret2;exact HH.out
    ·have H:=aC1 (w:=w) (p:=a*1000) (c:=wrap64 (a*1000)) (k:=false) (fun h=>absurd h h5) (fun h=>rfl) (Kept.refl _ _);have HH:=hiD H;have g5:((wrap64 (a*1000)).tdiv 1000==a)=false:=beqF (by rw[aG2];unfold wrap64;split<;>omega);have g7:(wrap64 ((wrap64 (a*1000)).tdiv 1000)==a)=false:=beqF (by rw[aG2];unfold wrap64;split<;>omega);clear H h0 h3 h4 h5;go_enter func154,ntmps154;go_wp2_with fail;go_ret2;exact HH.out
theorem cK5(a:Int)(w:World)(h1:-9223372036854775808<=a)(h2:a<=9223372036854775807):Calls prog 155 #[.int .i64 a,.int .i64 10] w (MulRes w (a*10)):=by
 by_cases h0:a=0
 ·have H:=aC1 (w:=w) (p:=a*10) (c:=0) (k:=true) (fun _=>⟨by omega,rfl⟩) (fun h=>by omega) (Kept.refl _ _);have HH:=hiD H;clear H;subst h0;go_enter func155,ntmps155;go_wp2_with fail;go_ret2;exact HH.out
 ·by_cases h3:a=1
  ·have H:=aC1 (w:=w) (p:=a*10) (c:=10) (k:=true) (fun _=>⟨by omega,rfl⟩) (fun h=>by omega) (Kept.refl _ _);have HH:=hiD H;clear H;subst h3;go_enter func155,ntmps155;go_wp2_with fail;go_ret2;exact HH.out
  ·have g0:(a==0)=false:=beqF h0;have g1:(a==1)=false:=beqF h3;by_cases h4:a = -9223372036854775808
   ·have H:=aC1 (w:=w) (p:=a*10) (c:=0) (k:=false) (fun h=>by omega) (fun h=>rfl) (Kept.refl _ _);have HH:=hiD H;clear H;subst h4;go_enter func155,ntmps155;go_wp2_with fail;go_ret2;exact HH.out
   ·have g4:(a == -9223372036854775808)=false:=beqF h4;by_cases h5:-9223372036854775807<=a*10/\a*10<=9223372036854775807
    ·have H:=fun nq=>aC1 (w:=w) (w':=w.drewN nq) (p:=a*10) (c:=a*10) (k:=true) (fun _=>⟨rfl,rfl⟩) (fun h=>absurd h5 h) ((Kept.refl _ _).drewN _)
     have HH:=hiD H;have g5:((a*10).tdiv 10==a)=true:=beqT (by rw[aG2];split<;>omega);obtain⟨b1,b2⟩:=h5;have g6:wrap64 (a*10)=a*10:=by unfold wrap64;omega
     clear H h0 h3 h4;go_enter func155,ntmps155;go_wp2_with fail
     go_quiet (fail)
     go_wp2_with fail;go_ret2;exact HH.out _
    ·have H:=fun nq=>aC1 (w:=w) (w':=w.drewN nq) (p:=a*10) (c:=wrap64 (a*10)) (k:=false) (fun h=>absurd h h5) (fun h=>rfl) ((Kept.refl _ _).drewN _)
     have HH:=hiD H;have g5:((wrap64 (a*10)).tdiv 10==a)=false:=beqF (by rw[aG2];unfold wrap64;split<;>omega);have g7:(wrap64 ((wrap64 (a*10)).tdiv 10)==a)=false:=beqF (by rw[aG2];unfold wrap64;split<;>omega);clear H h0 h3 h4 h5;go_enter func155,ntmps155;go_wp2_with fail
     go_quiet (fail)
     go_wp2_with fail;go_ret2;exact HH.out _
theorem cQ8(a:Int)(w:World)(h1:-9223372036854775808<=a)(h2:a<=9223372036854775807):Calls prog 155 #[.int .i64 a,.int .i64 1000000] w (MulRes w (a*1000000)):=by
 by_cases h0:a=0
 ·have H:=aC1 (w:=w) (p:=a*1000000) (c:=0) (k:=true) (fun _=>⟨by omega,rfl⟩) (fun h=>by omega) (Kept.refl _ _);have HH:=hiD H;clear H;subst h0;go_enter func155,ntmps155;go_wp2_with fail;go_ret2;exact HH.out
 ·by_cases h3:a=1
  ·have H:=aC1 (w:=w) (p:=a*1000000) (c:=1000000) (k:=true) (fun _=>⟨by omega,rfl⟩) (fun h=>by omega) (Kept.refl _ _);have HH:=hiD H;clear H;subst h3;go_enter func155,ntmps155;go_wp2_with fail;go_ret2;exact HH.out
  ·have g0:(a==0)=false:=beqF h0;have g1:(a==1)=false:=beqF h3;by_cases h4:a = -9223372036854775808
   ·have H:=aC1 (w:=w) (p:=a*1000000) (c:=0) (k:=false) (fun h=>by omega) (fun h=>rfl) (Kept.refl _ _);have HH:=hiD H;clear H;subst h4;go_enter func155,ntmps155;go_wp2_with fail;go_ret2;exact HH.out
   ·have g4:(a == -9223372036854775808)=false:=beqF h4;by_cases h5:-9223372036854775807<=a*1000000/\a*1000000<=9223372036854775807
    ·have H:=fun nq=>aC1 (w:=w) (w':=w.drewN nq) (p:=a*1000000) (c:=a*1000000) (k:=true) (fun _=>⟨rfl,rfl⟩) (fun h=>absurd h5 h) ((Kept.refl _ _).drewN _)
     have HH:=hiD H;have g5:((a*1000000).tdiv 1000000==a)=true:=beqT (by rw[aG2];split<;>omega);obtain⟨b1,b2⟩:=h5;have g6:wrap64 (a*1000000)=a*1000000:=by unfold wrap64;omega
     clear H h0 h3 h4;go_enter func155,ntmps155;go_wp2_with fail
     go_quiet (fail)
     go_wp2_with fail;go_ret2;exact HH.out _
    ·have H:=fun nq=>aC1 (w:=w) (w':=w.drewN nq) (p:=a*1000000) (c:=wrap64 (a*1000000)) (k:=false) (fun h=>absurd h h5) (fun h=>rfl) ((Kept.refl _ _).drewN _)
     have HH:=hiD H;have g5:((wrap64 (a*1000000)).tdiv 1000000==a)=false:=beqF (by rw[aG2];unfold wrap64;split<;>omega);have g7:(wrap64 ((wrap64 (a*1000000)).tdiv 1000000)==a)=false:=beqF (by rw[aG2];unfold wrap64;split<;>omega);clear H h0 h3 h4 h5;go_enter func155,ntmps155;go_wp2_with fail
     go_quiet (fail)
     go_wp2_with fail;go_ret2;exact HH.out _
theorem cQ9(a:Int)(w:World)(h1:-9223372036854775808<=a)(h2:a<=9223372036854775807):Calls prog 155 #[.int .i64 a,.int .i64 1000000000] w (MulRes w (a*1000000000)):=by
 by_cases h0:a=0
 ·have H:=aC1 (w:=w) (p:=a*1000000000) (c:=0) (k:=true) (fun _=>⟨by omega,rfl⟩) (fun h=>by omega) (Kept.refl _ _);have HH:=hiD H;clear H;subst h0;go_enter func155,ntmps155;go_wp2_with fail;go_ret2;exact HH.out
 ·by_cases h3:a=1
  ·have H:=aC1 (w:=w) (p:=a*1000000000) (c:=1000000000) (k:=true) (fun _=>⟨by omega,rfl⟩) (fun h=>by omega) (Kept.refl _ _);have HH:=hiD H;clear H;subst h3;go_enter func155,ntmps155;go_wp2_with fail;go_ret2;exact HH.out
  ·have g0:(a==0)=false:=beqF h0;have g1:(a==1)=false:=beqF h3;by_cases h4:a = -9223372036854775808
   ·have H:=aC1 (w:=w) (p:=a*1000000000) (c:=0) (k:=false) (fun h=>by omega) (fun h=>rfl) (Kept.refl _ _);have HH:=hiD H;clear H;subst h4;go_enter func155,ntmps155;go_wp2_with fail;go_ret2;exact HH.out
   ·have g4:(a == -9223372036854775808)=false:=beqF h4;by_cases h5:-9223372036854775807<=a*1000000000/\a*1000000000<=9223372036854775807
    ·have H:=fun nq=>aC1 (w:=w) (w':=w.drewN nq) (p:=a*1000000000) (c:=a*1000000000) (k:=true) (fun _=>⟨rfl,rfl⟩) (fun h=>absurd h5 h) ((Kept.refl _ _).drewN _)
     have HH:=hiD H;have g5:((a*1000000000).tdiv 1000000000==a)=true:=beqT (by rw[aG2];split<;>omega);obtain⟨b1,b2⟩:=h5;have g6:wrap64 (a*1000000000)=a*1000000000:=by unfold wrap64;omega
     clear H h0 h3 h4;go_enter func155,ntmps155;go_wp2_with fail
     go_quiet (fail)
     go_wp2_with fail;go_ret2;exact HH.out _
    ·have H:=fun nq=>aC1 (w:=w) (w':=w.drewN nq) (p:=a*1000000000) (c:=wrap64 (a*1000000000)) (k:=false) (fun h=>absurd h h5) (fun h=>rfl) ((Kept.refl _ _).drewN _)
     have HH:=hiD H;have g5:((wrap64 (a*1000000000)).tdiv 1000000000==a)=false:=beqF (by rw[aG2];unfold wrap64;split<;>omega);have g7:(wrap64 ((wrap64 (a*1000000000)).tdiv 1000000000)==a)=false:=beqF (by rw[aG2];unfold wrap64;split<;>omega);clear H h0 h3 h4 h5;go_enter func155,ntmps155;go_wp2_with fail
     go_quiet (fail)
     go_wp2_with fail;go_ret2;exact HH.out _
def uI:Value->Nat
 | .int _ n=>n.toNat
 | _=>0
theorem dN6{a:Int}{i s:Nat}(h:i<=s)(h1:-9223372036854775807<=a*10^s)(h2:a*10^s<=9223372036854775807):-9223372036854775807<=a*10^i/\a*10^i<=9223372036854775807:=by
 obtain⟨k,rfl⟩:∃ k,s=i+k:=⟨s-i,by omega⟩;rw[Int.pow_add,<- Int.mul_assoc]at h1 h2;have hp:(1:Int)<=10^k:=by
  have:=Nat.one_le_two_pow (n:=0);have h:0<10^k:=Nat.pow_pos (by omega)
  exact_mod_cast h
 generalize a*10^i=x at *;generalize(10:Int)^k=p at *;rcases Int.lt_or_le x 0 with hx|hx
 ·have:x*p<=x*1:=Int.mul_le_mul_of_nonpos_left (by omega) hp;omega
 ·have:x*1<=x*p:=Int.mul_le_mul_of_nonneg_left hp hx;omega
theorem bC2(a:Int)(s:Nat)(hs:s<=1000)(w:World)(h1:-9223372036854775807<=a)(h2:a<=9223372036854775807):Calls prog 116 #[.int .i64 a,.int .i32 (s:Int)] w (MulRes w (a*10^s)):=by
 have h1':-9223372036854775808<=a:=by omega
 by_cases c0:s=0
 ·subst c0;have HH:=hiD (aC1 (w:=w) (w':=w) (p:=a*10^0) (c:=a) (k:=true) (fun _=>⟨by simp,rfl⟩) (fun h=>absurd ⟨by simpa using h1,by simpa using h2⟩ h) (Kept.refl _ _));go_enter func116,ntmps116;go_wp2_with fail;go_ret2;exact HH.out
 by_cases c1:s=1
 ·subst c1;have H:=hiD (cQ7 a w h1' h2);go_enter func116,ntmps116;go_wp2_with fail;refine H.out.mono ?_;intro e w1 hr;obtain⟨⟨c,k,rfl,h3,h4⟩,hk⟩:=hr;have HH:=hiD (aC1 h3 h4 hk);clear h3 h4 hk H;go_wp2_with fail;go_ret2;exact HH.out
 by_cases c2:s=2
 ·subst c2;have H:=hiD (cK4 a w h1' h2);go_enter func116,ntmps116;go_wp2_with fail;refine H.out.mono ?_;intro e w1 hr;obtain⟨⟨c,k,rfl,h3,h4⟩,hk⟩:=hr;have HH:=hiD (aC1 h3 h4 hk);clear h3 h4 hk H;go_wp2_with fail;go_ret2;exact HH.out
 by_cases c3:s=3
 ·subst c3;have H:=hiD (bY9 a w h1' h2);go_enter func116,ntmps116;go_wp2_with fail;refine H.out.mono ?_;intro e w1 hr;obtain⟨⟨c,k,rfl,h3,h4⟩,hk⟩:=hr;have HH:=hiD (aC1 h3 h4 hk);clear h3 h4 hk H;go_wp2_with fail;go_ret2;exact HH.out
 by_cases c6:s=6
 ·subst c6;have H:=hiD (cQ8 a w h1' h2);go_enter func116,ntmps116;go_wp2_with fail;refine H.out.mono ?_;intro e w1 hr;obtain⟨⟨c,k,rfl,h3,h4⟩,hk⟩:=hr;have HH:=hiD (aC1 h3 h4 hk);clear h3 h4 hk H;go_wp2_with fail;go_ret2;exact HH.out
 by_cases c9:s=9
 ·subst c9;have H:=hiD (cQ9 a w h1' h2);go_enter func116,ntmps116;go_wp2_with fail;refine H.out.mono ?_;intro e w1 hr;obtain⟨⟨c,k,rfl,h3,h4⟩,hk⟩:=hr;have HH:=hiD (aC1 h3 h4 hk);clear h3 h4 hk H;go_wp2_with fail;go_ret2;exact HH.out
 have q0:((s:Int)==0)=false:=beqF (by omega);have q1:((s:Int)==1)=false:=beqF (by omega);have q2:((s:Int)==2)=false:=beqF (by omega);have q3:((s:Int)==3)=false:=beqF (by omega);have q6:((s:Int)==6)=false:=beqF (by omega);have q9:((s:Int)==9)=false:=beqF (by omega);have HA:Hid (-9223372036854775807<=a*10^0/\a*10^0<=9223372036854775807):=by
  show -9223372036854775807<=a*10^0/\a*10^0<=9223372036854775807;simp;omega
 clear c0 c1 c2 c3 c6 c9;go_enter func116,ntmps116;go_wp2_with fail
 go_loopw [6,7,8] (fun v6 v7 v8 wr=>∃(i:Nat) (b:Bool),v6=.int .i64 (a*10^i)/\v7=.bool b/\v8=.int .i32 (i:Int)/\i<=s/\Hid (-9223372036854775807<=a*10^i/\a*10^i<=9223372036854775807)/\Hid (Kept (fun _=>False) w wr)) (fun _ _ v8 _=>s-uI v8)
 case atStart=>exact⟨0,false,by simp,rfl,rfl,by omega,HA,hiD (Kept.refl _ _)⟩
 case round =>
  clear HA;obtain⟨i,b,rfl,rfl,rfl,hi,HB,HK⟩:=hrel;rcases Nat.lt_or_ge i s with hlt|hge
  ·have hpp:a*10^(i+1)=a*10^i*10:=by rw[Int.pow_succ,Int.mul_assoc]
   have HF:Hid ((-9223372036854775807<=a*10^s/\a*10^s<=9223372036854775807)->(-9223372036854775807<=a*10^(i+1)/\a*10^(i+1)<=9223372036854775807)):=fun h=>dN6 (by omega) h.1 h.2;rw[hpp]at HF;have HPP:=hiD hpp;clear hpp;generalize a*10^i=x at *;have HM:Hid (∀ wr,Calls prog 155 #[.int .i64 x,.int .i64 10] wr (MulRes wr (x*10))):=fun wr=>cK5 x wr (by have:=HB.out.1;omega) HB.out.2;by_cases hf:-9223372036854775807<=x*10/\x*10<=9223372036854775807
   ·have HF2:=hiD hf;clear hf;go_wp2_with fail;refine(HM.out _).mono ?_;intro e w1 hr;obtain⟨rfl,hk⟩:=hr.fits HF2.out.1 HF2.out.2;have HK2:=hiD (HK.out.same hk);have HB2:Hid (-9223372036854775807<=x*10/\x*10<=9223372036854775807):=HF2.out;clear hr hk;generalize hy:x*10=y at *;go_wp2_with fail;go_roundw
    case rel=>exact⟨i+1,true,by rw[HPP.out],rfl,by go_num,by omega,by rw[HPP.out];exact HB2,HK2⟩
    case measure=>simp[uI];omega
   ·have HF2:=hiD hf;clear hf;go_wp2_with fail;refine(HM.out _).mono ?_;intro e w1 hr;obtain⟨c,rfl,hk⟩:=hr.over HF2.out;have HH:Hid (MulRes w (a*10^s) (.returned (.tuple #[.int .i64 0,.bool false])) w1):=aC1 (fun h=>absurd (HF.out h) HF2.out) (fun _=>rfl) (HK.out.same hk);clear hr hk;go_wp2_with fail;go_ret2;exact HH.out
  ·obtain rfl:i=s:=by omega
   have HH:Hid (MulRes w (a*10^i) (.returned (.tuple #[.int .i64 (a*10^i),.bool true])) wr):=by
    exact aC1 (fun _=>⟨rfl,rfl⟩) (fun h=>absurd HB.out h) HK.out
   generalize a*10^i=x at *;go_wp2_with fail;go_ret2;exact HH.out
def ImRes(w:World)(p:Nat)(e:Ending)(w':World):Prop:=(∃(c:Int) (k:Bool),e=.returned (.tuple #[.int .i64 c,.bool k])/\(k=true->c=(p:Int)/\c<=9223372036854775807)/\(p<=9223372036854775807->k=true))/\Kept (fun _=>False) w w'
theorem dV7{a b:Nat}(hb0:1<=b)(hb:b<=1152921504606846976)(h:(wrap64 ((a:Int)*(b:Int))).tdiv (b:Int)=(a:Int)):wrap64 ((a:Int)*(b:Int))=((a*b:Nat):Int)/\wrap64 ((a:Int)*(b:Int))<=9223372036854775807:=by
 have hp:((a:Int)*(b:Int))=((a*b:Nat):Int):=by simp
 rw[hp]at h ⊢;clear hp;generalize hP:a*b=P at *;have hw:∃ k:Int,wrap64 (P:Int)=(P:Int)-k*18446744073709551616:=by
  unfold wrap64;exact⟨((P:Int)+9223372036854775808)/18446744073709551616,by omega⟩
 have hr:-9223372036854775808<=wrap64 (P:Int)/\wrap64 (P:Int)<=9223372036854775807:=by unfold wrap64;omega
 obtain⟨k,hk⟩:=hw;generalize wrap64 (P:Int)=c at *;have h2:=Int.mul_tdiv_add_tmod c (b:Int);rw[h]at h2;have h3:-(b:Int)<c.tmod (b:Int)/\c.tmod (b:Int)<(b:Int):=by
  have:=Int.tmod_lt_of_pos c (show(0:Int)<(b:Int)by omega);have h4:=Int.tmod_lt_of_pos (-c) (show(0:Int)<(b:Int)by omega);rw[Int.neg_tmod]at h4;omega
 have h5:(b:Int)*(a:Int)=(P:Int):=by rw[<- hP];simp[Int.mul_comm]
 rw[h5]at h2;omega
theorem aI5(a b:Nat)(ha:a<1000000000000000000)(hb0:1<=b)(hb:b<=1152921504606846976)(w:World):Calls prog 52 #[.int .i64 (a:Int),.int .i64 (b:Int)] w (ImRes w (a*b)):=by
 have b0:((b:Int)==0)=false:=beqF (by omega);by_cases h0:a=0
 ·subst h0;have HH:Hid (ImRes w (0*b) (.returned (.tuple #[.int .i64 0,.bool true])) w):=⟨⟨0,true,rfl,fun _=>⟨by simp,by omega⟩,fun _=>rfl⟩,Kept.refl _ _⟩;clear ha hb0 hb;go_enter func52,ntmps52;go_wp2_with fail;go_ret2;exact HH.out
 by_cases h1:a=1
 ·subst h1;have HH:Hid (ImRes w (1*b) (.returned (.tuple #[.int .i64 (b:Int),.bool true])) w):=⟨⟨b,true,rfl,fun _=>⟨by simp,by omega⟩,fun _=>rfl⟩,Kept.refl _ _⟩;have hw:wrap64 (b:Int)=(b:Int):=by unfold wrap64;omega
  have HW:=hiD hw;clear ha hb0 hb hw;go_enter func52,ntmps52;go_wp2_with fail;go_ret2;have:=HW.out;first
  | exact HH.out
  | (rw[this];exact HH.out)
 have a0:((a:Int)==0)=false:=beqF (by omega);have a1:((a:Int)==1)=false:=beqF (by omega);by_cases h2:b=1
 ·subst h2;have HH:Hid (ImRes w (a*1) (.returned (.tuple #[.int .i64 (a:Int),.bool true])) w):=⟨⟨a,true,rfl,fun _=>⟨by simp,by omega⟩,fun _=>rfl⟩,Kept.refl _ _⟩;have hw:wrap64 (a:Int)=(a:Int):=by unfold wrap64;omega
  have HW:=hiD hw;clear ha hb0 hb hw h0 h1;go_enter func52,ntmps52;go_wp2_with fail;go_ret2;have:=HW.out;first
  | exact HH.out
  | (rw[this];exact HH.out)
 have b1:((b:Int)==1)=false:=beqF (by omega);have am:((a:Int) == -9223372036854775808)=false:=beqF (by omega);have bm:((b:Int) == -9223372036854775808)=false:=beqF (by omega);have HN:=hiD (fun h=>dV7 (a:=a) hb0 hb h);obtain⟨p,hp⟩:∃ p:Int,p=(a:Int)*(b:Int):=⟨_,rfl⟩;obtain⟨c,hc⟩:∃ c:Int,c=wrap64 p:=⟨_,rfl⟩;have hcb:-9223372036854775808<=c/\c<=9223372036854775807:=by rw[hc];unfold wrap64;omega
 obtain⟨q,hq⟩:∃ q:Int,q=c.tdiv (b:Int):=⟨_,rfl⟩;have hqb:wrap64 q=q:=by
  have h3:=Int.natAbs_tdiv_le_natAbs c (b:Int);rw[<- hq]at h3;have h4:q.natAbs<9223372036854775808\/q = -9223372036854775808\/q=9223372036854775808:=by omega
  have h5:q≠9223372036854775808:=by
   intro e;have h6:=Int.mul_tdiv_add_tmod c (b:Int);rw[<- hq,e]at h6;have h7:=Int.tmod_lt_of_pos c (show(0:Int)<(b:Int)by omega);have h8:=Int.tmod_lt_of_pos (-c) (show(0:Int)<(b:Int)by omega);rw[Int.neg_tmod]at h8;omega
  unfold wrap64;omega
 have HFIT:a*b<=9223372036854775807->q=(a:Int):=by
  intro h;have h1:p=((a*b:Nat):Int):=by rw[hp];simp
  have h2:c=p:=by rw[hc,h1];unfold wrap64;omega
  rw[hq,h2,hp];exact Int.mul_tdiv_cancel _ (by omega)
 rw[<- hp,<- hc,<- hq]at HN;have HR:Hid (∀ n,ImRes w (a*b) (.returned (.tuple #[.int .i64 c,.bool (q==(a:Int))])) (w.drewN n)):=by
  intro n;refine⟨⟨c,_,rfl,fun h=>HN.out (by simpa using h),fun h=>by simpa using HFIT h⟩,(Kept.refl _ _).drewN n⟩
 have e1:wrap64 ((a:Int)*(b:Int))=c:=by rw[hc,hp]
 have HE1:=hiD e1;have e2:c.tdiv (b:Int)=q:=hq.symm;have HE2:=hiD hqb;have b2:¬ (b=0):=by omega
 have b3:(b==0)=false:=by simpa using b2
 have e3:=HE2.out;clear HN hp hc hcb hq hqb ha hb0 hb h0 h1 h2;go_enter func52,ntmps52;go_wp2_with fail
 go_quiet (fail)
 go_wp2_with fail;go_ret2;have h:=HR.out nq;rw[<- HE1.out]at h;exact h
end Go.Proofs.YtjebnpkebccffaaGreatDoor
