import Derived.Test.YtjebnpkebccffaaGreatDoorZPq
import Derived.Deep.RegionWith
import Derived.Shelf.Small.Bits
import Derived.Shelf.Strconv.Itoa0
import Derived.Shelf.Strconv.Itoa1
import Derived.Shelf.LaysM
import Derived.Shelf.Strconv.Itoa2
import Derived.Shelf.Strconv.ParseIntEmpty
import Derived.Shelf.Strconv.Clone
import Derived.Shelf.Strconv.SyntaxError
import Derived.Shelf.LaysC
import Derived.Shelf.Strconv.ToError
import Derived.Shelf.Strconv.Lower
import Derived.Shelf.Strconv.ParseUint10
import Derived.Shelf.Strconv.ParseUint10Empty
import Derived.Shelf.Strconv.ParseUint10Any
import Derived.Shelf.Strconv.ParseInt10
import Derived.Shelf.Strconv.RangeError
import Derived.Shelf.Strconv.ToErrorRange
import Derived.Shelf.Strconv.ParseUintEmpty
import Derived.Shelf.Strconv.ParseUint10b64
import Derived.Shelf.Strconv.ParseUint10b32
import Derived.Shelf.Strconv.ParseUint10b16
import Derived.Shelf.Strconv.ParseUint10b8
import Derived.Shelf.Strconv.ParseUint10At
import Derived.Shelf.Strconv.ParseInt10At64
import Derived.Shelf.Strconv.ParseInt10At32
import Derived.Shelf.Strconv.ParseInt10At16
import Derived.Shelf.Strconv.ParseInt10At8
import Derived.Shelf.Strconv.ParseInt10All
import Derived.Shelf.Strconv.ParseIntPublic10
import Derived.Shelf.Strconv.ErrVarParseInt
import Derived.Shelf.Strconv.AppendUint10
import Derived.Shelf.Strconv.AppendInt10
import Derived.Shelf.Strconv.AppendIntPublic10
import Derived.Shelf.Strings.Prefix
import Derived.Shelf.Bits.Mul64
import Derived.Shelf.Unicode.DecodeSlow
import Derived.Shelf.Unicode.DecodeAny
set_option linter.unusedSimpArgs false
set_option linter.unusedVariables false
set_option linter.unusedSectionVars false
set_option maxRecDepth 100000
set_option maxHeartbeats 8000000
namespace Go.Proofs.YtjebnpkebccffaaGreatDoor
open Go.RowKit Go.Proofs.Tryz
theorem aG0{w w':World}{b i:Nat}{v:Value}(hb:w'.heap[b]? = w.heap[b]?)(h:w.cell? ⟨b,i,none⟩=some v):w'.cell? ⟨b,i,none⟩=some v:=by
 rw[<- h];simp[World.cell?,hb]
theorem aA8{κ:Type}[DecidableEq κ]{enc:κ->Value}{w:World}{g r:Nat}{cs:Array Value}{T:TypeId}{fr:Nat×Nat}{l:List (κ×Value)}(h:w.heap[g]? = some (.cells cs T fr))(h2:MapIs enc w r l):g≠r:=by
 obtain⟨es,clock,h3,_⟩:=h2;intro e;subst e;rw[h]at h3;cases h3
theorem bZ1{w:World}{b i:Nat}{v:Value}(h:w.cell? ⟨b,i,none⟩=some v):b<w.heap.size:=by
 rcases Nat.lt_or_ge b w.heap.size with h'|h'
 ·exact h'
 ·have:w.heap[b]? = none:=Array.getElem?_eq_none h';simp[World.cell?,this]at h
theorem Lst.dlt{w:World}{d o r1 r2 r3:Nat}{l1 l2 tx}(h:Lst w d o r1 r2 r3 l1 l2 tx):d<w.heap.size:=bZ1 h.c0
theorem Lst.kept{S:Nat->Prop}{w w':World}{d o r1 r2 r3:Nat}{l1 l2 tx}(h:Lst w d o r1 r2 r3 l1 l2 tx)(hk:Kept S w w')(h0:¬ S d)(h1:¬ S r1)(h2:¬ S r2)(h3:¬ S r3)(h4:∀ g cs fr,w.heap[g]? = some (.cells cs 5 fr)->¬ S g):Lst w' d o r1 r2 r3 l1 l2 tx:=by
 have hd:=hk.block d h.dlt h0;refine⟨aG0 hd h.c0,aG0 hd h.c1,aG0 hd h.c2,h.m1.kept hk h1,h.m2.kept hk h2,?_,h.o1,h.o2,h.o3⟩;obtain⟨l3,m,R⟩:=h.m3;exact⟨l3,m.kept hk h3,R.mono (fun v t hb=>hb.kept hk h4)⟩
theorem Lst.same{w w':World}{d o r1 r2 r3:Nat}{l1 l2 tx}(h:Lst w d o r1 r2 r3 l1 l2 tx)(hk:Kept (fun _=>False) w w'):Lst w' d o r1 r2 r3 l1 l2 tx :=
 h.kept hk (fun f=>f) (fun f=>f) (fun f=>f) (fun f=>f) (fun _ _ _ _ f=>f)
theorem Tryz.und146:prog.underlying 146=some (.map 100 155):=by kernel_rfl
theorem Tryz.und147:prog.underlying 147=some (.map 155 100):=by kernel_rfl
theorem Tryz.und148:prog.underlying 148=some (.map 155 57):=by kernel_rfl
theorem cR5:KeyLaw' encS 100:=keyS 100 (by kernel_rfl)
theorem cR6(w:World)(s:ByteArray):∃ cap,(convert 100 57 (.string s)).run prog w=.ok (.slice (some ⟨w.heap.size,0,none⟩) s.size cap) (w.drew.alloc (.cells (bytesRow s cap) 5 ((bytesRow s cap).size,(bytesRow s cap).size+1)))/\BytesAt (w.drew.alloc (.cells (bytesRow s cap) 5 ((bytesRow s cap).size,(bytesRow s cap).size+1))) (.slice (some ⟨w.heap.size,0,none⟩) s.size cap) s:=by
 refine⟨_,run_bytes_of_string w 100 57 5 s (by kernel_rfl) underlying57 underlying5,⟨_,_,_,_,rfl,aA0 w.drew _,fun j hj=>?_⟩⟩;have hj':j<s.data.size:=hj;unfold bytesRow;rw[Array.getElem?_append_left (by simpa using hj')];rw[Array.getElem?_map,Array.getElem?_eq_getElem hj'];rfl
theorem bZ2{κ:Type}[DecidableEq κ](enc:κ->Value)(mty kt et:TypeId)(hm:prog.underlying mty=some (.map kt et))(K:KeyLaw' enc kt)(w:World)(r:Nat)(l:List (κ×Value))(h:MapIs enc w r l)(k:κ)(v:Value):
  ∃ w',(Instr.mapUpdate mty (.map (some r)) (enc k) v).run prog w=.ok () w'/\MapIs enc w' r (putM l k v)/\Kept (fun i=>i=r) w w'/\w'.heap.size=w.heap.size:=by
 obtain⟨es,clock,hrun,he⟩:=cL0 enc mty kt et hm K w r l h k v;have hr:=bF5 h;refine⟨_,hrun,⟨es,clock,?_,he⟩,⟨rfl,rfl,rfl,by simp,fun i hi hs=>?_⟩,by simp⟩
 ·show(w.heap.setIfInBounds r _)[r]? = _;simp[hr]
 ·show(w.heap.setIfInBounds r _)[i]? = _;rw[Array.getElem?_setIfInBounds,if_neg (fun e=>hs e.symm)]
theorem Lst.put1{w w':World}{d o r1 r2 r3:Nat}{l1 l1' l2 tx}(h:Lst w d o r1 r2 r3 l1 l2 tx)(hk:Kept (fun i=>i=r1) w w')(hm:MapIs encS w' r1 l1'):Lst w' d o r1 r2 r3 l1' l2 tx:=by
 have o1:=h.o1;have o2:=h.o2;have o3:=h.o3;have hd:=hk.block d h.dlt (by omega);obtain⟨l3,m,R⟩:=h.m3;exact⟨aG0 hd h.c0,aG0 hd h.c1,aG0 hd h.c2,hm,h.m2.kept hk (by omega),⟨l3,m.kept hk (by omega),R.mono (fun v t hb=>hb.kept hk (fun g cs fr hg=>aA8 hg h.m1))⟩,o1,o2,o3⟩
theorem Lst.put2{w w':World}{d o r1 r2 r3:Nat}{l1 l2 l2' tx}(h:Lst w d o r1 r2 r3 l1 l2 tx)(hk:Kept (fun i=>i=r2) w w')(hm:MapIs encP w' r2 l2'):Lst w' d o r1 r2 r3 l1 l2' tx:=by
 have o1:=h.o1;have o2:=h.o2;have o3:=h.o3;have hd:=hk.block d h.dlt (by omega);obtain⟨l3,m,R⟩:=h.m3;exact⟨aG0 hd h.c0,aG0 hd h.c1,aG0 hd h.c2,h.m1.kept hk (by omega),hm,⟨l3,m.kept hk (by omega),R.mono (fun v t hb=>hb.kept hk (fun g cs fr hg=>aA8 hg h.m2))⟩,o1,o2,o3⟩
def dK8(w:World)(d o r1 r2 r3:Nat)(l1:List (ByteArray×Value))(l2:List ((Int×Int)×Value))(tx:List ((Int×Int)×ByteArray))(s:ByteArray)(p:Int×Int)(e:Ending)(w':World):Prop :=
 e=.returned (.tuple #[])/\Lst w' d o r1 r2 r3 (putM l1 s (encP p)) (putM l2 p (.string s)) (putT tx p s)/\Kept (fun i=>i=r1\/i=r2\/i=r3) w w'
structure AddFacts (w1:World) (q d o r1 r2 r3:Nat) (s:ByteArray) (p:Int×Int) (w2 w3 w4 w5:World) (cap:Nat):Prop where
 hu1:(Instr.mapUpdate 146 (.map (some r1)) (.string s) (.agg #[.int .i32 p.1,.int .i32 p.2])).run prog w1.drew=.ok () w2
 hu2:(Instr.mapUpdate 147 (.map (some r2)) (.agg #[.int .i32 p.1,.int .i32 p.2]) (.string s)).run prog w2.drew=.ok () w3
 hcv:(convert 100 57 (.string s)).run prog w3.drew=.ok (.slice (some ⟨w3.heap.size,0,none⟩) s.size cap) w4
 hu3:(Instr.mapUpdate 148 (.map (some r3)) (.agg #[.int .i32 p.1,.int .i32 p.2]) (.slice (some ⟨w3.heap.size,0,none⟩) s.size cap)).run prog w4=.ok () w5
 c0:w1.drew.cell? ⟨d,o,none⟩=some (.map (some r1))
 c0':w1.cell? ⟨d,o,none⟩=some (.map (some r1))
 c1':w1.cell? ⟨d,o+1,none⟩=some (.map (some r2))
 c2':w1.cell? ⟨d,o+2,none⟩=some (.map (some r3))
 c1:w2.drew.cell? ⟨d,o+1,none⟩=some (.map (some r2))
 c2:w3.drew.cell? ⟨d,o+2,none⟩=some (.map (some r3))
 c3:w4.cell? ⟨d,o+2,none⟩=some (.map (some r3))
 p10:w1.drew.cell? ⟨q,0,none⟩=some (.int .i32 p.1)
 p11:w1.drew.cell? ⟨q,1,none⟩=some (.int .i32 p.2)
 p20:w2.drew.cell? ⟨q,0,none⟩=some (.int .i32 p.1)
 p21:w2.drew.cell? ⟨q,1,none⟩=some (.int .i32 p.2)
 p30:w3.drew.cell? ⟨q,0,none⟩=some (.int .i32 p.1)
 p31:w3.drew.cell? ⟨q,1,none⟩=some (.int .i32 p.2)
 p40:w4.cell? ⟨q,0,none⟩=some (.int .i32 p.1)
 p41:w4.cell? ⟨q,1,none⟩=some (.int .i32 p.2)
theorem bR8(w1:World)(q d o r1 r2 r3:Nat)(l1:List (ByteArray×Value))(l2:List ((Int×Int)×Value))(tx:List ((Int×Int)×ByteArray))(s:ByteArray)(p:Int×Int)(L1:Lst w1 d o r1 r2 r3 l1 l2 tx)(hbx:w1.heap[q]? = some (.cells #[.int .i32 p.1,.int .i32 p.2] 155 (0,0))):
  ∃ w2 w3 w4 w5 cap,AddFacts w1 q d o r1 r2 r3 s p w2 w3 w4 w5 cap/\Lst w5 d o r1 r2 r3 (putM l1 s (encP p)) (putM l2 p (.string s)) (putT tx p s)/\Kept (fun i=>i=r1\/i=r2\/i=r3) w1 w5:=by
 have o1:=L1.o1;have o2:=L1.o2;have o3:=L1.o3;have L1d:Lst w1.drew d o r1 r2 r3 l1 l2 tx:=L1.same ((Kept.refl _ _).drew);obtain⟨w2,hu1,hm2,hk2,hs2⟩:=bZ2 encS 146 100 155 Tryz.und146 cR5 w1.drew r1 l1 L1d.m1 s (encP p);have L2:=L1d.put1 hk2 hm2;have L2d:Lst w2.drew d o r1 r2 r3 (putM l1 s (encP p)) l2 tx:=L2.same ((Kept.refl _ _).drew);obtain⟨w3,hu2,hm3,hk3,hs3⟩:=bZ2 encP 147 155 100 Tryz.und147 keyP w2.drew r2 l2 L2d.m2 p (.string s);have L3:=L2d.put2 hk3 hm3;obtain⟨cap,hcv,hba⟩:=cR6 w3.drew s;have K4:Kept (fun _=>False) w3 (w3.drew.drew.alloc (.cells (bytesRow s cap) 5 ((bytesRow s cap).size,(bytesRow s cap).size+1))):=(((Kept.refl _ w3).drew).drew).alloc _;have L4:=L3.same K4;have e4:w3.drew.heap.size=w3.heap.size:=rfl;generalize hw4:w3.drew.drew.alloc (.cells (bytesRow s cap) 5 ((bytesRow s cap).size,(bytesRow s cap).size+1))=w4 at *;obtain⟨l3,m3,R3⟩:=L4.m3;obtain⟨w5,hu3,hm5,hk5,hs5⟩:=bZ2 encP 148 155 57 Tryz.und148 keyP w4 r3 l3 m3 p (.slice (some ⟨w3.heap.size,0,none⟩) s.size cap);have kb:∀ v t,BytesAt w4 v t->BytesAt w5 v t:=fun v t hb=>hb.kept hk5 (fun g cs fr hg=>aA8 hg m3);have L5:Lst w5 d o r1 r2 r3 (putM l1 s (encP p)) (putM l2 p (.string s)) (putT tx p s):=by
  have hd:=hk5.block d L4.dlt (by omega);exact⟨aG0 hd L4.c0,aG0 hd L4.c1,aG0 hd L4.c2,L4.m1.kept hk5 (by omega),L4.m2.kept hk5 (by omega),⟨_,hm5,RelM.put (R3.mono kb) p (kb _ _ hba)⟩,o1,o2,o3⟩
 have KF:Kept (fun i=>i=r1\/i=r2\/i=r3) w1 w5:=by
  have a1:Kept (fun i=>i=r1) w1 w2:=((Kept.refl (fun _=>False) w1).drew).trans hk2 (fun _ _ f=>f.elim) (fun _ _ h=>h);have a2:Kept (fun i=>i=r1\/i=r2) w1 w3:=(a1.drew).trans hk3 (fun _ _ h=>Or.inl h) (fun _ _ h=>Or.inr h);have a3:Kept (fun i=>i=r1\/i=r2) w1 w4:=a2.trans K4 (fun _ _ h=>h) (fun _ _ f=>f.elim);exact a3.trans hk5 (fun _ _ h=>by rcases h with h|h;exact Or.inl h;exact Or.inr (Or.inl h)) (fun _ _ h=>Or.inr (Or.inr h))
 have bx2:w2.heap[q]? = some (.cells #[.int .i32 p.1,.int .i32 p.2] 155 (0,0)):=hk2.at hbx (aA8 hbx L1.m1);have bx3:w3.heap[q]? = some (.cells #[.int .i32 p.1,.int .i32 p.2] 155 (0,0)):=hk3.at bx2 (aA8 bx2 L2.m2);have bx4:w4.heap[q]? = some (.cells #[.int .i32 p.1,.int .i32 p.2] 155 (0,0)):=K4.at bx3 (fun f=>f);simp only[encP,encS]at hu1 hu2 hu3;rw[e4]at hcv;refine⟨w2,w3,w4,w5,cap,⟨hu1,hu2,hcv,hu3,L1.c0,L1.c0,L1.c1,L1.c2,L2.c1,L3.c2,L4.c2,?_,?_,?_,?_,?_,?_,?_,?_⟩,L5,KF⟩
 ·show w1.cell? _=_;rw[aA2 hbx];rfl
 ·show w1.cell? _=_;rw[aA2 hbx];rfl
 ·show w2.cell? _=_;rw[aA2 bx2];rfl
 ·show w2.cell? _=_;rw[aA2 bx2];rfl
 ·show w3.cell? _=_;rw[aA2 bx3];rfl
 ·show w3.cell? _=_;rw[aA2 bx3];rfl
 ·rw[aA2 bx4];rfl
 ·rw[aA2 bx4];rfl
theorem aB7(d o r1 r2 r3:Nat)(l1:List (ByteArray×Value))(l2:List ((Int×Int)×Value))(tx:List ((Int×Int)×ByteArray))(s:ByteArray)(p:Int×Int)(w:World)(h:Lst w d o r1 r2 r3 l1 l2 tx):
  Calls prog 89 #[.pointer (some ⟨d,o,none⟩),.string s,encP p] w (dK8 w d o r1 r2 r3 l1 l2 tx s p):=by
 have K1:Kept (fun _=>False) w (w.alloc (.cells #[.int .i32 p.1,.int .i32 p.2] 155)):=(Kept.refl _ _).alloc _;have L1:=h.same K1;have hbx:(w.alloc (.cells #[.int .i32 p.1,.int .i32 p.2] 155)).heap[w.heap.size]? = some (.cells #[.int .i32 p.1,.int .i32 p.2] 155 (0,0)):=aA0 _ _;generalize hw1:w.alloc (.cells #[.int .i32 p.1,.int .i32 p.2] 155)=w1 at *;obtain⟨w2,w3,w4,w5,cap,F,L5,K5⟩:=bR8 w1 w.heap.size d o r1 r2 r3 l1 l2 tx s p L1 hbx;have b1:=fun w=>run_eql_map_nil (P:=prog) w 146 100 155 (some r1) Tryz.und146;have b2:=fun w=>run_eql_map_nil (P:=prog) w 147 155 100 (some r2) Tryz.und147;have b3:=fun w=>run_eql_map_nil (P:=prog) w 148 155 57 (some r3) Tryz.und148;have HF:Hid (dK8 w d o r1 r2 r3 l1 l2 tx s p (.returned (.tuple #[])) w5):=⟨rfl,L5,K1.trans K5 (fun _ _ f=>f.elim) (fun _ _ h=>h)⟩;obtain⟨hu1,hu2,hcv,hu3,hc0,hc0',hc1',hc2',hc1,hc2,hc3,p10,p11,p20,p21,p30,p31,p40,p41⟩:=F;clear L1 L5 K5 K1 hbx h;go_enter func89,ntmps89;simp only[encP];go_wp2_with fail
 go_region
 go_wp2_with fail
 go_region
 go_wp2_with fail
 go_region
 all_goals
  go_wp2_with fail
  go_end0
  exact HF.out
theorem cR7(t:TypeId)(w:World):(Instr.makeMap t none).run prog w=.ok (.map (some w.heap.size)) (w.alloc (.map #[] 0)):=by
 simp[Instr.makeMap,Result.andThen]
def cF4(w:World)(d o:Nat)(cs:Array Value)(s:ByteArray)(p:Int×Int)(e:Ending)(w':World):Prop :=
 ∃ r1 r2 r3,e=.returned (.tuple #[])/\w.heap.size<=r1/\Lst w' d o r1 r2 r3 [(s,encP p)] [(p,.string s)] [(p,s)]/\Kept (fun i=>i=d) w w'/\w'.heap[d]? = some (.cells (((cs.setIfInBounds o (.map (some r1))).setIfInBounds (o+1) (.map (some r2))).setIfInBounds (o+2) (.map (some r3))) 152 (0,0))
theorem aS4(d o:Nat)(cs:Array Value)(s:ByteArray)(p:Int×Int)(w:World)(h:w.heap[d]? = some (.cells cs 152 (0,0)))(hs:o+2<cs.size)(h0:cs[o]? = some (.map none))(h1:cs[o+1]? = some (.map none))(h2:cs[o+2]? = some (.map none)):
  Calls prog 89 #[.pointer (some ⟨d,o,none⟩),.string s,encP p] w (cF4 w d o cs s p):=by
 have hd:=aB5 h;have KA:Kept (fun _=>False) w (w.alloc (.cells #[.int .i32 p.1,.int .i32 p.2] 155)):=(Kept.refl _ _).alloc _;have hbA:(w.alloc (.cells #[.int .i32 p.1,.int .i32 p.2] 155)).heap[w.heap.size]? = some (.cells #[.int .i32 p.1,.int .i32 p.2] 155 (0,0)):=aA0 _ _;have sA:(w.alloc (.cells #[.int .i32 p.1,.int .i32 p.2] 155)).heap.size=w.heap.size+1:=by simp
 generalize hwA:w.alloc (.cells #[.int .i32 p.1,.int .i32 p.2] 155)=wA at *;have dA:=KA.at h (fun f=>f)
 -- the three maps
 have KB:Kept (fun _=>False) wA (wA.alloc (.map #[] 0)):=(Kept.refl _ _).alloc _;have mB:MapIs encS (wA.alloc (.map #[] 0)) wA.heap.size []:=MapIs.new encS wA;have sB:(wA.alloc (.map #[] 0)).heap.size=w.heap.size+2:=by simp[sA]
 rw[sA]at mB;generalize hwB:wA.alloc (.map #[] 0)=wB at *;have dB:=KB.at dA (fun f=>f);have bB:=KB.at hbA (fun f=>f);have KC:Kept (fun i=>i=d) wB (wB.setCell ⟨d,o,none⟩ (.map (some (w.heap.size+1)))):=(Kept.refl _ _).setCell _ _ (fun _=>rfl);have dC:=aA3 dB o (.map (some (w.heap.size+1)));have sC:(wB.setCell ⟨d,o,none⟩ (.map (some (w.heap.size+1)))).heap.size=w.heap.size+2:=by simpa using sB
 generalize hwC:wB.setCell ⟨d,o,none⟩ (.map (some (w.heap.size+1)))=wC at *;have bC:=KC.at bB (by omega);have mC:=mB.kept KC (by omega);have KD:Kept (fun _=>False) wC (wC.alloc (.map #[] 0)):=(Kept.refl _ _).alloc _;have mD:MapIs encP (wC.alloc (.map #[] 0)) wC.heap.size []:=MapIs.new encP wC;have sD:(wC.alloc (.map #[] 0)).heap.size=w.heap.size+3:=by simp[sC]
 rw[sC]at mD;generalize hwD:wC.alloc (.map #[] 0)=wD at *;have dD:=KD.at dC (fun f=>f);have bD:=KD.at bC (fun f=>f);have m1D:=mC.kept KD (fun f=>f);have KE:Kept (fun i=>i=d) wD (wD.setCell ⟨d,o+1,none⟩ (.map (some (w.heap.size+2)))):=(Kept.refl _ _).setCell _ _ (fun _=>rfl);have dE:=aA3 dD (o+1) (.map (some (w.heap.size+2)));have sE:(wD.setCell ⟨d,o+1,none⟩ (.map (some (w.heap.size+2)))).heap.size=w.heap.size+3:=by simpa using sD
 generalize hwE:wD.setCell ⟨d,o+1,none⟩ (.map (some (w.heap.size+2)))=wE at *;have bE:=KE.at bD (by omega);have m1E:=m1D.kept KE (by omega);have m2E:=mD.kept KE (by omega);have KG:Kept (fun _=>False) wE (wE.alloc (.map #[] 0)):=(Kept.refl _ _).alloc _;have mG:MapIs encP (wE.alloc (.map #[] 0)) wE.heap.size []:=MapIs.new encP wE;have sG:(wE.alloc (.map #[] 0)).heap.size=w.heap.size+4:=by simp[sE]
 rw[sE]at mG;generalize hwG:wE.alloc (.map #[] 0)=wG at *;have dG:=KG.at dE (fun f=>f);have bG:=KG.at bE (fun f=>f);have m1G:=m1E.kept KG (fun f=>f);have m2G:=m2E.kept KG (fun f=>f);have KH:Kept (fun i=>i=d) wG (wG.setCell ⟨d,o+2,none⟩ (.map (some (w.heap.size+3)))):=(Kept.refl _ _).setCell _ _ (fun _=>rfl);have dH:=aA3 dG (o+2) (.map (some (w.heap.size+3)));generalize hwH:wG.setCell ⟨d,o+2,none⟩ (.map (some (w.heap.size+3)))=wH at *;have bH:=KH.at bG (by omega);have m1H:=m1G.kept KH (by omega);have m2H:=m2G.kept KH (by omega);have m3H:=mG.kept KH (by omega);have KAll:Kept (fun i=>i=d) w wH:=by
  have a1:Kept (fun i=>i=d) w wC:=(KA.trans KB (fun _ _ f=>f.elim) (fun _ _ f=>f.elim):Kept (fun _=>False) w wB).trans KC (fun _ _ f=>f.elim) (fun _ _ h=>h);have a2:Kept (fun i=>i=d) w wE:=(a1.trans KD (fun _ _ h=>h) (fun _ _ f=>f.elim):Kept (fun i=>i=d) w wD).same KE;exact(a2.trans KG (fun _ _ h=>h) (fun _ _ f=>f.elim):Kept (fun i=>i=d) w wG).same KH
 have LH:Lst wH d o (w.heap.size+1) (w.heap.size+2) (w.heap.size+3) [] [] []:=by
  refine⟨?_,?_,?_,m1H,m2H,⟨[],m3H,trivial⟩,by omega,by omega,by omega⟩
  ·rw[aA2 dH];simp[Array.getElem?_setIfInBounds];omega
  ·rw[aA2 dH];simp[Array.getElem?_setIfInBounds];omega
  ·rw[aA2 dH];simp[Array.getElem?_setIfInBounds];omega
 obtain⟨w2,w3,w4,w5,cap,F,L5,K5⟩:=bR8 wH w.heap.size d o (w.heap.size+1) (w.heap.size+2) (w.heap.size+3) [] [] [] s p LH bH;have d5:=K5.at dH (by omega);have HF:Hid (cF4 w d o cs s p (.returned (.tuple #[])) w5):=⟨_,_,_,rfl,by omega,L5,KAll.trans K5 (fun _ _ h=>h) (fun _ hi h=>by omega),d5⟩;obtain⟨hu1,hu2,hcv,hu3,hc0,hc0',hc1',hc2',hc1,hc2,hc3,p10,p11,p20,p21,p30,p31,p40,p41⟩:=F;have cA:wA.cell? ⟨d,o,none⟩=some (.map none):=by rw[aA2 dA];exact h0
 have cB:wB.cell? ⟨d,o,none⟩=some (.map none):=by rw[aA2 dB];exact h0
 have fB:=aA1 dB o;have cC:wC.cell? ⟨d,o+1,none⟩=some (.map none):=by rw[aA2 dC,Array.getElem?_setIfInBounds,if_neg (by omega)];exact h1
 have cD:wD.cell? ⟨d,o+1,none⟩=some (.map none):=by rw[aA2 dD,Array.getElem?_setIfInBounds,if_neg (by omega)];exact h1
 have fD:=aA1 dD (o+1);have cE:wE.cell? ⟨d,o+2,none⟩=some (.map none):=by rw[aA2 dE,Array.getElem?_setIfInBounds,if_neg (by omega),Array.getElem?_setIfInBounds,if_neg (by omega)];exact h2
 have cG:wG.cell? ⟨d,o+2,none⟩=some (.map none):=by rw[aA2 dG,Array.getElem?_setIfInBounds,if_neg (by omega),Array.getElem?_setIfInBounds,if_neg (by omega)];exact h2
 have fG:=aA1 dG (o+2);have b1:=fun w=>run_eql_map_nil (P:=prog) w 146 100 155 none Tryz.und146;have b2:=fun w=>run_eql_map_nil (P:=prog) w 147 155 100 none Tryz.und147;have b3:=fun w=>run_eql_map_nil (P:=prog) w 148 155 57 none Tryz.und148;have k1:(Instr.makeMap 146 none).run prog wA=.ok (.map (some (w.heap.size+1))) wB:=by rw[cR7,hwB,sA]
 have k2:(Instr.makeMap 147 none).run prog wC=.ok (.map (some (w.heap.size+2))) wD:=by rw[cR7,hwD,sC]
 have k3:(Instr.makeMap 148 none).run prog wE=.ok (.map (some (w.heap.size+3))) wG:=by rw[cR7,hwG,sE]
 clear KA KB KC KD KE KG KH KAll LH L5 K5 m1H m2H m3H m1G m2G mG m1E m2E m1D mD mC mB dA dB dC dD dE dG dH d5 bB bC bD bE bG bH hbA h0 h1 h2 h hs hd;go_enter func89,ntmps89;simp only[encP];go_wp2_with fail
 go_region
 go_wp2_with fail
 go_region
 go_wp2_with fail
 go_region
 all_goals
  go_wp2_with fail
  go_end0
  exact HF.out
def binE:List (ByteArray×(Int×Int)):=[(⟨#[75,105]⟩,(2,10)),(⟨#[77,105]⟩,(2,20)),(⟨#[71,105]⟩,(2,30)),(⟨#[84,105]⟩,(2,40)),(⟨#[80,105]⟩,(2,50)),(⟨#[69,105]⟩,(2,60))]
def decE:List (ByteArray×(Int×Int)):=[(⟨#[]⟩,(2,0)),(⟨#[110]⟩,(10,-9)),(⟨#[117]⟩,(10,-6)),(⟨#[109]⟩,(10,-3)),(⟨#[]⟩,(10,0)),(⟨#[107]⟩,(10,3)),(⟨#[77]⟩,(10,6)),(⟨#[71]⟩,(10,9)),(⟨#[84]⟩,(10,12)),(⟨#[80]⟩,(10,15)),(⟨#[69]⟩,(10,18))]
def sufS(E:List (ByteArray×(Int×Int))):List (ByteArray×Value):=E.foldl (fun l x=>putM l x.1 (encP x.2)) []
def sufP(E:List (ByteArray×(Int×Int))):List ((Int×Int)×Value):=E.foldl (fun l x=>putM l x.2 (.string x.1)) []
def sufT(E:List (ByteArray×(Int×Int))):List ((Int×Int)×ByteArray):=E.foldl (fun l x=>putT l x.2 x.1) []
def Suffixer(w:World)(d:Nat):Prop:=∃ r1 r2 r3 s1 s2 s3,Lst w d 3 r1 r2 r3 (sufS binE) (sufP binE) (sufT binE)/\Lst w d 0 s1 s2 s3 (sufS decE) (sufP decE) (sufT decE)
theorem Lst.other{w w':World}{d o r1 r2 r3:Nat}{l1 l2 tx}{cs cs':Array Value}(h:Lst w d o r1 r2 r3 l1 l2 tx)(hk:Kept (fun i=>i=d) w w')(h1:w.heap[d]? = some (.cells cs 152 (0,0)))(h2:w'.heap[d]? = some (.cells cs' 152 (0,0)))(e0:cs'[o]? = cs[o]?)(e1:cs'[o+1]? = cs[o+1]?)(e2:cs'[o+2]? = cs[o+2]?):Lst w' d o r1 r2 r3 l1 l2 tx:=by
 have o1:=h.o1;have o2:=h.o2;have o3:=h.o3;obtain⟨l3,m,R⟩:=h.m3;have c0:=h.c0;have c1:=h.c1;have c2:=h.c2;rw[aA2 h1]at c0 c1 c2;refine⟨by rw[aA2 h2,e0,c0],by rw[aA2 h2,e1,c1],by rw[aA2 h2,e2,c2],h.m1.kept hk (by omega),h.m2.kept hk (by omega),⟨l3,m.kept hk (by omega),R.mono (fun v t hb=>hb.kept hk (fun g cs0 fr hg e=>?_))⟩,o1,o2,o3⟩;subst e;rw[h1]at hg;injection hg with hg;injection hg with _ hg _;exact absurd hg (by decide)
theorem cF5(a b:Int)(w:World):(Instr.build 155 #[(0,.int .i32 a),(1,.int .i32 b)]).run prog w=.ok (.agg #[.int .i32 a,.int .i32 b]) w:=run_build w 155 _ _ (by kernel_rfl)
theorem dB7(w:World):(Instr.build 152 #[]).run prog w=.ok (.agg #[.map none,.map none,.map none,.map none,.map none,.map none]) w:=run_build w 152 _ _ (by kernel_rfl)
theorem dB8(a:Option Addr)(w:World):(Instr.build 157 #[(0,.pointer a)]).run prog w=.ok (.agg #[.pointer a]) w:=run_build w 157 _ _ (by kernel_rfl)
def dW1(w:World)(e:Ending)(w':World):Prop:=∃ d,e=.returned (.iface 157 (.agg #[.pointer (some ⟨d,0,none⟩)]))/\w.heap.size<=d/\Suffixer w' d/\Kept (fun _=>False) w w'
theorem aC3(w:World):Calls prog 50 #[] w (dW1 w):=by
 have ka:Kept (fun _=>False) w (w.alloc (.cells #[.map none,.map none,.map none,.map none,.map none,.map none] 152)):=(Kept.refl _ _).alloc _;have ha:(w.alloc (.cells #[.map none,.map none,.map none,.map none,.map none,.map none] 152)).heap[w.heap.size]? = some (.cells #[.map none,.map none,.map none,.map none,.map none,.map none] 152 (0,0)):=aA0 _ _;have KA:=hiD ka;have HA:=hiD ha;have q1:=fun a b w=>cF5 a b w
 have q2:=fun w=>dB7 w
 have q3:=fun a w=>dB8 a w
 clear ka ha;go_enter func50,ntmps50;go_wp2_with fail;generalize hw0:w.alloc (.cells #[.map none,.map none,.map none,.map none,.map none,.map none] 152)=w0 at *;clear hw0;refine(aS4 w.heap.size 3 _ ⟨#[75,105]⟩ (2,10) w0 HA.out (by decide) rfl rfl rfl).mono ?_;rintro e w1 ⟨r1,r2,r3,rfl,g1,g2,g3,g4⟩;have o1:=g2.o1;have o2:=g2.o2;have o3:=g2.o3;have hz0:=KA.out.size;have K1:Hid (Kept (fun _=>False) w w1):=KA.out.trans g3 (fun _ _ f=>f) (fun i hi h=>by omega);have L1:=hiD g2;have D1:=hiD g4;clear g2 g3 g4 HA KA;go_wp2_with fail;refine(aB7 w.heap.size 3 r1 r2 r3 _ _ _ ⟨#[77,105]⟩ (2,20) w1 L1.out).mono ?_;rintro e w2 ⟨rfl,g2,g3⟩;have K2:Hid (Kept (fun _=>False) w w2):=K1.out.trans g3 (fun _ _ f=>f) (fun i hi h=>by omega);have D2:=hiD (g3.at D1.out (by omega));have L2:=hiD g2;clear g2 g3 L1 D1 K1;go_wp2_with fail;refine(aB7 w.heap.size 3 r1 r2 r3 _ _ _ ⟨#[71,105]⟩ (2,30) w2 L2.out).mono ?_;rintro e w3 ⟨rfl,g2,g3⟩;have K3:Hid (Kept (fun _=>False) w w3):=K2.out.trans g3 (fun _ _ f=>f) (fun i hi h=>by omega);have D3:=hiD (g3.at D2.out (by omega));have L3:=hiD g2;clear g2 g3 L2 D2 K2;go_wp2_with fail;refine(aB7 w.heap.size 3 r1 r2 r3 _ _ _ ⟨#[84,105]⟩ (2,40) w3 L3.out).mono ?_;rintro e w4 ⟨rfl,g2,g3⟩;have K4:Hid (Kept (fun _=>False) w w4):=K3.out.trans g3 (fun _ _ f=>f) (fun i hi h=>by omega);have D4:=hiD (g3.at D3.out (by omega));have L4:=hiD g2;clear g2 g3 L3 D3 K3;go_wp2_with fail;refine(aB7 w.heap.size 3 r1 r2 r3 _ _ _ ⟨#[80,105]⟩ (2,50) w4 L4.out).mono ?_;rintro e w5 ⟨rfl,g2,g3⟩;have K5:Hid (Kept (fun _=>False) w w5):=K4.out.trans g3 (fun _ _ f=>f) (fun i hi h=>by omega);have D5:=hiD (g3.at D4.out (by omega));have L5:=hiD g2;clear g2 g3 L4 D4 K4;go_wp2_with fail;refine(aB7 w.heap.size 3 r1 r2 r3 _ _ _ ⟨#[69,105]⟩ (2,60) w5 L5.out).mono ?_;rintro e w6 ⟨rfl,g2,g3⟩;have K6:Hid (Kept (fun _=>False) w w6):=K5.out.trans g3 (fun _ _ f=>f) (fun i hi h=>by omega);have D6:=hiD (g3.at D5.out (by omega));have L6:=hiD g2;clear g2 g3 L5 D5 K5;go_wp2_with fail;refine(aS4 w.heap.size 0 _ ⟨#[]⟩ (2,0) w6 D6.out (by simp) (by simp[Array.getElem?_setIfInBounds]) (by simp[Array.getElem?_setIfInBounds]) (by simp[Array.getElem?_setIfInBounds])).mono ?_;rintro e w7 ⟨s1,s2,s3,rfl,g1,g2,g3,g4⟩;have p1:=g2.o1;have p2:=g2.o2;have p3:=g2.o3;have hz1:=K6.out.size;have hr3:r3<w6.heap.size:=by obtain⟨l3,m,_⟩:=L6.out.m3;exact bF5 m
 have B7:Hid (Lst w7 w.heap.size 3 r1 r2 r3 _ _ _):=hiD (L6.out.other g3 D6.out g4 (by simp[Array.getElem?_setIfInBounds]) (by simp[Array.getElem?_setIfInBounds]) (by simp[Array.getElem?_setIfInBounds]));have K7:Hid (Kept (fun _=>False) w w7):=K6.out.trans g3 (fun _ _ f=>f) (fun i hi h=>by omega);have L7':=hiD g2;clear g2 g3 g4 D6 L6 K6;go_wp2_with fail;refine(aB7 w.heap.size 0 s1 s2 s3 _ _ _ ⟨#[110]⟩ (10,-9) w7 L7'.out).mono ?_;rintro e w8 ⟨rfl,g2,g3⟩;have K8:Hid (Kept (fun _=>False) w w8):=K7.out.trans g3 (fun _ _ f=>f) (fun i hi h=>by omega);have B8:Hid (Lst w8 w.heap.size 3 r1 r2 r3 _ _ _):=hiD (B7.out.kept g3 (by omega) (by omega) (by omega) (by omega) (fun g cs fr hg h=>by obtain⟨l3,m,_⟩:=L7'.out.m3;rcases h with h|h|h;exact aA8 hg L7'.out.m1 h;exact aA8 hg L7'.out.m2 h;exact aA8 hg m h));have L8':=hiD g2;clear g2 g3 L7' B7 K7;go_wp2_with fail;refine(aB7 w.heap.size 0 s1 s2 s3 _ _ _ ⟨#[117]⟩ (10,-6) w8 L8'.out).mono ?_;rintro e w9 ⟨rfl,g2,g3⟩;have K9:Hid (Kept (fun _=>False) w w9):=K8.out.trans g3 (fun _ _ f=>f) (fun i hi h=>by omega);have B9:Hid (Lst w9 w.heap.size 3 r1 r2 r3 _ _ _):=hiD (B8.out.kept g3 (by omega) (by omega) (by omega) (by omega) (fun g cs fr hg h=>by obtain⟨l3,m,_⟩:=L8'.out.m3;rcases h with h|h|h;exact aA8 hg L8'.out.m1 h;exact aA8 hg L8'.out.m2 h;exact aA8 hg m h));have L9':=hiD g2;clear g2 g3 L8' B8 K8;go_wp2_with fail;refine(aB7 w.heap.size 0 s1 s2 s3 _ _ _ ⟨#[109]⟩ (10,-3) w9 L9'.out).mono ?_;rintro e w10 ⟨rfl,g2,g3⟩;have K10:Hid (Kept (fun _=>False) w w10):=K9.out.trans g3 (fun _ _ f=>f) (fun i hi h=>by omega);have B10:Hid (Lst w10 w.heap.size 3 r1 r2 r3 _ _ _):=hiD (B9.out.kept g3 (by omega) (by omega) (by omega) (by omega) (fun g cs fr hg h=>by obtain⟨l3,m,_⟩:=L9'.out.m3;rcases h with h|h|h;exact aA8 hg L9'.out.m1 h;exact aA8 hg L9'.out.m2 h;exact aA8 hg m h));have L10':=hiD g2;clear g2 g3 L9' B9 K9;go_wp2_with fail;refine(aB7 w.heap.size 0 s1 s2 s3 _ _ _ ⟨#[]⟩ (10,0) w10 L10'.out).mono ?_;rintro e w11 ⟨rfl,g2,g3⟩;have K11:Hid (Kept (fun _=>False) w w11):=K10.out.trans g3 (fun _ _ f=>f) (fun i hi h=>by omega);have B11:Hid (Lst w11 w.heap.size 3 r1 r2 r3 _ _ _):=hiD (B10.out.kept g3 (by omega) (by omega) (by omega) (by omega) (fun g cs fr hg h=>by obtain⟨l3,m,_⟩:=L10'.out.m3;rcases h with h|h|h;exact aA8 hg L10'.out.m1 h;exact aA8 hg L10'.out.m2 h;exact aA8 hg m h));have L11':=hiD g2;clear g2 g3 L10' B10 K10;go_wp2_with fail;refine(aB7 w.heap.size 0 s1 s2 s3 _ _ _ ⟨#[107]⟩ (10,3) w11 L11'.out).mono ?_;rintro e w12 ⟨rfl,g2,g3⟩;have K12:Hid (Kept (fun _=>False) w w12):=K11.out.trans g3 (fun _ _ f=>f) (fun i hi h=>by omega);have B12:Hid (Lst w12 w.heap.size 3 r1 r2 r3 _ _ _):=hiD (B11.out.kept g3 (by omega) (by omega) (by omega) (by omega) (fun g cs fr hg h=>by obtain⟨l3,m,_⟩:=L11'.out.m3;rcases h with h|h|h;exact aA8 hg L11'.out.m1 h;exact aA8 hg L11'.out.m2 h;exact aA8 hg m h));have L12':=hiD g2;clear g2 g3 L11' B11 K11;go_wp2_with fail;refine(aB7 w.heap.size 0 s1 s2 s3 _ _ _ ⟨#[77]⟩ (10,6) w12 L12'.out).mono ?_;rintro e w13 ⟨rfl,g2,g3⟩;have K13:Hid (Kept (fun _=>False) w w13):=K12.out.trans g3 (fun _ _ f=>f) (fun i hi h=>by omega);have B13:Hid (Lst w13 w.heap.size 3 r1 r2 r3 _ _ _):=hiD (B12.out.kept g3 (by omega) (by omega) (by omega) (by omega) (fun g cs fr hg h=>by obtain⟨l3,m,_⟩:=L12'.out.m3;rcases h with h|h|h;exact aA8 hg L12'.out.m1 h;exact aA8 hg L12'.out.m2 h;exact aA8 hg m h));have L13':=hiD g2;clear g2 g3 L12' B12 K12;go_wp2_with fail;refine(aB7 w.heap.size 0 s1 s2 s3 _ _ _ ⟨#[71]⟩ (10,9) w13 L13'.out).mono ?_;rintro e w14 ⟨rfl,g2,g3⟩;have K14:Hid (Kept (fun _=>False) w w14):=K13.out.trans g3 (fun _ _ f=>f) (fun i hi h=>by omega);have B14:Hid (Lst w14 w.heap.size 3 r1 r2 r3 _ _ _):=hiD (B13.out.kept g3 (by omega) (by omega) (by omega) (by omega) (fun g cs fr hg h=>by obtain⟨l3,m,_⟩:=L13'.out.m3;rcases h with h|h|h;exact aA8 hg L13'.out.m1 h;exact aA8 hg L13'.out.m2 h;exact aA8 hg m h));have L14':=hiD g2;clear g2 g3 L13' B13 K13;go_wp2_with fail;refine(aB7 w.heap.size 0 s1 s2 s3 _ _ _ ⟨#[84]⟩ (10,12) w14 L14'.out).mono ?_;rintro e w15 ⟨rfl,g2,g3⟩;have K15:Hid (Kept (fun _=>False) w w15):=K14.out.trans g3 (fun _ _ f=>f) (fun i hi h=>by omega);have B15:Hid (Lst w15 w.heap.size 3 r1 r2 r3 _ _ _):=hiD (B14.out.kept g3 (by omega) (by omega) (by omega) (by omega) (fun g cs fr hg h=>by obtain⟨l3,m,_⟩:=L14'.out.m3;rcases h with h|h|h;exact aA8 hg L14'.out.m1 h;exact aA8 hg L14'.out.m2 h;exact aA8 hg m h));have L15':=hiD g2;clear g2 g3 L14' B14 K14;go_wp2_with fail;refine(aB7 w.heap.size 0 s1 s2 s3 _ _ _ ⟨#[80]⟩ (10,15) w15 L15'.out).mono ?_;rintro e w16 ⟨rfl,g2,g3⟩;have K16:Hid (Kept (fun _=>False) w w16):=K15.out.trans g3 (fun _ _ f=>f) (fun i hi h=>by omega);have B16:Hid (Lst w16 w.heap.size 3 r1 r2 r3 _ _ _):=hiD (B15.out.kept g3 (by omega) (by omega) (by omega) (by omega) (fun g cs fr hg h=>by obtain⟨l3,m,_⟩:=L15'.out.m3;rcases h with h|h|h;exact aA8 hg L15'.out.m1 h;exact aA8 hg L15'.out.m2 h;exact aA8 hg m h));have L16':=hiD g2;clear g2 g3 L15' B15 K15;go_wp2_with fail;refine(aB7 w.heap.size 0 s1 s2 s3 _ _ _ ⟨#[69]⟩ (10,18) w16 L16'.out).mono ?_;rintro e w17 ⟨rfl,g2,g3⟩;have K17:Hid (Kept (fun _=>False) w w17):=K16.out.trans g3 (fun _ _ f=>f) (fun i hi h=>by omega);have B17:Hid (Lst w17 w.heap.size 3 r1 r2 r3 _ _ _):=hiD (B16.out.kept g3 (by omega) (by omega) (by omega) (by omega) (fun g cs fr hg h=>by obtain⟨l3,m,_⟩:=L16'.out.m3;rcases h with h|h|h;exact aA8 hg L16'.out.m1 h;exact aA8 hg L16'.out.m2 h;exact aA8 hg m h));have L17':=hiD g2;clear g2 g3 L16' B16 K16;go_wp2_with fail;go_ret;exact⟨w.heap.size,rfl,by omega,⟨r1,r2,r3,s1,s2,s3,B17.out,L17'.out⟩,K17.out⟩
theorem dO0(w:World):(zeroValue 155).run prog w=.ok (.agg #[.int .i32 0,.int .i32 0]) w:=by kernel_rfl
theorem dW2(w:World):(zeroValue 57).run prog w=.ok (.slice none 0 0) w:=by kernel_rfl
theorem aO5(d o r1 r2 r3:Nat)(l1:List (ByteArray×Value))(l2:List ((Int×Int)×Value))(tx:List ((Int×Int)×ByteArray))(s:ByteArray)(w:World)(h:Lst w d o r1 r2 r3 l1 l2 tx)(a b:Int)(ok:Bool)(hl:((lkp l1 s 0).map (·.2)).getD (.agg #[.int .i32 0,.int .i32 0])=encP (a,b)/\(lkp l1 s 0).isSome=ok)(h0:ok=false->a=0/\b=0):
  Calls prog 330 #[.pointer (some ⟨d,o,none⟩),.string s] w fun e w'=>e=.returned (.tuple #[.int .i32 a,.int .i32 b,.bool ok])/\Kept (fun _=>False) w w':=by
 have hc:=h.c0;have hk:=cF3 encS 146 100 155 Tryz.und146 cR5 w r1 l1 h.m1 s (.agg #[.int .i32 0,.int .i32 0]) (dO0 w);rw[hl.1,hl.2]at hk;simp only[encS,encP]at hk;have K1:Kept (fun _=>False) w (w.alloc (.cells #[.int .i32 0,.int .i32 0] 155)):=(Kept.refl _ _).alloc _;have n1:=aA0 w (.cells #[.int .i32 0,.int .i32 0] 155);have f0:=aA1 n1 0;have f1:(w.alloc (.cells #[.int .i32 0,.int .i32 0] 155)).frozen? ⟨w.heap.size,1,none⟩=false:=aA1 n1 1;have n2:=aA0 w (.cells #[.int .i32 a,.int .i32 b] 155);have c0:(w.alloc (.cells #[.int .i32 a,.int .i32 b] 155)).drew.cell? ⟨w.heap.size,0,none⟩=some (.int .i32 a):=by show(w.alloc _).cell? _=_;rw[aA2 n2];rfl
 have c1:(w.alloc (.cells #[.int .i32 a,.int .i32 b] 155)).drew.cell? ⟨w.heap.size,1,none⟩=some (.int .i32 b):=by show(w.alloc _).cell? _=_;rw[aA2 n2];rfl
 have K2:Kept (fun _=>False) w (w.alloc (.cells #[.int .i32 a,.int .i32 b] 155)):=(Kept.refl _ _).alloc _;clear hl h n1 n2;cases ok with
 | true =>
  go_enter func330,ntmps330;go_wp2_with fail
  go_quiet (fail)
  go_wp2_with fail;go_ret3;exact⟨rfl,K2.drewN _⟩
 | false =>
  obtain⟨rfl,rfl⟩:=h0 rfl;go_enter func330,ntmps330;go_wp2_with fail;go_ret3;exact⟨rfl,K2⟩
end Go.Proofs.YtjebnpkebccffaaGreatDoor
namespace Go.Proofs
open Go.Proofs.Tryz
open Go.Shelf
def Tryz.lays125_ren:Go.Shelf.Ren:=⟨fun|125=>273|128=>287|129=>281|n=>n,fun|46=>120|3=>3|51=>329|53=>79|4=>4|5=>5|9=>9|n=>n,fun|n=>n⟩
theorem Tryz.lays125:Go.Proofs.Lays.n125 prog Tryz.lays125_ren:={
 mixed:=by kernel_rfl
 f125:=func273.trans (congrArg some (by kernel_rfl))
 f128:=func287.trans (congrArg some (by kernel_rfl))
 f129:=func281.trans (congrArg some (by kernel_rfl))
 t3:=underlying3
 a3:=Tryz.isAgg3
 z3:=Tryz.sizeOf3
 v3:=Tryz.zeroValue3
 t4:=underlying4
 a4:=Tryz.isAgg4
 z4:=Tryz.sizeOf4
 v4:=Tryz.zeroValue4
 t5:=underlying5
 a5:=Tryz.isAgg5
 z5:=Tryz.sizeOf5
 v5:=Tryz.zeroValue5
 t9:=underlying9
 a9:=Tryz.isAgg9
 z9:=Tryz.sizeOf9
 v9:=Tryz.zeroValue9
 t46:=underlying120
 a46:=Tryz.isAgg120
 z46:=Tryz.sizeOf120
 v46:=Tryz.zeroValue120
 t51:=underlying329
 a51:=Tryz.isAgg329
 z51:=Tryz.sizeOf329
 v51:=Tryz.zeroValue329
 t53:=underlying79
 a53:=Tryz.isAgg79
 z53:=Tryz.sizeOf79
 v53:=Tryz.zeroValue79 }
theorem Tryz.bits_Len(x:Int)(w:World)(h0:0<=x)(h1:x<=18446744073709551615):
  Calls prog 273 #[.int .u64 x] w fun e w'=>e=.returned (.int .i64 (Lib.bitLen x.toNat))/\w'=w:=Any.bits_Len Tryz.lays125 x w h0 h1
def Tryz.lays134_ren:Go.Shelf.Ren:=⟨fun|134=>291|129=>281|n=>n,fun|53=>79|3=>3|4=>4|46=>120|5=>5|9=>9|n=>n,fun|n=>n⟩
theorem Tryz.lays134:Go.Proofs.Lays.n134 prog Tryz.lays134_ren:={
 mixed:=by kernel_rfl
 f129:=func281.trans (congrArg some (by kernel_rfl))
 f134:=func291.trans (congrArg some (by kernel_rfl))
 t3:=underlying3
 a3:=Tryz.isAgg3
 z3:=Tryz.sizeOf3
 v3:=Tryz.zeroValue3
 t4:=underlying4
 a4:=Tryz.isAgg4
 z4:=Tryz.sizeOf4
 v4:=Tryz.zeroValue4
 t5:=underlying5
 a5:=Tryz.isAgg5
 z5:=Tryz.sizeOf5
 v5:=Tryz.zeroValue5
 t9:=underlying9
 a9:=Tryz.isAgg9
 z9:=Tryz.sizeOf9
 v9:=Tryz.zeroValue9
 t46:=underlying120
 a46:=Tryz.isAgg120
 z46:=Tryz.sizeOf120
 v46:=Tryz.zeroValue120
 t53:=underlying79
 a53:=Tryz.isAgg79
 z53:=Tryz.sizeOf79
 v53:=Tryz.zeroValue79 }
theorem Tryz.bits_LeadingZeros64(x:Int)(w:World)(h0:0<=x)(h1:x<=18446744073709551615):
  Calls prog 291 #[.int .u64 x] w fun e w'=>e=.returned (.int .i64 (64-(Lib.bitLen x.toNat:Int)))/\w'=w:=Any.bits_LeadingZeros64 Tryz.lays134 x w h0 h1
def Tryz.lays130_ren:Go.Shelf.Ren:=⟨fun|130=>248|125=>273|128=>287|129=>281|n=>n,fun|46=>120|3=>3|51=>329|53=>79|4=>4|5=>5|9=>9|n=>n,fun|n=>n⟩
theorem Tryz.lays130:Go.Proofs.Lays.n130 prog Tryz.lays130_ren:={
 mixed:=by kernel_rfl
 f125:=func273.trans (congrArg some (by kernel_rfl))
 f128:=func287.trans (congrArg some (by kernel_rfl))
 f129:=func281.trans (congrArg some (by kernel_rfl))
 f130:=func248.trans (congrArg some (by kernel_rfl))
 t3:=underlying3
 a3:=Tryz.isAgg3
 z3:=Tryz.sizeOf3
 v3:=Tryz.zeroValue3
 t4:=underlying4
 a4:=Tryz.isAgg4
 z4:=Tryz.sizeOf4
 v4:=Tryz.zeroValue4
 t5:=underlying5
 a5:=Tryz.isAgg5
 z5:=Tryz.sizeOf5
 v5:=Tryz.zeroValue5
 t9:=underlying9
 a9:=Tryz.isAgg9
 z9:=Tryz.sizeOf9
 v9:=Tryz.zeroValue9
 t46:=underlying120
 a46:=Tryz.isAgg120
 z46:=Tryz.sizeOf120
 v46:=Tryz.zeroValue120
 t51:=underlying329
 a51:=Tryz.isAgg329
 z51:=Tryz.sizeOf329
 v51:=Tryz.zeroValue329
 t53:=underlying79
 a53:=Tryz.isAgg79
 z53:=Tryz.sizeOf79
 v53:=Tryz.zeroValue79 }
theorem Tryz.bits_LeadingZeros(x:Int)(w:World)(h0:0<=x)(h1:x<=18446744073709551615):
  Calls prog 248 #[.int .u64 x] w fun e w'=>e=.returned (.int .i64 (64-(Lib.bitLen x.toNat:Int)))/\w'=w:=Any.bits_LeadingZeros Tryz.lays130 x w h0 h1
def Tryz.laysC174_ren:Go.Shelf.Ren:=⟨fun|174=>51|247=>90|245=>91|287=>124|279=>125|280=>126|281=>127|282=>128|321=>160|322=>161|316=>162|171=>163|205=>129|243=>198|246=>225|283=>253|284=>254|285=>255|286=>256|129=>281|317=>280|318=>282|319=>283|320=>242|337=>271|338=>272|n=>n,fun|9=>9|3=>3|2=>2|75=>68|85=>102|4=>4|167=>201|5=>5|53=>79|175=>202|46=>120|168=>204|37=>57|0=>0|210=>256|21=>21|127=>293|145=>259|143=>257|171=>347|173=>350|212=>374|51=>329|20=>20|213=>375|232=>380|233=>381|80=>285|n=>n,fun|15=>8|16=>9|17=>18|18=>20|19=>21|n=>n⟩
theorem Tryz.laysC174:Go.Proofs.LaysC.n174 prog Tryz.laysC174_ren:={
 mixed:=by kernel_rfl
 f129:=func281.trans (congrArg some (by kernel_rfl))
 f171:=func163.trans (congrArg some (by kernel_rfl))
 f174:=func51.trans (congrArg some (by kernel_rfl))
 f205:=func129.trans (congrArg some (by kernel_rfl))
 f243:=func198.trans (congrArg some (by kernel_rfl))
 f245:=func91.trans (congrArg some (by kernel_rfl))
 f246:=func225.trans (congrArg some (by kernel_rfl))
 f247:=func90.trans (congrArg some (by kernel_rfl))
 f279:=func125.trans (congrArg some (by kernel_rfl))
 f280:=func126.trans (congrArg some (by kernel_rfl))
 f281:=func127.trans (congrArg some (by kernel_rfl))
 f282:=func128.trans (congrArg some (by kernel_rfl))
 f283:=func253.trans (congrArg some (by kernel_rfl))
 f284:=func254.trans (congrArg some (by kernel_rfl))
 f285:=func255.trans (congrArg some (by kernel_rfl))
 f286:=func256.trans (congrArg some (by kernel_rfl))
 f287:=func124.trans (congrArg some (by kernel_rfl))
 f316:=func162.trans (congrArg some (by kernel_rfl))
 f317:=func280.trans (congrArg some (by kernel_rfl))
 f318:=func282.trans (congrArg some (by kernel_rfl))
 f319:=func283.trans (congrArg some (by kernel_rfl))
 f320:=func242.trans (congrArg some (by kernel_rfl))
 f321:=func160.trans (congrArg some (by kernel_rfl))
 f322:=func161.trans (congrArg some (by kernel_rfl))
 f337:=func271.trans (congrArg some (by kernel_rfl))
 f338:=func272.trans (congrArg some (by kernel_rfl))
 t0:=underlying0
 a0:=Tryz.isAgg0
 z0:=Tryz.sizeOf0
 v0:=Tryz.zeroValue0
 t2:=underlying2
 a2:=Tryz.isAgg2
 z2:=Tryz.sizeOf2
 v2:=Tryz.zeroValue2
 t3:=underlying3
 a3:=Tryz.isAgg3
 z3:=Tryz.sizeOf3
 v3:=Tryz.zeroValue3
 t4:=underlying4
 a4:=Tryz.isAgg4
 z4:=Tryz.sizeOf4
 v4:=Tryz.zeroValue4
 t5:=underlying5
 a5:=Tryz.isAgg5
 z5:=Tryz.sizeOf5
 v5:=Tryz.zeroValue5
 t9:=underlying9
 a9:=Tryz.isAgg9
 z9:=Tryz.sizeOf9
 v9:=Tryz.zeroValue9
 t20:=underlying20
 a20:=Tryz.isAgg20
 z20:=Tryz.sizeOf20
 v20:=Tryz.zeroValue20
 t21:=underlying21
 a21:=Tryz.isAgg21
 z21:=Tryz.sizeOf21
 v21:=Tryz.zeroValue21
 t37:=underlying57
 a37:=Tryz.isAgg57
 z37:=Tryz.sizeOf57
 v37:=Tryz.zeroValue57
 t46:=underlying120
 a46:=Tryz.isAgg120
 z46:=Tryz.sizeOf120
 v46:=Tryz.zeroValue120
 t51:=underlying329
 a51:=Tryz.isAgg329
 z51:=Tryz.sizeOf329
 v51:=Tryz.zeroValue329
 t53:=underlying79
 a53:=Tryz.isAgg79
 z53:=Tryz.sizeOf79
 v53:=Tryz.zeroValue79
 t75:=underlying68
 a75:=Tryz.isAgg68
 z75:=Tryz.sizeOf68
 v75:=Tryz.zeroValue68
 t85:=underlying102
 a85:=Tryz.isAgg102
 z85:=Tryz.sizeOf102
 v85:=Tryz.zeroValue102
 t127:=underlying293
 a127:=Tryz.isAgg293
 z127:=Tryz.sizeOf293
 v127:=Tryz.zeroValue293
 t143:=underlying257
 a143:=Tryz.isAgg257
 z143:=Tryz.sizeOf257
 v143:=Tryz.zeroValue257
 t145:=underlying259
 a145:=Tryz.isAgg259
 z145:=Tryz.sizeOf259
 v145:=Tryz.zeroValue259
 t167:=underlying201
 a167:=Tryz.isAgg201
 z167:=Tryz.sizeOf201
 v167:=Tryz.zeroValue201
 t168:=underlying204
 a168:=Tryz.isAgg204
 z168:=Tryz.sizeOf204
 v168:=Tryz.zeroValue204
 t171:=underlying347
 a171:=Tryz.isAgg347
 z171:=Tryz.sizeOf347
 v171:=Tryz.zeroValue347
 t173:=underlying350
 a173:=Tryz.isAgg350
 z173:=Tryz.sizeOf350
 v173:=Tryz.zeroValue350
 t175:=underlying202
 a175:=Tryz.isAgg202
 z175:=Tryz.sizeOf202
 v175:=Tryz.zeroValue202
 t210:=underlying256
 a210:=Tryz.isAgg256
 z210:=Tryz.sizeOf256
 v210:=Tryz.zeroValue256
 t212:=underlying374
 a212:=Tryz.isAgg374
 z212:=Tryz.sizeOf374
 v212:=Tryz.zeroValue374
 t213:=underlying375
 a213:=Tryz.isAgg375
 z213:=Tryz.sizeOf375
 t232:=underlying380
 a232:=Tryz.isAgg380
 z232:=Tryz.sizeOf380
 v232:=Tryz.zeroValue380
 t233:=underlying381
 a233:=Tryz.isAgg381
 z233:=Tryz.sizeOf381
 v233:=Tryz.zeroValue381
 g15:=by kernel_rfl
 g16:=by kernel_rfl
 g17:=by kernel_rfl
 g18:=by kernel_rfl
 g19:=by kernel_rfl
 t80:=underlying285
 a80:=Tryz.isAgg285
 z80:=Tryz.sizeOf285
 v80:=Tryz.zeroValue285
 i0:=by kernel_rfl
 i2:=by kernel_rfl
 i3:=by kernel_rfl
 i4:=by kernel_rfl
 i5:=by kernel_rfl
 i9:=by kernel_rfl
 i20:=by kernel_rfl
 i21:=by kernel_rfl
 i37:=by kernel_rfl
 i46:=by kernel_rfl
 i51:=by kernel_rfl
 i53:=by kernel_rfl
 i75:=by kernel_rfl
 i80:=by kernel_rfl
 i85:=by kernel_rfl
 i127:=by kernel_rfl
 i143:=by kernel_rfl
 i145:=by kernel_rfl
 i167:=by kernel_rfl
 i168:=by kernel_rfl
 i171:=by kernel_rfl
 i173:=by kernel_rfl
 i175:=by kernel_rfl
 i210:=by kernel_rfl
 i212:=by kernel_rfl
 i232:=by kernel_rfl
 i233:=by kernel_rfl
 m15:=by kernel_rfl
 m16:=by kernel_rfl
 m17:=by kernel_rfl
 m18:=by kernel_rfl
 m19:=by kernel_rfl
 c0:=by kernel_rfl
 c2:=by kernel_rfl
 c3:=by kernel_rfl
 c4:=by kernel_rfl
 c5:=by kernel_rfl
 c9:=by kernel_rfl
 c20:=by kernel_rfl
 c21:=by kernel_rfl
 c37:=by kernel_rfl
 c46:=by kernel_rfl
 c51:=by kernel_rfl
 c53:=by kernel_rfl
 c75:=by kernel_rfl
 c80:=by kernel_rfl
 c85:=by kernel_rfl
 c127:=by kernel_rfl
 c143:=by kernel_rfl
 c145:=by kernel_rfl
 c167:=by kernel_rfl
 c168:=by kernel_rfl
 c171:=by kernel_rfl
 c173:=by kernel_rfl
 c175:=by kernel_rfl
 c210:=by kernel_rfl
 c212:=by kernel_rfl
 c213:=by kernel_rfl
 c232:=by kernel_rfl
 c233:=by kernel_rfl }
open Go.RowKit in
theorem Tryz.strconv_ParseInt_10_at64_ok(s:ByteArray)(hmax:s.size<=9223372036854775806)(v:Int)(h:Lib.parseIntB 64 s.data.toList=.ok v)(w:World):
  Calls prog 51 #[.string s,.int .i64 10,.int .i64 64] w fun e w'=>e=.returned (.tuple #[.int .i64 v,.nilIface])/\(w'=w\/∃ t,w'=Lib.bytesWorld w 5 t):=Any.strconv_ParseInt_10_at64_ok Tryz.laysC174 s hmax v h w
def Tryz.lays100_ren:Go.Shelf.Ren:=⟨fun|100=>53|207=>92|n=>n,fun|9=>9|4=>4|3=>3|n=>n,fun|n=>n⟩
theorem Tryz.lays100:Go.Proofs.Lays.n100 prog Tryz.lays100_ren:={
 mixed:=by kernel_rfl
 f100:=func53.trans (congrArg some (by kernel_rfl))
 f207:=func92.trans (congrArg some (by kernel_rfl))
 t3:=underlying3
 a3:=Tryz.isAgg3
 z3:=Tryz.sizeOf3
 v3:=Tryz.zeroValue3
 t4:=underlying4
 a4:=Tryz.isAgg4
 z4:=Tryz.sizeOf4
 v4:=Tryz.zeroValue4
 t9:=underlying9
 a9:=Tryz.isAgg9
 z9:=Tryz.sizeOf9
 v9:=Tryz.zeroValue9 }
open Go.RowKit Go.Lib in
theorem Tryz.strings_HasSuffix(s p:ByteArray)(w:World)(hs:s.size<=9223372036854775807):
  Calls prog 53 #[.string s,.string p] w fun e w'=>e=.returned (.bool (Lib.hasSuffix s.data.toList p.data.toList))/\w'=w:=Any.strings_HasSuffix Tryz.lays100 s p w hs
def Tryz.lays212_ren:Go.Shelf.Ren:=⟨fun|212=>200|263=>228|264=>229|n=>n,fun|46=>120|51=>329|146=>330|53=>79|148=>332|n=>n,fun|n=>n⟩
theorem Tryz.lays212:Go.Proofs.Lays.n212 prog Tryz.lays212_ren:={
 mixed:=by kernel_rfl
 f212:=func200.trans (congrArg some (by kernel_rfl))
 f263:=func228.trans (congrArg some (by kernel_rfl))
 f264:=func229.trans (congrArg some (by kernel_rfl))
 t46:=underlying120
 a46:=Tryz.isAgg120
 z46:=Tryz.sizeOf120
 v46:=Tryz.zeroValue120
 t51:=underlying329
 a51:=Tryz.isAgg329
 z51:=Tryz.sizeOf329
 v51:=Tryz.zeroValue329
 t53:=underlying79
 a53:=Tryz.isAgg79
 z53:=Tryz.sizeOf79
 v53:=Tryz.zeroValue79
 t146:=underlying330
 a146:=Tryz.isAgg330
 z146:=Tryz.sizeOf330
 v146:=Tryz.zeroValue330
 t148:=underlying332
 a148:=Tryz.isAgg332
 z148:=Tryz.sizeOf332
 v148:=Tryz.zeroValue332 }
open Go.RowKit Go.Lib in
theorem Tryz.bits_Mul(x y:Nat)(hx:x<18446744073709551616)(hy:y<18446744073709551616)(w:World):
  Calls prog 200 #[.int .u64 x,.int .u64 y] w fun e w'=>e=.returned (.tuple #[.int .u64 ((x*y/18446744073709551616:Nat):Int),.int .u64 ((x*y%18446744073709551616:Nat):Int)])/\w'=w:=Any.bits_Mul Tryz.lays212 x y hx hy w
end Go.Proofs
namespace Go.Proofs.YtjebnpkebccffaaGreatDoor
open Go.RowKit Go.Proofs.Tryz
def fDec:Value:=.string ⟨#[68,101,99,105,109,97,108,83,73]⟩
def fBin:Value:=.string ⟨#[66,105,110,97,114,121,83,73]⟩
def fExp:Value:=.string ⟨#[68,101,99,105,109,97,108,69,120,112,111,110,101,110,116]⟩
def aK4(w:World)(b x:Int)(f:Value)(ok:Bool)(e:Ending)(w':World):Prop :=
 e=.returned (.tuple #[.int .i32 b,.int .i32 x,f,.bool ok])/\Kept (fun _=>False) w w'
theorem Lst.step{w w':World}{d o r1 r2 r3:Nat}{l1 l2 tx}(h:Hid (Lst w d o r1 r2 r3 l1 l2 tx))(hk:Kept (fun _=>False) w w'):Hid (Lst w' d o r1 r2 r3 l1 l2 tx):=h.out.same hk
theorem Suffixer.kept{w w':World}{d:Nat}(h:Suffixer w d)(hk:Kept (fun _=>False) w w'):Suffixer w' d:=by
 obtain⟨r1,r2,r3,s1,s2,s3,h1,h2⟩:=h;exact⟨r1,r2,r3,s1,s2,s3,h1.same hk,h2.same hk⟩
theorem aP8(d:Nat)(s:ByteArray)(w:World)(h:Suffixer w d)(a b:Int)(i:Nat)(hl:lkp (sufS decE) s 0=some (i,encP (a,b))):
  Calls prog 328 #[.pointer (some ⟨d,0,none⟩),.string s] w (aK4 w a b fDec true):=by
 obtain⟨r1,r2,r3,s1,s2,s3,h1,h2⟩:=h;have H2:=hiD h2;have HL:=hiD hl;clear h1 h2 hl;go_enter func328,ntmps328;go_wp2_with fail;refine(aO5 d 0 s1 s2 s3 _ _ _ s w H2.out a b true (by rw[HL.out];exact⟨rfl,rfl⟩) (fun h=>by cases h)).mono ?_;rintro e w1 ⟨rfl,hk⟩;go_wp2_with fail;refine bodyPost_ret (v:=.tuple #[.int .i32 a,.int .i32 b,fDec,.bool true]) ?_ rfl ⟨rfl,hk⟩;simp[results,Tryz.f328,loadVar,go_sem,fDec]
theorem aF7(d:Nat)(s:ByteArray)(w:World)(h:Suffixer w d)(a b:Int)(i:Nat)(h0:lkp (sufS decE) s 0=none)(hl:lkp (sufS binE) s 0=some (i,encP (a,b))):
  Calls prog 328 #[.pointer (some ⟨d,0,none⟩),.string s] w (aK4 w a b fBin true):=by
 obtain⟨r1,r2,r3,s1,s2,s3,h1,h2⟩:=h;have H1:=hiD h1;have H2:=hiD h2;have HL:=hiD hl;have HN:=hiD h0;clear h1 h2 hl h0;go_enter func328,ntmps328;go_wp2_with fail;refine(aO5 d 0 s1 s2 s3 _ _ _ s w H2.out 0 0 false (by rw[HN.out];exact⟨rfl,rfl⟩) (fun h=>⟨rfl,rfl⟩)).mono ?_;rintro e w1 ⟨rfl,hk⟩;have K1:=hiD hk;clear hk;go_wp2_with fail;refine(aO5 d 3 r1 r2 r3 _ _ _ s w1 (H1.out.same K1.out) a b true (by rw[HL.out];exact⟨rfl,rfl⟩) (fun h=>by cases h)).mono ?_;rintro e w2 ⟨rfl,hk⟩;go_wp2_with fail;refine bodyPost_ret (v:=.tuple #[.int .i32 a,.int .i32 b,fBin,.bool true]) ?_ rfl ⟨rfl,K1.out.same hk⟩;simp[results,Tryz.f328,loadVar,go_sem,fBin]
theorem bL8(d:Nat)(s:ByteArray)(w:World)(h:Suffixer w d)(hs:s.size<=281474976710656)(h0:lkp (sufS decE) s 0=none)(hl:lkp (sufS binE) s 0=none)(h1s:1<s.size)(hx:s[0].toNat=69\/s[0].toNat=101)(n:Int)(ok:Bool)(hP:∀ w1,Kept (fun _=>False) w w1->Calls prog 51 #[.string (s.extract 1 s.size),.int .i64 10,.int .i64 64] w1 fun e w'=>(∃ er,e=.returned (.tuple #[.int .i64 n,er])/\(ok=true->er=.nilIface)/\(ok=false->∃ t v,er=.iface t v))/\Kept (fun _=>False) w1 w')(b x:Int)(hb:ok=true->b=10/\x=IntKind.i32.wrap n)(hb':ok=false->b=0/\x=0):
  Calls prog 328 #[.pointer (some ⟨d,0,none⟩),.string s] w (aK4 w b x fExp ok):=by
 obtain⟨r1,r2,r3,s1,s2,s3,h1,h2⟩:=h;have H1:=hiD h1;have H2:=hiD h2;have HL:=hiD hl;have HN:=hiD h0;have HP:=hiD hP;have g3:decide ((1:Int)<(s.size:Int))=true:=decT (by omega);have hn:∀(t:TypeId) (v:Value) (w:World),(binOp .neq 68 (.iface t v) .nilIface).run prog w=.ok (.bool true) w:=fun t v w=>by kernel_rfl
 have hz0:0<s.size:=by omega
 generalize hc:s[0].toNat=c at hx;have HC:=hiD hc;clear h1 h2 hl h0 hP;go_enter func328,ntmps328;go_wp2_with fail;refine(aO5 d 0 s1 s2 s3 _ _ _ s w H2.out 0 0 false (by rw[HN.out];exact⟨rfl,rfl⟩) (fun h=>⟨rfl,rfl⟩)).mono ?_;rintro e w1 ⟨rfl,hk⟩;have K1:=hiD hk;clear hk;go_wp2_with fail;refine(aO5 d 3 r1 r2 r3 _ _ _ s w1 (H1.out.same K1.out) 0 0 false (by rw[HL.out];exact⟨rfl,rfl⟩) (fun h=>⟨rfl,rfl⟩)).mono ?_;rintro e w2 ⟨rfl,hk⟩;have K2:=hiD (K1.out.same hk);clear hk;have g1:((s[0].toNat:Int)==69)=(((c:Nat):Int)==69):=by rw[HC.out]
 have g2:((s[0].toNat:Int)==101)=(((c:Nat):Int)==101):=by rw[HC.out]
 rcases hx with hx|hx
 ·subst hx;go_wp2_with fail;refine(HP.out w2 K2.out).mono ?_;rintro e w3 ⟨⟨er,rfl,e1,e2⟩,hk⟩;cases ok with
  | true =>
   obtain rfl:=e1 rfl;obtain⟨rfl,rfl⟩:=hb rfl;go_wp2_with fail;refine bodyPost_ret (v:=.tuple #[.int .i32 10,.int .i32 (IntKind.i32.wrap n),fExp,.bool true]) ?_ rfl ⟨rfl,K2.out.same hk⟩;simp[results,Tryz.f328,loadVar,go_sem,fExp];rw[IntKind.wrap_i32];unfold wrap32;omega
  | false =>
   obtain⟨t,v,rfl⟩:=e2 rfl;obtain⟨rfl,rfl⟩:=hb' rfl;go_wp2_with fail;refine bodyPost_ret (v:=.tuple #[.int .i32 0,.int .i32 0,fExp,.bool false]) ?_ rfl ⟨rfl,K2.out.same hk⟩;simp[results,Tryz.f328,loadVar,go_sem,fExp]
 ·subst hx;go_wp2_with fail;refine(HP.out w2 K2.out).mono ?_;rintro e w3 ⟨⟨er,rfl,e1,e2⟩,hk⟩;cases ok with
  | true =>
   obtain rfl:=e1 rfl;obtain⟨rfl,rfl⟩:=hb rfl;go_wp2_with fail;refine bodyPost_ret (v:=.tuple #[.int .i32 10,.int .i32 (IntKind.i32.wrap n),fExp,.bool true]) ?_ rfl ⟨rfl,K2.out.same hk⟩;simp[results,Tryz.f328,loadVar,go_sem,fExp];rw[IntKind.wrap_i32];unfold wrap32;omega
  | false =>
   obtain⟨t,v,rfl⟩:=e2 rfl;obtain⟨rfl,rfl⟩:=hb' rfl;go_wp2_with fail;refine bodyPost_ret (v:=.tuple #[.int .i32 0,.int .i32 0,fExp,.bool false]) ?_ rfl ⟨rfl,K2.out.same hk⟩;simp[results,Tryz.f328,loadVar,go_sem,fExp]
theorem aG6(d:Nat)(s:ByteArray)(w:World)(b x:Int)(f:Value)(ok:Bool)(h:∀ w1,Kept (fun _=>False) w w1->Calls prog 328 #[.pointer (some ⟨d,0,none⟩),.string s] w1 (aK4 w1 b x f ok))(n0:s.toList.isEmpty=false)(n1:(s.toList==[110])=false)(n2:(s.toList==[117])=false)(n3:(s.toList==[109])=false)(n4:(s.toList==[107])=false)(n5:(s.toList==[77])=false)(n6:(s.toList==[71])=false):
  Calls prog 331 #[.agg #[.pointer (some ⟨d,0,none⟩)],.string s] w (aK4 w b x f ok):=by
 have k1:Kept (fun _=>False) w (w.alloc (.cells #[.pointer (some ⟨d,0,none⟩)] 157)):=(Kept.refl _ _).alloc _;have HC:=hiD (h _ k1);have K1:=hiD k1;have c0:(w.alloc (.cells #[.pointer (some ⟨d,0,none⟩)] 157)).cell? ⟨w.heap.size,0,none⟩=some (.pointer (some ⟨d,0,none⟩)):=by rw[aA2 (aA0 _ _)];rfl
 clear h k1;go_enter func331,ntmps331;go_wp2_with fail;refine HC.out.mono ?_;rintro e w1 ⟨rfl,hk⟩;go_wp2_with fail;refine bodyPost_ret (v:=.tuple #[.int .i32 b,.int .i32 x,f,.bool ok]) ?_ rfl ⟨rfl,K1.out.same hk⟩;simp[results,Tryz.f331,loadVar,go_sem]
theorem aX2(d:Nat)(w:World)(s:ByteArray)(x:Int)(hs:(s,x)∈([(⟨#[]⟩,0),(⟨#[110]⟩,-9),(⟨#[117]⟩,-6),(⟨#[109]⟩,-3),(⟨#[107]⟩,3),(⟨#[77]⟩,6),(⟨#[71]⟩,9)]:List (ByteArray×Int))):
  Calls prog 331 #[.agg #[.pointer (some ⟨d,0,none⟩)],.string s] w (aK4 w 10 x fDec true):=by
 have k1:Kept (fun _=>False) w (w.alloc (.cells #[.pointer (some ⟨d,0,none⟩)] 157)):=(Kept.refl _ _).alloc _;have K1:=hiD k1;clear k1;simp only[List.mem_cons,List.not_mem_nil,or_false,Prod.mk.injEq]at hs;rcases hs with⟨rfl,rfl⟩|⟨rfl,rfl⟩|⟨rfl,rfl⟩|⟨rfl,rfl⟩|⟨rfl,rfl⟩|⟨rfl,rfl⟩|⟨rfl,rfl⟩;all_goals
  go_enter func331,ntmps331;go_wp2_with fail;refine bodyPost_ret (v:=.tuple #[.int .i32 10,.int .i32 _,fDec,.bool true]) ?_ rfl ⟨rfl,K1.out⟩;simp[results,Tryz.f331,loadVar,go_sem,fDec]
def cR8(w:World)(t:ByteArray)(e:Ending)(w':World):Prop:=∃ v,e=.returned (.tuple #[v,.bool true])/\BytesAt w' v t/\Kept (fun _=>False) w w'
theorem cL1(d o r1 r2 r3:Nat)(l1:List (ByteArray×Value))(l2:List ((Int×Int)×Value))(tx:List ((Int×Int)×ByteArray))(a b:Int)(t:ByteArray)(w:World)(h:Lst w d o r1 r2 r3 l1 l2 tx)(hl:lkT tx (a,b)=some t):
  Calls prog 329 #[.pointer (some ⟨d,o,none⟩),.int .i32 a,.int .i32 b] w (cR8 w t):=by
 have hc:=h.c2;obtain⟨l3,m3,R3⟩:=h.m3;obtain⟨j,v,hv1,hv2⟩:=R3.look (a,b) hl 0;have hk:=cF3 encP 148 155 57 Tryz.und148 keyP w r3 l3 m3 (a,b) (.slice none 0 0) (dW2 w);rw[hv1]at hk;simp only[encP,Option.map_some,Option.getD_some,Option.isSome_some]at hk;have HV:=hiD hv2;have q1:=fun a b w=>cF5 a b w
 clear h m3 R3 hv1 hv2;go_enter func329,ntmps329;go_wp2_with fail;go_ret2;exact⟨v,rfl,HV.out,Kept.refl _ _⟩
theorem bL9(d:Nat)(a b:Int)(t:ByteArray)(w:World)(h:Suffixer w d)(hl:lkT (sufT binE) (a,b)=some t):
  Calls prog 327 #[.pointer (some ⟨d,0,none⟩),.int .i32 a,.int .i32 b,fBin] w (cR8 w t):=by
 obtain⟨r1,r2,r3,s1,s2,s3,h1,h2⟩:=h;have HC:=hiD (cL1 d 3 r1 r2 r3 _ _ _ a b t w h1 hl);clear h1 h2 hl;unfold fBin;go_enter func327,ntmps327;go_wp2_with fail;refine HC.out.mono ?_;rintro e w1 ⟨v,rfl,hb,hk⟩;go_wp2_with fail;go_ret2;exact⟨v,rfl,hb,hk⟩
theorem dW3(d:Nat)(w:World):(Go.method 525 157 (.agg #[.pointer (some ⟨d,0,none⟩)]) "pub-stockroom/pub/apimachinery/pkg/api/resource.constructBytes").run prog w=.ok (327,.pointer (some ⟨d,0,none⟩)) w:=by kernel_rfl
theorem aS5(d:Nat)(w:World):(Go.method 525 157 (.agg #[.pointer (some ⟨d,0,none⟩)]) "pub-stockroom/pub/apimachinery/pkg/api/resource.interpret").run prog w=.ok (331,.agg #[.pointer (some ⟨d,0,none⟩)]) w:=by kernel_rfl
theorem lk_Mi:lkT (sufT binE) (2,20)=some ⟨#[77,105]⟩:=by kernel_rfl
theorem lk_Gi:lkp (sufS decE) ⟨#[71,105]⟩ 0=none/\lkp (sufS binE) ⟨#[71,105]⟩ 0=some (2,encP (2,30)):=⟨by kernel_rfl,by kernel_rfl⟩
end Go.Proofs.YtjebnpkebccffaaGreatDoor
