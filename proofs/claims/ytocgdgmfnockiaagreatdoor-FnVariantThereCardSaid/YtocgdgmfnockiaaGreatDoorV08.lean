/- Variants: AppendDecimal16, AppendUUID. Variants: writeBinary, AppendString, AppendBinary. Variants: AppendString, AppendBinary. Variants: the Builder in memory: its buffer, its dictionary. No walk here. Variants: AddKey. -/
import Derived.Test.YtocgdgmfnockiaaGreatDoorV07
import Derived.Laws.IdiomStrings
import Derived.Test.YtocgdgmfnockiaaGreatDoorV02
import Derived.Maps.OwnSet
import Derived.Maps.OwnOps
import Derived.Deep.CutBlock
import Derived.Deep.CutRange
import Derived.Deep.DeepCutAuto
set_option linter.unusedVariables false
set_option linter.unusedSimpArgs false
set_option maxRecDepth 100000
set_option maxHeartbeats 8000000
namespace Go.Proofs.YtocgdgmfnockiaaGreatDoor
open Go.RowKit
theorem lowBitsC (lo:Nat) (hi:Int) (w:World):Calls Tryz.prog 68 #[.agg #[.int .u64 (lo:Int),.int .i64 hi]] w fun e w'=>e=.returned (.int .u64 (lo:Int))/\Keep [] w w':=by
 go_enter Tryz.func68,Tryz.ntmps68
 go_wp2;go_ret;exact⟨rfl,(Keep.refl [] w).alloc _⟩
theorem highBitsC (lo:Nat) (hi:Int) (w:World):Calls Tryz.prog 69 #[.agg #[.int .u64 (lo:Int),.int .i64 hi]] w fun e w'=>e=.returned (.int .i64 hi)/\Keep [] w w':=by
 go_enter Tryz.func69,Tryz.ntmps69
 go_wp2;go_ret;exact⟨rfl,(Keep.refl [] w).alloc _⟩
theorem appendDec16 (b s lo:Nat) (hi:Int) (g:List Nat) (rest:List Value) (bs:List Nat) (w:World) (h:BufAt w b g rest bs) (hlim:bs.length+20<=70368744177664) (hlo:lo<18446744073709551616):
  Calls Tryz.prog 43 #[.pointer (some ⟨b,0,none⟩),.int .u8 (s:Int),.agg #[.int .u64 (lo:Int),.int .i64 hi]] w fun e w'=>e=.returned .nilIface/\Put w w' b g rest (bs++(40::s::(leBytes 8 lo++leBytes 8 (u64of hi)))):=by
 have H:=qq h;have hblt:=h.lt;clear h;have hzz:=u64of_wrap hi
 go_enter Tryz.func43,Tryz.ntmps43
 obtain⟨w0,hw0⟩:∃w0,w0=w.alloc (.cells #[.int .u64 (lo:Int),.int .i64 hi] 91):=⟨_,rfl⟩;have hd0:Blk w0 w.heap.size [.int .u64 (lo:Int),.int .i64 hi]:=by rw[hw0];exact Blk.new w _ _
 have hB0:BufAt w0 b g rest bs:=by rw[hw0];exact H.out.keep ((Keep.refl [] w).alloc _) (by simp) (by simp)
 have K0:Keep [] w w0:=by rw[hw0];exact(Keep.refl [] w).alloc _
 have hs0:w0.heap.size=w.heap.size+1:=by rw[hw0];simp
 have Hgl:=qq H.out.glt;go_wp2_with fail
 rw[<-hw0];clear hw0;refine(bufGrowC b 18 g rest bs _ hB0 (by omega) (by omega)).mono ?_;rintro e w1 ⟨rfl,hG⟩;obtain⟨r,L,q1,q2,q3,q4⟩:=BufRoom.of_grown hG;have hd1:=hd0.keep q4 (by simp;omega);have K1:Keep [b] w w1:=K0.nil.trans q4 (by simp);have q3':r ∈ g\/w.heap.size<=r:=q3.elim .inl (fun h=>.inr (by omega));have hrd:w.heap.size≠r:=by
  rcases q3 with q3|q3
  ·have:=Hgl.out r q3;omega
  ·omega
 have HQ:=qq4 q1 q3' K1 hd1;clear q1 q3 q4 hG hB0 K0 hd0 hd1 K1 q3';go_wp2_with fail
 refine wp_region_mid 4 (by kernel_rfl) (by kernel_rfl) ?_;simp only[List.take_succ_cons,List.take_zero,List.drop_succ_cons,List.drop_zero];change wpStill _ _ (World.drew _) _ _ _;repeat still_step
 still_call (flipW (primHdrC 10 _ (by omega)))
 repeat still_step
 refine wpStill_nil ?_;go_wp2_with fail
 refine(writeByteRoom b r 40 rest bs L w1.drew HQ.out.1.drew (by omega)).mono ?_;rintro e w2 ⟨rfl,L1,e1,q1,k1⟩;have hd2:=HQ.out.2.2.2.drew.keep k1 (by simp;omega);have HR:=qq4 e1 q1 (HQ.out.2.2.1.drew.cat (T:=[b,r]) k1 (by simp) (by simp)) hd2;clear e1 q1 k1 hd2;go_wp2_with fail
 repeat still_step
 refine wpStill_nil ?_;go_wp2_with fail
 refine(writeByteRoom b r s rest (bs++[40]) L1 _ HR.out.2.1 (by rw[HR.out.1,List.length_append];simp;omega)).mono ?_;rintro e w3 ⟨rfl,L2,e2,q2',k2⟩;have hd3:=HR.out.2.2.2.keep k2 (by simp;omega);have HS:=qq4 (e2.trans HR.out.1) q2' (HR.out.2.2.1.trans k2 (fun x hx=>.inl hx)) hd3;have c30:w3.cell? ⟨w.heap.size,0,none⟩=some (.int .u64 (lo:Int)):=hd3.cell rfl;have c31:w3.cell? ⟨w.heap.size,0+1,none⟩=some (.int .i64 hi):=hd3.cell rfl;have c32:w3.cell? ⟨w.heap.size,1,none⟩=some (.int .i64 hi):=hd3.cell rfl;clear e2 q2' k2 hd3;go_wp2
 go_region_with (first
  |(go_at_call 68;refine(lowBitsC lo hi _).mono ?_;rintro e w4 ⟨rfl,k4⟩)
  |(go_at_call 100;refine(writeLittleC b r 8 lo rest (bs++[40]++[s]) L2 _ (HS.out.2.1.drew.keep k4 (by simp) (by simp)) (by omega) (by omega) hlo (by rw[HS.out.1,List.length_append,List.length_append];simp;omega)).mono ?_;rintro e w5 ⟨rfl,L3,e3,q3,k3⟩))
 have hd5:=(HS.out.2.2.2.drew.keep k4 (by simp)).keep k3 (by simp;omega);have HT:=qq4 (e3.trans HS.out.1) q3 (HS.out.2.2.1.trans ((Keep.refl [] w3).drew.trans k4 (by simp) |>.nil |>.trans k3 (fun x hx=>.inl hx)) (fun x hx=>.inl hx)) hd5;have c50:w5.cell? ⟨w.heap.size,0,none⟩=some (.int .u64 (lo:Int)):=hd5.cell rfl;have c51:w5.cell? ⟨w.heap.size,0+1,none⟩=some (.int .i64 hi):=hd5.cell rfl;have c52:w5.cell? ⟨w.heap.size,1,none⟩=some (.int .i64 hi):=hd5.cell rfl;clear e3 q3 k3 k4 hd5 c30 c31 c32;go_wp2
 go_region_with (first
  |(go_at_call 69;refine(highBitsC lo hi _).mono ?_;rintro e w6 ⟨rfl,k6⟩)
  |(go_at_call 100;refine(writeLittleC b r 8 (u64of hi) rest (bs++[40]++[s]++leBytes 8 lo) L3 _ (HT.out.2.1.drew.keep k6 (by simp) (by simp)) (by omega) (by omega) (u64of_lt hi) (by rw[HT.out.1,List.length_append,List.length_append,List.length_append,length_leBytes];simp;omega)).mono ?_;rintro e w7 ⟨rfl,L4,e4,q4,k4⟩))
 have HU:=qq2 q4 (HT.out.2.2.1.trans ((Keep.refl [] w5).drew.trans k6 (by simp) |>.nil |>.trans k4 (fun x hx=>.inl hx)) (fun x hx=>.inl hx));clear e4 q4 k4 k6;go_wp2;go_ret;obtain⟨q4,k4⟩:=HU.out;rw[List.append_assoc,List.append_assoc,List.append_assoc,List.singleton_append,List.singleton_append]at q4;exact⟨rfl,Put.mk2 HQ.out.2.1 q4 k4⟩
theorem blk_of_alloc {w:World} {l:List Nat} {T:TypeId}:Blk (w.alloc (.cells (rowV .u8 l).toArray T)) w.heap.size (rowV .u8 l):=Blk.new w _ _
theorem appendUUIDC (b:Nat) (y0 y1 y2 y3 y4 y5 y6 y7 y8 y9 y10 y11 y12 y13 y14 y15:Nat) (g:List Nat) (rest:List Value) (bs:List Nat) (w:World) (h:BufAt w b g rest bs) (hlim:bs.length+20<=70368744177664):
  Calls Tryz.prog 52 #[.pointer (some ⟨b,0,none⟩),.agg #[.int .u8 (y0:Int),.int .u8 (y1:Int),.int .u8 (y2:Int),.int .u8 (y3:Int),.int .u8 (y4:Int),.int .u8 (y5:Int),.int .u8 (y6:Int),.int .u8 (y7:Int),
   .int .u8 (y8:Int),.int .u8 (y9:Int),.int .u8 (y10:Int),.int .u8 (y11:Int),.int .u8 (y12:Int),.int .u8 (y13:Int),.int .u8 (y14:Int),.int .u8 (y15:Int)]] w fun e w'=>e=.returned .nilIface/\
   Put w w' b g rest (bs++(80::[y0,y1,y2,y3,y4,y5,y6,y7,y8,y9,y10,y11,y12,y13,y14,y15])):=by
 have H:=qq h;have hblt:=h.lt;clear h
 go_enter Tryz.func52,Tryz.ntmps52
 obtain⟨w0,hw0⟩:∃w0,w0=w.alloc (.cells #[.int .u8 (y0:Int),.int .u8 (y1:Int),.int .u8 (y2:Int),.int .u8 (y3:Int),.int .u8 (y4:Int),.int .u8 (y5:Int),.int .u8 (y6:Int),.int .u8 (y7:Int),
   .int .u8 (y8:Int),.int .u8 (y9:Int),.int .u8 (y10:Int),.int .u8 (y11:Int),.int .u8 (y12:Int),.int .u8 (y13:Int),.int .u8 (y14:Int),.int .u8 (y15:Int)] 105):=⟨_,rfl⟩
 have hd0:Blk w0 w.heap.size (rowV .u8 [y0,y1,y2,y3,y4,y5,y6,y7,y8,y9,y10,y11,y12,y13,y14,y15]):=by rw[hw0];exact Blk.new w _ _
 have hB0:BufAt w0 b g rest bs:=by rw[hw0];exact H.out.keep ((Keep.refl [] w).alloc _) (by simp) (by simp)
 have K0:Keep [] w w0:=by rw[hw0];exact(Keep.refl [] w).alloc _
 have hs0:w0.heap.size=w.heap.size+1:=by rw[hw0];simp
 have Hgl:=qq H.out.glt;go_wp2_with fail
 rw[<-hw0];clear hw0;refine(bufGrowC b 17 g rest bs _ hB0 (by omega) (by omega)).mono ?_;rintro e w1 ⟨rfl,hG⟩;obtain⟨r,L,q1,q2,q3,q4⟩:=BufRoom.of_grown hG;have hd1:=hd0.keep q4 (by simp;omega);have K1:Keep [b] w w1:=K0.nil.trans q4 (by simp);have q3':r ∈ g\/w.heap.size<=r:=q3.elim .inl (fun h=>.inr (by omega));have hrd:w.heap.size≠r:=by
  rcases q3 with q3|q3
  ·have:=Hgl.out r q3;omega
  ·omega
 have HQ:=qq4 q1 q3' K1 hd1;clear q1 q3 q4 hG hB0 K0 hd0 hd1 K1 q3';go_wp2_with fail
 refine wp_region_mid 4 (by kernel_rfl) (by kernel_rfl) ?_;simp only[List.take_succ_cons,List.take_zero,List.drop_succ_cons,List.drop_zero];change wpStill _ _ (World.drew _) _ _ _;repeat still_step
 still_call (flipW (primHdrC 20 _ (by omega)))
 repeat still_step
 refine wpStill_nil ?_;go_wp2_with fail
 refine(writeByteRoom b r 80 rest bs L w1.drew HQ.out.1.drew (by omega)).mono ?_;rintro e w2 ⟨rfl,L1,e1,q1,k1⟩;have hd2:=HQ.out.2.2.2.drew.keep k1 (by simp;omega);have HR:=qq4 e1 q1 (HQ.out.2.2.1.drew.cat (T:=[b,r]) k1 (by simp) (by simp)) hd2;clear e1 q1 k1 hd2;go_wp2_with fail
 repeat still_step
 refine wpStill_nil ?_;go_wp2_with fail
 refine wp_region_mid 4 (by kernel_rfl) (by kernel_rfl) ?_;simp only[List.take_succ_cons,List.take_zero,List.drop_succ_cons,List.drop_zero];change wpStill _ _ (World.drew _) _ _ _;repeat still_step
 refine wpStill_nil ?_;go_wp2_with fail
 refine(writeRoom b r 16 16 ⟨w.heap.size,0,none⟩ [y0,y1,y2,y3,y4,y5,y6,y7,y8,y9,y10,y11,y12,y13,y14,y15] rest (bs++[80]) L1 w2.drew HR.out.2.1.drew rfl (by omega) (by rw[HR.out.1,List.length_append];simp;omega) (by simp;omega) (fun j x hj=>?_)).mono ?_
 ·rw[add_at,Nat.zero_add];exact HR.out.2.2.2.drew.cell (rowV_get hj)
 rintro e w3 ⟨rfl,L2,e2,q2',k2⟩;have HS:=qq2 q2' (HR.out.2.2.1.drew.trans k2 (fun x hx=>.inl hx));clear e2 q2' k2;go_wp2_with fail
 repeat still_step
 refine wpStill_nil ?_;go_wp2;go_ret;obtain⟨q4,k4⟩:=HS.out;rw[List.append_assoc,List.singleton_append]at q4;exact⟨rfl,Put.mk2 HQ.out.2.1 q4 k4⟩

theorem strBytes (s:ByteArray) (w:World):∃cap w',(convert 9 30 (.string s)).run Tryz.prog w=.ok (.slice (some ⟨w.heap.size,0,none⟩) s.size cap) w'/\(Keep [] w w'/\w'.heap.size=w.heap.size+1)/\s.size<=cap/\
  ∀(j x:Nat),(bytesN s)[j]?=some x->w'.cell? ⟨w.heap.size,j,none⟩=some (.int .u8 (x:Int)):=by
 have h:=run_bytes_of_string (P:=Tryz.prog) w 9 30 5 s Tryz.underlying9 Tryz.underlying30 Tryz.underlying5;refine⟨_,_,h,⟨((Keep.refl [] w).drew).alloc _,by simp⟩,grownCap_ge _ _ _ _,fun j x hj=>?_⟩;have hjl:=(List.getElem?_eq_some_iff.1 hj).1;rw[length_bytesN]at hjl;have hx:x=s.data[j].toNat:=by
  unfold bytesN at hj;rw[List.getElem?_map]at hj;obtain⟨y,hy,rfl⟩:=Option.map_eq_some_iff.1 hj;have:s.data[j]?=some y:=by simpa using hy
  rw[Array.getElem?_eq_getElem hjl]at this;rw[<-Option.some.inj this]
 have hb:=bytesRow_at s (grownCap w s.size 0 5) j hjl;generalize bytesRow s (grownCap w s.size 0 5)=R at hb ⊢;have hh:(w.drew.alloc (.cells R 5 (R.size,R.size+1))).heap[w.heap.size]?=some (.cells R 5 (R.size,R.size+1)):=heap_alloc_new w.drew _;simp only[World.cell?,hh];rw[hx];exact hb

def WB (w w':World) (b r:Nat) (rest:List Value) (bs L:List Nat):Prop:=∃L',L'.length=L.length/\BufRoom w' b r rest bs L'/\Keep [b,r] w w'
theorem writeBinStr (b r:Nat) (s:ByteArray) (rest:List Value) (bs L:List Nat) (w:World) (h:BufRoom w b r rest bs L) (hs:63<s.size) (hs2:s.size<4294967296) (hle:bs.length+5+s.size<=L.length):
  Calls Tryz.prog 96 #[.iface 163 (.pointer (some ⟨b,0,none⟩)),.string s] w fun e w'=>e=.returned .nilIface/\WB w w' b r rest (bs++(64::(leBytes 4 s.size++bytesN s))) L:=by
 have y:=yes9;have hm:=method_WriteByte ⟨b,0,none⟩;have hni:=nil_WriteByte ⟨b,0,none⟩;have hm2:=method_Write ⟨b,0,none⟩;have hni2:=nil_Write ⟨b,0,none⟩;have hmf:=makeF;have H:=qq h;have hlt:=h.lt;clear h;obtain⟨n,hn⟩:∃n,n=s.size:=⟨_,rfl⟩;have Hn:=qq hn
 go_enter Tryz.func96,Tryz.ntmps96
 go_wp2_with fail
 refine wp_region_mid 6 (by kernel_rfl) (by kernel_rfl) ?_;simp only[List.take_succ_cons,List.take_zero,List.drop_succ_cons,List.drop_zero];change wpStill _ _ (World.drew _) _ _ _;repeat still_step
 still_call (flipW (primHdrC 16 _ (by omega)))
 repeat still_step
 refine wpStill_nil ?_;go_wp2_with fail
 refine(writeByteRoom b r 64 rest bs L w.drew H.out.drew (by omega)).mono ?_;rintro e w1 ⟨rfl,L1,e1,q1,k1⟩;have HQ:=qq3 e1 q1 ((Keep.refl [] w).drew.nil.trans k1 (fun x hx=>.inl hx));clear e1 q1 k1;go_wp2_with fail
 repeat still_step
 refine wpStill_nil ?_;have hwr:(s.size:Int)%4294967296=(s.size:Int):=by omega
 go_wp2_with fail
 refine(writeLittleC b r 4 s.size rest (bs++[64]) L1 _ HQ.out.2.1 (by omega) (by omega) (by omega) (by rw[HQ.out.1,List.length_append];simp;omega)).mono ?_;rintro e w2 ⟨rfl,L2,e2,q2',k2⟩;have HR:=qq3 (e2.trans HQ.out.1) q2' (HQ.out.2.2.trans k2 (fun x hx=>.inl hx));have hlt2:=q2'.lt;clear e2 q2' k2 hn;obtain⟨cap,w3,hcv,⟨k3,-⟩,hcap,hcell⟩:=strBytes s w2;have HS:=qq2 k3 hcell;clear k3 hcell;go_wp2_with fail
 refine(writeRoom b r s.size cap ⟨w2.heap.size,0,none⟩ (bytesN s) rest (bs++[64]++leBytes 4 s.size) L2 w3 (HR.out.2.1.keep HS.out.1 (by simp) (by simp)) (by rw[length_bytesN]) (by omega) (by rw[HR.out.1,List.length_append,List.length_append,length_leBytes];simp;omega) (by simp;omega) (fun j x hj=>?_)).mono ?_
 ·rw[add_at,Nat.zero_add];exact HS.out.2 j x hj
 rintro e w4 ⟨rfl,L3,e3,q3,k3⟩;have HT:=qq3 (e3.trans HR.out.1) q3 (HR.out.2.2.trans (HS.out.1.nil.trans k3 (fun x hx=>.inl hx)) (fun x hx=>.inl hx));clear e3 q3 k3;go_wp2;go_ret;obtain⟨e3,q3,k3⟩:=HT.out;rw[List.append_assoc,List.append_assoc,List.singleton_append]at q3;exact⟨rfl,L3,e3,q3,k3⟩
theorem writeBinBytes (b r n cap:Nat) (ao:Option Addr) (D:List Nat) (rest:List Value) (bs L:List Nat) (w:World) (h:BufRoom w b r rest bs L) (hn:n=D.length) (hn2:n<4294967296) (hle:bs.length+5+n<=L.length)
  (hD:∀(j x:Nat),D[j]?=some x->∃a,ao=some a/\a.block≠b/\a.block≠r/\w.cell? (a.add j)=some (.int .u8 (x:Int))):
  Calls Tryz.prog 103 #[.iface 163 (.pointer (some ⟨b,0,none⟩)),.slice ao n cap] w fun e w'=>e=.returned .nilIface/\WB w w' b r rest (bs++(60::(leBytes 4 n++D))) L:=by
 have y:=yes30;have n9:=no9 30 (by decide);have hm:=method_WriteByte ⟨b,0,none⟩;have hni:=nil_WriteByte ⟨b,0,none⟩;have hm2:=method_Write ⟨b,0,none⟩;have hni2:=nil_Write ⟨b,0,none⟩;have hmf:=makeF;have H:=qq3 h hn hD;have hlt:=h.lt;clear h hn hD
 go_enter Tryz.func103,Tryz.ntmps103
 go_wp2_with fail
 refine wp_region_mid 6 (by kernel_rfl) (by kernel_rfl) ?_;simp only[List.take_succ_cons,List.take_zero,List.drop_succ_cons,List.drop_zero];change wpStill _ _ (World.drew _) _ _ _;repeat still_step
 still_call (flipW (primHdrC 15 _ (by omega)))
 repeat still_step
 refine wpStill_nil ?_;go_wp2_with fail
 refine(writeByteRoom b r 60 rest bs L w.drew H.out.1.drew (by omega)).mono ?_;rintro e w1 ⟨rfl,L1,e1,q1,k1⟩;have HQ:=qq3 e1 q1 ((Keep.refl [] w).drew.nil.trans k1 (fun x hx=>.inl hx));clear e1 q1 k1;go_wp2_with fail
 repeat still_step
 refine wpStill_nil ?_;have hwr:(n:Int)%4294967296=(n:Int):=by omega
 go_wp2_with fail
 refine(writeLittleC b r 4 n rest (bs++[60]) L1 _ HQ.out.2.1 (by omega) (by omega) (by omega) (by rw[HQ.out.1,List.length_append];simp;omega)).mono ?_;rintro e w2 ⟨rfl,L2,e2,q2',k2⟩;have HR:=qq3 (e2.trans HQ.out.1) q2' (HQ.out.2.2.trans k2 (fun x hx=>.inl hx));clear e2 q2' k2;by_cases h0:n=0
 ·subst h0;go_wp2_with fail
  refine(writeNone b r cap ao rest (bs++[60]++leBytes 4 0) L2 w2 HR.out.2.1).mono ?_;rintro e w4 ⟨rfl,q3,k3⟩;have HT:=qq2 q3 (HR.out.2.2.trans k3 (fun x hx=>.inl hx));clear q3 k3;go_wp2;go_ret;obtain⟨q3,k3⟩:=HT.out;have hD:D=[]:=List.eq_nil_of_length_eq_zero H.out.2.1.symm;subst hD;rw[List.append_assoc,List.singleton_append]at q3;exact⟨rfl,L2,HR.out.1,by simpa using q3,k3⟩
 ·obtain⟨a,rfl,hab,har,-⟩:=H.out.2.2 0 (D[0]'(by have:=H.out.2.1;omega)) (List.getElem?_eq_getElem _);go_wp2_with fail
  refine(writeRoom b r n cap a D rest (bs++[60]++leBytes 4 n) L2 w2 HR.out.2.1 H.out.2.1 (by omega) (by rw[HR.out.1,List.length_append,List.length_append,length_leBytes];simp;omega) hab (fun j x hj=>?_)).mono ?_
  ·obtain⟨a',ha',_,_,hc⟩:=H.out.2.2 j x hj;obtain rfl:=Option.some.inj ha';exact HR.out.2.2.cell_some hc (by rw[show(a.add j).block=a.block by unfold Addr.add;split<;>rfl];simp;exact⟨hab,har⟩)
  rintro e w4 ⟨rfl,L3,e3,q3,k3⟩;have HT:=qq3 (e3.trans HR.out.1) q3 (HR.out.2.2.trans k3 (fun x hx=>.inl hx));clear e3 q3 k3;go_wp2;go_ret;obtain⟨e3,q3,k3⟩:=HT.out;rw[List.append_assoc,List.append_assoc,List.singleton_append]at q3;exact⟨rfl,L3,e3,q3,k3⟩

def encStr (s:ByteArray):List Nat:=if s.size<=63 then(1+4*s.size)::bytesN s else 64::(leBytes 4 s.size++bytesN s)

def encBin (D:List Nat):List Nat:=60::(leBytes 4 D.length++D)
theorem appendStrC (b:Nat) (s:ByteArray) (g:List Nat) (rest:List Value) (bs:List Nat) (w:World) (h:BufAt w b g rest bs) (hlim:bs.length+20+s.size<=70368744177664) (hs2:s.size<4294967296):
  Calls Tryz.prog 38 #[.pointer (some ⟨b,0,none⟩),.string s] w fun e w'=>e=.returned .nilIface/\Put w w' b g rest (bs++encStr s):=by
 have H:=qq h;clear h;by_cases hs:s.size<=63
 ·have he:encStr s=(1+4*s.size)::bytesN s:=by unfold encStr;rw[if_pos hs]
  rw[he];have hsi:¬(63:Int)<(s.size:Int):=by omega
  have HE:=qq he;clear he
  go_enter Tryz.func38,Tryz.ntmps38
  go_wp2_with fail
  refine(bufGrowC b (1+s.size) g rest bs _ H.out (by omega) (by omega)).mono ?_;rintro e w1 ⟨rfl,hG⟩;obtain⟨r,L,q1,q2,q3,q4⟩:=BufRoom.of_grown hG;have HQ:=qq3 q1 q3 q4;clear q1 q3 q4 hG;go_wp2_with fail
  refine wp_region_mid 6 (by kernel_rfl) (by kernel_rfl) ?_;simp only[List.take_succ_cons,List.take_zero,List.drop_succ_cons,List.drop_zero];change wpStill _ _ (World.drew _) _ _ _;repeat still_step
  still_call (flipW (shortHdrC s.size _ hs))
  repeat still_step
  refine wpStill_nil ?_;go_wp2_with fail
  refine(writeByteRoom b r (1+4*s.size) rest bs L w1.drew HQ.out.1.drew (by omega)).mono ?_;rintro e w2 ⟨rfl,L1,e1,q1,k1⟩;have HR:=qq3 e1 q1 (HQ.out.2.2.drew.cat (T:=[b,r]) k1 (by simp) (by simp));clear e1 q1 k1;go_wp2_with fail
  repeat still_step
  refine wpStill_nil ?_;go_wp2_with fail
  refine(writeStrRoom b r s rest (bs++[1+4*s.size]) L1 _ HR.out.2.1 (by rw[HR.out.1,List.length_append];simp;omega) (by omega)).mono ?_;rintro e w3 ⟨rfl,L2,e2,q2',k2⟩;have HS:=qq2 q2' k2;clear e2 q2' k2;go_wp2;go_ret;obtain⟨q2',k2⟩:=HS.out;rw[List.append_assoc,List.singleton_append]at q2';exact⟨rfl,Put.mk2 HQ.out.2.1 q2' (HR.out.2.2.trans k2 (fun x hx=>.inl hx))⟩
 ·have he:encStr s=64::(leBytes 4 s.size++bytesN s):=by unfold encStr;rw[if_neg hs]
  rw[he];have hsi:(63:Int)<(s.size:Int):=by omega
  have HE:=qq he;clear he
  go_enter Tryz.func38,Tryz.ntmps38
  go_wp2_with fail
  refine(bufGrowC b (5+s.size) g rest bs _ H.out (by omega) (by omega)).mono ?_;rintro e w1 ⟨rfl,hG⟩;obtain⟨r,L,q1,q2,q3,q4⟩:=BufRoom.of_grown hG;have HQ:=qq3 q1 q3 q4;clear q1 q3 q4 hG;go_wp2_with fail
  refine(writeBinStr b r s rest bs L _ HQ.out.1 (by omega) hs2 (by omega)).mono ?_;rintro e w2 ⟨rfl,L1,e1,q1,k1⟩;have HR:=qq2 q1 k1;clear e1 q1 k1;go_wp2;go_ret;exact⟨rfl,Put.mk HQ.out.2.2 HQ.out.2.1 HR.out.1 HR.out.2⟩
theorem appendBinC (b n cap:Nat) (ao:Option Addr) (D:List Nat) (g:List Nat) (rest:List Value) (bs:List Nat) (w:World) (h:BufAt w b g rest bs) (hn:n=D.length) (hlim:bs.length+20+n<=70368744177664) (hn2:n<4294967296)
  (hD:∀(j x:Nat),D[j]?=some x->∃a,ao=some a/\a.block≠b/\a.block ∉ g/\w.cell? (a.add j)=some (.int .u8 (x:Int))):
  Calls Tryz.prog 49 #[.pointer (some ⟨b,0,none⟩),.slice ao n cap] w fun e w'=>e=.returned .nilIface/\Put w w' b g rest (bs++encBin D):=by
 have H:=qq3 h hn hD;clear h hn hD
 go_enter Tryz.func49,Tryz.ntmps49
 go_wp2_with fail
 refine(bufGrowC b (5+n) g rest bs _ H.out.1 (by omega) (by omega)).mono ?_;rintro e w1 ⟨rfl,hG⟩;obtain⟨r,L,q1,q2,q3,q4⟩:=BufRoom.of_grown hG;have HQ:=qq3 q1 q3 q4;clear q1 q3 q4 hG;go_wp2_with fail
 refine(writeBinBytes b r n cap ao D rest bs L _ HQ.out.1 H.out.2.1 hn2 (by omega) (fun j x hj=>?_)).mono ?_
 ·obtain⟨a,ha,h1,h2,hc⟩:=H.out.2.2 j x hj;have hbl:(a.add j).block=a.block:=by unfold Addr.add;split<;>rfl
  have hlt:a.block<w.heap.size:=by have:=World.block_lt_of_cell? _ _ hc;rwa[hbl]at this
  refine⟨a,ha,h1,?_,HQ.out.2.2.cell_some hc (by rw[hbl];simpa using h1)⟩;rcases HQ.out.2.1 with h|h
  ·exact fun e=>h2 (e▸h)
  ·omega
 rintro e w2 ⟨rfl,L1,e1,q1,k1⟩;have HR:=qq2 q1 k1;clear e1 q1 k1;go_wp2;go_ret;have hn:=H.out.2.1;refine⟨rfl,Put.mk HQ.out.2.2 HQ.out.2.1 (L:=L1) ?_ HR.out.2⟩;unfold encBin;rw[<-hn];exact HR.out.1
open Go.Maps (IsMap)

def idxK:List ByteArray->ByteArray->Nat
 |[],_=>0
 |x::l,k=>if x=k then 0 else idxK l k+1
def hasK (K:List ByteArray) (k:ByteArray):Bool:=K.any fun x=>decide (x=k)
theorem hasK_iff {K:List ByteArray} {k:ByteArray}:hasK K k=true↔k ∈ K:=by simp[hasK]
theorem hasK_false {K:List ByteArray} {k:ByteArray}:hasK K k=false↔k ∉ K:=by rw[<-hasK_iff];simp

def addK (K:List ByteArray) (k:ByteArray):List ByteArray:=if hasK K k then K else K++[k]
def keyL (k:ByteArray):Lit:=.string k.data.toList
theorem keyL_inj {k k':ByteArray} (h:keyL k=keyL k'):k=k':=by
 unfold keyL at h;injection h with h
 exact ByteArray.ext (Array.toList_inj.1 h)

def DictIs (D:DataW Unit) (K:List ByteArray):Prop:=
 IsMap D/\(∀k,k ∈ K->Maps.has D (keyL k)=true/\∀z,D.atKey (keyL k) z=.lit (.int .u32 (idxK K k:Int)))/\∀k,k ∉ K->Maps.has D (keyL k)=false
theorem DictIs.nil:DictIs (.map []) []:=⟨Maps.isMap_empty,fun k h=>by simp at h,fun k _=>rfl⟩
theorem idxK_append_left:∀{K:List ByteArray} {k:ByteArray},k ∈ K->∀(L:List ByteArray),idxK (K++L) k=idxK K k
 |x::K,k,h,L=>by
  by_cases e:x=k
  ·simp[idxK,e]
  ·have hm:k ∈ K:=by
    rw[List.mem_cons]at h;exact h.resolve_left (fun h=>e h.symm)
   simp only[List.cons_append,idxK,if_neg e,idxK_append_left hm L]
theorem idxK_snoc:∀{K:List ByteArray} {k:ByteArray},k ∉ K->idxK (K++[k]) k=K.length
 |[],k,_=>by simp[idxK]
 |x::K,k,h=>by
  rw[List.mem_cons,not_or]at h;have e:¬x=k:=fun e=>h.1 e.symm;simp only[List.cons_append,idxK,if_neg e,idxK_snoc h.2,List.length_cons]
theorem idxK_lt:∀{K:List ByteArray} {k:ByteArray},k ∈ K->idxK K k<K.length
 |x::K,k,h=>by
  by_cases e:x=k
  ·simp[idxK,e]
  ·rw[List.mem_cons]at h;have:=idxK_lt (h.resolve_left (fun h=>e h.symm));simp only[idxK,if_neg e,List.length_cons];omega
theorem idxK_get:∀{K:List ByteArray} {k:ByteArray},k ∈ K->K[idxK K k]?=some k
 |x::K,k,h=>by
  by_cases e:x=k
  ·simp[idxK,e]
  ·rw[List.mem_cons]at h;simp only[idxK,if_neg e,List.getElem?_cons_succ];exact idxK_get (h.resolve_left (fun h=>e h.symm))
theorem keyL_lit (k:ByteArray):WideAt.IsKeyLit (keyL k):=by unfold keyL;trivial
theorem DictIs.put {D:DataW Unit} {K:List ByteArray} {k:ByteArray} (h:DictIs D K) (hk:k ∉ K):DictIs (D.put (keyL k) (.lit (.int .u32 (K.length:Int)))) (K++[k]):=by
 obtain⟨h1,h2,h3⟩:=h;refine⟨h1.put _ _,fun k' hk'=>?_,fun k' hk'=>?_⟩
 ·rw[List.mem_append,List.mem_singleton]at hk';by_cases e:k'=k
  ·subst e;exact⟨Maps.has_put_same h1 (keyL_lit _) _,fun z=>by rw[Maps.atKey_put_same h1 (keyL_lit _),idxK_snoc hk]⟩
  ·have hm:k' ∈ K:=hk'.resolve_right e;have hne:keyL k'≠keyL k:=fun h=>e (keyL_inj h);exact⟨by rw[Maps.has_put_other hne];exact(h2 k' hm).1,fun z=>by rw[Maps.atKey_put_other hne,(h2 k' hm).2,idxK_append_left hm]⟩
 ·rw[List.mem_append,List.mem_singleton,not_or]at hk';rw[Maps.has_put_other (fun h=>hk'.2 (keyL_inj h))];exact h3 k' hk'.1
theorem keyOf_str9 (s:ByteArray) (hs:s.size<=maxLen):keyOf Tryz.prog 9 (.string s)=some (keyL s):=by
 unfold keyOf;simp[mapKey,Tryz.underlying9,hs,keyL]

def KeyRow (w:World) (wr own:List Nat) (v:Value) (k:ByteArray):Prop:=
 ∃a cap,v=.slice (some a) k.size cap/\k.size<=cap/\a.block ∉ wr/\a.block ∈ own/\a.block<w.heap.size/\∀(j x:Nat),(bytesN k)[j]?=some x->w.cell? (a.add j)=some (.int .u8 (x:Int))
theorem add_block (a:Addr) (j:Nat):(a.add j).block=a.block:=by unfold Addr.add;split<;>rfl
theorem KeyRow.keep {w w':World} {wr wr' own own' S:List Nat} {v:Value} {k:ByteArray} (h:KeyRow w wr own v k) (kk:Keep S w w') (hS:∀x ∈ S,x ∈ wr\/x ∉ own) (ho:∀x ∈ wr',x ∈ wr\/w.heap.size<=x) (hoo:∀x ∈ own,x ∈ own'):KeyRow w' wr' own' v k:=by
 obtain⟨a,cap,h1,h2,h3,h3',h4,h5⟩:=h;refine⟨a,cap,h1,h2,fun hm=>(ho _ hm).elim h3 (by omega),hoo _ h3',Nat.lt_of_lt_of_le h4 kk.size,fun j x hj=>kk.cell_some (h5 j x hj) ?_⟩;rw[add_block];exact fun hm=>(hS _ hm).elim h3 (fun h=>h h3')

def DictAt (w:World) (wr own mB kB:List Nat) (mv dv:Value) (K:List ByteArray):Prop:=
 (mB=[]/\kB=[]/\mv=.map none/\dv=.slice none 0 0/\K=[])\/
 ∃m D vs,mB=[m]/\mv=.map (some m)/\w.ownsMap Tryz.prog 9 (plainElem Tryz.prog 70) m K.length D/\DictIs D K/\OwnC (fun v=>[v]) 1 kB w dv vs/\vs.length=K.length/\True/\
  ∀(i:Nat) (k:ByteArray),K[i]?=some k->∃v,vs[i]?=some v/\KeyRow w wr own v k

def Bld (w:World) (b:Nat) (own:List Nat) (K:List ByteArray) (bs:List Nat) (tot:Nat):Prop:=
 ∃wr g mB kB mv dv,BufAt w b g [mv,dv,.int .i64 (tot:Int),.bool false] bs/\DictAt w wr own mB kB mv dv K/\wr=b::(g++(mB++kB))/\wr.Nodup/\K.Nodup/\(∀x ∈ wr,x ∈ own)/\∀x ∈ own,x<w.heap.size
theorem ownsMap_keep {w w':World} {P:Program} {k:TypeId} {R:Value->Option (DataW Unit×List MemPlace)} {b n:Nat} {D:DataW Unit} {S:List Nat} (h:w.ownsMap P k R b n D) (kk:Keep S w w') (hb:b ∉ S):w'.ownsMap P k R b n D:=by
 obtain⟨es,clock,hh,F⟩:=h;exact⟨es,clock,(kk.block b (Array.getElem?_eq_some_iff.1 hh).1 hb).trans hh,F⟩
theorem Bld.keep {w w':World} {b tot:Nat} {own S:List Nat} {K:List ByteArray} {bs:List Nat} (h:Bld w b own K bs tot) (k:Keep S w w') (hS:∀x ∈ own,x ∉ S):Bld w' b own K bs tot:=by
 obtain⟨wr,g,mB,kB,mv,dv,h1,hD,h5,h6,h7,hw,hlt⟩:=h;have hwS:∀x ∈ wr,x ∉ S:=fun x hx=>hS x (hw x hx);refine⟨wr,g,mB,kB,mv,dv,h1.keep k (hwS b (by rw[h5];simp)) (fun x hx=>hwS x (by rw[h5];simp[hx])),?_,h5,h6,h7,hw,fun x hx=>Nat.lt_of_lt_of_le (hlt x hx) k.size⟩;rcases hD with⟨rfl,rfl,rfl,rfl,rfl⟩|⟨m,D,vs,rfl,rfl,hm,hI,hO,hl,hk0,hkr⟩
 ·exact .inl ⟨rfl,rfl,rfl,rfl,rfl⟩
 ·refine .inr ⟨m,D,vs,rfl,rfl,ownsMap_keep hm k (hwS m (by rw[h5];simp)),hI,hO.keep k (fun x hx=>hwS x (by rw[h5];simp[hx])),hl,hk0,fun i k' hk'=>?_⟩;obtain⟨v,hv,hr⟩:=hkr i k' hk';exact⟨v,hv,hr.keep k (fun x hx=>.inr (fun ho=>hS x ho hx)) (fun x hx=>.inl hx) (fun x hx=>hx)⟩
theorem Bld.blt {w:World} {b tot:Nat} {own:List Nat} {K:List ByteArray} {bs:List Nat} (h:Bld w b own K bs tot):b<w.heap.size/\b ∈ own:=by
 obtain⟨wr,g,mB,kB,mv,dv,h1,hD,h5,h6,h7,hw,hlt⟩:=h;exact⟨h1.lt,hw b (by rw[h5];simp)⟩
theorem Bld.olt {w:World} {b tot:Nat} {own:List Nat} {K:List ByteArray} {bs:List Nat} (h:Bld w b own K bs tot):∀x ∈ own,x<w.heap.size:=by
 obtain⟨wr,g,mB,kB,mv,dv,h1,hD,h5,h6,h7,hw,hlt⟩:=h;exact hlt

theorem Bld.notMem {w:World} {b tot x:Nat} {own:List Nat} {K:List ByteArray} {bs:List Nat} (h:Bld w b own K bs tot) (hx:w.heap.size<=x):x ∉ own:=fun hm=>by have:=h.olt x hm;omega
open Go.Maps (IsMap)
theorem keyed9:Maps.Keyed Tryz.prog 9:=Maps.string_keyed Tryz.underlying9
theorem info_sl:(Tryz.prog.info? 30).map (fun i=>(i.zero,i.size,i.bytes))=some (some (.slice none 0 0),1,24):=by kernel_rfl

def Own2 (w w':World) (own own':List Nat):Prop:=Keep own w w'/\∀x ∈ own',x ∈ own\/w.heap.size<=x

theorem addKeyOld (b tot:Nat) (own:List Nat) (K:List ByteArray) (bs:List Nat) (k:ByteArray) (w:World) (h:Bld w b own K bs tot) (hk:k ∈ K) (hs:k.size<=maxLen):
  Calls Tryz.prog 76 #[.pointer (some ⟨b,0,none⟩),.string k] w fun e w'=>e=.returned (.int .u32 (idxK K k:Int))/\w=w':=by
 obtain⟨wr,g,mB,kB,mv,dv,⟨v,lr,h1,h2,h3⟩,hD,h5,h6,h7,-,-⟩:=h;rcases hD with⟨rfl,rfl,rfl,rfl,rfl⟩|⟨m,D,vs,rfl,rfl,hm,hI,hO,hl,hk0,hkr⟩
 ·simp at hk
 have c3:w.cell? ⟨b,0+3,none⟩=some (.map (some m)):=h1.cell rfl;have c3':w.cell? ⟨b,3,none⟩=some (.map (some m)):=h1.cell rfl;have q45:=fun w=>run_eql_map_nil (P:=Tryz.prog) w 45 9 70 (some m) Tryz.underlying45;have hat:=hI.2.1 k hk;have hkey:=keyOf_str9 k hs;have HH:=qq hat.2;have hhas:=hat.1;clear h1 h2 h3 h5 h6 h7 hO hl hk0 hkr hI hat
 go_enter Tryz.func76,Tryz.ntmps76
 go_wp2_with(at_lookup;refine wpList_lookup_own_ok_int _ rfl _ _ 45 rfl 9 70 .u32 keyed9 Tryz.underlying45 Tryz.underlying70 (Tryz.zeroValue70 _) m K.length D rfl hm _ (keyL k) rfl hkey ?_;intro c hc hw)
 go_ret;have e:=HH.out (.lit (.int .u32 0));rw[hc]at e;injection e with e
 injection e with _ e
 exact⟨by rw[e];rfl,rfl⟩
theorem Keep.of_grownBy {w w':World} {m:Nat} (h:w.grownBy w' (some m)):Keep [m] w w':=
 ⟨h.os,h.tape,h.output,h.size,fun k hk hn=>h.block k hk (fun e=>hn (by simp[Option.some.inj e]))⟩
theorem nodup_swap {b N:Nat} {g M kB G':List Nat} (h:(b::(g++(M++kB))).Nodup) (hG:G'.Nodup) (hG':∀x ∈ G',x ∈ kB\/N<=x) (hlt:∀x,x=b\/x ∈ g\/x ∈ M->x<N):(b::(g++(M++G'))).Nodup:=by
 simp only[List.nodup_cons,List.nodup_append,List.mem_append,not_or]at h ⊢;obtain⟨⟨h1,h2,h3⟩,h4,⟨h5,h6,h7⟩,h8⟩:=h;refine⟨⟨h1,h2,fun hm=>?_⟩,h4,⟨h5,hG,fun a ha x hx e=>?_⟩,fun a ha x hx e=>?_⟩
 ·rcases hG' _ hm with h|h
  ·exact h3 h
  ·have:=hlt b (.inl rfl);omega
 ·subst e;rcases hG' _ hx with h|h
  ·exact h7 _ ha _ h rfl
  ·have:=hlt _ (.inr (.inr ha));omega
 ·subst e;rcases hx with hx|hx
  ·exact h8 _ ha _ (.inl hx) rfl
  ·rcases hG' _ hx with h|h
   ·exact h8 _ ha _ (.inr h) rfl
   ·have:=hlt _ (.inr (.inl ha));omega
theorem nodup_two {b N:Nat} {g:List Nat} (h:(b::g).Nodup) (hlt:∀x ∈ b::g,x<N):(b::(g++([N]++[N+1]))).Nodup:=by
 have e:b::(g++([N]++[N+1]))=(b::g)++[N,N+1]:=by simp
 rw[e,List.nodup_append];refine⟨h,by simp,fun a ha x hx e=>?_⟩;subst e;have:=hlt a ha;simp at hx;omega
theorem one_cf (v:Value):([v]:List Value).length=1:=rfl

theorem Bld.mk' {w':World} {b:Nat} {v:Value} {lr:Int} {g mB kB:List Nat} {mv dv:Value} {K:List ByteArray} {bs:List Nat} {tot:Nat} {wr own:List Nat}
  (h1:Blk w' b (v::.int .i64 0::.int .i8 lr::[mv,dv,.int .i64 (tot:Int),.bool false])) (h2:BufRow g w' v bs) (hD:DictAt w' wr own mB kB mv dv K) (ho:wr=b::(g++(mB++kB))) (hn:wr.Nodup) (hK:K.Nodup) (hw:∀x ∈ wr,x ∈ own) (hlt:∀x ∈ own,x<w'.heap.size):Bld w' b own K bs tot:=
 ⟨wr,g,mB,kB,mv,dv,⟨v,lr,h1,h2,fun hm=>by rw[ho,List.nodup_cons]at hn;exact hn.1 (by simp[hm])⟩,hD,ho,hn,hK,hw,hlt⟩
theorem Own2.trans {a b c:World} {o1 o2 o3:List Nat} (h:Own2 a b o1 o2) (k:Own2 b c o2 o3):Own2 a c o1 o3:=
 ⟨h.1.trans k.1 (fun x hx=>h.2 x hx),fun x hx=>(k.2 x hx).elim (h.2 x) (fun hl=>.inr (Nat.le_trans h.1.size hl))⟩
theorem Own2.refl (w:World) (o:List Nat):Own2 w w o o:=⟨Keep.refl _ _,fun _ hx=>.inl hx⟩

def DictReady (w0:World) (own0:List Nat) (b tot:Nat) (K:List ByteArray) (bs:List Nat) (w:World):Prop:=
 ∃(wr own g:List Nat) (m:Nat) (D:DataW Unit) (vs:List Value) (v dv:Value) (lr:Int) (kB:List Nat),
  Blk w b (v::.int .i64 0::.int .i8 lr::[.map (some m),dv,.int .i64 (tot:Int),.bool false])/\BufRow g w v bs/\w.ownsMap Tryz.prog 9 (plainElem Tryz.prog 70) m K.length D/\DictIs D K/\
  OwnC (fun v=>[v]) 1 kB w dv vs/\vs.length=K.length/\True/\(∀(i:Nat) (k:ByteArray),K[i]?=some k->∃v,vs[i]?=some v/\KeyRow w wr own v k)/\
  wr=b::(g++([m]++kB))/\wr.Nodup/\K.Nodup/\(∀x ∈ wr,x ∈ own)/\(∀x ∈ own,x<w.heap.size)/\Own2 w0 w own0 own
theorem make16 (w:World):(Instr.makeSlice 46 (.int .i64 0) (.int .i64 16)).run Tryz.prog w=.ok (.slice (some ⟨w.heap.size,0,none⟩) 0 16) (w.alloc (.cells (List.replicate 16 (Value.slice none 0 0)).toArray 30)):=by
 obtain⟨i0,hi,hz0,hz1,hz2⟩:=info_parts info_sl;have h:=run_makeSlice (P:=Tryz.prog) w 46 30 i0 (.slice none 0 0) Tryz.underlying46 hi hz0 .i64 .i64 0 16 (by omega) (by omega) (by rw[hz1];decide) (by rw[hz2];decide) (by decide);rw[h,hz1,<-madeRow];rfl

theorem addKeyNew (b tot:Nat) (own0:List Nat) (K:List ByteArray) (bs:List Nat) (k:ByteArray) (w0:World) (h:Bld w0 b own0 K bs tot) (hk:k ∉ K) (hs:k.size<=1000000) (hKl:K.length<=1000000) (ht:tot<=1000000000000):
  Calls Tryz.prog 76 #[.pointer (some ⟨b,0,none⟩),.string k] w0 fun e w'=>e=.returned (.int .u32 (K.length:Int))/\∃own',Bld w' b own' (K++[k]) bs (tot+k.size)/\Own2 w0 w' own0 own':=by
 obtain⟨n,hn⟩:∃n,n=K.length:=⟨_,rfl⟩;rw[<-hn]at hKl ⊢;have Hn:=qq hn;clear hn;obtain⟨mv,bn,c3,q45,hc⟩:∃mv bn,w0.cell? ⟨b,3,none⟩=some (.map mv)/\(∀w,(binOp .eql 45 (.map mv) (.map none)).run Tryz.prog w=.ok (.bool bn) w)/\
   ((bn=false/\DictReady w0 own0 b tot K bs w0)\/
    (bn=true/\K=[]/\∃g v lr,Blk w0 b (v::.int .i64 0::.int .i8 lr::[.map none,.slice none 0 0,.int .i64 (tot:Int),.bool false])/\BufRow g w0 v bs/\(b::g).Nodup/\(∀x ∈ b::g,x ∈ own0)/\∀x ∈ own0,x<w0.heap.size)):=by
  obtain⟨wr,g,mB,kB,mv,dv,⟨v,lr,h1,h2,h3⟩,hD,h5,h6,h7,hw,how⟩:=h;rcases hD with⟨rfl,rfl,rfl,rfl,rfl⟩|⟨m,D,vs,rfl,rfl,hm,hI,hO,hl,hk0,hkr⟩
  ·exact⟨none,true,h1.cell rfl,fun w=>run_eql_map_nil (P:=Tryz.prog) w 45 9 70 none Tryz.underlying45,.inr ⟨rfl,rfl,g,v,lr,h1,h2,by rw[h5]at h6;simpa using h6,by rw[h5]at hw;simpa using hw,how⟩⟩
  ·exact⟨some m,false,h1.cell rfl,fun w=>run_eql_map_nil (P:=Tryz.prog) w 45 9 70 (some m) Tryz.underlying45,.inl ⟨rfl,wr,own0,g,m,D,vs,v,dv,lr,kB,h1,h2,hm,hI,hO,hl,hk0,hkr,h5,h6,h7,hw,how,Own2.refl _ _⟩⟩
 have HC:=qq hc;clear h hc
 go_enter Tryz.func76,Tryz.ntmps76
 go_upto_if 10 with(fail)
 go_cut []from 11 to 18 (fun w=>∃wx,wx=w/\DictReady w0 own0 b tot K bs wx)
 case first=>
  rcases HC.out with⟨rfl,hR⟩|⟨rfl,rfl,g,v,lr,h1,h2,hnd,hw,how⟩
  ·have HR:=qq hR;clear hR;go_wp2
   go_meet
   exact⟨_,rfl,HR.out⟩
  ·have hmm:=@run_makeMap Tryz.prog;have hmk:=make16;have c4:w0.cell? ⟨b,4,none⟩=some (.slice none 0 0):=h1.cell rfl;have f3:=h1.frozen 3;have f4:=h1.frozen 4;have hlt:=h1.lt;have HR:=qq5 h1 h2 hnd hw how;clear h1 h2 hnd hw how;generalize hZ:(List.replicate 16 (Value.slice none 0 0)).toArray=Z at hmk;go_wp2
   go_meet
   obtain⟨h1,h2,hnd,hw,how⟩:=HR.out;subst hZ;have K1:Keep [b] w0 (((w0.setCell ⟨b,3,none⟩ (.map (some w0.heap.size))).setCell ⟨b,4,none⟩ (.slice (some ⟨w0.heap.size+1,0,none⟩) 0 16)).alloc (Obj.map #[] 0)):=(((Keep.refl [b] w0).set (by simp) _ _ _).set (by simp) _ _ _).alloc _;have K2:=K1.alloc (.cells (List.replicate 16 (Value.slice none 0 0)).toArray 30);have hmp:((((w0.setCell ⟨b,3,none⟩ (.map (some w0.heap.size))).setCell ⟨b,4,none⟩ (.slice (some ⟨w0.heap.size+1,0,none⟩) 0 16)).alloc (Obj.map #[] 0))).ownsMap Tryz.prog 9 (plainElem Tryz.prog 70) w0.heap.size 0 (.map []:DataW Unit):=by
    have:=World.ownsMap_made (H:=Unit) ((w0.setCell ⟨b,3,none⟩ (.map (some w0.heap.size))).setCell ⟨b,4,none⟩ (.slice (some ⟨w0.heap.size+1,0,none⟩) 0 16)) Tryz.prog 9 (plainElem Tryz.prog 70);simpa using this
   have hgl:=h2.lt;have hmp2:=ownsMap_keep hmp ((Keep.refl [] _).alloc (.cells (List.replicate 16 (Value.slice none 0 0)).toArray 30)) (by simp);refine⟨_,rfl,b::(g++([w0.heap.size]++[w0.heap.size+1])),own0++[w0.heap.size,w0.heap.size+1],g,w0.heap.size,.map [],[],v,.slice (some ⟨w0.heap.size+1,0,none⟩) 0 16,lr,[w0.heap.size+1],?_,?_,hmp2,DictIs.nil,?_,rfl,by simp,by simp,rfl,?_,by simp,?_,?_,?_,?_⟩
   ·exact(((h1.set 3 (.map (some w0.heap.size))).set 4 (.slice (some ⟨w0.heap.size+1,0,none⟩) 0 16)).alloc _).alloc _
   ·exact h2.keep K2 (fun x hx=>by simp;intro e;simp only[List.nodup_cons]at hnd;exact hnd.1 (e▸hx))
   ·exact .inr ⟨w0.heap.size+1,16,List.replicate 16 (Value.slice none 0 0),rfl,rfl,Blk.of_new (by simp),by simp,by simp,by simp⟩
   ·exact nodup_two hnd (fun x hx=>by
     rw[List.mem_cons]at hx;rcases hx with rfl|hx
     ·exact hlt
     ·exact hgl x hx)
   ·intro x hx;rw[List.mem_cons,List.mem_append,List.mem_append,List.mem_singleton,List.mem_singleton]at hx;rw[List.mem_append];rcases hx with hx|hx|hx|hx
    ·exact .inl (hw x (by simp[hx]))
    ·exact .inl (hw x (by simp[hx]))
    ·exact .inr (by simp[hx])
    ·exact .inr (by simp[hx])
   ·intro x hx;rw[List.mem_append]at hx;rcases hx with hx|hx
    ·have:=how x hx;simp;omega
    ·simp at hx ⊢;omega
   ·exact K2.weaken (fun x hx=>.inl (hw x (by simp at hx;simp[hx])))
   ·intro x hx;rw[List.mem_append]at hx;rcases hx with hx|hx
    ·exact .inl hx
    ·refine .inr ?_;simp at hx;omega
 case rest=>
  obtain⟨w,rfl,wr,own,g,m,D,vs,v,dv,lr,kB,h1,h2,hm,hI,hO,hl,hk0,hkr,ho,hnd,hKn,hw',how,hP⟩:=hcut;obtain⟨ao,dc,rfl,hdc⟩:=hO.shape;have hn:=Hn.out;rw[hl,<-hn]at h1 hO;rw[<-hn]at hm;have c3:w.cell? ⟨b,0+3,none⟩=some (.map (some m)):=h1.cell rfl;have c3':w.cell? ⟨b,3,none⟩=some (.map (some m)):=h1.cell rfl;have c4:w.cell? ⟨b,4,none⟩=some (.slice ao n dc):=h1.cell rfl;have c5:w.cell? ⟨b,5,none⟩=some (.int .i64 (tot:Int)):=h1.cell rfl;have q45:=fun w=>run_eql_map_nil (P:=Tryz.prog) w 45 9 70 (some m) Tryz.underlying45;have hhas:=hI.2.2 k hk;have hkey:=keyOf_str9 k (by unfold maxLen;omega);have hwn:(n:Int)%4294967296=(n:Int):=by omega
  have HH:=qq (And.intro hn (And.intro h1 (And.intro h2 (And.intro hI (And.intro hO (And.intro hl (And.intro hk0 (And.intro hkr (And.intro ho (And.intro hnd (And.intro hKn (And.intro hk (And.intro hw' (And.intro how hP))))))))))))));clear h1 h2 hO hl hk0 hkr hI ho hnd hKn hn;go_wp2_with(at_lookup;refine wpList_lookup_own_ok_int _ rfl _ _ 45 rfl 9 70 .u32 keyed9 Tryz.underlying45 Tryz.underlying70 (Tryz.zeroValue70 _) m n D rfl hm _ (keyL k) rfl hkey ?_;intro c hc hw;refine halt ?_)
  refine Lib.hid ?_;have hwf:(Lit.int .u32 (n:Int)).wf=true:=by simp[Lit.wf,IntKind.min,IntKind.max,IntKind.bits,IntKind.signed];omega
  go_wp2_with(at_mapUpdate;go_loud(refine wpList_mapUpdate_own _ rfl _ _ _ 45 rfl 9 70 keyed9 Tryz.underlying45 _ m n D rfl hm (by unfold maxLen;omega) _ _ (keyL k) rfl rfl hkey (.lit (.int .u32 (n:Int))) [] (plainElem_int Tryz.underlying70 hwf) ?_);intro w1 hm1 hg1;refine halt ?_)
  have k1:=Keep.of_grownBy hg1;obtain⟨hn,h1,h2,hI,hO,hl,hk0,hkr,ho,hnd,hKn,-,-,-,-⟩:=HH.out;have hndl:m ∉ g/\m ∉ kB/\b≠m:=by
   rw[ho]at hnd;simp only[List.nodup_cons,List.nodup_append,List.mem_append,List.mem_singleton,List.singleton_append,List.cons_append,List.mem_cons,List.nil_append]at hnd;refine⟨fun hh=>hnd.2.2.2 m hh m (.inl rfl) rfl,hnd.2.2.1.1,fun hh=>hnd.1 (.inr (.inl hh))⟩
  have hb1:=h1.keep k1 (by simp;exact hndl.2.2);have hO1:=hO.keep k1 (by simp;intro x hx e;exact hndl.2.1 (e▸hx));obtain⟨cap,w2,hcv,⟨k2,hs2⟩,hcap,hcell⟩:=strBytes k w1;have Hs2:=qq hs2;clear hs2;obtain⟨i0,hi,hz0,hz1,hz2⟩:=info_parts info_sl;have hO3:=(hO1.keep k2 (by simp)).keep (S:=[]) ((Keep.refl [] w2).alloc (.cells #[.slice (some ⟨w1.heap.size,0,none⟩) k.size cap] 30)) (by simp);have hsrc:Src Tryz.prog 1 46 (.slice (some ⟨w2.heap.size,0,none⟩) 1 1) [Value.slice (some ⟨w1.heap.size,0,none⟩) k.size cap].length ([Value.slice (some ⟨w1.heap.size,0,none⟩) k.size cap].flatMap fun v=>[v]) (w2.alloc (.cells #[.slice (some ⟨w1.heap.size,0,none⟩) k.size cap] 30)):=
   Src.oneC (cf:=fun v=>[v]) (x:=.slice (some ⟨w1.heap.size,0,none⟩) k.size cap) (fun _=>rfl) (by simp[Value.oneCell']) Tryz.underlying46 (Blk.new w2 _ _)
  have c4':w1.cell? ⟨b,4,none⟩=some (.slice ao n dc):=hb1.cell rfl;have hml:m<w.heap.size:=by obtain⟨es,clock,hh,_⟩:=hm;exact(Array.getElem?_eq_some_iff.1 hh).1
  have HI:=qq8 hm1 k1 hb1 hndl k2 hcap hcell hml;have hlb:(vs.length+[Value.slice (some ⟨w1.heap.size,0,none⟩) k.size cap].length)*24<=140737488355328:=by rw[hl,<-hn];simp;omega
  have hl6:vs.length+[Value.slice (some ⟨w1.heap.size,0,none⟩) k.size cap].length<=1000000000000:=by rw[hl,<-hn];simp;omega
  clear hm hm1 hg1 k1 hb1 hml hndl k2 hcap hcell hn h1 h2 hI hO hl hk0 hkr ho hnd hKn hO1 c3 c3' c4 c5;refine Lib.hid ?_;go_wp2_with(at_builtin;refine wpList_append_ownC (cf:=fun v=>[v]) (fun _=>rfl) (by decide) rfl _ _ 46 30 rfl i0 24 Tryz.underlying46 hi ⟨_,hz0,rfl⟩ hz1 hz2 rfl hO3 _ [Value.slice (some ⟨w1.heap.size,0,none⟩) k.size cap] rfl hsrc hlb hl6 ?_;intro v' w4 G' hO4 k4 hG4;refine halt ?_)
  obtain⟨hm1,k1,hb1,hndl,k2,hcap,hcell,-⟩:=HI.out;obtain⟨hn,h1,h2,hI,hO,hl,hk0,hkr,ho,hnd,hKn,-,-,-,-⟩:=HH.out;have K3:Keep [m] w (w2.alloc (.cells #[.slice (some ⟨w1.heap.size,0,none⟩) k.size cap] 30)):=(k1.trans k2 (by simp)).alloc _;have hbk:b ∉ kB:=fun hh=>by rw[ho]at hnd;simp[hh]at hnd
  have hgk:∀x ∈ g,x ∉ kB:=fun x hx hh=>by
   rw[ho]at hnd;simp only[List.nodup_cons,List.nodup_append,List.mem_append]at hnd;exact hnd.2.2.2 x hx x (.inr hh) rfl
  have hgb:b ∉ g:=fun hh=>by rw[ho]at hnd;simp[hh]at hnd
  have hb4:=((hb1.keep k2 (by simp)).alloc (.cells #[.slice (some ⟨w1.heap.size,0,none⟩) k.size cap] 30)).keep k4 hbk;have K4:Keep wr w w4:=K3.cat k4 (by rw[ho];simp) (by rw[ho];intro x hx;exact .inl (by simp[hx]));have hm4:=ownsMap_keep ((ownsMap_keep hm1 k2 (by simp))) ((Keep.refl [] w2).alloc (.cells #[.slice (some ⟨w1.heap.size,0,none⟩) k.size cap] 30)) (by simp);have hm4':=ownsMap_keep hm4 k4 hndl.2.1;obtain⟨ao',dc',rfl,hdc'⟩:=hO4.shape;have d5:w4.cell? ⟨b,5,none⟩=some (.int .i64 (tot:Int)):=hb4.cell rfl;have e4:=hb4.frozen 4;have e5:=hb4.frozen 5;have d4:w4.cell? ⟨b,4,none⟩=some (.slice ao n dc):=hb4.cell rfl;have hsz:(w2.alloc (.cells #[.slice (some ⟨w1.heap.size,0,none⟩) k.size cap] 30)).heap.size=w1.heap.size+1+1:=by simp[Hs2.out]
  have HJ:=qq (And.intro K3 (And.intro hbk (And.intro hgk (And.intro hgb (And.intro hb4 (And.intro K4 (And.intro hm4' (And.intro hO4 (And.intro k4 (And.intro hG4 hsz))))))))));clear hm1 k1 hb1 hndl k2 hcap hcell hn h1 h2 hI hO hl hk0 hkr ho hnd hKn K3 hbk hgk hgb hb4 K4 hm4 hm4' hO4 k4 hG4 hO3 hsrc hsz hlb hl6;refine Lib.hid ?_;go_wp2;go_ret;obtain⟨K3,hbk,hgk,hgb,hb4,K4,hm4',hO4,k4,hG4,hsz⟩:=HJ.out;obtain⟨hm1,k1,hb1,hndl,k2,hcap,hcell,hml⟩:=HI.out;obtain⟨hn,h1,h2,hI,hO,hl,hk0,hkr,ho,hnd,hKn,hkn,hw',how,hP⟩:=HH.out;rw[show vs.length=n from hl.trans hn.symm];have hbl:=h1.lt;have hs1:=k1.size;have hGl:=hO.lt;have hgl:=h2.lt;have hG4':∀x ∈ G',x ∈ kB\/w1.heap.size+1+1<=x:=fun x hx=>by rw[<-hsz];exact hG4 x hx
  have hlen:(vs++[Value.slice (some ⟨w1.heap.size,0,none⟩) k.size cap]).length=n+1:=by rw[List.length_append,hl,<-hn];simp
  have K5:Keep wr w ((w4.setCell ⟨b,4,none⟩ (.slice ao' (n+1) dc')).setCell ⟨b,5,none⟩ (.int .i64 ((tot:Int)+(k.size:Int)))):=(K4.set (by rw[ho];simp) _ _ _).set (by rw[ho];simp) _ _ _;have Kb:Keep [b] w4 ((w4.setCell ⟨b,4,none⟩ (.slice ao' (n+1) dc')).setCell ⟨b,5,none⟩ (.int .i64 ((tot:Int)+(k.size:Int)))):=((Keep.refl [b] w4).set (by simp) _ _ _).set (by simp) _ _ _;have ho':∀x ∈ b::(g++([m]++G')),x ∈ wr\/w1.heap.size+1+1<=x:=fun x hx=>by
   rw[ho];simp only[List.mem_cons,List.mem_append,List.mem_singleton]at hx ⊢;rcases hx with hx|hx|hx|hx
   ·exact .inl (.inl hx)
   ·exact .inl (.inr (.inl hx))
   ·exact .inl (.inr (.inr (.inl hx)))
   ·exact(hG4' x hx).elim (fun h=>.inl (.inr (.inr (.inr h)))) .inr
  have hoo:∀x ∈ own,x ∈ w1.heap.size::(own++G'):=fun x hx=>by simp[hx]
  refine⟨rfl,w1.heap.size::(own++G'),?_,hP.trans ⟨K5.weaken (fun x hx=>.inl (hw' x hx)),fun x hx=>?_⟩⟩
  rotate_left
  ·rw[List.mem_cons,List.mem_append]at hx;rcases hx with hx|hx|hx
   ·exact .inr (by omega)
   ·exact .inl hx
   ·exact(hG4' x hx).elim (fun h=>.inl (hw' x (by rw[ho];simp[h]))) (fun h=>.inr (by omega))
  have hb5:=(hb4.set 4 (.slice ao' (n+1) dc')).set 5 (.int .i64 ((tot:Int)+(k.size:Int)));rw[show((tot:Int)+(k.size:Int))=((tot+k.size:Nat):Int)by omega]at hb5 K5 Kb ⊢;refine Bld.mk' (v:=v) (lr:=lr) (g:=g) (mB:=[m]) (kB:=G') (wr:=b::(g++([m]++G'))) hb5 ?_ (.inr ⟨m,D.put (keyL k) (.lit (.int .u32 (n:Int))),vs++[Value.slice (some ⟨w1.heap.size,0,none⟩) k.size cap],rfl,rfl,?_,by rw[hn];exact hI.put hkn,?_,by rw[hlen,List.length_append,<-hn];rfl,trivial,?_⟩) rfl ?_ ?_ ?_ ?_
  ·have h2':=((h2.keep k1 (fun x hx=>by simp;intro e;rw[ho]at hnd;simp only[List.nodup_cons,List.nodup_append,List.mem_append,List.mem_singleton]at hnd;exact hnd.2.2.2 x hx x (.inl e) rfl)).keep (S:=[]) ((k2.trans ((Keep.refl [] w2).alloc (.cells #[.slice (some ⟨w1.heap.size,0,none⟩) k.size cap] 30)) (by simp))) (by simp)).keep k4 hgk;exact h2'.keep Kb (fun x hx=>by simp;intro e;exact hgb (e▸hx))
  ·rw[List.length_append,<-hn];exact ownsMap_keep hm4' Kb (by simp;exact Ne.symm hndl.2.2)
  ·have h:=hO4.keep Kb (fun x hx=>by simp;intro e;subst e;exact(hG4' x hx).elim hbk (fun h=>by omega));rw[hlen]at h;exact h
  ·intro i k' hk';rw[List.getElem?_append]at hk';split at hk'
   ·rename_i hil;obtain⟨u,hu,hr⟩:=hkr i k' hk';refine⟨u,by rw[List.getElem?_append_left (by rw[hl];exact hil)];exact hu,hr.keep K5 (fun x hx=>.inl hx) (fun x hx=>(ho' x hx).imp_right (fun h=>by omega)) hoo⟩
   ·rename_i hil;have hi':i=n:=by
     have:=(List.getElem?_eq_some_iff.1 hk').1;simp at this;omega
    subst hi';rw[<-hn,Nat.sub_self]at hk';simp at hk';subst hk';refine⟨_,by rw[List.getElem?_append_right (by rw[hl,<-hn];exact Nat.le_refl _),hl,<-hn,Nat.sub_self];rfl,⟨w1.heap.size,0,none⟩,cap,rfl,hcap,?_,by simp,?_,fun j x hj=>?_⟩
    ·intro hm';change w1.heap.size ∈ _ at hm';rcases ho' _ hm' with h|h
     ·rw[ho]at h;rw[List.mem_cons,List.mem_append,List.mem_append,List.mem_singleton]at h;rcases h with h|h|h|h
      ·omega
      ·have:=hgl _ h;omega
      ·omega
      ·have:=hGl _ h;omega
     ·omega
    ·have h4:=k4.size;have h5:=Kb.size;rw[hsz]at h4;simp only at h4 h5 ⊢;omega
    ·rw[add_at,Nat.zero_add];have hc2:=hcell j x hj;have hc3:(w2.alloc (.cells #[.slice (some ⟨w1.heap.size,0,none⟩) k.size cap] 30)).cell? ⟨w1.heap.size,j,none⟩=some (.int .u8 (x:Int)):=((Keep.refl [] w2).alloc _).cell_some hc2 (by simp);have hc4:=k4.cell_some hc3 (by intro h;change w1.heap.size ∈ _ at h;have:=hGl _ h;omega);exact Kb.cell_some hc4 (by simp;omega)
  ·rw[ho]at hnd;refine nodup_swap hnd hO4.nodup hG4' (fun x hx=>?_);simp only[List.mem_singleton]at hx;rcases hx with rfl|hx|rfl
   ·omega
   ·have:=hgl _ hx;omega
   ·omega
  ·rw[List.nodup_append];exact⟨hKn,by simp,fun a ha b hb e=>by simp at hb;exact hkn (by rw[<-hb,<-e];exact ha)⟩
  ·intro x hx;rw[List.mem_cons,List.mem_append,List.mem_append,List.mem_singleton]at hx;rw[List.mem_cons,List.mem_append];rcases hx with hx|hx|hx|hx
   ·exact .inr (.inl (hw' x (by rw[ho];simp[hx])))
   ·exact .inr (.inl (hw' x (by rw[ho];simp[hx])))
   ·exact .inr (.inl (hw' x (by rw[ho];simp[hx])))
   ·exact .inr (.inr hx)
  ·intro x hx;have h4:=k4.size;have h5:=Kb.size;rw[hsz]at h4;have h6:=k1.size;rw[List.mem_cons,List.mem_append]at hx;rcases hx with hx|hx|hx
   ·omega
   ·have:=how x hx;omega
   ·exact Nat.lt_of_lt_of_le (hO4.lt x hx) h5
end Go.Proofs.YtocgdgmfnockiaaGreatDoor
