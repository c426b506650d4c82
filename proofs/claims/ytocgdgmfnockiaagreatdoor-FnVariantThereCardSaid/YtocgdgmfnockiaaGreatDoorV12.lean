/- Variants: littleNumber; appendVariant of decimals of 16 bytes, binaries, UUIDs. Variants: appendVariant of whatever holds no others (printed by gen_pm.py). Variants: appendVariant of an array. -/
import Derived.Test.YtocgdgmfnockiaaGreatDoorV11
import Derived.Deep.RegionHeld3
set_option linter.unusedVariables false
set_option linter.unusedSimpArgs false
set_option maxRecDepth 100000
set_option maxHeartbeats 8000000
namespace Go.Proofs.YtocgdgmfnockiaaGreatDoor
open Go.RowKit
theorem little_step (x y:Nat) (hy:y<256) (hx:x<256^7):bits .or .u64 (IntKind.u64.wrap ((x:Int)*256)) (IntKind.u64.wrap (y:Int))=((y+256*x:Nat):Int):=by
 have e1:IntKind.u64.wrap ((x:Int)*256)=((x*256:Nat):Int):=by rw[IntKind.wrap_u64];omega
 have e2:IntKind.u64.wrap (y:Int)=((y:Nat):Int):=by rw[IntKind.wrap_u64];omega
 rw[e1,e2,u64_or_nat _ _ (by omega) (by omega),nat_join 8 (x*256) y (by omega) (by omega)];congr 1
 omega
theorem leVal_drop_step {l:List Nat} {k x:Nat} (h:l[k]?=some x):leVal (l.drop k)=x+256*leVal (l.drop (k+1)):=by
 have hi:=(List.getElem?_eq_some_iff.1 h).1;have e:l[k]=x:=by rw[List.getElem?_eq_getElem hi]at h;exact Option.some.inj h
 rw[List.drop_eq_getElem_cons hi,e];rfl
theorem bytesN_get (s:ByteArray) (k:Nat) (h:k<s.size):(bytesN s)[k]?=some (s[k]'h).toNat:=by
 unfold bytesN;rw[List.getElem?_map,Array.getElem?_toList];show Option.map _ (s.data[k]?)=_
 rw[Array.getElem?_eq_getElem (by exact h)];rfl
theorem littleC (s:ByteArray) (w:World) (hs:s.size<=8):
  Calls Tryz.prog 45 #[.string s] w fun e w'=>e=.returned (.int .u64 (leVal (bytesN s):Nat))/\w=w':=by
 have hs1:wrap64 ((s.size:Int)-1)=(s.size:Int)-1:=by unfold wrap64;omega
 go_enter Tryz.func45,Tryz.ntmps45
 go_wp2_with fail
 go_loopw [3,4] (fun u i wr=>∃k:Nat,k<=s.size/\i=.int .i64 ((k:Int)-1)/\u=.int .u64 (leVal ((bytesN s).drop k):Nat)/\w=wr) (fun _ i _=>(intOf i+1).toNat)
 case atStart=>exact⟨s.size,Nat.le_refl _,rfl,by rw[show s.size=(bytesN s).length by simp,List.drop_length];rfl,rfl⟩
 case round=>
  obtain⟨k,hk,rfl,rfl,rfl⟩:=hrel;by_cases hk0:0<k
  ·have hki:(k:Int)-1<(s.size:Int):=by omega
   have hk1:(1:Int)<=(k:Int):=by omega
   go_wp2_with fail
   refine⟨⟨k-1,by omega,?_,?_,trivial⟩,by simp[intOf];omega⟩
   ·congr 1;omega
   ·have hlt:(leVal ((bytesN s).drop k))<256^7:=by
     have:=leVal_lt ((bytesN s).drop k) (fun y hy=>bytesN_lt s y (List.mem_of_mem_drop hy));refine Nat.lt_of_lt_of_le this (Nat.pow_le_pow_right (by omega) ?_);simp;omega
    have hg:=bytesN_get s (k-1) (by omega);rw[little_step _ _ (bytesN_lt s _ (List.mem_of_getElem? hg)) hlt,leVal_drop_step hg,show k-1+1=k by omega]
  ·have hk0':k=0:=by omega
   subst hk0';go_wp2;go_ret;exact⟨rfl,rfl⟩
theorem newDecC (hi:Int) (lo:Nat) (w:World):Calls Tryz.prog 44 #[.int .i64 hi,.int .u64 (lo:Int)] w fun e w'=>e=.returned (.agg #[.int .u64 (lo:Int),.int .i64 hi])/\Keep [] w w':=by
 go_enter Tryz.func44,Tryz.ntmps44
 go_wp2;refine bodyPost_ret (v:=.agg #[.int .u64 (lo:Int),.int .i64 hi]) ?_ rfl ⟨rfl,(Keep.refl [] w).alloc _⟩;rw[results_cell1 rfl];go_simp
theorem extract_bytesN (s:ByteArray) (a b:Nat):bytesN (s.extract a b)=((bytesN s).drop a).take (b-a):=by
 unfold bytesN;rw[ByteArray.data_extract,Array.toList_extract,List.extract_eq_take_drop];simp
theorem halves (text:ByteArray) (ht:text.size=16):leBytes 8 (leVal (bytesN (text.extract 0 8)))++leBytes 8 (leVal (bytesN (text.extract 8 16)))=bytesN text:=by
 have h1:=leBytes_leVal (bytesN (text.extract 0 8)) (bytesN_lt _);have h2:=leBytes_leVal (bytesN (text.extract 8 16)) (bytesN_lt _);rw[length_bytesN,ByteArray.size_extract]at h1 h2;rw[show min 8 text.size-0=8 by omega]at h1;rw[show min 16 text.size-8=8 by omega]at h2;rw[h1,h2,extract_bytesN,extract_bytesN,List.drop_zero];have:((bytesN text).drop 8).take (16-8)=(bytesN text).drop 8:=List.take_of_length_le (by simp;omega);rw[this,List.take_append_drop]
theorem Put.far {w w':World} {b:Nat} {g:List Nat} {rest:List Value} {bs:List Nat} (h:Put w w' b g rest bs) {p:Addr} {v:Value} (hc:w.cell? p=some v) (hn:p.block≠b/\p.block ∉ g):w'.cell? p=some v:=by
 obtain⟨_,_,_,k,_⟩:=h;exact k.cell_some hc (by simp;exact hn)
theorem appendV12 (b:Nat) (num:Nat) (scale:Int) (text:ByteArray) (kv cv:Value) (g:List Nat) (rest:List Value) (bs:List Nat) (w:World) (h:BufAt w b g rest bs) (hlim:bs.length+5000<=70368744177664) (h0:0<=scale/\scale<=38) (ht:text.size=16):
  Calls Tryz.prog 17 #[.pointer (some ⟨b,0,none⟩),.agg #[.int .i64 12,.int .u64 (num:Int),.int .i64 scale,.string text,kv,cv]] w fun e w'=>e=.returned .nilIface/\Put w w' b g rest (bs++(40::scale.toNat::bytesN text)):=by
 have H:=qq (h.keep (w':=w.alloc (.cells #[.int .i64 12,.int .u64 (num:Int),.int .i64 scale,.string text,kv,cv] 26)) ((Keep.refl [] w).alloc _) (by simp) (by simp));have hbl:w.heap.size≠b:=by have:=h.lt;omega
 have hgl:w.heap.size ∉ g:=fun hm=>by have:=h.glt _ hm;omega
 clear h;obtain⟨s,hs⟩:∃s,s=scale.toNat:=⟨_,rfl⟩;have hsc:IntKind.u8.wrap scale=(s:Int):=by rw[hs,IntKind.wrap_u8];omega
 have Hs:=qq hs;clear hs;have hb0:Blk (w.alloc (.cells #[.int .i64 12,.int .u64 (num:Int),.int .i64 scale,.string text,kv,cv] 26)) w.heap.size [.int .i64 12,.int .u64 (num:Int),.int .i64 scale,.string text,kv,cv]:=Blk.new w _ _
 go_enter Tryz.func17,Tryz.ntmps17
 go_wp2_with fail
 have K0:Keep [] w (w.alloc (.cells #[.int .i64 12,.int .u64 (num:Int),.int .i64 scale,.string text,kv,cv] 26)):=(Keep.refl [] w).alloc _;generalize w.alloc (.cells #[.int .i64 12,.int .u64 (num:Int),.int .i64 scale,.string text,kv,cv] 26)=w0 at H hb0 K0 ⊢;have Hnb:Hid (w.heap.size≠b/\w.heap.size ∉ g):=Lib.hid ⟨hbl,hgl⟩;have c2:w0.cell? ⟨w.heap.size,2,none⟩=some (.int .i64 scale):=hb0.cell rfl;have c3:w0.cell? ⟨w.heap.size,3,none⟩=some (.string text):=hb0.cell rfl;obtain⟨lo,hlo⟩:∃lo,lo=leVal (bytesN (text.extract 0 8)):=⟨_,rfl⟩;obtain⟨hi,hhi⟩:∃hi,hi=leVal (bytesN (text.extract 8 16)):=⟨_,rfl⟩;have C1:∀w,Calls Tryz.prog 45 #[.string (text.extract 0 8)] w fun e w'=>e=.returned (.int .u64 (lo:Int))/\w=w':=fun w=>by rw[hlo];exact littleC _ w (by simp;omega)
 have C2:∀w,Calls Tryz.prog 45 #[.string (text.extract 8 16)] w fun e w'=>e=.returned (.int .u64 (hi:Int))/\w=w':=fun w=>by rw[hhi];exact littleC _ w (by simp;omega)
 have hhl:hi<18446744073709551616:=by
  rw[hhi];refine Nat.lt_of_lt_of_le (leVal_lt _ (bytesN_lt _)) (Nat.pow_le_pow_right (by omega) (j:=8) ?_);simp;omega
 have hll:lo<18446744073709551616:=by
  rw[hlo];refine Nat.lt_of_lt_of_le (leVal_lt _ (bytesN_lt _)) (Nat.pow_le_pow_right (by omega) (j:=8) ?_);simp;omega
 obtain⟨z,hz⟩:∃z,z=sgn hi:=⟨_,rfl⟩;have hzw:IntKind.i64.wrap (hi:Int)=z:=by rw[hz,IntKind.wrap_i64];unfold sgn;split<;>omega
 have hu:u64of z=hi:=by rw[hz];exact u64of_sgn hi hhl
 have HL:=qq4 hlo hhi K0 hu;have hsz:¬text.size<8:=by omega
 have hsz2:¬text.size<16:=by omega
 clear hlo hhi K0 hb0 hz hu
 go_region_held3 (fun w'=>w'.cell? ⟨w.heap.size,2,none⟩=some (.int .i64 scale)/\w'.cell? ⟨w.heap.size,3,none⟩=some (.string text)) (go_keep) (first
  |(go_at_call_of 45 (Value.string (text.extract 8 16));refine(C2 _).mono ?_;rintro e w' ⟨rfl,rfl⟩)
  |(go_at_call_of 45 (Value.string (text.extract 0 8));refine(C1 _).mono ?_;rintro e w' ⟨rfl,rfl⟩)
  |(go_at_call 44;refine(newDecC _ lo _).mono ?_;rintro e w4 ⟨rfl,k4⟩;have d2:=k4.cell_some (p:=⟨w.heap.size,2,none⟩) c2 (by simp);have d3:=k4.cell_some (p:=⟨w.heap.size,3,none⟩) c3 (by simp);have Hk4:=qq k4;clear k4)
  |(go_at_call 43;refine(appendDec16 b s lo z g rest bs _ (H.out.keep ((Keep.refl [] w0).drew.trans Hk4.out (by simp)) (by simp) (by simp)) (by omega) hll).mono ?_;rintro e w5 ⟨rfl,hP⟩;have e2:w5.cell? ⟨w.heap.size,2,none⟩=some (.int .i64 scale):=hP.far d2 Hnb.out;have e3:w5.cell? ⟨w.heap.size,3,none⟩=some (.string text):=hP.far d3 Hnb.out;have HP:=qq hP;clear hP))
 all_goals
  go_wp2;go_ret;obtain⟨hlo,hhi,K0,hu⟩:=HL.out;refine⟨rfl,?_⟩;have e:(40::s::(leBytes 8 lo++leBytes 8 (u64of z)))=40::scale.toNat::bytesN text:=by rw[hu,hlo,hhi,halves text ht,Hs.out]
  rw[<-e];exact HP.out.lift (K0.trans ((Keep.refl [] w0).drew.trans Hk4.out (by simp)) (by simp))
theorem appendV17 (b:Nat) (num:Nat) (scale:Int) (text:ByteArray) (kv cv:Value) (g:List Nat) (rest:List Value) (bs:List Nat) (w:World) (h:BufAt w b g rest bs) (hlim:bs.length+5000<=70368744177664) (ht:text.size<=4096):
  Calls Tryz.prog 17 #[.pointer (some ⟨b,0,none⟩),.agg #[.int .i64 17,.int .u64 (num:Int),.int .i64 scale,.string text,kv,cv]] w fun e w'=>e=.returned .nilIface/\Put w w' b g rest (bs++encBin (bytesN text)):=by
 have H:=qq (h.keep (w':=w.alloc (.cells #[.int .i64 17,.int .u64 (num:Int),.int .i64 scale,.string text,kv,cv] 26)) ((Keep.refl [] w).alloc _) (by simp) (by simp));have Hbl:=qq2 h.lt h.glt;clear h;obtain⟨cap,w3,hcv,⟨k3,hsz3⟩,hcap,hcell⟩:=strBytes text (w.alloc (.cells #[.int .i64 17,.int .u64 (num:Int),.int .i64 scale,.string text,kv,cv] 26));have HS:=qq2 k3 hcell;clear k3 hcell
 go_enter Tryz.func17,Tryz.ntmps17
 go_wp2_with fail
 refine(appendBinC b text.size cap (some ⟨w.heap.size+1,0,none⟩) (bytesN text) g rest bs w3 (H.out.keep HS.out.1 (by simp) (by simp)) (by rw[length_bytesN]) (by omega) (by omega) (fun j x hj=>?_)).mono ?_
 ·refine⟨_,rfl,by have:=Hbl.out.1;simp;omega,fun hm=>by have:=Hbl.out.2 _ hm;simp at this;omega,?_⟩;rw[add_at,Nat.zero_add];have:=HS.out.2 j x hj;simpa using this
 rintro e w5 ⟨rfl,hP⟩;have HP:=qq hP;clear hP;go_wp2;go_ret;exact⟨rfl,HP.out.lift (((Keep.refl [] w).alloc _).trans HS.out.1 (by simp))⟩
theorem sixteen_of:∀(l:List Nat),l.length=16->∃y0 y1 y2 y3 y4 y5 y6 y7 y8 y9 y10 y11 y12 y13 y14 y15,l=[y0,y1,y2,y3,y4,y5,y6,y7,y8,y9,y10,y11,y12,y13,y14,y15]
 |[a0,a1,a2,a3,a4,a5,a6,a7,a8,a9,a10,a11,a12,a13,a14,a15],_=>⟨a0,a1,a2,a3,a4,a5,a6,a7,a8,a9,a10,a11,a12,a13,a14,a15,rfl⟩
theorem appendV21 (b:Nat) (num:Nat) (scale:Int) (text:ByteArray) (kv cv:Value) (g:List Nat) (rest:List Value) (bs:List Nat) (w:World) (h:BufAt w b g rest bs) (hlim:bs.length+5000<=70368744177664) (ht:text.size=16):
  Calls Tryz.prog 17 #[.pointer (some ⟨b,0,none⟩),.agg #[.int .i64 21,.int .u64 (num:Int),.int .i64 scale,.string text,kv,cv]] w fun e w'=>e=.returned .nilIface/\Put w w' b g rest (bs++(80::bytesN text)):=by
 have H:=qq (h.keep (w':=w.alloc (.cells #[.int .i64 21,.int .u64 (num:Int),.int .i64 scale,.string text,kv,cv] 26)) ((Keep.refl [] w).alloc _) (by simp) (by simp));have Hbl:=qq2 h.lt h.glt;clear h;obtain⟨cap,w3,hcv,⟨k3,hsz3⟩,hcap,hcell⟩:=strBytes text (w.alloc (.cells #[.int .i64 21,.int .u64 (num:Int),.int .i64 scale,.string text,kv,cv] 26));have HS:=qq2 k3 hcell;clear k3 hcell;have hl16:(bytesN text).length=16:=by rw[length_bytesN];exact ht
 obtain⟨y0,y1,y2,y3,y4,y5,y6,y7,y8,y9,y10,y11,y12,y13,y14,y15,hy⟩:=sixteen_of _ hl16;have hN:w3.heap.size=w.heap.size+2:=by rw[hsz3];simp
 rw[hy]at HS;simp only[World.size_alloc]at HS;have harr:∀w',(Instr.arrayAt 105 (.slice (some ⟨w.heap.size+1,0,none⟩) 16 cap)).run Tryz.prog w'=.ok (.pointer (some ⟨w.heap.size+1,0,none⟩)) w':=fun w'=>run_arrayAt (P:=Tryz.prog) w' 105 _ 16 _ 16 cap Tryz.underlying105 (Nat.le_refl _);have d0:w3.cell? ⟨w.heap.size+1,0,none⟩=some (.int .u8 (y0:Int)):=HS.out.2 0 y0 rfl;have d1:w3.cell? ⟨w.heap.size+1,1,none⟩=some (.int .u8 (y1:Int)):=HS.out.2 1 y1 rfl;have d2:w3.cell? ⟨w.heap.size+1,2,none⟩=some (.int .u8 (y2:Int)):=HS.out.2 2 y2 rfl;have d3:w3.cell? ⟨w.heap.size+1,3,none⟩=some (.int .u8 (y3:Int)):=HS.out.2 3 y3 rfl;have d4:w3.cell? ⟨w.heap.size+1,4,none⟩=some (.int .u8 (y4:Int)):=HS.out.2 4 y4 rfl;have d5:w3.cell? ⟨w.heap.size+1,5,none⟩=some (.int .u8 (y5:Int)):=HS.out.2 5 y5 rfl;have d6:w3.cell? ⟨w.heap.size+1,6,none⟩=some (.int .u8 (y6:Int)):=HS.out.2 6 y6 rfl;have d7:w3.cell? ⟨w.heap.size+1,7,none⟩=some (.int .u8 (y7:Int)):=HS.out.2 7 y7 rfl;have d8:w3.cell? ⟨w.heap.size+1,8,none⟩=some (.int .u8 (y8:Int)):=HS.out.2 8 y8 rfl;have d9:w3.cell? ⟨w.heap.size+1,9,none⟩=some (.int .u8 (y9:Int)):=HS.out.2 9 y9 rfl;have d10:w3.cell? ⟨w.heap.size+1,10,none⟩=some (.int .u8 (y10:Int)):=HS.out.2 10 y10 rfl;have d11:w3.cell? ⟨w.heap.size+1,11,none⟩=some (.int .u8 (y11:Int)):=HS.out.2 11 y11 rfl;have d12:w3.cell? ⟨w.heap.size+1,12,none⟩=some (.int .u8 (y12:Int)):=HS.out.2 12 y12 rfl;have d13:w3.cell? ⟨w.heap.size+1,13,none⟩=some (.int .u8 (y13:Int)):=HS.out.2 13 y13 rfl;have d14:w3.cell? ⟨w.heap.size+1,14,none⟩=some (.int .u8 (y14:Int)):=HS.out.2 14 y14 rfl;have d15:w3.cell? ⟨w.heap.size+1,15,none⟩=some (.int .u8 (y15:Int)):=HS.out.2 15 y15 rfl;have Hy:=qq hy;clear hy hl16 hsz3
 go_enter Tryz.func17,Tryz.ntmps17
 go_wp2_with fail
 refine(appendUUIDC b y0 y1 y2 y3 y4 y5 y6 y7 y8 y9 y10 y11 y12 y13 y14 y15 g rest bs w3 (H.out.keep HS.out.1 (by simp) (by simp)) (by omega)).mono ?_;rintro e w5 ⟨rfl,hP⟩;have HP:=qq hP;clear hP;go_wp2;go_ret;rw[Hy.out];exact⟨rfl,HP.out.lift (((Keep.refl [] w).alloc _).trans HS.out.1 (by simp))⟩
theorem appendPrimC (b:Nat) (kind:Int) (num:Nat) (scale:Int) (text:ByteArray) (kv cv:Value) (g:List Nat) (rest:List Value) (bs:List Nat) (w:World) (h:BufAt w b g rest bs) (hlim:bs.length+5000<=70368744177664) (hk:2<=kind/\kind<=21) (hn:num<18446744073709551616) (hf:FlatOk kind scale num text) (ht:text.size<=4096):
  Calls Tryz.prog 17 #[.pointer (some ⟨b,0,none⟩),.agg #[.int .i64 kind,.int .u64 (num:Int),.int .i64 scale,.string text,kv,cv]] w fun e w'=>e=.returned .nilIface/\Put w w' b g rest (bs++primB kind scale num text):=by
 have hs:=hf.scale1;have hcase:kind=2\/kind=3\/kind=4\/kind=5\/kind=6\/kind=7\/kind=8\/kind=9\/kind=10\/kind=11\/kind=12\/kind=13\/kind=14\/kind=15\/kind=16\/kind=17\/kind=18\/kind=19\/kind=20\/kind=21:=by omega
 rcases hcase with rfl|rfl|rfl|rfl|rfl|rfl|rfl|rfl|rfl|rfl|rfl|rfl|rfl|rfl|rfl|rfl|rfl|rfl|rfl|rfl
 ·have e:primB 2 scale num text=[0]:=by unfold primB;simp
  rw[e];exact appendV2 b num scale text kv cv g rest bs w h hlim
 ·by_cases h0:num=0
  ·have e:primB 3 scale num text=[8]:=by unfold primB;simp[h0]
   rw[e];exact appendV3f b num scale text kv cv g rest bs w h hlim h0
  ·have e:primB 3 scale num text=[4]:=by unfold primB;simp[h0]
   rw[e];exact appendV3t b num scale text kv cv g rest bs w h hlim h0
 ·have e:primB 4 scale num text=encI num:=by unfold primB;simp
  rw[e];unfold encI;split
  ·exact appendV4a b num scale text kv cv g rest bs w h hlim hn ‹_›
  ·rename_i h1;split
   ·exact appendV4b b num scale text kv cv g rest bs w h hlim hn h1 ‹_›
   ·rename_i h2;split
    ·exact appendV4c b num scale text kv cv g rest bs w h hlim hn h2 ‹_›
    ·exact appendV4d b num scale text kv cv g rest bs w h hlim hn ‹_›
 ·have e:primB 5 scale num text=encI num:=by unfold primB;simp
  rw[e];unfold encI;split
  ·exact appendV5a b num scale text kv cv g rest bs w h hlim hn ‹_›
  ·rename_i h1;split
   ·exact appendV5b b num scale text kv cv g rest bs w h hlim hn h1 ‹_›
   ·rename_i h2;split
    ·exact appendV5c b num scale text kv cv g rest bs w h hlim hn h2 ‹_›
    ·exact appendV5d b num scale text kv cv g rest bs w h hlim hn ‹_›
 ·have e:primB 6 scale num text=encI num:=by unfold primB;simp
  rw[e];unfold encI;split
  ·exact appendV6a b num scale text kv cv g rest bs w h hlim hn ‹_›
  ·rename_i h1;split
   ·exact appendV6b b num scale text kv cv g rest bs w h hlim hn h1 ‹_›
   ·rename_i h2;split
    ·exact appendV6c b num scale text kv cv g rest bs w h hlim hn h2 ‹_›
    ·exact appendV6d b num scale text kv cv g rest bs w h hlim hn ‹_›
 ·have e:primB 7 scale num text=encI num:=by unfold primB;simp
  rw[e];unfold encI;split
  ·exact appendV7a b num scale text kv cv g rest bs w h hlim hn ‹_›
  ·rename_i h1;split
   ·exact appendV7b b num scale text kv cv g rest bs w h hlim hn h1 ‹_›
   ·rename_i h2;split
    ·exact appendV7c b num scale text kv cv g rest bs w h hlim hn h2 ‹_›
    ·exact appendV7d b num scale text kv cv g rest bs w h hlim hn ‹_›
 ·have e:primB 8 scale num text=encStr text:=by unfold primB;simp
  rw[e];exact appendV8 b num scale text kv cv g rest bs w h hlim ht
 ·have e:primB 9 scale num text=28::leBytes 8 num:=by unfold primB;simp
  rw[e];exact appendV9 b num scale text kv cv g rest bs w h hlim hn
 ·have e:primB 10 scale num text=32::scale.toNat::leBytes 4 num:=by unfold primB;simp
  rw[e];exact appendV10 b num scale text kv cv g rest bs w h hlim hs
 ·have e:primB 11 scale num text=36::scale.toNat::leBytes 8 num:=by unfold primB;simp
  rw[e];exact appendV11 b num scale text kv cv g rest bs w h hlim hn hs
 ·have e:primB 12 scale num text=40::scale.toNat::bytesN text:=by unfold primB;simp
  rw[e];exact appendV12 b num scale text kv cv g rest bs w h hlim hs (hf.text16 (by omega))
 ·have e:primB 13 scale num text=44::leBytes 4 num:=by unfold primB;simp
  rw[e];exact appendV13 b num scale text kv cv g rest bs w h hlim
 ·have e:primB 14 scale num text=48::leBytes 8 num:=by unfold primB;simp
  rw[e];exact appendV14 b num scale text kv cv g rest bs w h hlim hn
 ·have e:primB 15 scale num text=52::leBytes 8 num:=by unfold primB;simp
  rw[e];exact appendV15 b num scale text kv cv g rest bs w h hlim hn
 ·have e:primB 16 scale num text=56::leBytes 4 num:=by unfold primB;simp
  rw[e];exact appendV16 b num scale text kv cv g rest bs w h hlim (hf.f32 rfl)
 ·have e:primB 17 scale num text=encBin (bytesN text):=by unfold primB;simp
  rw[e];exact appendV17 b num scale text kv cv g rest bs w h hlim ht
 ·have e:primB 18 scale num text=68::leBytes 8 num:=by unfold primB;simp
  rw[e];exact appendV18 b num scale text kv cv g rest bs w h hlim hn
 ·have e:primB 19 scale num text=72::leBytes 8 num:=by unfold primB;simp
  rw[e];exact appendV19 b num scale text kv cv g rest bs w h hlim hn
 ·have e:primB 20 scale num text=76::leBytes 8 num:=by unfold primB;simp
  rw[e];exact appendV20 b num scale text kv cv g rest bs w h hlim hn
 ·have e:primB 21 scale num text=80::bytesN text:=by unfold primB;simp
  rw[e];exact appendV21 b num scale text kv cv g rest bs w h hlim (hf.text16 (by omega))
theorem info_int:(Tryz.prog.info? 3).map (fun i=>(i.zero,i.size,i.bytes))=some (some (.int .i64 0),1,8):=by kernel_rfl

def AppOk (d:Nat):Prop:=∀(x:Vt d) (v:Value) (w0 w:World) (b tot:Nat) (own:List Nat) (K F:List ByteArray) (bs:List Nat),VtAt d w0 v x->OkV d x->Keep [] w0 w->Bld w b own K bs tot->(∀o ∈ own,w0.heap.size<=o)->
 bs.length+64*wtV d x<=50000000->K.length+wtV d x<=500000->tot+200*wtV d x<=500000000->addV d K x<+:F->F.length<=49->
 Calls Tryz.prog 17 #[.pointer (some ⟨b,0,none⟩),v] w fun e w'=>e=.returned .nilIface/\∃own' tot',Bld w' b own' (addV d K x) (bs++encV d F x) tot'/\Own2 w w' own own'/\tot'+szK K=tot+szK (addV d K x)
theorem addK_bounds (K:List ByteArray) (k:ByteArray) (hk:k.size<=200):(addK K k).length<=K.length+1/\szK (addK K k)<=szK K+200:=by
 unfold addK;split
 ·omega
 ·rw[szK_append];simp[szK];omega
theorem szK_prefix {K F:List ByteArray} (h:K<+:F):szK K<=szK F:=by obtain⟨L,rfl⟩:=h;rw[szK_append];omega
theorem addKV_bounds {α:Type} {f:List ByteArray->α->List ByteArray} {wt:α->Nat}:∀(ks:List ByteArray) (cs:List α) (K:List ByteArray),(∀k ∈ ks,k.size<=200)->(∀c ∈ cs,∀K,(f K c).length<=K.length+wt c/\szK (f K c)<=szK K+200*wt c)->
  (addKV f K ks cs).length<=K.length+ks.length+(cs.map wt).sum/\szK (addKV f K ks cs)<=szK K+200*(ks.length+(cs.map wt).sum)
 |[],_,K,_,_=>by simp only[addKV];omega
 |_::_,[],K,_,_=>by simp only[addKV];omega
 |k::ks,c::cs,K,hk,hf=>by
  have h1:=addK_bounds K k (hk k (by simp));have h2:=hf c (by simp) (addK K k);have h3:=addKV_bounds (wt:=wt) ks cs (f (addK K k) c) (fun x hx=>hk x (by simp[hx])) (fun x hx=>hf x (by simp[hx]));simp only[addKV,List.length_cons,List.map_cons,List.sum_cons];omega
theorem foldl_bounds {α:Type} {f:List ByteArray->α->List ByteArray} {wt:α->Nat}:∀(cs:List α) (K:List ByteArray),(∀c ∈ cs,∀K,(f K c).length<=K.length+wt c/\szK (f K c)<=szK K+200*wt c)->
  (cs.foldl f K).length<=K.length+(cs.map wt).sum/\szK (cs.foldl f K)<=szK K+200*(cs.map wt).sum
 |[],K,_=>by simp
 |c::cs,K,hf=>by
  have h2:=hf c (by simp) K;have h3:=foldl_bounds (wt:=wt) cs (f K c) (fun x hx=>hf x (by simp[hx]));simp only[List.foldl_cons,List.map_cons,List.sum_cons];omega
theorem keys_wt (l:List ByteArray):l.length<=(l.map fun k=>1+k.size / 16).sum:=by
 induction l with
 |nil=>simp
 |cons y l ih=>simp;omega
theorem addV_bounds:∀(d:Nat) (x:Vt d),OkV d x->∀K,(addV d K x).length<=K.length+wtV d x/\szK (addV d K x)<=szK K+200*wtV d x
 |0,_,h,_=>h.elim
 |d+1,x,h,K=>by
  have hx:OkN (OkV d) x:=h;have hk:=keys_wt (Node.keys x);have hkids:∀c ∈ Node.kids x,∀K,(addV d K c).length<=K.length+wtV d c/\szK (addV d K c)<=szK K+200*wtV d c:=fun c hc K=>addV_bounds d c (hx.kids c hc) K;show(addN (addV d) K x).length<=K.length+wtN (wtV d) x/\szK (addN (addV d) K x)<=szK K+200*wtN (wtV d) x
  unfold addN wtN;split
  ·have:=addKV_bounds (wt:=wtV d) (Node.keys x) (Node.kids x) K hx.keyLe hkids;omega
  ·split
   ·have:=foldl_bounds (wt:=wtV d) (Node.kids x) K hkids;omega
   ·omega

theorem Own2.keep0 {w0 w w':World} {own own':List Nat} (h:Own2 w w' own own') (k:Keep [] w0 w) (ho:∀o ∈ own,w0.heap.size<=o):Keep [] w0 w'/\∀o ∈ own',w0.heap.size<=o:=
 ⟨k.trans h.1 (fun x hx=>.inr (ho x hx)),fun o hm=>(h.2 o hm).elim (ho o) (fun hl=>Nat.le_trans k.size hl)⟩
theorem VtAt.shape:∀{d:Nat} {w:World} {u0 u1 u2 u3 u4 u5:Value} {x:Vt d},VtAt d w (.agg #[u0,u1,u2,u3,u4,u5]) x->
  ∃(k s:Int) (n:Nat) (t:ByteArray) (a1 a2:Option Addr) (l1 c1 l2 c2:Nat),u0=.int .i64 k/\u1=.int .u64 (n:Int)/\u2=.int .i64 s/\u3=.string t/\u4=.slice a1 l1 c1/\u5=.slice a2 l2 c2
 |0,_,_,_,_,_,_,_,_,h=>h.elim
 |d+1,w,_,_,_,_,_,_,x,h=>by
  obtain⟨kv,cv,he,⟨a1,c1,rfl,_⟩,⟨a2,c2,rfl,_⟩⟩:=h;injection he with he
  injection he with he
  simp only[List.cons.injEq,and_true]at he;obtain⟨rfl,rfl,rfl,rfl,rfl,rfl⟩:=he;exact⟨_,_,_,_,_,_,_,_,_,_,rfl,rfl,rfl,rfl,rfl,rfl⟩
theorem sum_take {α:Type} (f:α->Nat):∀(l:List α) (i:Nat) (y:α),l[i]?=some y->((l.take i).map f).sum+f y<=(l.map f).sum
 |[],i,y,h=>by simp at h
 |x::l,0,y,h=>by simp at h;subst h;simp
 |x::l,i+1,y,h=>by
  simp at h;have:=sum_take f l i y h;simp only[List.take_succ_cons,List.map_cons,List.sum_cons];omega
theorem flatten_bound {d:Nat} {F:List ByteArray} {c:List (Vt d)} (hok:∀y ∈ c,OkV d y):(c.map (encV d F)).flatten.length<=64*(c.map (wtV d)).sum:=by
 induction c with
 |nil=>simp
 |cons y l ih=>
  have h1:=length_encV d F y (hok y (by simp));have h2:=ih (fun z hz=>hok z (by simp[hz]));simp at h2 ⊢;omega

theorem kid_room {d:Nat} {F K:List ByteArray} {c:List (Vt d)} {i tot tt L:Nat} {y:Vt d} (hok:∀z ∈ c,OkV d z) (hy:c[i]?=some y) (h1:L+64*(1+(c.map (wtV d)).sum)<=50000000) (h2:K.length+(1+(c.map (wtV d)).sum)<=500000) (h3:tot+200*(1+(c.map (wtV d)).sum)<=500000000) (ht:tt+szK K=tot+szK ((c.take i).foldl (addV d) K)):
  L+((c.take i).map (encV d F)).flatten.length+64*wtV d y<=50000000/\((c.take i).foldl (addV d) K).length+wtV d y<=500000/\tt+200*wtV d y<=500000000:=by
 have e1:=sum_take (wtV d) c i y hy;have hok':∀z ∈ c.take i,OkV d z:=fun z hz=>hok z (List.mem_of_mem_take hz);have e2:=flatten_bound (F:=F) hok';have e3:=foldl_bounds (wt:=wtV d) (c.take i) K (fun z hz K=>addV_bounds d z (hok' z hz) K);omega
theorem sum_lens (l:List (List Nat)):(l.map List.length).sum=l.flatten.length:=by
 induction l with
 |nil=>rfl
 |cons x l ih=>rw[List.map_cons,List.sum_cons,List.flatten_cons,List.length_append,ih]
theorem map_take_snoc {α β:Type} (f:α->β) {l:List α} {i:Nat} {y:α} (h:l[i]?=some y):(l.take (i+1)).map f=(l.take i).map f++[f y]:=by rw[take_snoc h,List.map_append];rfl
theorem length_flatten_take {α:Type} (f:α->List Nat) (l:List α) (i:Nat):((l.take i).map f).flatten.length<=(l.map f).flatten.length:=by
 have e:(l.map f).flatten=((l.take i).map f).flatten++((l.drop i).map f).flatten:=by rw[<-List.flatten_append,<-List.map_append,List.take_append_drop]
 rw[e,List.length_append];omega
theorem appendArr (d:Nat) (IH:AppOk d) (num:Nat) (scale:Int) (text:ByteArray) (kv cv:Value) (c:List (Vt d)) (w0 w:World) (b tot:Nat) (own:List Nat) (K F:List ByteArray) (bs:List Nat) (hc:KidsAt (VtAt d w0) w0 cv c) (hok:∀y ∈ c,OkV d y) (hk0:Keep [] w0 w) (hB:Bld w b own K bs tot)
  (ho:∀o ∈ own,w0.heap.size<=o) (hl1:bs.length+64*(1+(c.map (wtV d)).sum)<=50000000) (hl2:K.length+(1+(c.map (wtV d)).sum)<=500000) (hl3:tot+200*(1+(c.map (wtV d)).sum)<=500000000) (hF:c.foldl (addV d) K<+:F) (hF2:F.length<=49) (hcl:c.length<=500):
  Calls Tryz.prog 17 #[.pointer (some ⟨b,0,none⟩),.agg #[.int .i64 1,.int .u64 (num:Int),.int .i64 scale,.string text,kv,cv]] w fun e w'=>e=.returned .nilIface/\
   ∃own' tot',Bld w' b own' (c.foldl (addV d) K) (bs++(arrHdr (offsL 0 ((c.map (encV d F)).map List.length)) (c.map (encV d F)).flatten.length++(c.map (encV d F)).flatten)) tot'/\Own2 w w' own own'/\tot'+szK K=tot+szK (c.foldl (addV d) K):=by
 obtain⟨ka,kcap,rfl,hkc,hcell⟩:=hc;obtain⟨n,hn⟩:∃n,n=c.length:=⟨_,rfl⟩;have H:=qq10 hB ho hk0 hok hcell hF hl1 hl2 hl3 hn;rw[<-hn]at hcl hkc ⊢;have hw1:Keep [] w (w.alloc (.cells #[.int .i64 1,.int .u64 (num:Int),.int .i64 scale,.string text,kv,.slice ka n kcap] 26)):=(Keep.refl [] w).alloc _;have hx1:Blk (w.alloc (.cells #[.int .i64 1,.int .u64 (num:Int),.int .i64 scale,.string text,kv,.slice ka n kcap] 26)) w.heap.size [.int .i64 1,.int .u64 (num:Int),.int .i64 scale,.string text,kv,.slice ka n kcap]:=Blk.new w _ _;obtain⟨st,hst⟩:∃st,st=bs.length:=⟨_,rfl⟩;have Hst:=qq hst;have hstl:st<=50000000:=by omega
 clear hB ho hk0 hok hcell hF hl1 hl2 hl3 hn hst
 go_enter Tryz.func17,Tryz.ntmps17
 go_wp2_with fail
 generalize w.alloc (.cells #[.int .i64 1,.int .u64 (num:Int),.int .i64 scale,.string text,kv,.slice ka n kcap] 26)=w1 at hw1 hx1 ⊢;refine(offsetC b tot own K bs w1 (H.out.1.keep hw1 (by simp))).mono ?_;rintro e w2 ⟨rfl,k2⟩;rw[<-Hst.out];have c5:(w2.alloc (.cells #[] 3)).cell? ⟨w.heap.size,5,none⟩=some (.slice ka n kcap):=((hx1.keep k2 (by simp)).alloc _).cell rfl;have K2:Keep [] w w2:=hw1.trans k2 (by simp);have hg3:Blk (w2.alloc (.cells #[] 3)) w2.heap.size []:=Blk.new w2 [] _;have K3:Keep [] w (w2.alloc (.cells #[] 3)):=K2.alloc _;have hn3:w.heap.size<=w2.heap.size:=K2.size;have HS:=qq3 hg3 K3 hn3;clear k2 K2 hg3 K3 hn3 hx1 hw1 w1;go_wp2_with fail
 generalize w2.alloc (.cells #[] 3)=w3 at HS ⊢;have hO3:OwnC cfI 1 [w2.heap.size] w3 (.slice (some ⟨w2.heap.size,0,none⟩) 0 0) (offsL 0 (((c.take 0).map (encV d F)).map List.length)):=.inr ⟨w2.heap.size,0,[],rfl,rfl,HS.out.1,rfl,rfl,Nat.le_refl _⟩;have hB3:Bld w3 b own ((c.take 0).foldl (addV d) K) (bs++((c.take 0).map (encV d F)).flatten) tot:=by simpa using H.out.1.keep HS.out.2.1 (by simp)
 have hgn:w2.heap.size ∉ own:=fun hm=>by have:=H.out.1.olt _ hm;have:=HS.out.2.2;omega
 have HL:=qq5 hO3 hB3 HS.out.2.1 hgn HS.out.2.2;clear hO3 hB3 hgn c5 HS
 go_loopw [60,11] (fun iv v11 wr=>∃(i:Nat) (ow:List Nat) (tt:Nat) (G:List Nat),i<=n/\iv=.int .i64 (i:Int)/\Hid (OwnC cfI 1 G wr v11 (offsL 0 (((c.take i).map (encV d F)).map List.length))/\Bld wr b ow ((c.take i).foldl (addV d) K) (bs++((c.take i).map (encV d F)).flatten) tt/\
   Own2 w wr own ow/\(∀x ∈ G,x ∉ ow/\w.heap.size<=x)/\tt+szK K=tot+szK ((c.take i).foldl (addV d) K))) (fun i _ _=>n-(intOf i).toNat)
 case atStart=>exact⟨0,own,tot,[w2.heap.size],Nat.zero_le _,rfl,Lib.hid ⟨HL.out.1,HL.out.2.1,⟨HL.out.2.2.1.nil,fun x hx=>.inl hx⟩,fun x hx=>by simp at hx;subst hx;exact⟨HL.out.2.2.2.1,HL.out.2.2.2.2⟩,by simp⟩⟩
 case round=>
  obtain⟨i,ow,tt,G,hi,rfl,HR⟩:=hrel;by_cases hlt:i<n
  ·have hlti:(i:Int)<(n:Int):=by omega
   obtain⟨y,hy⟩:∃y,c[i]?=some y:=⟨_,List.getElem?_eq_getElem (by have:=H.out.2.2.2.2.2.2.2.2.2;omega)⟩;obtain⟨a,u0,u1,u2,u3,u4,u5,rfl,d0,d1,d2,d3,d4,d5,hP⟩:=H.out.2.2.2.2.1 i y hy;obtain⟨yk,ys,yn,yt,ya1,ya2,yl1,yc1,yl2,yc2,rfl,rfl,rfl,rfl,rfl,rfl⟩:=hP.shape;have Kr:=HR.out.2.2.1.keep0 H.out.2.2.1 H.out.2.1;have e0:wr.cell? (a.add (i*6))=some (.int .i64 yk):=Kr.1.cell_some d0 (by simp);have e1:wr.cell? ⟨(a.add (i*6)).block,(a.add (i*6)).off+1,none⟩=some (.int .u64 (yn:Int)):=Kr.1.cell_some d1 (by simp);have e2:wr.cell? ⟨(a.add (i*6)).block,(a.add (i*6)).off+2,none⟩=some (.int .i64 ys):=Kr.1.cell_some d2 (by simp);have e3:wr.cell? ⟨(a.add (i*6)).block,(a.add (i*6)).off+3,none⟩=some (.string yt):=Kr.1.cell_some d3 (by simp);have e4:wr.cell? ⟨(a.add (i*6)).block,(a.add (i*6)).off+4,none⟩=some (.slice ya1 yl1 yc1):=Kr.1.cell_some d4 (by simp);have e5:wr.cell? ⟨(a.add (i*6)).block,(a.add (i*6)).off+5,none⟩=some (.slice ya2 yl2 yc2):=Kr.1.cell_some d5 (by simp);have Hd:=qq2 hP Kr;clear d0 d1 d2 d3 d4 d5 hP Kr;have Ka:Keep [] wr (wr.alloc (.cells #[.int .i64 yk,.int .u64 (yn:Int),.int .i64 ys,.string yt,.slice ya1 yl1 yc1,.slice ya2 yl2 yc2] 26)):=(Keep.refl [] wr).alloc _;have hYa:Blk (wr.alloc (.cells #[.int .i64 yk,.int .u64 (yn:Int),.int .i64 ys,.string yt,.slice ya1 yl1 yc1,.slice ya2 yl2 yc2] 26)) wr.heap.size [.int .i64 yk,.int .u64 (yn:Int),.int .i64 ys,.string yt,.slice ya1 yl1 yc1,.slice ya2 yl2 yc2]:=Blk.new wr _ _;go_wp2_with fail
   generalize wr.alloc (.cells #[.int .i64 yk,.int .u64 (yn:Int),.int .i64 ys,.string yt,.slice ya1 yl1 yc1,.slice ya2 yl2 yc2] 26)=wa at Ka hYa ⊢;obtain⟨off,hoff⟩:∃off,off=((c.take i).map (encV d F)).flatten.length:=⟨_,rfl⟩;have hroom:=kid_room (F:=F) (L:=bs.length) H.out.2.2.2.1 hy H.out.2.2.2.2.2.2.1 H.out.2.2.2.2.2.2.2.1 H.out.2.2.2.2.2.2.2.2.1 HR.out.2.2.2.2;rw[<-hoff]at hroom;refine(nextElemC b tt st ow _ _ wa (HR.out.2.1.keep Ka (by simp)) (by rw[List.length_append,Hst.out];omega) (by rw[List.length_append,<-hoff];omega)).mono ?_;rintro e wb ⟨rfl,kb⟩;rw[show(bs++((c.take i).map (encV d F)).flatten).length-st=off by rw[List.length_append,Hst.out,<-hoff];omega];have Kab:Keep [] wr wb:=Ka.trans kb (by simp);have hGn:wr.heap.size ∉ G:=fun hm=>by have:=HR.out.1.lt _ hm;omega
   have hO1:=HR.out.1.keep Kab (by simp);have hO3:=hO1.keep (S:=[]) ((Keep.refl [] wb).alloc (.cells #[.int .i64 (off:Int)] 3)) (by simp);have hYb:=(hYa.keep kb (by simp)).alloc (.cells #[.int .i64 (off:Int)] 3);have Kb3:Keep [] wr (wb.alloc (.cells #[.int .i64 (off:Int)] 3)):=Kab.alloc _;have hsrc:Src Tryz.prog 1 75 (.slice (some ⟨wb.heap.size,0,none⟩) 1 1) [off].length ([off].flatMap cfI) (wb.alloc (.cells #[.int .i64 (off:Int)] 3)):=
    Src.oneC (cf:=cfI) (x:=off) (fun _=>rfl) (by simp[Value.oneCell',cfI]) Tryz.underlying75 (Blk.new wb _ _)
   obtain⟨i0,hi0,hz0,hz1,hz2⟩:=info_parts info_int;have hlen:(offsL 0 (((c.take i).map (encV d F)).map List.length)).length=i:=by rw[length_offsL,List.length_map,List.length_map,List.length_take];have:=H.out.2.2.2.2.2.2.2.2.2;omega
   have hlb:((offsL 0 (((c.take i).map (encV d F)).map List.length)).length+[off].length)*8<=140737488355328:=by rw[hlen];simp;omega
   have hl6:(offsL 0 (((c.take i).map (encV d F)).map List.length)).length+[off].length<=1000000000000:=by rw[hlen];simp;omega
   have HI:=qq6 hoff hroom hYb Kb3 hGn hy;clear hoff hroom hYb Kb3 hGn hO1 Kab kb Ka hYa hlen e0 e1 e2 e3 e4 e5 hy;go_wp2_with(at_builtin;refine wpList_append_ownC (cf:=cfI) (fun _=>rfl) (by decide) rfl _ _ 75 3 rfl i0 8 Tryz.underlying75 hi0 ⟨_,hz0,rfl⟩ hz1 hz2 rfl hO3 _ [off] rfl hsrc hlb hl6 ?_;intro v' wc G' hO4 k4 hG4;refine halt ?_)
   obtain⟨hoff,hroom,hYb,Kb3,hGn,hy⟩:=HI.out;have hYc:=hYb.keep k4 hGn;have f0:wc.cell? ⟨wr.heap.size,0,none⟩=some (.int .i64 yk):=hYc.cell rfl;have f1:wc.cell? ⟨wr.heap.size,1,none⟩=some (.int .u64 (yn:Int)):=hYc.cell rfl;have f2:wc.cell? ⟨wr.heap.size,2,none⟩=some (.int .i64 ys):=hYc.cell rfl;have f3:wc.cell? ⟨wr.heap.size,3,none⟩=some (.string yt):=hYc.cell rfl;have f4:wc.cell? ⟨wr.heap.size,4,none⟩=some (.slice ya1 yl1 yc1):=hYc.cell rfl;have f5:wc.cell? ⟨wr.heap.size,5,none⟩=some (.slice ya2 yl2 yc2):=hYc.cell rfl;have hGo:∀x ∈ ow,x ∉ G:=fun x hx hm=>(HR.out.2.2.2.1 x hm).1 hx;have hBc:=(HR.out.2.1.keep Kb3 (by simp)).keep k4 hGo;have Kc:Keep [] w0 wc:=(Hd.out.2.1.trans Kb3 (by simp)).trans k4 (fun x hx=>.inr (Nat.le_trans H.out.2.2.1.size (HR.out.2.2.2.1 x hx).2));have hpre:addV d ((c.take i).foldl (addV d) K) y<+:F:=by
    rw[<-foldl_take_succ (f:=addV d) K hy];exact(foldl_take_prefix (addV_prefix d) c K (i+1)).trans H.out.2.2.2.2.2.1
   have hIH:=IH y _ w0 wc b tt ow ((c.take i).foldl (addV d) K) F (bs++((c.take i).map (encV d F)).flatten) Hd.out.1 (H.out.2.2.2.1 y (List.mem_of_getElem? hy)) Kc hBc Hd.out.2.2 (by rw[List.length_append,<-hoff];exact hroom.1) hroom.2.1 hroom.2.2 hpre hF2;have HJ:=qq6 hO4 k4 hG4 Kb3 hy hoff;clear hO4 k4 hG4 Kb3 hy hoff hroom hYb hGn hYc hGo hBc Kc hpre hO3 hsrc hlb hl6 HI hz0 hz1 hz2;refine Lib.hid ?_;go_wp2_with fail
   refine hIH.mono ?_;rintro e wd ⟨rfl,ow',tt',hBd,hOd,htd⟩;have HK:=qq3 hBd hOd htd;clear hBd hOd htd hIH;go_wp2_with fail
   obtain⟨hO4,k4,hG4,Kb3,hy,hoff⟩:=HJ.out;obtain⟨hBd,hOd,htd⟩:=HK.out;obtain⟨hO,hBr,hOr,hGr,htr⟩:=HR.out;have hsz:wr.heap.size<=(wb.alloc (.cells #[.int .i64 (off:Int)] 3)).heap.size:=Kb3.size;have hGow:∀x ∈ G',x ∉ ow/\w.heap.size<=x:=fun x hx=>by
    rcases hG4 x hx with h|h
    ·exact hGr x h
    ·refine⟨fun hm=>?_,Nat.le_trans (Nat.le_trans hOr.1.size hsz) h⟩;have:=hBr.olt x hm;omega
   have hK4:Keep own w wc:=(hOr.1.trans Kb3 (by simp)).trans k4 (fun x hx=>.inr (hGr x hx).2);refine⟨⟨i+1,ow',tt',G',hlt,by simp,Lib.hid ⟨?_,?_,⟨hK4.trans hOd.1 (fun x hx=>hOr.2 x hx),fun x hx=>?_⟩,fun x hx=>⟨fun hm=>?_,(hGow x hx).2⟩,?_⟩⟩,by simp[intOf];omega⟩
   ·have:=hO4.keep hOd.1 (fun x hx=>(hGow x hx).1);rw[map_take_snoc _ hy,List.map_append,offsL_append,sum_lens,<-hoff];simpa[offsL]using this
   ·rw[foldl_take_succ (f:=addV d) K hy,map_take_snoc _ hy,List.flatten_append,<-List.append_assoc];simpa using hBd
   ·rcases hOd.2 x hx with h|h
    ·exact hOr.2 x h
    ·exact .inr (Nat.le_trans hK4.size h)
   ·rcases hOd.2 x hm with h|h
    ·exact(hGow x hx).1 h
    ·have:=hO4.lt x hx;omega
   ·rw[foldl_take_succ (f:=addV d) K hy];omega
  ·have hie:i=n:=by omega
   subst hie;have hlti:¬(i:Int)<(i:Int):=by omega
   obtain⟨hO,hBr,hOr,hGr,htr⟩:=HR.out;have hct:c.take i=c:=List.take_of_length_le (by rw[<-H.out.2.2.2.2.2.2.2.2.2];exact Nat.le_refl _);rw[hct]at hO hBr htr;obtain⟨g,rest,hA,hgo,hbo,hopen⟩:=hBr.open;obtain⟨ao,oc,rfl,hoc⟩:=hO.shape;have hlen:(offsL 0 ((c.map (encV d F)).map List.length)).length=i:=by rw[length_offsL,List.length_map,List.length_map];exact H.out.2.2.2.2.2.2.2.2.2.symm
   rw[hlen]at hO hoc ⊢;obtain⟨ds,hds⟩:∃ds,ds=(c.map (encV d F)).flatten.length:=⟨_,rfl⟩;obtain⟨nb,hnb⟩:∃nb,nb=(bs++(c.map (encV d F)).flatten).length:=⟨_,rfl⟩;have hnbl:nb=st+ds:=by rw[hnb,List.length_append,Hst.out,hds]
   have hroom:=flatten_bound (F:=F) H.out.2.2.2.1;have hl1:=H.out.2.2.2.2.2.2.1;have hwt:ds<=50000000/\nb<=100000000:=by rw[<-hds]at hroom;omega
   have hcells:∀(j x:Nat),(offsL 0 ((c.map (encV d F)).map List.length))[j]?=some x->∃a,ao=some a/\a.block≠b/\a.block ∉ g/\wr.cell? (a.add j)=some (.int .i64 (x:Int)):=fun j x hj=>by
    obtain⟨g1,c1,hG1,hv1,_,hcell1⟩:=hO.cell (cf:=cfI) (sz:=1) (fun _=>rfl) hj (j:=0) (u:=.int .i64 (x:Int)) rfl;injection hv1 with hv1 _ _
    refine⟨_,hv1,?_,?_,?_⟩
    ·exact fun e=>(hGr g1 (by rw[hG1];simp)).1 (by have e':g1=b:=e;rw[e'];exact hbo)
    ·exact fun hm=>(hGr g1 (by rw[hG1];simp)).1 (hgo _ hm)
    ·rw[add_at];simpa using hcell1
   have hoffs:∀x ∈ offsL 0 ((c.map (encV d F)).map List.length),x<2147483648:=fun x hx=>by
    have:=offsL_le _ _ x hx;rw[sum_lens,<-hds]at this;omega
   have HZ:=qq10 hA hcells hoffs hopen hOr htr hds hnb hlen hct;clear hA hcells hoffs hopen hOr htr hds hnb hlen hct hO hBr hGr hgo hbo hroom hl1;go_wp2_with fail
   refine(finishArrC b nb st ds i (1+(if 255<i then 4 else 1)+(i+1)*sizeW ds) (if 255<i then 4 else 1) ao oc (offsL 0 ((c.map (encV d F)).map List.length)) g rest (bs++(c.map (encV d F)).flatten) _ HZ.out.1 HZ.out.2.2.2.2.2.2.2.1 HZ.out.2.2.2.2.2.2.2.2.1.symm (by omega) hwt.2 (by omega) rfl rfl HZ.out.2.2.1 HZ.out.2.1).mono ?_;rintro e we ⟨rfl,hP⟩;have HP:=qq hP;clear hP;go_wp2;go_ret;obtain⟨hA,hcells,hoffs,hopen,hOr,htr,hds,hnb,hlen,hct⟩:=HZ.out;obtain⟨r,L,hRm,hkk,hrg⟩:=HP.out;obtain⟨own',hBe,hOe⟩:=hopen _ r _ L hRm hkk hrg;refine⟨rfl,own',tt,?_,hOr.trans hOe,htr⟩;rw[Hst.out,List.take_left,List.drop_left,hds]at hBe;exact hBe
end Go.Proofs.YtocgdgmfnockiaaGreatDoor
