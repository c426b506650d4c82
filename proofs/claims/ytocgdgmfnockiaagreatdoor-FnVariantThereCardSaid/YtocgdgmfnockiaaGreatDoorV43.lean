/- Variants back: whatever holds no others. Variants back: an array's iterator. -/
import Derived.Test.YtocgdgmfnockiaaGreatDoorV40
import Derived.Test.YtocgdgmfnockiaaGreatDoorV42
import Derived.Test.YtocgdgmfnockiaaGreatDoorV41
set_option linter.unusedVariables false
set_option linter.unusedSimpArgs false
set_option maxRecDepth 100000
set_option maxHeartbeats 8000000
namespace Go.Proofs.YtocgdgmfnockiaaGreatDoor
open Go.RowKit
theorem empty_of_size {t:ByteArray} (h:t.size=0):t=⟨#[]⟩:=ByteArray.ext (Array.eq_empty_of_size_eq_zero h)

def rdK (kind:Int) (num:Nat):Int:=if 4<=kind/\kind<=7 then lwI num else kind
theorem leBytes8_of {s:ByteArray} (h:s.size=8):bytesN s=leBytes 8 (leVal (bytesN s)):=by
 have:=leBytes_leVal (bytesN s) (bytesN_lt s);rw[length_bytesN,h]at this;exact this.symm
theorem leVal8_lt {s:ByteArray} (h:s.size=8):leVal (bytesN s)<18446744073709551616:=by
 have:=leVal_lt (bytesN s) (bytesN_lt s);rw[length_bytesN,h]at this;exact this
theorem bytesN_append (s t:ByteArray):bytesN (s++t)=bytesN s++bytesN t:=by unfold bytesN;simp
theorem bytesN_inj {s t:ByteArray} (h:bytesN s=bytesN t):s=t:=by
 have:=congrArg (fun l:List Nat=>strOfNums (l.map fun x:Nat=>(x:Int))) h;simp only[strOf_bytesN]at this;exact this
theorem backFlat (kind scale:Int) (num:Nat) (text:ByteArray) (b o n c:Nat) (how:Int) (ma ko:Option Addr) (mn mc kn kc:Nat) (w:World) (hk:2<=kind/\kind<=21) (hf:FlatOk kind scale num text) (hn:num<18446744073709551616) (ht:text.size<=4096) (hB:Byt w b o (primB kind scale num text)) (hln:n=(primB kind scale num text).length) (hnc:n<=c) (hn9:n<=1000000000):
  Calls Tryz.prog 26 #[.agg #[.slice (some ⟨b,o,none⟩) n c,.slice ma mn mc,.slice ko kn kc],.int .i64 how] w fun e w'=>e=.returned (.agg #[.int .i64 (rdK kind num),.int .u64 (num:Int),.int .i64 scale,.string text,.slice none 0 0,.slice none 0 0])/\Keep [] w w':=by
 have hcase:kind=2\/kind=3\/(4<=kind/\kind<=7)\/kind=8\/kind=9\/kind=10\/kind=11\/kind=12\/kind=13\/kind=14\/kind=15\/kind=16\/kind=17\/kind=18\/kind=19\/kind=20\/kind=21:=by omega
 have hw64:IntKind.i64.wrap (num:Int)=sgn num:=sgn_i64 num hn;have hu64:IntKind.u64.wrap (sgn num)=(num:Int):=sgn_u64 num hn;rcases hcase with rfl|rfl|hint|rfl|rfl|rfl|rfl|rfl|rfl|rfl|rfl|rfl|rfl|rfl|rfl|rfl|rfl
 ·obtain rfl:=empty_of_size (hf.text0 (by omega) (by omega) (by omega) (by omega));obtain rfl:=hf.scale0 (by omega) (by omega) (by omega);obtain rfl:=hf.num0 (by omega);have hE:primB 2 0 0 ⟨#[]⟩=[0]:=by simp[primB]
  rw[hE]at hB hln;have hh:=hB.head;have ht1:=hB.tail;simp only[List.length_cons,length_leBytes,List.length_nil,List.length_append,length_bytesN]at hln;exact back0 b o n c 0 how ma ko mn mc kn kc w hh (by omega) rfl
 ·obtain rfl:=empty_of_size (hf.text0 (by omega) (by omega) (by omega) (by omega));obtain rfl:=hf.scale0 (by omega) (by omega) (by omega);have h1:=hf.bool1 rfl;rcases Nat.eq_zero_or_pos num with rfl|hp
  ·have hE:primB 3 0 0 ⟨#[]⟩=[8]:=by simp[primB]
   rw[hE]at hB hln;have hh:=hB.head;have ht1:=hB.tail;simp only[List.length_cons,length_leBytes,List.length_nil,List.length_append,length_bytesN]at hln;exact back2 b o n c 8 how ma ko mn mc kn kc w hh (by omega) rfl
  ·obtain rfl:num=1:=by omega
   have hE:primB 3 0 1 ⟨#[]⟩=[4]:=by simp[primB]
   rw[hE]at hB hln;have hh:=hB.head;have ht1:=hB.tail;simp only[List.length_cons,length_leBytes,List.length_nil,List.length_append,length_bytesN]at hln;exact back1 b o n c 4 how ma ko mn mc kn kc w hh (by omega) rfl
 ·obtain rfl:=empty_of_size (hf.text0 (by omega) (by omega) (by omega) (by omega));obtain rfl:=hf.scale0 (by omega) (by omega) (by omega);have hP:primB kind 0 num ⟨#[]⟩=encI num:=by
   unfold primB;rw[if_neg (by omega),if_neg (by omega),if_pos (by omega)]
  have hr:rdK kind num=lwI num:=by unfold rdK;rw[if_pos hint]
  rw[hr];rw[hP]at hB hln;unfold lwI;by_cases h8:-128<=sgn num/\sgn num<=127
  ·have hE:encI num=12::leBytes 1 num:=by unfold encI;rw[if_pos h8]
   rw[hE]at hB hln;have hh:=hB.head;have ht1:=hB.tail;simp only[List.length_cons,length_leBytes,List.length_nil,List.length_append,length_bytesN]at hln;rw[if_pos h8];exact back3 b o n c 12 how ma ko mn mc kn kc w hh (by omega) rfl num ht1 (by omega) hnc hn9 _ (sgn_i8 num hn h8) num hu64
  ·by_cases h16:-32768<=sgn num/\sgn num<=32767
   ·have hE:encI num=16::leBytes 2 num:=by unfold encI;rw[if_neg h8,if_pos h16]
    rw[hE]at hB hln;have hh:=hB.head;have ht1:=hB.tail;simp only[List.length_cons,length_leBytes,List.length_nil,List.length_append,length_bytesN]at hln;rw[if_neg h8,if_pos h16];exact back4 b o n c 16 how ma ko mn mc kn kc w hh (by omega) rfl num ht1 (by omega) hnc hn9 _ (sgn_i16 num hn h16) num hu64
   ·by_cases h32:-2147483648<=sgn num/\sgn num<=2147483647
    ·have hE:encI num=20::leBytes 4 num:=by unfold encI;rw[if_neg h8,if_neg h16,if_pos h32]
     rw[hE]at hB hln;have hh:=hB.head;have ht1:=hB.tail;simp only[List.length_cons,length_leBytes,List.length_nil,List.length_append,length_bytesN]at hln;rw[if_neg h8,if_neg h16,if_pos h32];exact back5 b o n c 20 how ma ko mn mc kn kc w hh (by omega) rfl num ht1 (by omega) hnc hn9 _ (sgn_i32 num hn h32) num hu64
    ·have hE:encI num=24::leBytes 8 num:=by unfold encI;rw[if_neg h8,if_neg h16,if_neg h32]
     rw[hE]at hB hln;have hh:=hB.head;have ht1:=hB.tail;simp only[List.length_cons,length_leBytes,List.length_nil,List.length_append,length_bytesN]at hln;rw[if_neg h8,if_neg h16,if_neg h32];exact back6 b o n c 24 how ma ko mn mc kn kc w hh (by omega) rfl num ht1 (by omega) hnc hn9 hn _ hw64 num hu64
 ·obtain rfl:=hf.scale0 (by omega) (by omega) (by omega);obtain rfl:=hf.num0 (by omega);have hP:primB 8 0 0 text=encStr text:=by simp[primB]
  rw[hP]at hB hln;by_cases hs:text.size<=63
  ·have hE:encStr text=(1+4*text.size)::bytesN text:=by unfold encStr;rw[if_pos hs]
   rw[hE]at hB hln;have hh:=hB.head;have ht1:=hB.tail;simp only[List.length_cons,length_leBytes,List.length_nil,List.length_append,length_bytesN]at hln;exact backShort b o n c _ how ma ko mn mc kn kc w hh (by omega) text.size text rfl (by omega) rfl ht1 (by omega) hnc hn9
  ·have hE:encStr text=64::(leBytes 4 text.size++bytesN text):=by unfold encStr;rw[if_neg hs]
   rw[hE]at hB hln;have hh:=hB.head;have ht1:=hB.tail;simp only[List.length_cons,length_leBytes,List.length_nil,List.length_append,length_bytesN]at hln;have ht5:=ht1.right;rw[length_leBytes]at ht5;exact back16 b o n c 64 how ma ko mn mc kn kc w hh (by omega) text.size text rfl ht1.left (by rw[show o+5=o+1+4 by omega];exact ht5) rfl (by omega) (by omega) (by omega) hnc hn9
 ·obtain rfl:=empty_of_size (hf.text0 (by omega) (by omega) (by omega) (by omega));obtain rfl:=hf.scale0 (by omega) (by omega) (by omega);have hE:primB 9 0 num ⟨#[]⟩=28::leBytes 8 num:=by simp[primB]
  rw[hE]at hB hln;have hh:=hB.head;have ht1:=hB.tail;simp only[List.length_cons,length_leBytes,List.length_nil,List.length_append,length_bytesN]at hln;exact back7 b o n c 28 how ma ko mn mc kn kc w hh (by omega) rfl num ht1 (by omega) hnc hn9 hn
 ·obtain rfl:=empty_of_size (hf.text0 (by omega) (by omega) (by omega) (by omega));have hsc:=hf.scale1;obtain⟨s,rfl⟩:∃s:Nat,scale=(s:Int):=⟨scale.toNat,by omega⟩;have hE:primB 10 (s:Int) num ⟨#[]⟩=32::s::leBytes 4 num:=by simp[primB]
  rw[hE]at hB hln;have hh:=hB.head;have ht1:=hB.tail;simp only[List.length_cons,length_leBytes,List.length_nil,List.length_append,length_bytesN]at hln;exact back8 b o n c 32 how ma ko mn mc kn kc w hh (by omega) rfl num s ht1.head (by omega) ht1.tail (by omega) hnc hn9 _ (sgn_i32 num hn (narrow32 (hf.date1 (.inr rfl)))) num hu64
 ·obtain rfl:=empty_of_size (hf.text0 (by omega) (by omega) (by omega) (by omega));have hsc:=hf.scale1;obtain⟨s,rfl⟩:∃s:Nat,scale=(s:Int):=⟨scale.toNat,by omega⟩;have hE:primB 11 (s:Int) num ⟨#[]⟩=36::s::leBytes 8 num:=by simp[primB]
  rw[hE]at hB hln;have hh:=hB.head;have ht1:=hB.tail;simp only[List.length_cons,length_leBytes,List.length_nil,List.length_append,length_bytesN]at hln;exact back9 b o n c 36 how ma ko mn mc kn kc w hh (by omega) rfl num s ht1.head (by omega) ht1.tail (by omega) hnc hn9 hn _ hw64 num hu64
 ·obtain rfl:=hf.num0 (by omega);have hsz:=hf.text16 (.inl rfl);have hsc:=hf.scale1;obtain⟨s,rfl⟩:∃s:Nat,scale=(s:Int):=⟨scale.toNat,by omega⟩;have hE:primB 12 (s:Int) 0 text=40::s::bytesN text:=by simp[primB]
  rw[hE]at hB hln;have hh:=hB.head;have ht1:=hB.tail;simp only[List.length_cons,length_leBytes,List.length_nil,List.length_append,length_bytesN]at hln;have z1:(text.extract 0 8).size=8:=by simp;omega
  have z2:(text.extract 8 16).size=8:=by simp;omega
  have hh2:=halves text hsz;have ht2:=ht1.tail;rw[<-hh2]at ht2;have hR:=ht2.right;rw[length_leBytes]at hR;have e1:=leBytes8_of z1;have e2:=leBytes8_of z2;have et:text.extract 0 8++text.extract 8 16=text:=bytesN_inj (by rw[bytesN_append];rw[<-hh2];rw[<-e1,<-e2]);have:=back10 b o n c 40 how ma ko mn mc kn kc w hh (by omega) rfl (leVal (bytesN (text.extract 0 8))) (leVal (bytesN (text.extract 8 16))) s (text.extract 0 8) (text.extract 8 16) ht1.head (by omega) ht2.left (by rw[show o+10=o+1+1+8 by omega];exact hR) (by omega) hnc hn9 (leVal8_lt z1) (leVal8_lt z2) e1 e2 _ (sgn_i64 _ (leVal8_lt z2)) (sgn_u64 _ (leVal8_lt z2));rw[et]at this;exact this
 ·obtain rfl:=empty_of_size (hf.text0 (by omega) (by omega) (by omega) (by omega));obtain rfl:=hf.scale0 (by omega) (by omega) (by omega);have hE:primB 13 0 num ⟨#[]⟩=44::leBytes 4 num:=by simp[primB]
  rw[hE]at hB hln;have hh:=hB.head;have ht1:=hB.tail;simp only[List.length_cons,length_leBytes,List.length_nil,List.length_append,length_bytesN]at hln;exact back11 b o n c 44 how ma ko mn mc kn kc w hh (by omega) rfl num ht1 (by omega) hnc hn9 _ (sgn_i32 num hn (narrow32 (hf.date1 (.inl rfl)))) num hu64
 ·obtain rfl:=empty_of_size (hf.text0 (by omega) (by omega) (by omega) (by omega));obtain rfl:=hf.scale0 (by omega) (by omega) (by omega);have hE:primB 14 0 num ⟨#[]⟩=48::leBytes 8 num:=by simp[primB]
  rw[hE]at hB hln;have hh:=hB.head;have ht1:=hB.tail;simp only[List.length_cons,length_leBytes,List.length_nil,List.length_append,length_bytesN]at hln;exact back12 b o n c 48 how ma ko mn mc kn kc w hh (by omega) rfl num ht1 (by omega) hnc hn9 hn _ hw64 num hu64
 ·obtain rfl:=empty_of_size (hf.text0 (by omega) (by omega) (by omega) (by omega));obtain rfl:=hf.scale0 (by omega) (by omega) (by omega);have hE:primB 15 0 num ⟨#[]⟩=52::leBytes 8 num:=by simp[primB]
  rw[hE]at hB hln;have hh:=hB.head;have ht1:=hB.tail;simp only[List.length_cons,length_leBytes,List.length_nil,List.length_append,length_bytesN]at hln;exact back13 b o n c 52 how ma ko mn mc kn kc w hh (by omega) rfl num ht1 (by omega) hnc hn9 hn _ hw64 num hu64
 ·obtain rfl:=empty_of_size (hf.text0 (by omega) (by omega) (by omega) (by omega));obtain rfl:=hf.scale0 (by omega) (by omega) (by omega);have hE:primB 16 0 num ⟨#[]⟩=56::leBytes 4 num:=by simp[primB]
  rw[hE]at hB hln;have hh:=hB.head;have ht1:=hB.tail;simp only[List.length_cons,length_leBytes,List.length_nil,List.length_append,length_bytesN]at hln;exact back14 b o n c 56 how ma ko mn mc kn kc w hh (by omega) rfl num ht1 (by omega) hnc hn9 num (by have:=hf.f32 rfl;omega)
 ·obtain rfl:=hf.scale0 (by omega) (by omega) (by omega);obtain rfl:=hf.num0 (by omega);have hE:primB 17 0 0 text=60::(leBytes 4 text.size++bytesN text):=by simp[primB,encBin,length_bytesN]
  rw[hE]at hB hln;have hh:=hB.head;have ht1:=hB.tail;simp only[List.length_cons,length_leBytes,List.length_nil,List.length_append,length_bytesN]at hln;have ht5:=ht1.right;rw[length_leBytes]at ht5;exact back15 b o n c 60 how ma ko mn mc kn kc w hh (by omega) text.size text rfl ht1.left (by rw[show o+5=o+1+4 by omega];exact ht5) rfl (by omega) (by omega) hnc hn9
 ·obtain rfl:=empty_of_size (hf.text0 (by omega) (by omega) (by omega) (by omega));obtain rfl:=hf.scale0 (by omega) (by omega) (by omega);have hE:primB 18 0 num ⟨#[]⟩=68::leBytes 8 num:=by simp[primB]
  rw[hE]at hB hln;have hh:=hB.head;have ht1:=hB.tail;simp only[List.length_cons,length_leBytes,List.length_nil,List.length_append,length_bytesN]at hln;exact back17 b o n c 68 how ma ko mn mc kn kc w hh (by omega) rfl num ht1 (by omega) hnc hn9 hn _ hw64 num hu64
 ·obtain rfl:=empty_of_size (hf.text0 (by omega) (by omega) (by omega) (by omega));obtain rfl:=hf.scale0 (by omega) (by omega) (by omega);have hE:primB 19 0 num ⟨#[]⟩=72::leBytes 8 num:=by simp[primB]
  rw[hE]at hB hln;have hh:=hB.head;have ht1:=hB.tail;simp only[List.length_cons,length_leBytes,List.length_nil,List.length_append,length_bytesN]at hln;exact back18 b o n c 72 how ma ko mn mc kn kc w hh (by omega) rfl num ht1 (by omega) hnc hn9 hn _ hw64 num hu64
 ·obtain rfl:=empty_of_size (hf.text0 (by omega) (by omega) (by omega) (by omega));obtain rfl:=hf.scale0 (by omega) (by omega) (by omega);have hE:primB 20 0 num ⟨#[]⟩=76::leBytes 8 num:=by simp[primB]
  rw[hE]at hB hln;have hh:=hB.head;have ht1:=hB.tail;simp only[List.length_cons,length_leBytes,List.length_nil,List.length_append,length_bytesN]at hln;exact back19 b o n c 76 how ma ko mn mc kn kc w hh (by omega) rfl num ht1 (by omega) hnc hn9 hn _ hw64 num hu64
 ·obtain rfl:=hf.scale0 (by omega) (by omega) (by omega);obtain rfl:=hf.num0 (by omega);have hsz:=hf.text16 (.inr rfl);have hE:primB 21 0 0 text=80::bytesN text:=by simp[primB]
  rw[hE]at hB hln;have hh:=hB.head;have ht1:=hB.tail;simp only[List.length_cons,length_leBytes,List.length_nil,List.length_append,length_bytesN]at hln;exact back20 b o n c 80 how ma ko mn mc kn kc w hh (by omega) rfl text hsz ht1 (by omega)

structure KidsCtx (d:Nat) (cs:List (Vt d)) (how:Int) (b o n c y0 q0 sz:Nat) (off m:Nat->Nat) (ma ko:Option Addr) (mn mc kn kc:Nat) (w0:World):Prop where
 sz1:1<=sz
 sz4:sz<=4
 n9:n<=1000000000
 nc:n<=c
 bytes:∀i y,cs[i]?=some y->Byt w0 b (o+(y0+i*sz)) (leBytes sz (off i))
 fits:∀i y,cs[i]?=some y->off i<256^sz/\0<m i/\q0+off i+m i<=n/\y0+i*sz+sz<=n
 size:∀i y,cs[i]?=some y->∀wx,Keep [] w0 wx->Calls Tryz.prog 82 #[.slice (some ⟨b,o+(q0+off i),none⟩) (n-(q0+off i)) (c-(q0+off i))] wx fun e w'=>e=.returned (.int .i64 (m i:Int))/\Keep [] wx w'
 back:∀i y,cs[i]?=some y->∀wx,Keep [] w0 wx->Calls Tryz.prog 26 #[.agg #[.slice (some ⟨b,o+(q0+off i),none⟩) (m i) (c-(q0+off i)),.slice ma mn mc,.slice ko kn kc],.int .i64 how] wx fun e w'=>∃v',e=.returned v'/\Keep [] wx w'/\VtIn (fun p=>wx.heap.size<=p) d w' v' (lwV d y)
theorem arrIterC (d q hb bx k:Nat) (cs:List (Vt d)) (how:Int) (b o n c y0 q0 sz:Nat) (off m:Nat->Nat) (ma ko:Option Addr) (mn mc kn kc:Nat) (w0 w:World) (hC:KidsCtx d cs how b o n c y0 q0 sz off m ma ko mn mc kn kc w0) (hk:k=cs.length) (hk9:k<=500)
  (hw:Keep [] w0 w) (hq:w0.heap.size<=q) (hbq:hb<q) (hqb:q<bx) (hO:OutSt d q [bx] w []) (hH:Blk w hb [.int .i64 how])
  (hX:Blk w bx [.slice (some ⟨b,o,none⟩) n c,.slice ma mn mc,.slice ko kn kc,.int .u32 (k:Int),.int .u64 (q0:Int),.int .u8 (sz:Int),.int .u64 (y0:Int)]):
  Calls Tryz.prog 152 #[.func (.func 123) #[] #[.pointer (some ⟨q,0,none⟩),.pointer (some ⟨hb,0,none⟩)],.pointer (some ⟨bx,0,none⟩)] w fun e w'=>e=.returned (.tuple #[])/\OutSt d q [bx] w' (cs.map (lwV d))/\∃S,Keep S w w'/\∀b ∈ S,q<=b:=by
 have x3:=hX.cell (i:=3) rfl;have HC:=qq hC;have H:=qq6 hw hO hH hX hk hq;clear hC hw hO hH hX hk hq
 go_enter Tryz.func152,Tryz.ntmps152
 go_wp2_with fail
 go_loopw [8] (fun iv wr=>∃i:Nat,i<=k/\iv=.int .u32 (i:Int)/\Hid (∃S,Keep S w wr/\(∀b ∈ S,q<=b/\b ∉ [bx])/\OutSt d q [bx] wr ((cs.take i).map (lwV d)))) (fun i _=>k-(intOf i).toNat)
 case atStart=>exact⟨0,Nat.zero_le _,rfl,Lib.hid ⟨[],Keep.refl _ _,by simp,by simpa using H.out.2.1⟩⟩
 case round=>
  obtain⟨i,hi,rfl,HR0⟩:=hrel;obtain⟨S,hSk,hSq,hSo⟩:=HR0.out;have HR:=qq3 hSk hSq hSo;clear hSk hSq hSo x3;by_cases hi2:i<k
  ·have hlti:(i:Int)<(k:Int):=by omega
   obtain⟨y,hy⟩:∃y,cs[i]?=some y:=⟨_,List.getElem?_eq_getElem (by rw[<-H.out.2.2.2.2.1];exact hi2)⟩;have Hy:=qq hy;clear hy;obtain⟨r,hr⟩:∃r,r=i*sz:=⟨_,rfl⟩;have hmul:(i:Int)*(sz:Int)=(r:Int):=by rw[hr];push_cast;rfl
   obtain⟨p,hp⟩:∃p,p=y0+r:=⟨_,rfl⟩;obtain⟨p2,hp2⟩:∃p2,p2=p+sz:=⟨_,rfl⟩;obtain⟨ofi,hofi⟩:∃ofi,ofi=off i:=⟨_,rfl⟩;obtain⟨g,hg⟩:∃g,g=q0+ofi:=⟨_,rfl⟩;obtain⟨mi,hmi⟩:∃mi,mi=m i:=⟨_,rfl⟩;have hfit:=HC.out.fits i y Hy.out;have h1:=HC.out.sz1;have h4:=HC.out.sz4;have hn9:=HC.out.n9;have hnc:=HC.out.nc;rw[<-hofi,<-hmi,<-hr,<-hp,<-hp2,<-hg]at hfit;have m1:IntKind.u64.wrap (r:Int)=(r:Int):=by rw[IntKind.wrap_u64];omega
   have m2:(y0:Int)+(r:Int)=(p:Int):=by omega
   have m3:IntKind.u64.wrap (p:Int)=(p:Int):=by rw[IntKind.wrap_u64];omega
   have m4:(p:Int)+(sz:Int)=(p2:Int):=by omega
   have m5:IntKind.u64.wrap (p2:Int)=(p2:Int):=by rw[IntKind.wrap_u64];omega
   have m6:p2-p=sz:=by omega
   have m7:(p:Int)<=(p2:Int):=by omega
   have m7':p<=p2:=by omega
   have m8:(p2:Int)<=(c:Int):=by omega
   have m8':p2<=c:=by omega
   have m9:¬c=p:=by omega
   have how64:IntKind.u64.wrap (ofi:Int)=(ofi:Int):=by
    have:256^sz<=256^4:=Nat.pow_le_pow_right (by omega) h4;rw[IntKind.wrap_u64];omega
   have hgi:(q0:Int)+(ofi:Int)=(g:Int):=by omega
   have hgw2:IntKind.u64.wrap (g:Int)=(g:Int):=by rw[IntKind.wrap_u64];omega
   have hgn:(g:Int)<=(n:Int):=by omega
   have hgn':g<=n:=by omega
   have hqc:¬c=g:=by omega
   have hB:=HC.out.bytes i y Hy.out;rw[<-hofi,<-hr,<-hp]at hB;have HL:=qq (fun(wx:World) (kx:Keep [] w0 wx)=>readLe b (o+p) sz (c-p) ofi wx (hB.keep kx (by simp)) hfit.1 (by omega) (by omega));have hsz:=HC.out.size i y Hy.out;rw[<-hofi,<-hg,<-hmi]at hsz;have HT:=qq (fun(wx:World) (kx:Keep [] w0 wx)=>trimC b (o+g) (n-g) (c-g) mi ma ko mn mc kn kc wx (fun wy ky=>hsz wy (kx.trans ky (by simp))) (by omega));have hbk:=HC.out.back i y Hy.out;rw[<-hofi,<-hg,<-hmi]at hbk;have HBK:=qq hbk;clear hr hp hp2 hofi hg hmi hfit hB hsz hbk;have K0:Keep [] w0 wr:=H.out.1.trans HR.out.1 (fun b hb=>.inr (by have:=(HR.out.2.1 b hb).1;have:=H.out.2.2.2.2.2;omega));have hXr:=H.out.2.2.2.1.keep HR.out.1 (fun hm=>(HR.out.2.1 _ hm).2 (by simp));have hHr:=H.out.2.2.1.keep HR.out.1 (fun hm=>by have:=(HR.out.2.1 _ hm).1;omega);obtain⟨x0,x1,x2,x4,x5,x6⟩:=hXr.c6 0 1 2 4 5 6 rfl rfl rfl rfl rfl rfl;have Hr:=qq3 K0 hXr hHr;clear K0 hXr hHr;go_wp2_with fail
   refine(HL.out _ Hr.out.1).mono ?_;rintro e w5 ⟨rfl,k5⟩;have hX5:=Hr.out.2.1.keep k5 (by simp);have H5:=qq5 (Hr.out.1.trans k5 (by simp)) hX5 (Hr.out.2.2.keep k5 (by simp)) k5 (HR.out.2.2.keep k5 (by simp));have HS:=qq (show(fun w':World=>w'.cell? ⟨bx,0,none⟩=some (.slice (some ⟨b,o,none⟩) n c)/\w'.cell? ⟨bx,1,none⟩=some (.slice ma mn mc)/\w'.cell? ⟨bx,2,none⟩=some (.slice ko kn kc)/\w'.cell? ⟨bx,3,none⟩=some (.int .u32 (k:Int))/\w'.cell? ⟨bx,4,none⟩=some (.int .u64 (q0:Int))) w5 from⟨hX5.cell rfl,hX5.cell rfl,hX5.cell rfl,hX5.cell rfl,hX5.cell rfl⟩);clear k5 hX5 x0 x1 x2 x4 x5 x6;go_wp2_with fail
   refine wp_region_head (fun w'=>w'.cell? ⟨bx,0,none⟩=some (.slice (some ⟨b,o,none⟩) n c)/\w'.cell? ⟨bx,1,none⟩=some (.slice ma mn mc)/\w'.cell? ⟨bx,2,none⟩=some (.slice ko kn kc)/\w'.cell? ⟨bx,3,none⟩=some (.int .u32 (k:Int))/\w'.cell? ⟨bx,4,none⟩=some (.int .u64 (q0:Int))) 14 (by kernel_rfl) ?_;change wpHead _ _ _ _ _ _ _ _ _ (World.drew _);refine wpHead_take (i:=0) (v:=?_) rfl (by rfl) (by kernel_rfl) (by kernel_rfl) (by kernel_rfl) (by kernel_rfl) (by kernel_rfl) (fun _ _ _ h=>h) HS.out (Or.inl ⟨by rfl,?_⟩) ?_
   rotate_left 1
   ·(intro w hSw;(try dsimp only at hSw);go_simp;try with_reducible rfl)
   try simp only[Act.put,List.setIfInBounds_toArray,List.set_cons_zero,List.set_cons_succ]
   refine wpHead_take (i:=1) (v:=?_) rfl (by rfl) (by kernel_rfl) (by kernel_rfl) (by kernel_rfl) (by kernel_rfl) (by kernel_rfl) (fun _ _ _ h=>h) HS.out (Or.inl ⟨by rfl,?_⟩) ?_
   rotate_left 1
   ·(intro w hSw;(try dsimp only at hSw);go_simp;try with_reducible rfl)
   try simp only[Act.put,List.setIfInBounds_toArray,List.set_cons_zero,List.set_cons_succ]
   refine wpHead_take (i:=2) (v:=?_) rfl (by rfl) (by kernel_rfl) (by kernel_rfl) (by kernel_rfl) (by kernel_rfl) (by kernel_rfl) (fun _ _ _ h=>h) HS.out (Or.inl ⟨by rfl,?_⟩) ?_
   rotate_left 1
   ·(intro w hSw;(try dsimp only at hSw);go_simp;try with_reducible rfl)
   try simp only[Act.put,List.setIfInBounds_toArray,List.set_cons_zero,List.set_cons_succ]
   refine wpHead_take (i:=3) (v:=?_) rfl (by rfl) (by kernel_rfl) (by kernel_rfl) (by kernel_rfl) (by kernel_rfl) (by kernel_rfl) (fun _ _ _ h=>h) HS.out (Or.inl ⟨by rfl,?_⟩) ?_
   rotate_left 1
   ·(intro w hSw;(try dsimp only at hSw);go_simp;try with_reducible rfl)
   try simp only[Act.put,List.setIfInBounds_toArray,List.set_cons_zero,List.set_cons_succ]
   refine wpHead_take (i:=4) (v:=?_) rfl (by rfl) (by kernel_rfl) (by kernel_rfl) (by kernel_rfl) (by kernel_rfl) (by kernel_rfl) (fun _ _ _ h=>h) HS.out (Or.inl ⟨by rfl,?_⟩) ?_
   rotate_left 1
   ·(intro w hSw;(try dsimp only at hSw);go_simp;try with_reducible rfl)
   try simp only[Act.put,List.setIfInBounds_toArray,List.set_cons_zero,List.set_cons_succ]
   refine wpHead_take (i:=5) (v:=?_) rfl (by rfl) (by kernel_rfl) (by kernel_rfl) (by kernel_rfl) (by kernel_rfl) (by kernel_rfl) (fun _ _ _ h=>h) HS.out (Or.inl ⟨by rfl,?_⟩) ?_
   rotate_left 1
   ·(intro w hSw;(try dsimp only at hSw);go_simp;try with_reducible rfl)
   try simp only[Act.put,List.setIfInBounds_toArray,List.set_cons_zero,List.set_cons_succ]
   refine wpHead_take (i:=6) (v:=?_) rfl (by rfl) (by kernel_rfl) (by kernel_rfl) (by kernel_rfl) (by kernel_rfl) (by kernel_rfl) (fun _ _ _ h=>h) HS.out (Or.inl ⟨by rfl,?_⟩) ?_
   rotate_left 1
   ·(intro w hSw;(try dsimp only at hSw);go_simp;try with_reducible rfl)
   try simp only[Act.put,List.setIfInBounds_toArray,List.set_cons_zero,List.set_cons_succ]
   refine wpHead_take (i:=7) (v:=?_) rfl (by rfl) (by kernel_rfl) (by kernel_rfl) (by kernel_rfl) (by kernel_rfl) (by kernel_rfl) (fun _ _ _ h=>h) HS.out (Or.inl ⟨by rfl,?_⟩) ?_
   rotate_left 1
   ·(intro w hSw;(try dsimp only at hSw);go_simp;try with_reducible rfl)
   try simp only[Act.put,List.setIfInBounds_toArray,List.set_cons_zero,List.set_cons_succ]
   refine wpHead_take (i:=8) (v:=?_) rfl (by rfl) (by kernel_rfl) (by kernel_rfl) (by kernel_rfl) (by kernel_rfl) (by kernel_rfl) (fun _ _ _ h=>h) HS.out (Or.inl ⟨by rfl,?_⟩) ?_
   rotate_left 1
   ·(intro w hSw;(try dsimp only at hSw);go_simp;try with_reducible rfl)
   try simp only[Act.put,List.setIfInBounds_toArray,List.set_cons_zero,List.set_cons_succ]
   refine wpHead_take (i:=9) (v:=?_) rfl (by rfl) (by kernel_rfl) (by kernel_rfl) (by kernel_rfl) (by kernel_rfl) (by kernel_rfl) (fun _ _ _ h=>h) HS.out (Or.inl ⟨by rfl,?_⟩) ?_
   rotate_left 1
   ·(intro w hSw;(try dsimp only at hSw);go_simp;try with_reducible rfl)
   try simp only[Act.put,List.setIfInBounds_toArray,List.set_cons_zero,List.set_cons_succ]
   refine wpHead_take (i:=10) (v:=?_) rfl (by rfl) (by kernel_rfl) (by kernel_rfl) (by kernel_rfl) (by kernel_rfl) (by kernel_rfl) (fun _ _ _ h=>h) HS.out (Or.inl ⟨by rfl,?_⟩) ?_
   rotate_left 1
   ·(intro w hSw;(try dsimp only at hSw);go_simp;try with_reducible rfl)
   try simp only[Act.put,List.setIfInBounds_toArray,List.set_cons_zero,List.set_cons_succ]
   refine wpHead_ready (rs:=[11]) (by kernel_rfl) (by kernel_rfl) (by simp) ?_;refine headCons rfl (fun K hK=>?_) headNil;go_simp;refine(HT.out _ H5.out.1.drew).mono ?_;rintro e w6 ⟨rfl,k6⟩;have K6:Keep [] w5 w6:=(Keep.refl [] w5).drew.trans k6 (by simp);have hX6:=H5.out.2.1.keep K6 (by simp);have S6:(fun w':World=>w'.cell? ⟨bx,0,none⟩=some (.slice (some ⟨b,o,none⟩) n c)/\w'.cell? ⟨bx,1,none⟩=some (.slice ma mn mc)/\w'.cell? ⟨bx,2,none⟩=some (.slice ko kn kc)/\w'.cell? ⟨bx,3,none⟩=some (.int .u32 (k:Int))/\w'.cell? ⟨bx,4,none⟩=some (.int .u64 (q0:Int))) w6:=⟨hX6.cell rfl,hX6.cell rfl,hX6.cell rfl,hX6.cell rfl,hX6.cell rfl⟩;have H6:=qq5 (H5.out.1.trans K6 (by simp)) hX6 (H5.out.2.2.1.keep K6 (by simp)) (H5.out.2.2.2.1.trans K6 (by simp)) (H5.out.2.2.2.2.keep K6 (by simp));refine hK _ _ S6 ?_;clear hK K S6 hX6 K6 k6;refine wpHead_ready (rs:=[12]) (by kernel_rfl) (by kernel_rfl) (by simp) ?_;refine headCons rfl (fun K hK=>?_) headNil;go_simp;refine(elem1C d q hb how b (o+g) mi (c-g) ma ko mn mc kn kc (lwV d y) ((cs.take i).map (lwV d)) w6 [bx] H6.out.2.2.2.2 (fun a ha=>by rw[List.mem_singleton]at ha;subst ha;exact⟨H6.out.2.1.lt,by omega⟩) H6.out.2.2.1 hbq (by simp;omega) (fun wx kx=>HBK.out wx (H6.out.1.trans kx (by simp)))).mono ?_;rintro e w7 ⟨rfl,hO7,S7,k7,hS7⟩;have hX7:=H6.out.2.1.keep k7 (fun hm=>(hS7 _ hm).2 (by simp));have SS7:(fun w':World=>w'.cell? ⟨bx,0,none⟩=some (.slice (some ⟨b,o,none⟩) n c)/\w'.cell? ⟨bx,1,none⟩=some (.slice ma mn mc)/\w'.cell? ⟨bx,2,none⟩=some (.slice ko kn kc)/\w'.cell? ⟨bx,3,none⟩=some (.int .u32 (k:Int))/\w'.cell? ⟨bx,4,none⟩=some (.int .u64 (q0:Int))) w7:=⟨hX7.cell rfl,hX7.cell rfl,hX7.cell rfl,hX7.cell rfl,hX7.cell rfl⟩;have H7:=qq3 hO7 k7 hS7;refine hK _ _ SS7 ?_;clear hK K SS7 hX7 hO7 k7 hS7;refine wpHead_ready (rs:=[13]) (by kernel_rfl) (by kernel_rfl) (by simp) ?_;refine headCons rfl (fun K hK=>?_) headNil;go_simp;have SS7:(fun w':World=>w'.cell? ⟨bx,0,none⟩=some (.slice (some ⟨b,o,none⟩) n c)/\w'.cell? ⟨bx,1,none⟩=some (.slice ma mn mc)/\w'.cell? ⟨bx,2,none⟩=some (.slice ko kn kc)/\w'.cell? ⟨bx,3,none⟩=some (.int .u32 (k:Int))/\w'.cell? ⟨bx,4,none⟩=some (.int .u64 (q0:Int))) w7:=by
    have hX7:=H6.out.2.1.keep H7.out.2.1 (fun hm=>(H7.out.2.2 _ hm).2 (by simp));exact⟨hX7.cell rfl,hX7.cell rfl,hX7.cell rfl,hX7.cell rfl,hX7.cell rfl⟩
   refine hK _ _ SS7 ?_;clear hK K SS7;refine wpHead_done (by kernel_rfl) ?_ _;go_wp2;go_roundw
   case rel=>
    refine⟨i+1,hi2,by go_num,Lib.hid ⟨S++S7,?_,fun b hb=>?_,?_⟩⟩
    ·exact(HR.out.1.trans H6.out.2.2.2.1 (by simp)).cat H7.out.2.1 (fun x hx=>.inl (by simp[hx])) (fun x hx=>.inl (by simp[hx]))
    ·rw[List.mem_append]at hb;exact hb.elim (HR.out.2.1 b) (H7.out.2.2 b)
    ·rw[take_snoc Hy.out,List.map_append];exact H7.out.1
   case measure=>simp[intOf];omega
  ·have hik:i=k:=by omega
   subst hik;have hnl:¬(i:Int)<(i:Int):=by omega
   have hct:cs.take i=cs:=List.take_of_length_le (by rw[H.out.2.2.2.2.1];exact Nat.le_refl _);rw[hct]at HR;clear hct;go_wp2;go_end0;exact⟨rfl,HR.out.2.2,S,HR.out.1,fun b hb=>(HR.out.2.1 b hb).1⟩
end Go.Proofs.YtocgdgmfnockiaaGreatDoor
