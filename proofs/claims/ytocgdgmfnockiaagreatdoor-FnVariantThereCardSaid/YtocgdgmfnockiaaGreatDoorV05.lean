/- bytes.Buffer: grow of a buffer that holds no row yet, or has room; Grow. bytes.Buffer: grow in one, Grow. bytes.Buffer: WriteByte, Write, WriteString, AvailableBuffer, Bytes, Reset. bytes.Buffer: WriteString, WriteByte where there may be no room, AvailableBuffer, Bytes, Reset. bytes.Buffer: WriteByte where there may be no room, AvailableBuffer, Bytes, Reset. -/
import Derived.Test.YtocgdgmfnockiaaGreatDoorV04
import Derived.Lib.LazyBuf
set_option linter.unusedVariables false
set_option linter.unusedSimpArgs false
set_option maxRecDepth 100000
set_option maxHeartbeats 8000000
namespace Go.Proofs.YtocgdgmfnockiaaGreatDoor
open Go.RowKit
theorem make64 (n:Nat) (hn:n<=64) (w:World):(Instr.makeSlice 30 (.int .i64 (n:Int)) (.int .i64 64)).run Tryz.prog w=.ok (.slice (some ⟨w.heap.size,0,none⟩) n 64) (w.alloc (.cells (rowV .u8 (List.replicate 64 0)).toArray 5)):=by
 obtain⟨i0,hi,hz0,hz1,hz2⟩:=info_parts info_u8t;have h:=run_makeSlice (P:=Tryz.prog) w 30 5 i0 (.int .u8 0) Tryz.underlying30 hi hz0 .i64 .i64 (n:Int) 64 (by omega) (by omega) (by rw[hz1];decide) (by rw[hz2];decide) (by decide);rw[h,hz1,rowV_replicate,<-madeRow];rfl

theorem growNilSmall (b n:Nat) (lr:Int) (rest:List Value) (w:World) (h:Blk w b (.slice none 0 0::.int .i64 0::.int .i8 lr::rest)) (hn:1<=n) (hn64:n<=64):
  Calls Tryz.prog 137 #[.pointer (some ⟨b,0,none⟩),.int .i64 (n:Int)] w fun e w'=>e=.returned (.int .i64 0)/\∃r2 L2,Blk w' b (.slice (some ⟨r2,0,none⟩) n L2.length::.int .i64 0::.int .i8 lr::rest)/\
   Blk w' r2 (rowV .u8 L2)/\n<=L2.length/\L2.length<=maxLen/\w.heap.size<=r2/\Keep [b] w w':=by
 have hnil:=nilEql;have c0:w.cell? ⟨b,0,none⟩=some (.slice none 0 0):=h.cell rfl;have c1:w.cell? ⟨b,0+1,none⟩=some (.int .i64 0):=h.cell rfl;have hmk:=make64 n hn64;have h64:(n:Int)<=64:=by omega
 have HH:=qq h
 go_enter Tryz.func137,Tryz.ntmps137
 go_wp2_with fail
 refine(bufLenCells b 0 0 _ _ c0 c1 (by unfold maxLen;omega)).mono ?_;rintro e w1 ⟨rfl,k1⟩;have hb1:=h.keep k1 (by simp);have c0':w1.cell? ⟨b,0,none⟩=some (.slice none 0 0):=hb1.cell rfl;have c1':w1.cell? ⟨b,0+1,none⟩=some (.int .i64 0):=hb1.cell rfl;have f0':=hb1.frozen 0;have HK:=qq2 k1 hb1;clear k1 c0 c1 h hb1;go_wp2_with fail
 refine(tryGrowNone b n 0 0 _ _ c0' (by omega) (by omega) (by unfold maxLen;omega)).mono ?_;rintro e w2 ⟨rfl,rfl⟩;have hlt:=HK.out.2.lt;generalize hR:(rowV .u8 (List.replicate 64 0)).toArray=R at hmk;go_wp2;go_ret;obtain⟨k1,hb1⟩:=HK.out;have hs1:=k1.size;refine⟨rfl,w1.heap.size,List.replicate 64 0,?_,?_,by rw[List.length_replicate];exact hn64,by rw[List.length_replicate];unfold maxLen;omega,hs1,((k1.weaken (S':=[b]) (by simp)).set (b:=b) (by simp) _ _ _).alloc _⟩
 ·rw[List.length_replicate];exact(hb1.set 0 (.slice (some ⟨w1.heap.size,0,none⟩) n 64)).alloc _
 ·subst hR;exact Blk.of_new (by simp)

theorem growNilBig (b n:Nat) (lr:Int) (rest:List Value) (w:World) (h:Blk w b (.slice none 0 0::.int .i64 0::.int .i8 lr::rest)) (hn64:64<n) (hlim:n<=70368744177664):
  Calls Tryz.prog 137 #[.pointer (some ⟨b,0,none⟩),.int .i64 (n:Int)] w fun e w'=>e=.returned (.int .i64 0)/\∃r2 L2,Blk w' b (.slice (some ⟨r2,0,none⟩) n L2.length::.int .i64 0::.int .i8 lr::rest)/\
   Blk w' r2 (rowV .u8 L2)/\n<=L2.length/\L2.length<=maxLen/\w.heap.size<=r2/\Keep [b] w w':=by
 have hnil:=nilEql;have c0:w.cell? ⟨b,0,none⟩=some (.slice none 0 0):=h.cell rfl;have c1:w.cell? ⟨b,0+1,none⟩=some (.int .i64 0):=h.cell rfl;have h64:¬(n:Int)<=64:=by omega
 have h64':decide ((n:Int)<=64)=false:=by simp;omega
 have HH:=qq h;have hwn:IntKind.i64.wrap (n:Int)=n:=by rw[IntKind.wrap_i64];omega
 have h2:¬(n:Int)<=0:=by omega
 have h3:¬(9223372036854775807:Int)-(n:Int)<0:=by omega
 go_enter Tryz.func137,Tryz.ntmps137
 go_wp2_with fail
 refine(bufLenCells b 0 0 _ _ c0 c1 (by unfold maxLen;omega)).mono ?_;rintro e w1 ⟨rfl,k1⟩;have hb1:=h.keep k1 (by simp);have c0':w1.cell? ⟨b,0,none⟩=some (.slice none 0 0):=hb1.cell rfl;have c1':w1.cell? ⟨b,0+1,none⟩=some (.int .i64 0):=hb1.cell rfl;have HK:=qq2 k1 hb1;clear k1 c0 c1 h hb1;go_wp2_with fail
 refine(tryGrowNone b n 0 0 _ _ c0' (by omega) (by omega) (by unfold maxLen;omega)).mono ?_;rintro e w2 ⟨rfl,rfl⟩;go_wp2
 go_region_with (
  go_at_call 167;
  refine(growSliceNil n _ (by omega) hlim).mono ?_;
  rintro e w2 ⟨L2,rfl,g1,g3,g4,g5⟩;
  have hb2:=HK.out.2.drew.keep g5 (by simp);
  have d0:w2.cell? ⟨b,0,none⟩=some (.slice none 0 0):=hb2.cell rfl;
  have d1:w2.cell? ⟨b,0+1,none⟩=some (.int .i64 0):=hb2.cell rfl;
  have e0:=hb2.frozen 0;
  have e1:w2.frozen? ⟨b,0+1,none⟩=false:=hb2.frozen 1)
 all_goals
  have HG:=qq3 g1 g5 hb2;clear g1 g5 hb2;unfold maxLen at g4;go_wp2;go_ret;obtain⟨q1,q3,q4⟩:=HG.out;have k0:=HK.out.1;have q5:=(((q4.set 0 (.slice (some ⟨w1.heap.size,0,none⟩) 0 L2.length)).set 1 (.int .i64 0)).set 0 (.slice (some ⟨w1.heap.size,0,none⟩) n L2.length));have hlb:=HH.out.lt;have hs1:=k0.size;refine⟨rfl,w1.heap.size,L2,q5,?_,g3,by unfold maxLen;exact g4,hs1,?_⟩
  ·have hne:w1.heap.size≠b:=by omega
   exact((Blk.set_other (Blk.set_other (Blk.set_other q1 hne 0 none _) hne 1 none _) hne 0 none _))
  ·exact(((k0.drew.trans q3 (by simp)).weaken (by simp)).set (b:=b) (by simp) _ _ _ |>.set (b:=b) (by simp) _ _ _ |>.set (b:=b) (by simp) _ _ _)

theorem growRoom (b r l n c:Nat) (lr:Int) (rest:List Value) (L:List Nat) (w:World) (h:Blk w b (.slice (some ⟨r,0,none⟩) l c::.int .i64 0::.int .i8 lr::rest)) (hc:c=L.length) (hl:l+n<=c) (hL:c<=maxLen):
  Calls Tryz.prog 137 #[.pointer (some ⟨b,0,none⟩),.int .i64 (n:Int)] w fun e w'=>e=.returned (.int .i64 (l:Int))/\Blk w' b (.slice (some ⟨r,0,none⟩) (l+n) c::.int .i64 0::.int .i8 lr::rest)/\Keep [b] w w':=by
 have c0:w.cell? ⟨b,0,none⟩=some (.slice (some ⟨r,0,none⟩) l c):=h.cell rfl;have c1:w.cell? ⟨b,0+1,none⟩=some (.int .i64 0):=h.cell rfl;have HH:=qq2 h hc;clear hc h;by_cases hl0:l=0
 ·subst hl0
  go_enter Tryz.func137,Tryz.ntmps137
  go_wp2_with fail
  refine(bufLenCells b 0 c _ _ c0 c1 (by unfold maxLen;unfold maxLen at hL;omega)).mono ?_;rintro e w1 ⟨rfl,k1⟩;have hb1:=HH.out.1.keep k1 (by simp);have c1':w1.cell? ⟨b,0+1,none⟩=some (.int .i64 0):=hb1.cell rfl;have HK:=qq2 k1 hb1;clear k1 hb1;go_wp2_with fail
  refine(tryGrowRoom b n r 0 lr rest L _ (by rw[<-HH.out.2];exact HK.out.2) (by rw[<-HH.out.2];exact hl) (by rw[<-HH.out.2];exact hL)).mono ?_;rintro e w2 ⟨rfl,h2,k2⟩;rw[<-HH.out.2]at h2;have HQ:=qq2 h2 k2;clear h2 k2;go_wp2;go_ret;exact⟨rfl,HQ.out.1,HK.out.1.nil.trans HQ.out.2 (by simp)⟩
 ·have h1:decide ((l:Int)=0)=false:=by simp;omega
  go_enter Tryz.func137,Tryz.ntmps137
  go_wp2_with fail
  refine(bufLenCells b l c _ _ c0 c1 (by unfold maxLen;unfold maxLen at hL;omega)).mono ?_;rintro e w1 ⟨rfl,k1⟩;have hb1:=HH.out.1.keep k1 (by simp);have c1':w1.cell? ⟨b,0+1,none⟩=some (.int .i64 0):=hb1.cell rfl;have HK:=qq2 k1 hb1;clear k1 hb1;go_wp2_with fail
  refine(tryGrowRoom b n r l lr rest L _ (by rw[<-HH.out.2];exact HK.out.2) (by rw[<-HH.out.2];exact hl) (by rw[<-HH.out.2];exact hL)).mono ?_;rintro e w2 ⟨rfl,h2,k2⟩;rw[<-HH.out.2]at h2;have HQ:=qq2 h2 k2;clear h2 k2;go_wp2;go_ret;exact⟨rfl,HQ.out.1,HK.out.1.nil.trans HQ.out.2 (by simp)⟩

def Grown (w w':World) (b:Nat) (g:List Nat) (rest:List Value) (bs:List Nat) (m n:Nat):Prop:=
 ∃r L lr,Blk w' b (.slice (some ⟨r,0,none⟩) m L.length::.int .i64 0::.int .i8 lr::rest)/\Blk w' r (rowV .u8 L)/\L.take bs.length=bs/\bs.length+n<=L.length/\L.length<=maxLen/\(r ∈ g\/w.heap.size<=r)/\b≠r/\Keep [b] w w'

theorem growC (b n:Nat) (g:List Nat) (rest:List Value) (bs:List Nat) (w:World) (h:BufAt w b g rest bs) (hn:1<=n) (hlim:bs.length+n<=70368744177664):
  Calls Tryz.prog 137 #[.pointer (some ⟨b,0,none⟩),.int .i64 (n:Int)] w fun e w'=>e=.returned (.int .i64 (bs.length:Int))/\Grown w w' b g rest bs (bs.length+n) n:=by
 obtain⟨v,lr,h1,h2,h3⟩:=h;have hblt:=h1.lt;rcases h2 with⟨rfl,rfl,rfl⟩|⟨r,L,rfl,rfl,h5,h6,h7,h8⟩
 ·by_cases h64:n<=64
  ·refine(growNilSmall b n lr rest w h1 hn h64).mono ?_;rintro e w' ⟨rfl,r,L,q1,q2,q3,q4,q5,q6⟩;exact⟨rfl,r,L,lr,by simpa using q1,q2,by simp,by simpa using q3,q4,.inr q5,by omega,q6⟩
  ·refine(growNilBig b n lr rest w h1 (by omega) (by simpa using hlim)).mono ?_;rintro e w' ⟨rfl,r,L,q1,q2,q3,q4,q5,q6⟩;exact⟨rfl,r,L,lr,by simpa using q1,q2,by simp,by simpa using q3,q4,.inr q5,by omega,q6⟩
 ·have hbr:b≠r:=by simpa using h3
  by_cases hr:bs.length+n<=L.length
  ·refine(growRoom b r bs.length n L.length lr rest L w h1 rfl hr h8).mono ?_;rintro e w' ⟨rfl,q1,q2⟩;exact⟨rfl,r,L,lr,q1,h5.keep q2 (by simp;exact Ne.symm hbr),h6,hr,h8,.inl (by simp),hbr,q2⟩
  ·refine(growRow b r bs.length n lr rest L w h1 h5 h7 (by omega) hlim).mono ?_;rintro e w' ⟨rfl,r2,L2,q1,q2,q3,q4,q5,q6,q7⟩;exact⟨rfl,r2,L2,lr,q1,q2,by rw[q3,h6],q4,q5,.inr q6,by omega,q7⟩

theorem bufGrowC (b n:Nat) (g:List Nat) (rest:List Value) (bs:List Nat) (w:World) (h:BufAt w b g rest bs) (hn:1<=n) (hlim:bs.length+n<=70368744177664):
  Calls Tryz.prog 85 #[.pointer (some ⟨b,0,none⟩),.int .i64 (n:Int)] w fun e w'=>e=.returned (.tuple #[])/\Grown w w' b g rest bs bs.length n:=by
 have H:=qq h;clear h;obtain⟨l,hl⟩:∃l,l=bs.length:=⟨_,rfl⟩;rw[<-hl]at hlim;have Hl:=qq hl;have hneg:¬(n:Int)<0:=by omega
 clear hl
 go_enter Tryz.func85,Tryz.ntmps85
 go_wp2_with fail
 refine(growC b n g rest bs _ H.out hn (by rw[<-Hl.out];exact hlim)).mono ?_;rintro e w1 ⟨rfl,r,L,lr,q1,q2,q3,q4,q5,q6,q7,q8⟩;have c0:w1.cell? ⟨b,0,none⟩=some (.slice (some ⟨r,0,none⟩) (bs.length+n) L.length):=q1.cell rfl;have f0:=q1.frozen 0;have HQ:=qq8 q1 q2 q3 q4 q5 q6 q7 q8;rw[<-Hl.out]at c0 q4 ⊢;clear q1 q2 q3 q5 q6 q7 q8;have hle:l<=L.length:=by omega
 go_wp2;go_end0;obtain⟨q1,q2,q3,q4,q5,q6,q7,q8⟩:=HQ.out;exact⟨rfl,r,L,lr,by rw[<-Hl.out];exact q1.set 0 (.slice (some ⟨r,0,none⟩) l L.length),q2.set_other (Ne.symm q7) 0 none _,q3,q4,q5,q6,q7,q8.set (b:=b) (by simp) _ _ _⟩
theorem BufRoom.of_grown {w w':World} {b n:Nat} {g:List Nat} {rest:List Value} {bs:List Nat} (h:Grown w w' b g rest bs bs.length n):
  ∃r L,BufRoom w' b r rest bs L/\bs.length+n<=L.length/\(r ∈ g\/w.heap.size<=r)/\Keep [b] w w':=by
 obtain⟨r,L,lr,q1,q2,q3,q4,q5,q6,q7,q8⟩:=h;exact⟨r,L,⟨lr,q1,q2,q3,by omega,q5,q7⟩,q4,q6,q8⟩
theorem splice_len_take (L src:List Nat) (l:Nat) (hl:l+src.length<=L.length) (bs:List Nat) (hb:L.take bs.length=bs) (he:l=bs.length):(splice L l src).take (bs++src).length=bs++src:=by
 subst he;rw[List.length_append,splice_take _ _ _ hl,hb]

theorem BufRoom.wrote {w1:World} {b r l c:Nat} {rest:List Value} {bs L src:List Nat} {lr:Int} (hb:Blk w1 b (.slice (some ⟨r,0,none⟩) (l+src.length) c::.int .i64 0::.int .i8 lr::rest)) (hr:Blk w1 r (rowV .u8 (splice L l src)))
  (hl:l=bs.length) (hc:c=L.length) (ht:L.take bs.length=bs) (hle:l+src.length<=L.length) (hm:L.length<=maxLen) (hbr:b≠r):BufRoom w1 b r rest (bs++src) (splice L l src):=by
 have e1:(splice L l src).length=L.length:=splice_length _ _ _ hle;refine⟨lr,?_,hr,splice_len_take L src l hle bs ht hl,by rw[List.length_append,e1];omega,by rw[e1];exact hm,hbr⟩;rw[List.length_append,e1,<-hl,<-hc];exact hb
theorem splice_one {α:Type} (cs:List α) (o:Nat) (v:α) (h:o<cs.length):splice cs o [v]=cs.set o v:=by
 have:=setsAt_splice [v] cs o (by simpa using Nat.succ_le_of_lt h);rw[<-this];rfl

theorem writeByteRoom (b r x:Nat) (rest:List Value) (bs L:List Nat) (w:World) (h:BufRoom w b r rest bs L) (hle:bs.length+1<=L.length):
  Calls Tryz.prog 90 #[.pointer (some ⟨b,0,none⟩),.int .u8 (x:Int)] w fun e w'=>e=.returned .nilIface/\∃L',L'.length=L.length/\BufRoom w' b r rest (bs++[x]) L'/\Keep [b,r] w w':=by
 obtain⟨lr,h1,h2,h3,h4,h5,h6⟩:=h;obtain⟨l,hl⟩:∃l,l=bs.length:=⟨_,rfl⟩;obtain⟨c,hc⟩:∃c,c=L.length:=⟨_,rfl⟩;rw[<-hl,<-hc]at h1 hle;have hm:=h5;rw[<-hc]at hm;unfold maxLen at hm;have HH:=qq8 hl hc h1 h2 h3 h4 h5 h6;have f2:=h1.frozen 2;have c2:w.cell? ⟨b,2,none⟩=some (.int .i8 lr):=h1.cell rfl;clear hl hc h1 h2 h3 h4 h5 h6
 go_enter Tryz.func90,Tryz.ntmps90
 obtain⟨w1,hw1⟩:∃w1,w1=w.setCell ⟨b,2,none⟩ (.int .i8 0):=⟨_,rfl⟩;have hb1:Blk w1 b (.slice (some ⟨r,0,none⟩) l L.length::.int .i64 0::.int .i8 0::rest):=by rw[hw1,<-HH.out.2.1];exact HH.out.2.2.1.set 2 _
 have hr1:Blk w1 r (rowV .u8 L):=by rw[hw1];exact HH.out.2.2.2.1.set_other (Ne.symm HH.out.2.2.2.2.2.2.2) 2 none _
 have K1:Keep [b,r] w w1:=by rw[hw1];exact(Keep.refl _ w).set (by simp) _ _ _
 go_wp2_with fail
 rw[<-hw1];refine(tryGrowRoom b 1 r l 0 rest L _ hb1 (by rw[<-HH.out.2.1];exact hle) HH.out.2.2.2.2.2.2.1).mono ?_;rintro e w2 ⟨rfl,q1,q2⟩;rw[<-HH.out.2.1]at q1;have hr2:=hr1.keep q2 (by simp;exact Ne.symm HH.out.2.2.2.2.2.2.2);have d0:w2.cell? ⟨b,0,none⟩=some (.slice (some ⟨r,0,none⟩) (l+1) c):=q1.cell rfl;have hl':l<(rowV .u8 L).length:=by rw[length_rowV,<-HH.out.2.1];omega
 have d1:w2.cell? ⟨r,l,none⟩=some ((rowV .u8 L)[l]):=hr2.cell (List.getElem?_eq_getElem hl');have f1:=hr2.frozen l;have HQ:=qq5 q1 q2 hr2 K1 hl';clear hb1 hr1 hw1 K1 q1 q2 hr2;go_wp2;go_ret;obtain⟨q1,q2,q3,q4,q5⟩:=HQ.out;obtain⟨hl,hc,h1,h2,h3,h4,h5,h6⟩:=HH.out;have e1:splice L l [x]=L.set l x:=splice_one _ _ _ (by simpa using q5);refine⟨rfl,splice L l [x],splice_length _ _ _ (by rw[<-hc];exact hle),?_,?_⟩
 ·refine BufRoom.wrote (c:=c) (lr:=0) (q1.set_other h6 l none _) ?_ hl hc h3 (by rw[<-hc];exact hle) h5 h6;rw[e1,rowV_set];exact q3.set l _
 ·exact(q4.trans q2 (by simp)).set (b:=r) (by simp) _ _ _

theorem writeRoom (b r n c2:Nat) (a:Addr) (src:List Nat) (rest:List Value) (bs L:List Nat) (w:World) (h:BufRoom w b r rest bs L) (hn:n=src.length) (hpos:0<n) (hle:bs.length+n<=L.length) (hab:a.block≠b)
  (hsrc:∀(j x:Nat),src[j]?=some x->w.cell? (a.add j)=some (.int .u8 (x:Int))):
  Calls Tryz.prog 87 #[.pointer (some ⟨b,0,none⟩),.slice (some a) n c2] w fun e w'=>e=.returned (.tuple #[.int .i64 (n:Int),.nilIface])/\∃L',L'.length=L.length/\BufRoom w' b r rest (bs++src) L'/\Keep [b,r] w w':=by
 obtain⟨lr,h1,h2,h3,h4,h5,h6⟩:=h;obtain⟨l,hl⟩:∃l,l=bs.length:=⟨_,rfl⟩;obtain⟨c,hc⟩:∃c,c=L.length:=⟨_,rfl⟩;rw[<-hl,<-hc]at h1 hle;have hm:=h5;rw[<-hc]at hm;unfold maxLen at hm;have HH:=qq8 hl hc h1 h2 h3 h4 h5 h6;have HS:=qq2 hn hsrc;have f2:=h1.frozen 2;have c2':w.cell? ⟨b,2,none⟩=some (.int .i8 lr):=h1.cell rfl;clear hl hc h1 h2 h3 h4 h5 h6 hn hsrc
 go_enter Tryz.func87,Tryz.ntmps87
 obtain⟨w1,hw1⟩:∃w1,w1=w.setCell ⟨b,2,none⟩ (.int .i8 0):=⟨_,rfl⟩;have hb1:Blk w1 b (.slice (some ⟨r,0,none⟩) l L.length::.int .i64 0::.int .i8 0::rest):=by rw[hw1,<-HH.out.2.1];exact HH.out.2.2.1.set 2 _
 have hr1:Blk w1 r (rowV .u8 L):=by rw[hw1];exact HH.out.2.2.2.1.set_other (Ne.symm HH.out.2.2.2.2.2.2.2) 2 none _
 have K1:Keep [b] w w1:=by rw[hw1];exact(Keep.refl _ w).set (by simp) _ _ _
 go_wp2_with fail
 rw[<-hw1];refine(tryGrowRoom b n r l 0 rest L _ hb1 (by rw[<-HH.out.2.1];exact hle) HH.out.2.2.2.2.2.2.1).mono ?_;rintro e w2 ⟨rfl,q1,q2⟩;rw[<-HH.out.2.1]at q1;have hr2:=hr1.keep q2 (by simp;exact Ne.symm HH.out.2.2.2.2.2.2.2);have d0:w2.cell? ⟨b,0,none⟩=some (.slice (some ⟨r,0,none⟩) (l+n) c):=q1.cell rfl;have K2:Keep [b] w w2:=K1.trans q2 (by simp);have hsrc2:∀(j:Nat) (v:Value),(rowV .u8 src)[j]?=some v->w2.cell? (a.add j)=some v:=fun j v hj=>by
  unfold rowV at hj;rw[List.getElem?_map]at hj;obtain⟨x,hx,rfl⟩:=Option.map_eq_some_iff.1 hj;exact K2.cell_some (HS.out.2 j x hx) (by rw[show(a.add j).block=a.block by unfold Addr.add;split<;>rfl];simpa using hab)
 have hfit:l+(rowV .u8 src).length<=(rowV .u8 L).length:=by rw[length_rowV,length_rowV,<-HS.out.1,<-HH.out.2.1];exact hle
 have hcp:=fun ty=>run_copy_from (P:=Tryz.prog) hr2 30 30 ty 5 l n (c-l) a n c2 (rowV .u8 src) Tryz.underlying30 size_u8t (by rw[length_rowV,<-HS.out.1];exact(Nat.min_self n).symm) hsrc2 hfit (one_rowV _ _);rw[length_rowV,<-HS.out.1]at hcp;have hr3:=hr2.setCells hfit;have hb3:=q1.setCells_other (c:=r) (vs:=rowV .u8 src) (o:=l) HH.out.2.2.2.2.2.2.2;have K3:Keep [b,r] w (w2.setCells r l (rowV .u8 src)):=Keep.setCells (by simp) (K2.weaken (by simp));rw[<-rowV_splice]at hr3;have HQ:=qq3 hr3 hb3 K3;have hne:¬c=l:=by omega
 have hlc:l<=l+n:=by omega
 clear hb1 hr1 hw1 K1 q1 q2 hr2 hsrc2 hfit hr3 hb3 K3 K2;go_wp2
 go_ret2
 obtain⟨q1,q2,q3⟩:=HQ.out;obtain⟨hl,hc,h1,h2,h3,h4,h5,h6⟩:=HH.out;have hn:=HS.out.1;exact⟨rfl,splice L l src,splice_length _ _ _ (by omega),BufRoom.wrote (c:=c) (lr:=0) (by rw[<-hn];exact q2) q1 hl hc h3 (by omega) h5 h6,q3⟩

def bytesN (s:ByteArray):List Nat:=s.data.toList.map (·.toNat)
@[simp] theorem length_bytesN (s:ByteArray):(bytesN s).length=s.size:=by unfold bytesN;rw[List.length_map];rfl
theorem rowV_bytesN (s:ByteArray):rowV .u8 (bytesN s)=s.data.toList.map fun x=>Value.int .u8 (x.toNat:Int):=by simp[rowV,bytesN]
theorem bytesN_lt (s:ByteArray):∀x ∈ bytesN s,x<256:=by
 intro x hx;unfold bytesN at hx;rw[List.mem_map]at hx;obtain⟨y,_,rfl⟩:=hx;exact y.toNat_lt
theorem sizeOf_u8 (w:World):(Go.sizeOf 5).run Tryz.prog w=.ok 1 w:=by kernel_rfl

theorem writeStrRoom (b r:Nat) (s:ByteArray) (rest:List Value) (bs L:List Nat) (w:World) (h:BufRoom w b r rest bs L) (hle:bs.length+s.size<=L.length) (hs63:s.size<=70368744177664):
  Calls Tryz.prog 98 #[.pointer (some ⟨b,0,none⟩),.string s] w fun e w'=>e=.returned (.tuple #[.int .i64 (s.size:Int),.nilIface])/\∃L',L'.length=L.length/\BufRoom w' b r rest (bs++bytesN s) L'/\Keep [b,r] w w':=by
 obtain⟨lr,h1,h2,h3,h4,h5,h6⟩:=h;obtain⟨l,hl⟩:∃l,l=bs.length:=⟨_,rfl⟩;obtain⟨c,hc⟩:∃c,c=L.length:=⟨_,rfl⟩;rw[<-hl,<-hc]at h1 hle;have hm:=h5;rw[<-hc]at hm;unfold maxLen at hm;have HH:=qq8 hl hc h1 h2 h3 h4 h5 h6;have f2:=h1.frozen 2;have c2':w.cell? ⟨b,2,none⟩=some (.int .i8 lr):=h1.cell rfl;clear hl hc h1 h2 h3 h4 h5 h6
 go_enter Tryz.func98,Tryz.ntmps98
 obtain⟨w1,hw1⟩:∃w1,w1=w.setCell ⟨b,2,none⟩ (.int .i8 0):=⟨_,rfl⟩;have hb1:Blk w1 b (.slice (some ⟨r,0,none⟩) l L.length::.int .i64 0::.int .i8 0::rest):=by rw[hw1,<-HH.out.2.1];exact HH.out.2.2.1.set 2 _
 have hr1:Blk w1 r (rowV .u8 L):=by rw[hw1];exact HH.out.2.2.2.1.set_other (Ne.symm HH.out.2.2.2.2.2.2.2) 2 none _
 have K1:Keep [b] w w1:=by rw[hw1];exact(Keep.refl _ w).set (by simp) _ _ _
 go_wp2_with fail
 rw[<-hw1];refine(tryGrowRoom b s.size r l 0 rest L _ hb1 (by rw[<-HH.out.2.1];exact hle) HH.out.2.2.2.2.2.2.1).mono ?_;rintro e w2 ⟨rfl,q1,q2⟩;rw[<-HH.out.2.1]at q1;have hr2:=hr1.keep q2 (by simp;exact Ne.symm HH.out.2.2.2.2.2.2.2);have d0:w2.cell? ⟨b,0,none⟩=some (.slice (some ⟨r,0,none⟩) (l+s.size) c):=q1.cell rfl;have K2:Keep [b] w w2:=K1.trans q2 (by simp);have hfit:l+(rowV .u8 (bytesN s)).length<=(rowV .u8 L).length:=by rw[length_rowV,length_rowV,length_bytesN,<-HH.out.2.1];exact hle
 have hlc:l<=l+s.size:=by omega
 have hcp0:=fun ty o dc (hfo:∀j,j<s.size->o+j<c)=>run_copy_string (P:=Tryz.prog) w2 30 9 ty 5 r o s.size dc s Tryz.underlying30 sizeOf_u8 (Nat.le_refl _)
   (fun j hj=>by rw[hr2.cell (v:=(rowV .u8 L)[o+j]'(by rw[length_rowV,<-HH.out.2.1];exact hfo j hj)) (by simp)];rfl) (fun j _=>hr2.frozen _)
 rw[<-rowV_bytesN]at hcp0;by_cases hz:c=l
 ·have hs0:s.size=0:=by omega
  have he:bytesN s=[]:=List.eq_nil_of_length_eq_zero (by rw[length_bytesN];exact hs0);have hcp:∀ty dc,(Builtin.copy_ #[30,9] ty #[.slice (some ⟨r,0,none⟩) 0 dc,.string s]).run Tryz.prog w2=.ok (.int .i64 0) w2:=fun ty dc=>by
   have h:=hcp0 ty 0 dc (fun j hj=>by omega);rw[he,hs0]at h;exact h
  have HQ:=qq5 hr2 q1 K2 he hs0;clear hb1 hr1 hw1 K1 q1 q2 hr2 hfit K2 hcp0 he;subst hz;go_wp2
  go_ret2
  obtain⟨q1,q2,q3,he,hs0⟩:=HQ.out;obtain⟨hl,hc,h1,h2,h3,h4,h5,h6⟩:=HH.out;refine⟨by rw[hs0];rfl,L,rfl,?_,q3.weaken (by simp)⟩;rw[he,List.append_nil];rw[hs0]at q2;exact⟨0,by rw[<-hl,<-hc];exact q2,q1,h3,h4,h5,h6⟩
 ·have hcp:=fun ty=>hcp0 ty l (c-l) (fun j hj=>by omega);have hr3:=hr2.setCells hfit;have hb3:=q1.setCells_other (c:=r) (vs:=rowV .u8 (bytesN s)) (o:=l) HH.out.2.2.2.2.2.2.2;have K3:Keep [b,r] w (w2.setCells r l (rowV .u8 (bytesN s))):=Keep.setCells (by simp) (K2.weaken (by simp));rw[<-rowV_splice]at hr3;have HQ:=qq3 hr3 hb3 K3;clear hb1 hr1 hw1 K1 q1 q2 hr2 hfit hr3 hb3 K3 K2 hcp0;go_wp2
  go_ret2
  obtain⟨q1,q2,q3⟩:=HQ.out;obtain⟨hl,hc,h1,h2,h3,h4,h5,h6⟩:=HH.out;exact⟨rfl,splice L l (bytesN s),splice_length _ _ _ (by rw[length_bytesN];omega),BufRoom.wrote (c:=c) (lr:=0) (by rw[length_bytesN];exact q2) q1 hl hc h3 (by rw[length_bytesN];omega) h5 h6,q3⟩

theorem writeNone (b r c2:Nat) (ao:Option Addr) (rest:List Value) (bs L:List Nat) (w:World) (h:BufRoom w b r rest bs L):
  Calls Tryz.prog 87 #[.pointer (some ⟨b,0,none⟩),.slice ao 0 c2] w fun e w'=>e=.returned (.tuple #[.int .i64 0,.nilIface])/\BufRoom w' b r rest bs L/\Keep [b,r] w w':=by
 obtain⟨lr,h1,h2,h3,h4,h5,h6⟩:=h;obtain⟨l,hl⟩:∃l,l=bs.length:=⟨_,rfl⟩;obtain⟨c,hc⟩:∃c,c=L.length:=⟨_,rfl⟩;have hlc:=h4;rw[<-hl,<-hc]at h1 hlc;have hm:=h5;rw[<-hc]at hm;unfold maxLen at hm;have HH:=qq8 hl hc h1 h2 h3 h4 h5 h6;have f2:=h1.frozen 2;have c2':w.cell? ⟨b,2,none⟩=some (.int .i8 lr):=h1.cell rfl;clear hl hc h1 h2 h3 h4 h5 h6
 go_enter Tryz.func87,Tryz.ntmps87
 obtain⟨w1,hw1⟩:∃w1,w1=w.setCell ⟨b,2,none⟩ (.int .i8 0):=⟨_,rfl⟩;have hb1:Blk w1 b (.slice (some ⟨r,0,none⟩) l L.length::.int .i64 0::.int .i8 0::rest):=by rw[hw1,<-HH.out.2.1];exact HH.out.2.2.1.set 2 _
 have hr1:Blk w1 r (rowV .u8 L):=by rw[hw1];exact HH.out.2.2.2.1.set_other (Ne.symm HH.out.2.2.2.2.2.2.2) 2 none _
 have K1:Keep [b] w w1:=by rw[hw1];exact(Keep.refl _ w).set (by simp) _ _ _
 go_wp2_with fail
 rw[<-hw1];refine(tryGrowRoom b 0 r l 0 rest L _ hb1 (by rw[<-HH.out.2.1];exact hlc) HH.out.2.2.2.2.2.2.1).mono ?_;rintro e w2 ⟨rfl,q1,q2⟩;rw[<-HH.out.2.1,Nat.add_zero]at q1;have hr2:=hr1.keep q2 (by simp;exact Ne.symm HH.out.2.2.2.2.2.2.2);have d0:w2.cell? ⟨b,0,none⟩=some (.slice (some ⟨r,0,none⟩) l c):=q1.cell rfl;have K2:Keep [b] w w2:=K1.trans q2 (by simp);have hcp:=fun ty d dl dc=>run_copy_none (P:=Tryz.prog) w2 30 30 ty 5 d ao dl dc 0 c2 Tryz.underlying30 size_u8t (by simp);have HQ:=qq3 hr2 q1 K2;clear hb1 hr1 hw1 K1 q1 q2 hr2 K2;by_cases hz:c=l
 ·subst hz;go_wp2
  go_ret2
  obtain⟨q1,q2,q3⟩:=HQ.out;obtain⟨hl,hc,h1,h2,h3,h4,h5,h6⟩:=HH.out;exact⟨rfl,⟨0,by rw[<-hl,<-hc];exact q2,q1,h3,h4,h5,h6⟩,q3.weaken (by simp)⟩
 ·go_wp2
  go_ret2
  obtain⟨q1,q2,q3⟩:=HQ.out;obtain⟨hl,hc,h1,h2,h3,h4,h5,h6⟩:=HH.out;exact⟨rfl,⟨0,by rw[<-hl,<-hc];exact q2,q1,h3,h4,h5,h6⟩,q3.weaken (by simp)⟩

theorem writeByteFull (b x l:Nat) (ao:Option Addr) (lr:Int) (g:List Nat) (rest:List Value) (bs:List Nat) (w:World) (h1:Blk w b (.slice ao l l::.int .i64 0::.int .i8 lr::rest)) (h2:BufRow g w (.slice ao l l) bs) (h3:b ∉ g) (hl:l=bs.length) (hlim:l+1<=70368744177664):
  Calls Tryz.prog 90 #[.pointer (some ⟨b,0,none⟩),.int .u8 (x:Int)] w fun e w'=>e=.returned .nilIface/\∃r L',BufRoom w' b r rest (bs++[x]) L'/\Keep (b::g) w w'/\(r ∈ g\/w.heap.size<=r):=by
 have HH:=qq4 hl h1 h2 h3;have f2:=h1.frozen 2;have c2:w.cell? ⟨b,2,none⟩=some (.int .i8 lr):=h1.cell rfl;clear hl h1 h2 h3
 go_enter Tryz.func90,Tryz.ntmps90
 obtain⟨w1,hw1⟩:∃w1,w1=w.setCell ⟨b,2,none⟩ (.int .i8 0):=⟨_,rfl⟩;have hb1:Blk w1 b (.slice ao l l::.int .i64 0::.int .i8 0::rest):=by rw[hw1];exact HH.out.2.1.set 2 _
 have K1:Keep [b] w w1:=by rw[hw1];exact(Keep.refl _ w).set (by simp) _ _ _
 have hB:BufAt w1 b g rest bs:=⟨_,0,hb1,HH.out.2.2.1.keep K1 (fun y hy=>by simp;intro e;exact HH.out.2.2.2 (e▸hy)),HH.out.2.2.2⟩;have c0:w1.cell? ⟨b,0,none⟩=some (.slice ao l l):=hb1.cell rfl;have hs1:w1.heap.size=w.heap.size:=by rw[hw1];simp
 go_wp2_with fail
 rw[<-hw1];refine(tryGrowNone b 1 l l ao _ c0 (by omega) (Nat.le_refl _) (by unfold maxLen;omega)).mono ?_;rintro e w1' ⟨rfl,rfl⟩;have HK:=qq3 K1 hB hs1;clear hb1 hw1 c0 K1 hB hs1;go_wp2_with fail
 refine(growC b 1 g rest bs _ HK.out.2.1 (Nat.le_refl _) (by rw[<-HH.out.1];exact hlim)).mono ?_;rintro e w2 ⟨rfl,r,L,lr2,q1,q2,q3,q4,q5,q6,q7,q8⟩;rw[<-HH.out.1]at q1 q4 ⊢;have d0:w2.cell? ⟨b,0,none⟩=some (.slice (some ⟨r,0,none⟩) (l+1) L.length):=q1.cell rfl;have hl':l<(rowV .u8 L).length:=by rw[length_rowV];omega
 have d1:w2.cell? ⟨r,l,none⟩=some ((rowV .u8 L)[l]):=q2.cell (List.getElem?_eq_getElem hl');have f1:=q2.frozen l;have HQ:=qq9 q1 q2 q3 q4 q5 q6 q7 q8 hl';clear q1 q2 q3 q5 q6 q7 q8;go_wp2;go_ret;obtain⟨q1,q2,q3,q4,q5,q6,q7,q8,hl'⟩:=HQ.out;obtain⟨K1,hB,hs1⟩:=HK.out;have e1:splice L l [x]=L.set l x:=splice_one _ _ _ (by simpa using hl');refine⟨rfl,r,splice L l [x],?_,?_,by rw[<-hs1];exact q6⟩
 ·refine BufRoom.wrote (c:=L.length) (lr:=lr2) (q1.set_other q7 l none _) ?_ HH.out.1 rfl q3 q4 q5 q7;rw[e1,rowV_set];exact q2.set l _
 ·refine(K1.cat (T:=b::g) q8 (by simp) (by simp)).set (b:=r) ?_ _ _ _;rcases q6 with q6|q6
  ·exact .inl (by simp[q6])
  ·exact .inr (by rw[<-hs1];exact q6)

theorem writeByteC (b x:Nat) (g:List Nat) (rest:List Value) (bs:List Nat) (w:World) (h:BufAt w b g rest bs) (hlim:bs.length+1<=70368744177664):
  Calls Tryz.prog 90 #[.pointer (some ⟨b,0,none⟩),.int .u8 (x:Int)] w fun e w'=>e=.returned .nilIface/\∃r L',BufRoom w' b r rest (bs++[x]) L'/\Keep (b::g) w w'/\(r ∈ g\/w.heap.size<=r):=by
 obtain⟨v,lr,h1,h2,h3⟩:=h;have h2':=h2;rcases h2 with⟨rfl,rfl,rfl⟩|⟨r,L,rfl,rfl,h5,h6,h7,h8⟩
 ·exact writeByteFull b x 0 none lr [] rest [] w h1 h2' h3 rfl (by simp)
 ·by_cases hr:bs.length+1<=L.length
  ·refine(writeByteRoom b r x rest bs L w ⟨lr,h1,h5,h6,h7,h8,by simpa using h3⟩ hr).mono ?_;rintro e w' ⟨rfl,L',-,q1,q2⟩;exact⟨rfl,r,L',q1,q2,.inl (by simp)⟩
  ·have e1:L.length=bs.length:=by omega
   rw[e1]at h1 h2';exact writeByteFull b x bs.length _ lr [r] rest bs w h1 h2' h3 rfl hlim

theorem availC (b r:Nat) (rest:List Value) (bs L:List Nat) (w:World) (h:BufRoom w b r rest bs L) (hlt:bs.length<L.length):
  Calls Tryz.prog 86 #[.pointer (some ⟨b,0,none⟩)] w fun e w'=>e=.returned (.slice (some ⟨r,bs.length,none⟩) 0 (L.length-bs.length))/\Keep [] w w':=by
 obtain⟨lr,h1,h2,h3,h4,h5,h6⟩:=h;have c0:w.cell? ⟨b,0,none⟩=some (.slice (some ⟨r,0,none⟩) bs.length L.length):=h1.cell rfl;have hne:¬L.length=bs.length:=by omega
 unfold maxLen at h5;clear h1 h2 h3 h6
 go_enter Tryz.func86,Tryz.ntmps86
 go_wp2_with fail
 go_quiet (fail)
 go_wp2;go_ret;exact⟨rfl,(Keep.refl [] w).drewN nq⟩

theorem bytesC (b r:Nat) (rest:List Value) (bs L:List Nat) (w:World) (h:BufRoom w b r rest bs L):
  Calls Tryz.prog 58 #[.pointer (some ⟨b,0,none⟩)] w fun e w'=>e=.returned (.slice (some ⟨r,0,none⟩) bs.length L.length)/\Keep [] w w':=by
 obtain⟨lr,h1,h2,h3,h4,h5,h6⟩:=h;have c0:w.cell? ⟨b,0,none⟩=some (.slice (some ⟨r,0,none⟩) bs.length L.length):=h1.cell rfl;have c1:w.cell? ⟨b,0+1,none⟩=some (.int .i64 0):=h1.cell rfl;unfold maxLen at h5;clear h1 h2 h3 h6
 go_enter Tryz.func58,Tryz.ntmps58
 go_wp2_with fail
 go_quiet (fail)
 go_wp2;go_ret;exact⟨rfl,(Keep.refl [] w).drewN nq⟩

theorem resetC (b:Nat) (g:List Nat) (rest:List Value) (bs:List Nat) (w:World) (h:BufAt w b g rest bs):
  Calls Tryz.prog 59 #[.pointer (some ⟨b,0,none⟩)] w fun e w'=>e=.returned (.tuple #[])/\BufAt w' b g rest []/\Keep [b] w w':=by
 obtain⟨v,lr,h1,h2,h3⟩:=h;have f0:=h1.frozen 0;have f1:w.frozen? ⟨b,0+1,none⟩=false:=h1.frozen 1;have f2:w.frozen? ⟨b,0+2,none⟩=false:=h1.frozen 2;have c1:w.cell? ⟨b,0+1,none⟩=some (.int .i64 0):=h1.cell rfl;have c2:w.cell? ⟨b,0+2,none⟩=some (.int .i8 lr):=h1.cell rfl;rcases h2 with⟨rfl,rfl,rfl⟩|⟨r,L,rfl,rfl,h5,h6,h7,h8⟩
 ·have c0:w.cell? ⟨b,0,none⟩=some (.slice none 0 0):=h1.cell rfl;have H:=qq h1;clear h1
  go_enter Tryz.func59,Tryz.ntmps59
  go_wp2;go_end0;exact⟨rfl,⟨_,0,((H.out.set 0 (.slice none 0 0)).set 1 (.int .i64 0)).set 2 (.int .i8 0),.inl ⟨rfl,rfl,rfl⟩,h3⟩,(((Keep.refl [b] w).set (by simp) _ _ _).set (by simp) _ _ _).set (by simp) _ _ _⟩
 ·have c0:w.cell? ⟨b,0,none⟩=some (.slice (some ⟨r,0,none⟩) bs.length L.length):=h1.cell rfl;have H:=qq5 h1 h5 h6 h7 h8;clear h1 h5 h6 h7 h8
  go_enter Tryz.func59,Tryz.ntmps59
  go_wp2;go_end0;obtain⟨h1,h5,h6,h7,h8⟩:=H.out;have K:Keep [b] w (((w.setCell ⟨b,0,none⟩ (.slice (some ⟨r,0,none⟩) 0 L.length)).setCell ⟨b,1,none⟩ (.int .i64 0)).setCell ⟨b,2,none⟩ (.int .i8 0)):=(((Keep.refl [b] w).set (by simp) _ _ _).set (by simp) _ _ _).set (by simp) _ _ _;exact⟨rfl,⟨_,0,((h1.set 0 (.slice (some ⟨r,0,none⟩) 0 L.length)).set 1 (.int .i64 0)).set 2 (.int .i8 0),.inr ⟨r,L,rfl,rfl,h5.keep K (by simp;intro e;exact h3 (by simp[e])),by simp,by simp,h8⟩,h3⟩,K⟩
end Go.Proofs.YtocgdgmfnockiaaGreatDoor
