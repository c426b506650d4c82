/- Variants, the law's side: leastWidth. Variants, the law's side: leastWidth of whatever variant. -/
import Derived.Test.YtocgdgmfnockiaaGreatDoorV35
import Derived.Test.YtocgdgmfnockiaaGreatDoorV22
import Derived.Deep.RegionHeld3
import Derived.Deep.LoopGhost
set_option linter.unusedVariables false
set_option linter.unusedSimpArgs false
set_option maxRecDepth 100000
set_option maxHeartbeats 8000000
namespace Go.Proofs.YtocgdgmfnockiaaGreatDoor
open Go.RowKit

def Wid (num:Nat) (K:Int):Prop:=K=4\/(K=5/\¬Narrow num 8)\/(K=6/\¬Narrow num 8/\¬Narrow num 16)\/(K=7/\¬Narrow num 8/\¬Narrow num 16/\¬Narrow num 32)
theorem narrow_8 (n:Nat):Narrow n 8↔(-128<=sgn n/\sgn n<=127):=by
 unfold Narrow;have e:(2:Int)^(8-1)=128:=by decide
 rw[e];omega
theorem narrow_16 (n:Nat):Narrow n 16↔(-32768<=sgn n/\sgn n<=32767):=by
 unfold Narrow;have e:(2:Int)^(16-1)=32768:=by decide
 rw[e];omega
theorem narrow_32 (n:Nat):Narrow n 32↔(-2147483648<=sgn n/\sgn n<=2147483647):=by
 unfold Narrow;have e:(2:Int)^(32-1)=2147483648:=by decide
 rw[e];omega
theorem lwI4 {n:Nat} (h:Narrow n 8):lwI n=4:=by unfold lwI;rw[narrow_8]at h;rw[if_pos h]
theorem lwI5 {n:Nat} (h8:¬Narrow n 8) (h:Narrow n 16):lwI n=5:=by unfold lwI;rw[narrow_8]at h8;rw[narrow_16]at h;rw[if_neg h8,if_pos h]
theorem lwI6 {n:Nat} (h8:¬Narrow n 8) (h16:¬Narrow n 16) (h:Narrow n 32):lwI n=6:=by unfold lwI;rw[narrow_8]at h8;rw[narrow_16]at h16;rw[narrow_32]at h;rw[if_neg h8,if_neg h16,if_pos h]
theorem lwI7 {n:Nat} (h8:¬Narrow n 8) (h16:¬Narrow n 16) (h:¬Narrow n 32):lwI n=7:=by unfold lwI;rw[narrow_8]at h8;rw[narrow_16]at h16;rw[narrow_32]at h;rw[if_neg h8,if_neg h16,if_neg h]

def LwOk (d:Nat):Prop:=∀(x:Vt d) (v:Value) (w0 w:World),VtAt d w0 v x->OkV d x->Keep [] w0 w->Tabs w->Calls Tryz.prog 10 #[v] w fun e w'=>∃v',e=.returned v'/\Keep [] w w'/\VtIn (fun b=>b<w0.heap.size\/w.heap.size<=b) d w' v' (lwV d x)

theorem TextsAt.below {w:World} {v:Value} {l:List ByteArray} (h:TextsAt w v l):TextsIn (fun b=>b<w.heap.size) w v l:=by
 obtain⟨ao,cap,h1,h2,h3⟩:=h;refine⟨ao,cap,h1,h2,fun i s hs=>?_⟩;obtain⟨a,e,hc⟩:=h3 i s hs;exact⟨a,e,by have:=World.block_lt_of_cell? _ _ hc;rwa[add_block]at this,hc⟩

theorem leastInt (num:Nat) (k:Int) (ta ka:Option Addr) (tcap kcap:Nat) (w:World) (hn:num<18446744073709551616) (hk:4<=k/\k<=7):
  Calls Tryz.prog 10 #[.agg #[.int .i64 k,.int .u64 (num:Int),.int .i64 0,.string ⟨#[]⟩,.slice ta 0 tcap,.slice ka 0 kcap]] w fun e w'=>e=.returned (.agg #[.int .i64 (lwI num),.int .u64 (num:Int),.int .i64 0,.string ⟨#[]⟩,.slice ta 0 tcap,.slice none 0 0])/\Keep [] w w':=by
 obtain⟨w2,hw2⟩:∃w2,w2=(w.alloc (.cells #[.int .i64 4,.int .u64 (num:Int),.int .i64 0,.string ⟨#[]⟩,.slice ta 0 tcap,.slice ka 0 kcap] 26)).alloc (.cells #[.int .i64 0,.int .u64 0,.int .i64 0,.string ⟨#[]⟩,.slice none 0 0,.slice none 0 0] 26):=⟨_,rfl⟩;have k2:Keep [] w w2:=by rw[hw2];exact((Keep.refl [] w).alloc _).alloc _
 have hb2:Blk w2 w.heap.size [.int .i64 4,.int .u64 (num:Int),.int .i64 0,.string ⟨#[]⟩,.slice ta 0 tcap,.slice ka 0 kcap]:=by rw[hw2];exact(Blk.new w _ _).alloc _
 have hr2:Blk w2 (w.heap.size+1) [.int .i64 0,.int .u64 0,.int .i64 0,.string ⟨#[]⟩,.slice none 0 0,.slice none 0 0]:=by rw[hw2];exact Blk.of_new (cs:=[.int .i64 0,.int .u64 0,.int .i64 0,.string ⟨#[]⟩,.slice none 0 0,.slice none 0 0]) (by simp)
 have H:=qq3 k2 hb2 hr2;have Hw2:=qq hw2;clear k2 hb2 hr2 hw2;obtain⟨hk4,hk7⟩:=hk
 go_enter Tryz.func10,Tryz.ntmps10
 go_wp2_with fail
 rw[<-Hw2.out]
 go_loopg [] 4 (fun gk wr=>∃K:Int,Hid (Wid num K)/\8-K=(gk:Int)/\Hid (Keep [] w wr/\Blk wr w.heap.size [.int .i64 K,.int .u64 (num:Int),.int .i64 0,.string ⟨#[]⟩,.slice ta 0 tcap,.slice ka 0 kcap]/\Blk wr (w.heap.size+1) [.int .i64 0,.int .u64 0,.int .i64 0,.string ⟨#[]⟩,.slice none 0 0,.slice none 0 0]))
 case atStart=>exact⟨4,qq (.inl rfl),by omega,H⟩
 case round=>
  obtain⟨K,HW,hgk,HR⟩:=hrel;rcases HW.out with rfl|⟨rfl,h8⟩|⟨rfl,h8,h16⟩|⟨rfl,h8,h16,h32⟩
  ·skip
   have Hgk:=qq hgk;clear hgk;obtain⟨b0,b1,b2,b3,b4,b5⟩:=HR.out.2.1.c6 0 1 2 3 4 5 rfl rfl rfl rfl rfl rfl;go_wp2_with fail
   refine(fitsNum 4 8 num ta ka tcap kcap _ hn (by omega) (fun wx=>fitInt4 num ta ka tcap kcap wx hn)).mono ?_;rintro e w4 ⟨z,rfl,k4,hz4⟩;have HR4:=qq3 (HR.out.1.trans k4 (by simp)) (HR.out.2.1.keep k4 (by simp)) (HR.out.2.2.keep k4 (by simp));have Hz:=qq hz4;clear k4 hz4 b0 b1 b2 b3 b4 b5;cases z with
   |true=>
    have HL:=qq (lwI4 (Hz.out.1 (by simp)));clear Hz;obtain⟨b0,b1,b2,b3,b4,b5⟩:=HR4.out.2.1.c6 0 1 2 3 4 5 rfl rfl rfl rfl rfl rfl;have h5:=(HR4.out.2.1.alloc (.cells #[.int .i64 4,.int .u64 (num:Int),.int .i64 0,.string ⟨#[]⟩,.slice ta 0 tcap,.slice none 0 0] 26)).cell (i:=5) rfl;have HT:=qq4 (HR4.out.1.alloc (.cells #[.int .i64 4,.int .u64 (num:Int),.int .i64 0,.string ⟨#[]⟩,.slice ta 0 tcap,.slice none 0 0] 26)) (HR4.out.2.2.alloc (.cells #[.int .i64 4,.int .u64 (num:Int),.int .i64 0,.string ⟨#[]⟩,.slice ta 0 tcap,.slice none 0 0] 26)) (Blk.new w4 [.int .i64 4,.int .u64 (num:Int),.int .i64 0,.string ⟨#[]⟩,.slice ta 0 tcap,.slice none 0 0] 26) HR4.out.2.2.lt;go_wp2_with fail
    generalize w4.alloc (.cells #[.int .i64 4,.int .u64 (num:Int),.int .i64 0,.string ⟨#[]⟩,.slice ta 0 tcap,.slice none 0 0] 26)=w5 at HT h5 ⊢;generalize w4.heap.size=tb at HT ⊢;clear b0 b1 b2 b3 b4 b5
    go_loopw [32] (fun i wx=>i=.int .i64 0/\w5=wx) (fun i _=>0)
    case atStart=>exact⟨rfl,rfl⟩
    case round=>
     obtain⟨rfl,rfl⟩:=hrel;clear h5;have hr:=HT.out.2.1;have ht:=HT.out.2.2.1;have hne:¬w.heap.size+1=tb:=by have:=HT.out.2.2.2;omega
     obtain⟨t0,t1,t2,t3,t4,t5⟩:=ht.c6 0 1 2 3 4 5 rfl rfl rfl rfl rfl rfl;obtain⟨r0,r1,r2,r3,r4,r5⟩:=hr.c6 0 1 2 3 4 5 rfl rfl rfl rfl rfl rfl;have fr:=hr.frozen;clear hr ht;go_wp2;have hz:=((((((HT.out.2.1.set 0 (.int .i64 4)).set 1 (.int .u64 (num:Int))).set 2 (.int .i64 0)).set 3 (.string ⟨#[]⟩)).set 4 (.slice ta 0 tcap)).set 5 (.slice none 0 0));obtain⟨z0,z1,z2,z3,z4,z5⟩:=hz.c6 0 1 2 3 4 5 rfl rfl rfl rfl rfl rfl;refine bodyPost_ret (v:=.agg #[.int .i64 4,.int .u64 (num:Int),.int .i64 0,.string ⟨#[]⟩,.slice ta 0 tcap,.slice none 0 0]) ?_ rfl ⟨by rw[HL.out],((((((HT.out.1.set (.inr (by omega)) _ _ _).set (.inr (by omega)) _ _ _).set (.inr (by omega)) _ _ _).set (.inr (by omega)) _ _ _).set (.inr (by omega)) _ _ _).set (.inr (by omega)) _ _ _)⟩;rw[results_cell1 rfl];go_simp
   |false=>
    have hnew:¬Narrow num 8:=fun h=>by have:=Hz.out.2 h;simp at this
    have HW2:=qq (show Wid num 5 from .inr (.inl ⟨rfl,hnew⟩));clear Hz hnew;have b0:=HR4.out.2.1.cell (i:=0) rfl;have fb:=HR4.out.2.1.frozen;go_wp2
    go_roundg 3
    case measure=>(have:=Hgk.out;omega)
    case rel=>exact⟨5,HW2,by omega,Lib.hid ⟨HR4.out.1.set (.inr (Nat.le_refl _)) _ _ _,HR4.out.2.1.set 0 _,HR4.out.2.2.set_other (by omega) _ _ _⟩⟩
  ·skip
   have Hgk:=qq hgk;clear hgk;obtain⟨b0,b1,b2,b3,b4,b5⟩:=HR.out.2.1.c6 0 1 2 3 4 5 rfl rfl rfl rfl rfl rfl;go_wp2_with fail
   refine(fitsNum 5 16 num ta ka tcap kcap _ hn (by omega) (fun wx=>fitInt5 num ta ka tcap kcap wx hn)).mono ?_;rintro e w4 ⟨z,rfl,k4,hz4⟩;have HR4:=qq3 (HR.out.1.trans k4 (by simp)) (HR.out.2.1.keep k4 (by simp)) (HR.out.2.2.keep k4 (by simp));have Hz:=qq hz4;clear k4 hz4 b0 b1 b2 b3 b4 b5;cases z with
   |true=>
    have HL:=qq (lwI5 h8 (Hz.out.1 (by simp)));clear Hz;clear h8;obtain⟨b0,b1,b2,b3,b4,b5⟩:=HR4.out.2.1.c6 0 1 2 3 4 5 rfl rfl rfl rfl rfl rfl;have h5:=(HR4.out.2.1.alloc (.cells #[.int .i64 5,.int .u64 (num:Int),.int .i64 0,.string ⟨#[]⟩,.slice ta 0 tcap,.slice none 0 0] 26)).cell (i:=5) rfl;have HT:=qq4 (HR4.out.1.alloc (.cells #[.int .i64 5,.int .u64 (num:Int),.int .i64 0,.string ⟨#[]⟩,.slice ta 0 tcap,.slice none 0 0] 26)) (HR4.out.2.2.alloc (.cells #[.int .i64 5,.int .u64 (num:Int),.int .i64 0,.string ⟨#[]⟩,.slice ta 0 tcap,.slice none 0 0] 26)) (Blk.new w4 [.int .i64 5,.int .u64 (num:Int),.int .i64 0,.string ⟨#[]⟩,.slice ta 0 tcap,.slice none 0 0] 26) HR4.out.2.2.lt;go_wp2_with fail
    generalize w4.alloc (.cells #[.int .i64 5,.int .u64 (num:Int),.int .i64 0,.string ⟨#[]⟩,.slice ta 0 tcap,.slice none 0 0] 26)=w5 at HT h5 ⊢;generalize w4.heap.size=tb at HT ⊢;clear b0 b1 b2 b3 b4 b5
    go_loopw [32] (fun i wx=>i=.int .i64 0/\w5=wx) (fun i _=>0)
    case atStart=>exact⟨rfl,rfl⟩
    case round=>
     obtain⟨rfl,rfl⟩:=hrel;clear h5;have hr:=HT.out.2.1;have ht:=HT.out.2.2.1;have hne:¬w.heap.size+1=tb:=by have:=HT.out.2.2.2;omega
     obtain⟨t0,t1,t2,t3,t4,t5⟩:=ht.c6 0 1 2 3 4 5 rfl rfl rfl rfl rfl rfl;obtain⟨r0,r1,r2,r3,r4,r5⟩:=hr.c6 0 1 2 3 4 5 rfl rfl rfl rfl rfl rfl;have fr:=hr.frozen;clear hr ht;go_wp2;have hz:=((((((HT.out.2.1.set 0 (.int .i64 5)).set 1 (.int .u64 (num:Int))).set 2 (.int .i64 0)).set 3 (.string ⟨#[]⟩)).set 4 (.slice ta 0 tcap)).set 5 (.slice none 0 0));obtain⟨z0,z1,z2,z3,z4,z5⟩:=hz.c6 0 1 2 3 4 5 rfl rfl rfl rfl rfl rfl;refine bodyPost_ret (v:=.agg #[.int .i64 5,.int .u64 (num:Int),.int .i64 0,.string ⟨#[]⟩,.slice ta 0 tcap,.slice none 0 0]) ?_ rfl ⟨by rw[HL.out],((((((HT.out.1.set (.inr (by omega)) _ _ _).set (.inr (by omega)) _ _ _).set (.inr (by omega)) _ _ _).set (.inr (by omega)) _ _ _).set (.inr (by omega)) _ _ _).set (.inr (by omega)) _ _ _)⟩;rw[results_cell1 rfl];go_simp
   |false=>
    have hnew:¬Narrow num 16:=fun h=>by have:=Hz.out.2 h;simp at this
    have HW2:=qq (show Wid num 6 from .inr (.inr (.inl ⟨rfl,h8,hnew⟩)));clear Hz hnew h8;have b0:=HR4.out.2.1.cell (i:=0) rfl;have fb:=HR4.out.2.1.frozen;go_wp2
    go_roundg 2
    case measure=>(have:=Hgk.out;omega)
    case rel=>exact⟨6,HW2,by omega,Lib.hid ⟨HR4.out.1.set (.inr (Nat.le_refl _)) _ _ _,HR4.out.2.1.set 0 _,HR4.out.2.2.set_other (by omega) _ _ _⟩⟩
  ·skip
   have Hgk:=qq hgk;clear hgk;obtain⟨b0,b1,b2,b3,b4,b5⟩:=HR.out.2.1.c6 0 1 2 3 4 5 rfl rfl rfl rfl rfl rfl;go_wp2_with fail
   refine(fitsNum 6 32 num ta ka tcap kcap _ hn (by omega) (fun wx=>fitInt6 num ta ka tcap kcap wx hn)).mono ?_;rintro e w4 ⟨z,rfl,k4,hz4⟩;have HR4:=qq3 (HR.out.1.trans k4 (by simp)) (HR.out.2.1.keep k4 (by simp)) (HR.out.2.2.keep k4 (by simp));have Hz:=qq hz4;clear k4 hz4 b0 b1 b2 b3 b4 b5;cases z with
   |true=>
    have HL:=qq (lwI6 h8 h16 (Hz.out.1 (by simp)));clear Hz;clear h8 h16;obtain⟨b0,b1,b2,b3,b4,b5⟩:=HR4.out.2.1.c6 0 1 2 3 4 5 rfl rfl rfl rfl rfl rfl;have h5:=(HR4.out.2.1.alloc (.cells #[.int .i64 6,.int .u64 (num:Int),.int .i64 0,.string ⟨#[]⟩,.slice ta 0 tcap,.slice none 0 0] 26)).cell (i:=5) rfl;have HT:=qq4 (HR4.out.1.alloc (.cells #[.int .i64 6,.int .u64 (num:Int),.int .i64 0,.string ⟨#[]⟩,.slice ta 0 tcap,.slice none 0 0] 26)) (HR4.out.2.2.alloc (.cells #[.int .i64 6,.int .u64 (num:Int),.int .i64 0,.string ⟨#[]⟩,.slice ta 0 tcap,.slice none 0 0] 26)) (Blk.new w4 [.int .i64 6,.int .u64 (num:Int),.int .i64 0,.string ⟨#[]⟩,.slice ta 0 tcap,.slice none 0 0] 26) HR4.out.2.2.lt;go_wp2_with fail
    generalize w4.alloc (.cells #[.int .i64 6,.int .u64 (num:Int),.int .i64 0,.string ⟨#[]⟩,.slice ta 0 tcap,.slice none 0 0] 26)=w5 at HT h5 ⊢;generalize w4.heap.size=tb at HT ⊢;clear b0 b1 b2 b3 b4 b5
    go_loopw [32] (fun i wx=>i=.int .i64 0/\w5=wx) (fun i _=>0)
    case atStart=>exact⟨rfl,rfl⟩
    case round=>
     obtain⟨rfl,rfl⟩:=hrel;clear h5;have hr:=HT.out.2.1;have ht:=HT.out.2.2.1;have hne:¬w.heap.size+1=tb:=by have:=HT.out.2.2.2;omega
     obtain⟨t0,t1,t2,t3,t4,t5⟩:=ht.c6 0 1 2 3 4 5 rfl rfl rfl rfl rfl rfl;obtain⟨r0,r1,r2,r3,r4,r5⟩:=hr.c6 0 1 2 3 4 5 rfl rfl rfl rfl rfl rfl;have fr:=hr.frozen;clear hr ht;go_wp2;have hz:=((((((HT.out.2.1.set 0 (.int .i64 6)).set 1 (.int .u64 (num:Int))).set 2 (.int .i64 0)).set 3 (.string ⟨#[]⟩)).set 4 (.slice ta 0 tcap)).set 5 (.slice none 0 0));obtain⟨z0,z1,z2,z3,z4,z5⟩:=hz.c6 0 1 2 3 4 5 rfl rfl rfl rfl rfl rfl;refine bodyPost_ret (v:=.agg #[.int .i64 6,.int .u64 (num:Int),.int .i64 0,.string ⟨#[]⟩,.slice ta 0 tcap,.slice none 0 0]) ?_ rfl ⟨by rw[HL.out],((((((HT.out.1.set (.inr (by omega)) _ _ _).set (.inr (by omega)) _ _ _).set (.inr (by omega)) _ _ _).set (.inr (by omega)) _ _ _).set (.inr (by omega)) _ _ _).set (.inr (by omega)) _ _ _)⟩;rw[results_cell1 rfl];go_simp
   |false=>
    have hnew:¬Narrow num 32:=fun h=>by have:=Hz.out.2 h;simp at this
    have HW2:=qq (show Wid num 7 from .inr (.inr (.inr ⟨rfl,h8,h16,hnew⟩)));clear Hz hnew h8 h16;have b0:=HR4.out.2.1.cell (i:=0) rfl;have fb:=HR4.out.2.1.frozen;go_wp2
    go_roundg 1
    case measure=>(have:=Hgk.out;omega)
    case rel=>exact⟨7,HW2,by omega,Lib.hid ⟨HR4.out.1.set (.inr (Nat.le_refl _)) _ _ _,HR4.out.2.1.set 0 _,HR4.out.2.2.set_other (by omega) _ _ _⟩⟩
  ·have HL:=qq (lwI7 h8 h16 h32);clear hgk h8 h16 h32;obtain⟨b0,b1,b2,b3,b4,b5⟩:=HR.out.2.1.c6 0 1 2 3 4 5 rfl rfl rfl rfl rfl rfl;have h5:=(HR.out.2.1.alloc (.cells #[.int .i64 7,.int .u64 (num:Int),.int .i64 0,.string ⟨#[]⟩,.slice ta 0 tcap,.slice none 0 0] 26)).cell (i:=5) rfl;have HT:=qq4 (HR.out.1.alloc (.cells #[.int .i64 7,.int .u64 (num:Int),.int .i64 0,.string ⟨#[]⟩,.slice ta 0 tcap,.slice none 0 0] 26)) (HR.out.2.2.alloc (.cells #[.int .i64 7,.int .u64 (num:Int),.int .i64 0,.string ⟨#[]⟩,.slice ta 0 tcap,.slice none 0 0] 26)) (Blk.new wr [.int .i64 7,.int .u64 (num:Int),.int .i64 0,.string ⟨#[]⟩,.slice ta 0 tcap,.slice none 0 0] 26) HR.out.2.2.lt;go_wp2_with fail
   generalize wr.alloc (.cells #[.int .i64 7,.int .u64 (num:Int),.int .i64 0,.string ⟨#[]⟩,.slice ta 0 tcap,.slice none 0 0] 26)=w5 at HT h5 ⊢;generalize wr.heap.size=tb at HT ⊢;clear b0 b1 b2 b3 b4 b5
   go_loopw [32] (fun i wx=>i=.int .i64 0/\w5=wx) (fun i _=>0)
   case atStart=>exact⟨rfl,rfl⟩
   case round=>
    obtain⟨rfl,rfl⟩:=hrel;clear h5;have hr:=HT.out.2.1;have ht:=HT.out.2.2.1;have hne:¬w.heap.size+1=tb:=by have:=HT.out.2.2.2;omega
    obtain⟨t0,t1,t2,t3,t4,t5⟩:=ht.c6 0 1 2 3 4 5 rfl rfl rfl rfl rfl rfl;obtain⟨r0,r1,r2,r3,r4,r5⟩:=hr.c6 0 1 2 3 4 5 rfl rfl rfl rfl rfl rfl;have fr:=hr.frozen;clear hr ht;go_wp2;have hz:=((((((HT.out.2.1.set 0 (.int .i64 7)).set 1 (.int .u64 (num:Int))).set 2 (.int .i64 0)).set 3 (.string ⟨#[]⟩)).set 4 (.slice ta 0 tcap)).set 5 (.slice none 0 0));obtain⟨z0,z1,z2,z3,z4,z5⟩:=hz.c6 0 1 2 3 4 5 rfl rfl rfl rfl rfl rfl;refine bodyPost_ret (v:=.agg #[.int .i64 7,.int .u64 (num:Int),.int .i64 0,.string ⟨#[]⟩,.slice ta 0 tcap,.slice none 0 0]) ?_ rfl ⟨by rw[HL.out],((((((HT.out.1.set (.inr (by omega)) _ _ _).set (.inr (by omega)) _ _ _).set (.inr (by omega)) _ _ _).set (.inr (by omega)) _ _ _).set (.inr (by omega)) _ _ _).set (.inr (by omega)) _ _ _)⟩;rw[results_cell1 rfl];go_simp
theorem FlatOk.int {kind scale:Int} {num:Nat} {text:ByteArray} (h:FlatOk kind scale num text) (hk:4<=kind/\kind<=7):text=⟨#[]⟩/\scale=0:=by
 refine⟨?_,h.scale0 (by omega) (by omega) (by omega)⟩;have:=h.text0 (by omega) (by omega) (by omega) (by omega);apply ByteArray.ext;exact Array.eq_empty_of_size_eq_zero this
theorem six_one (k s:Int) (n:Nat) (t:ByteArray) (a1 a2:Option Addr) (l1 c1 l2 c2:Nat):∀u ∈ (Six.mk (.int .i64 k) (.int .u64 (n:Int)) (.int .i64 s) (.string t) (.slice a1 l1 c1) (.slice a2 l2 c2)).cells,u.oneCell'=true:=by
 simp[Six.cells,Value.oneCell']
theorem leastN (d:Nat) (IH:LwOk d) (x:Vt (d+1)) (v:Value) (w0 w:World) (hv:VtAt (d+1) w0 v x) (hok:OkV (d+1) x) (hk0:Keep [] w0 w) (hTb:Tabs w):
  Calls Tryz.prog 10 #[v] w fun e w'=>∃v',e=.returned v'/\Keep [] w w'/\VtIn (fun b=>b<w0.heap.size\/w.heap.size<=b) (d+1) w' v' (lwV (d+1) x):=by
 have hok2:OkN (OkV d) x:=hok;have hlw:lwV (d+1) x=lwN (lwV d) x:=rfl;rw[hlw];obtain⟨kind,num,scale,text,ks,c⟩:=x;obtain⟨kv0,cv,rfl,hTx,hC⟩:=hv;have hC0:KidsAt (VtAt d w0) w0 cv c:=hC;have hT0:TextsAt w0 kv0 ks:=hTx;by_cases hint:4<=kind/\kind<=7
 ·
  obtain⟨rfl,rfl⟩:=hok2.flat.int hint;have hks:ks=[]:=by
   by_cases h:ks=[]
   ·exact h
   ·have:=hok2.keys0 h;simp only at this;omega
  have hc:c=[]:=by
   by_cases h:c=[]
   ·exact h
   ·have:=hok2.kids0 h;simp only at this;omega
  subst hks hc;obtain⟨ta,tcap,rfl,-,-⟩:=hT0;obtain⟨ka,kcap,rfl,-,-⟩:=hC0;refine(leastInt num kind ta ka tcap kcap w hok2.num hint).mono ?_;rintro e w' ⟨rfl,k⟩;refine⟨_,rfl,k,?_⟩;have e:lwN (lwV d) (⟨kind,num,0,⟨#[]⟩,[],[]⟩:Node (Vt d))=⟨lwI num,num,0,⟨#[]⟩,[],[]⟩:=by
   unfold lwN;simp only[List.map_nil];rw[if_pos hint]
  rw[e];exact⟨_,_,rfl,⟨ta,tcap,rfl,Nat.zero_le _,fun i s h=>by simp at h⟩,⟨none,0,rfl,Nat.le_refl _,fun i s h=>by simp at h⟩⟩
 ·have hTI:=hT0.below;obtain⟨ta,tcap,hte,htc,-⟩:=hT0;subst hte;obtain⟨ka,kcap,rfl,hkc,-⟩:=hC;simp only at hkc ⊢;have e:lwN (lwV d) (⟨kind,num,scale,text,ks,c⟩:Node (Vt d))=⟨kind,num,scale,text,ks,c.map (lwV d)⟩:=by
   unfold lwN;rw[if_neg hint]
  rw[e];clear e;obtain⟨n,hn⟩:∃n,n=ks.length:=⟨_,rfl⟩;obtain⟨m,hm⟩:∃m,m=c.length:=⟨_,rfl⟩;have hC1:KidsAt (VtAt d w0) w0 (.slice ka m kcap) c:=by rw[hm];exact hC0
  have hm5:m<=500:=by rw[hm];exact hok2.kidsLe
  rw[<-hn]at htc hTI ⊢;rw[<-hm]at hkc ⊢;have hokk:∀y ∈ c,OkV d y:=hok2.kids;obtain⟨w2,hw2⟩:∃w2,w2=(w.alloc (.cells #[.int .i64 kind,.int .u64 (num:Int),.int .i64 scale,.string text,.slice ta n tcap,.slice ka m kcap] 26)).alloc (.cells #[.int .i64 0,.int .u64 0,.int .i64 0,.string ⟨#[]⟩,.slice none 0 0,.slice none 0 0] 26):=⟨_,rfl⟩;obtain⟨w3,hw3⟩:∃w3,w3=w2.alloc (.cells #[.int .i64 kind,.int .u64 (num:Int),.int .i64 scale,.string text,.slice ta n tcap,.slice none 0 0] 26):=⟨_,rfl⟩;have k3:Keep [] w w3:=by rw[hw3,hw2];exact(((Keep.refl [] w).alloc _).alloc _).alloc _
  have hb3:Blk w3 w.heap.size [.int .i64 kind,.int .u64 (num:Int),.int .i64 scale,.string text,.slice ta n tcap,.slice ka m kcap]:=by rw[hw3,hw2];exact((Blk.new w _ _).alloc _).alloc _
  have hr3:Blk w3 (w.heap.size+1) [.int .i64 0,.int .u64 0,.int .i64 0,.string ⟨#[]⟩,.slice none 0 0,.slice none 0 0]:=by rw[hw3,hw2];exact(Blk.of_new (cs:=[.int .i64 0,.int .u64 0,.int .i64 0,.string ⟨#[]⟩,.slice none 0 0,.slice none 0 0]) (by simp)).alloc _
  have ht3:Blk w3 (w.heap.size+1+1) [.int .i64 kind,.int .u64 (num:Int),.int .i64 scale,.string text,.slice ta n tcap,.slice none 0 0]:=by rw[hw3];exact Blk.of_new (cs:=[.int .i64 kind,.int .u64 (num:Int),.int .i64 scale,.string text,.slice ta n tcap,.slice none 0 0]) (by rw[hw2];simp)
  have H:=qq6 hC1 hokk hm hTI hk0 hTb;have H3:=qq4 k3 hb3 hr3 ht3;have Hw:=qq2 hw2 hw3;clear hTx hC0 hC1 hok hok2 hokk hm hn hlw hTI hk0 hTb k3 hb3 hr3 ht3 hw2 hw3;have hcase:kind<4\/(4<=kind/\7<kind):=by omega
  have hcase':¬4<=kind\/(4<=kind/\¬kind<=7):=by omega
  clear hcase;have c5:=H3.out.2.1.cell (i:=5) rfl;rw[Hw.out.2,Hw.out.1]at c5;rcases hcase' with hq|⟨hq,hq2⟩
  all_goals
   go_enter Tryz.func10,Tryz.ntmps10
   go_wp2_with fail
   rw[<-Hw.out.1,<-Hw.out.2]
   go_loopw [32] (fun i wr=>∃j:Nat,j<=m/\i=.int .i64 (j:Int)/\Hid (∃(G:List Nat) (ov:Value) (l:List Six),Keep [] w wr/\Blk wr w.heap.size [.int .i64 kind,.int .u64 (num:Int),.int .i64 scale,.string text,.slice ta n tcap,.slice ka m kcap]/\Blk wr (w.heap.size+1) [.int .i64 0,.int .u64 0,.int .i64 0,.string ⟨#[]⟩,.slice none 0 0,.slice none 0 0]/\Blk wr (w.heap.size+1+1) [.int .i64 kind,.int .u64 (num:Int),.int .i64 scale,.string text,.slice ta n tcap,ov]/\
    OwnC Six.cells 6 G wr ov l/\Sixes (VtIn (fun b=>b<w0.heap.size\/(w.heap.size+1+1<b/\b ∉ G)) d wr) l ((c.take j).map (lwV d))/\∀b ∈ G,w.heap.size+1+1<b)) (fun i _=>m-(intOf i).toNat)
   case atStart=>exact⟨0,Nat.zero_le _,rfl,Lib.hid ⟨[],.slice none 0 0,[],H3.out.1,H3.out.2.1,H3.out.2.2.1,H3.out.2.2.2,.inl ⟨rfl,rfl,rfl⟩,by simpa using Sixes.nil _,by simp⟩⟩
   case round=>
    obtain⟨j,hj,rfl,HR0⟩:=hrel;obtain⟨G,ov,l,HR1⟩:=HR0.out;have HR:=qq HR1;clear HR1;clear c5;by_cases hj2:j<m
    ·have hlti:(j:Int)<(m:Int):=by omega
     obtain⟨y,hy⟩:∃y,c[j]?=some y:=⟨_,List.getElem?_eq_getElem (by rw[<-H.out.2.2.1];exact hj2)⟩;obtain⟨a,cap2,yk,ys,yn,yt,ya1,ya2,yl1,yc1,yl2,yc2,he,hcap2,hP,d0,d1,d2,d3,d4,d5⟩:=H.out.1.kid hy (fun u hu=>hu.sixAt);injection he with e1 e2 e3
     subst e1;clear e2 e3 hcap2;have Kr:Keep [] w0 wr:=H.out.2.2.2.2.1.trans HR.out.1 (by simp);have e0:=Kr.cell_some d0 (by simp);have e1:=Kr.cell_some d1 (by simp);have e2:=Kr.cell_some d2 (by simp);have e3:=Kr.cell_some d3 (by simp);have e4:=Kr.cell_some d4 (by simp);have e5:=Kr.cell_some d5 (by simp);obtain⟨wa,hwa⟩:∃wa,wa=wr.alloc (.cells #[.int .i64 yk,.int .u64 (yn:Int),.int .i64 ys,.string yt,.slice ya1 yl1 yc1,.slice ya2 yl2 yc2] 26):=⟨_,rfl⟩;have Ka:Keep [] wr wa:=by rw[hwa];exact(Keep.refl [] wr).alloc _
     have hYa:Blk wa wr.heap.size [.int .i64 yk,.int .u64 (yn:Int),.int .i64 ys,.string yt,.slice ya1 yl1 yc1,.slice ya2 yl2 yc2]:=by rw[hwa];exact Blk.new wr _ _
     have hta:=HR.out.2.2.2.1.keep Ka (by simp);have hI:=fun(wx:World) (kx:Keep [] wa wx)=>IH y (.agg #[.int .i64 yk,.int .u64 (yn:Int),.int .i64 ys,.string yt,.slice ya1 yl1 yc1,.slice ya2 yl2 yc2]) w0 wx hP (H.out.2.1 y (List.mem_of_getElem? hy)) ((Kr.trans Ka (by simp)).trans kx (by simp)) (H.out.2.2.2.2.2.keep ((HR.out.1.trans Ka (by simp)).trans kx (by simp)));have HI:=qq4 hI hy Ka hta;have Hwa:=qq hwa;obtain⟨q0,q1,q2,q3,q4,q5⟩:=hYa.c6 0 1 2 3 4 5 rfl rfl rfl rfl rfl rfl;have t5:=hta.cell (i:=5) rfl;clear d0 d1 d2 d3 d4 d5 hP Kr Ka hI hy hwa hYa hta;go_wp2_with fail
     rw[<-Hwa.out];clear e0 e1 e2 e3 e4 e5;have hsr:=HR.out.2.2.2.1.lt;have hsa:wa.heap.size=wr.heap.size+1:=by rw[Hwa.out];simp
     have hGr:∀b ∈ G,b<wr.heap.size:=HR.out.2.2.2.2.1.lt;obtain⟨yb,hyb⟩:∃yb,yb=wr.heap.size:=⟨_,rfl⟩;rw[<-hyb]at q0 q1 q2 q3 q4 q5 hsr hsa hGr ⊢;obtain⟨tb,htb⟩:∃tb,tb=w.heap.size+1+1:=⟨_,rfl⟩;have Htb:=qq2 htb hyb;rw[<-htb]at t5 hsr ⊢;clear htb hyb;have hyt:¬yb=tb:=by omega
     have hty:¬tb=yb:=by omega
     have HS:=qq3 hsr hsa hGr;have hll:l.length=j:=by have:=HR.out.2.2.2.2.2.1.1;rw[this];simp;rw[<-H.out.2.2.1];omega
     have Hll:=qq hll;clear hsr hsa hGr hll;obtain⟨i0,hi0,hz0,hz1,hz2⟩:=info_parts info_var;have Hi:=qq4 hi0 hz0 hz1 hz2;clear hi0 hz0 hz1 hz2;refine wp_region_any (by kernel_rfl) ?_;change wpAny _ _ _ _ _ _ _ (World.drew _);refine wpAny_take (i:=0) (v:=?_) rfl (by kernel_rfl) (by kernel_rfl) (by kernel_rfl) (fun _ _ _ h=>h) (Or.inl ⟨by rfl,?_⟩) ?_
     rotate_left 1
     ·(intro w;go_simp;try with_reducible rfl)
     refine wpAny_ready (rs:=[1,2]) (by kernel_rfl) (by simp) ?_;refine(AllReady.cons rfl (fun K hK=>?_) (AllReady.cons rfl (fun K hK=>?_) AllReady.nil))
     ·go_simp;refine hK _ _ ?_;clear hK K;refine wpAny_ready (rs:=[2]) (by kernel_rfl) (by simp) ?_;refine(AllReady.cons rfl (fun K hK=>?_) AllReady.nil)
      ·go_simp;refine hK _ _ ?_;clear hK K;refine wpAny_ready (rs:=[3]) (by kernel_rfl) (by simp) ?_;refine(AllReady.cons rfl (fun K hK=>?_) AllReady.nil)
       ·go_simp;refine(HI.out.1 _ (Keep.refl [] wa).drew).mono ?_;rintro e wB ⟨v',rfl,kB,hVB⟩;obtain⟨zk,zs,zn,zt,za1,za2,zl1,zc1,zl2,zc2,rfl⟩:=hVB.six;have u5:=kB.cell_some (p:=⟨tb,5,none⟩) t5 (by simp);have u5a:=((Keep.refl [] wB).alloc (.cells #[.int .i64 zk,.int .u64 (zn:Int),.int .i64 zs,.string zt,.slice za1 zl1 zc1,.slice za2 zl2 zc2] 26)).cell_some u5 (by simp);have HB:=qq2 kB hVB;clear kB hVB;refine hK _ _ ?_;clear hK K;refine wpAny_ready (rs:=[4]) (by kernel_rfl) (by simp) ?_;refine(AllReady.cons rfl (fun K hK=>?_) AllReady.nil)
        ·go_simp;refine hK _ _ ?_;clear hK K;refine wpAny_ready (rs:=[5]) (by kernel_rfl) (by simp) ?_;refine(AllReady.cons rfl (fun K hK=>?_) AllReady.nil)
         ·rw[if_pos (by rfl)];refine wp_append_ownC (cf:=Six.cells) (G:=G) (l:=l) Six.len (by decide) _ _ 24 26 rfl i0 88 Tryz.underlying24 Hi.out.1 ⟨_,Hi.out.2.1,rfl⟩ Hi.out.2.2.1 Hi.out.2.2.2 rfl
           (((HR.out.2.2.2.2.1.keep HI.out.2.2.1 (by simp)).keep (S:=[]) ((Keep.refl [] wa).drew.trans HB.out.1 (by simp)) (by simp)).keep (S:=[]) ((Keep.refl [] wB).alloc (.cells #[.int .i64 zk,.int .u64 (zn:Int),.int .i64 zs,.string zt,.slice za1 zl1 zc1,.slice za2 zl2 zc2] 26)) (by simp)) _
           [Six.mk (.int .i64 zk) (.int .u64 (zn:Int)) (.int .i64 zs) (.string zt) (.slice za1 zl1 zc1) (.slice za2 zl2 zc2)] rfl (srcSix _ (six_one zk zs zn zt za1 za2 zl1 zc1 zl2 zc2) (Blk.new wB _ _)) (by rw[Hll.out];simp;omega) (by rw[Hll.out];simp;omega) ?_
          intro v'' wC G' hO' kC hG';obtain⟨ao,nl,cc,rfl⟩:=hO'.shape2;have htG:tb ∉ G:=fun hm=>by have:=HR.out.2.2.2.2.2.2 _ hm;have:=Htb.out.1;omega
          have KaB:Keep [] wa (wB.alloc (.cells #[.int .i64 zk,.int .u64 (zn:Int),.int .i64 zs,.string zt,.slice za1 zl1 zc1,.slice za2 zl2 zc2] 26)):=((Keep.refl [] wa).drew.trans HB.out.1 (by simp)).alloc _;have hTC:=(HI.out.2.2.2.keep KaB (by simp)).keep kC (by rw[<-Htb.out.1];exact htG);rw[<-Htb.out.1]at hTC;have s5:=hTC.cell (i:=5) rfl;have fC:=hTC.frozen;have HC:=qq6 hO' kC hG' KaB htG hTC;clear hO' kC hG' KaB hTC htG;refine hK _ _ ?_;clear hK K;refine wpAny_ready (rs:=[6]) (by kernel_rfl) (by simp) ?_;refine(AllReady.cons rfl (fun K hK=>?_) AllReady.nil)
          ·go_simp;refine hK _ _ ?_;clear hK K;refine wpAny_ready (rs:=[7]) (by kernel_rfl) (by simp) ?_;refine(AllReady.cons rfl (fun K hK=>?_) AllReady.nil)
           ·go_simp;refine hK _ _ ?_;clear hK K;refine wpAny_done (by kernel_rfl) ?_ _
            try simp only[Act.put,List.setIfInBounds_toArray,List.set_cons_zero,List.set_cons_succ]
            have e0:=Htb.out.1;have Htb2:=qq Htb.out.2;clear Htb;subst e0;go_wp2;go_roundw
            case rel=>
             obtain⟨kB,hVB⟩:=HB.out;obtain⟨hO',kC,hG',KaB,htG,hTC⟩:=HC.out;obtain⟨hkr,hxr,hrr,htr,hOr,hSr,hGr⟩:=HR.out;have e2:=Htb2.out;have z1:=HS.out.1;have z2:=HS.out.2.1;have z3:=HI.out.2.2.1.size;have z4:wa.heap.size<=wB.heap.size:=kB.size;have z5:(wB.alloc (.cells #[.int .i64 zk,.int .u64 (zn:Int),.int .i64 zs,.string zt,.slice za1 zl1 zc1,.slice za2 zl2 zc2] 26)).heap.size=wB.heap.size+1:=by simp
             have z6:=H.out.2.2.2.2.1.size;have hGt:∀b ∈ G,w.heap.size+1+1<b/\b<wa.heap.size:=fun b hb=>⟨by have:=hGr b hb;omega,by have:=HS.out.2.2 b hb;omega⟩;have kw:Keep [] wr (wB.alloc (.cells #[.int .i64 zk,.int .u64 (zn:Int),.int .i64 zs,.string zt,.slice za1 zl1 zc1,.slice za2 zl2 zc2] 26)):=HI.out.2.2.1.trans KaB (by simp);have kz:Keep ((w.heap.size+1+1)::G) wr (wC.setCell ⟨w.heap.size+1+1,5,none⟩ (.slice ao nl cc)):=(kw.nil.trans kC (fun b hb=>.inl (by simp[hb]))).set (.inl (by simp)) _ _ _;have kz2:Keep ((w.heap.size+1+1)::G) wB (wC.setCell ⟨w.heap.size+1+1,5,none⟩ (.slice ao nl cc)):=(((Keep.refl [] wB).alloc _).nil.trans kC (fun b hb=>.inl (by simp[hb]))).set (.inl (by simp)) _ _ _;have hno:∀q,q<=w.heap.size+1->q ∉ (w.heap.size+1+1)::G:=fun q hq=>by
              simp only[List.mem_cons,not_or];exact⟨by omega,fun hm=>by have:=(hGt q hm).1;omega⟩
             refine⟨j+1,hj2,by go_num,Lib.hid ⟨G',.slice ao nl cc,l++[Six.mk (.int .i64 zk) (.int .u64 (zn:Int)) (.int .i64 zs) (.string zt) (.slice za1 zl1 zc1) (.slice za2 zl2 zc2)],hkr.trans kz (fun b hb=>.inr ?_),hxr.keep kz (hno _ (by omega)),hrr.keep kz (hno _ (by omega)),?_,?_,?_,fun b hb=>?_⟩⟩
             ·simp only[List.mem_cons]at hb;rcases hb with hb|hb
              ·omega
              ·have:=(hGt b hb).1;omega
             ·exact hTC.set 5 _
             ·refine hO'.keep ((Keep.refl [w.heap.size+1+1] wC).set (.inl (by simp)) _ _ _) (fun b hb hm=>?_);rw[List.mem_singleton]at hm;subst hm;exact(hG' _ hb).elim htG (fun h=>by omega)
             ·rw[take_snoc HI.out.2.1,List.map_append];have hVB2:VtIn (fun b=>b<w0.heap.size\/wa.heap.size<=b) d wB (Six.mk (.int .i64 zk) (.int .u64 (zn:Int)) (.int .i64 zs) (.string zt) (.slice za1 zl1 zc1) (.slice za2 zl2 zc2)).agg (lwV d y):=hVB;have:=Sixes.step (L:=wa.heap.size) (M:=wB.heap.size+1) hSr hVB2 kz kz2 (by omega) hGt (by omega) (by omega) (by omega) (fun b hb=>by have:=hG' b hb;rwa[z5]at this);exact this
             ·rcases hG' b hb with h|h
              ·have:=(hGt b h).1;omega
              ·omega
            case measure=>simp[intOf];omega
     ·go_simp;refine hK _ _ ?_;clear hK K;refine wpAny_ready (rs:=[1,3]) (by kernel_rfl) (by simp) ?_;refine(AllReady.cons rfl (fun K hK=>?_) (AllReady.cons rfl (fun K hK=>?_) AllReady.nil))
      ·go_simp;refine hK _ _ ?_;clear hK K;refine wpAny_ready (rs:=[3]) (by kernel_rfl) (by simp) ?_;refine(AllReady.cons rfl (fun K hK=>?_) AllReady.nil)
       ·go_simp;refine(HI.out.1 _ (Keep.refl [] wa).drew).mono ?_;rintro e wB ⟨v',rfl,kB,hVB⟩;obtain⟨zk,zs,zn,zt,za1,za2,zl1,zc1,zl2,zc2,rfl⟩:=hVB.six;have u5:=kB.cell_some (p:=⟨tb,5,none⟩) t5 (by simp);have u5a:=((Keep.refl [] wB).alloc (.cells #[.int .i64 zk,.int .u64 (zn:Int),.int .i64 zs,.string zt,.slice za1 zl1 zc1,.slice za2 zl2 zc2] 26)).cell_some u5 (by simp);have HB:=qq2 kB hVB;clear kB hVB;refine hK _ _ ?_;clear hK K;refine wpAny_ready (rs:=[4]) (by kernel_rfl) (by simp) ?_;refine(AllReady.cons rfl (fun K hK=>?_) AllReady.nil)
        ·go_simp;refine hK _ _ ?_;clear hK K;refine wpAny_ready (rs:=[5]) (by kernel_rfl) (by simp) ?_;refine(AllReady.cons rfl (fun K hK=>?_) AllReady.nil)
         ·rw[if_pos (by rfl)];refine wp_append_ownC (cf:=Six.cells) (G:=G) (l:=l) Six.len (by decide) _ _ 24 26 rfl i0 88 Tryz.underlying24 Hi.out.1 ⟨_,Hi.out.2.1,rfl⟩ Hi.out.2.2.1 Hi.out.2.2.2 rfl
           (((HR.out.2.2.2.2.1.keep HI.out.2.2.1 (by simp)).keep (S:=[]) ((Keep.refl [] wa).drew.trans HB.out.1 (by simp)) (by simp)).keep (S:=[]) ((Keep.refl [] wB).alloc (.cells #[.int .i64 zk,.int .u64 (zn:Int),.int .i64 zs,.string zt,.slice za1 zl1 zc1,.slice za2 zl2 zc2] 26)) (by simp)) _
           [Six.mk (.int .i64 zk) (.int .u64 (zn:Int)) (.int .i64 zs) (.string zt) (.slice za1 zl1 zc1) (.slice za2 zl2 zc2)] rfl (srcSix _ (six_one zk zs zn zt za1 za2 zl1 zc1 zl2 zc2) (Blk.new wB _ _)) (by rw[Hll.out];simp;omega) (by rw[Hll.out];simp;omega) ?_
          intro v'' wC G' hO' kC hG';obtain⟨ao,nl,cc,rfl⟩:=hO'.shape2;have htG:tb ∉ G:=fun hm=>by have:=HR.out.2.2.2.2.2.2 _ hm;have:=Htb.out.1;omega
          have KaB:Keep [] wa (wB.alloc (.cells #[.int .i64 zk,.int .u64 (zn:Int),.int .i64 zs,.string zt,.slice za1 zl1 zc1,.slice za2 zl2 zc2] 26)):=((Keep.refl [] wa).drew.trans HB.out.1 (by simp)).alloc _;have hTC:=(HI.out.2.2.2.keep KaB (by simp)).keep kC (by rw[<-Htb.out.1];exact htG);rw[<-Htb.out.1]at hTC;have s5:=hTC.cell (i:=5) rfl;have fC:=hTC.frozen;have HC:=qq6 hO' kC hG' KaB htG hTC;clear hO' kC hG' KaB hTC htG;refine hK _ _ ?_;clear hK K;refine wpAny_ready (rs:=[6]) (by kernel_rfl) (by simp) ?_;refine(AllReady.cons rfl (fun K hK=>?_) AllReady.nil)
          ·go_simp;refine hK _ _ ?_;clear hK K;refine wpAny_ready (rs:=[7]) (by kernel_rfl) (by simp) ?_;refine(AllReady.cons rfl (fun K hK=>?_) AllReady.nil)
           ·go_simp;refine hK _ _ ?_;clear hK K;refine wpAny_done (by kernel_rfl) ?_ _
            try simp only[Act.put,List.setIfInBounds_toArray,List.set_cons_zero,List.set_cons_succ]
            have e0:=Htb.out.1;have Htb2:=qq Htb.out.2;clear Htb;subst e0;go_wp2;go_roundw
            case rel=>
             obtain⟨kB,hVB⟩:=HB.out;obtain⟨hO',kC,hG',KaB,htG,hTC⟩:=HC.out;obtain⟨hkr,hxr,hrr,htr,hOr,hSr,hGr⟩:=HR.out;have e2:=Htb2.out;have z1:=HS.out.1;have z2:=HS.out.2.1;have z3:=HI.out.2.2.1.size;have z4:wa.heap.size<=wB.heap.size:=kB.size;have z5:(wB.alloc (.cells #[.int .i64 zk,.int .u64 (zn:Int),.int .i64 zs,.string zt,.slice za1 zl1 zc1,.slice za2 zl2 zc2] 26)).heap.size=wB.heap.size+1:=by simp
             have z6:=H.out.2.2.2.2.1.size;have hGt:∀b ∈ G,w.heap.size+1+1<b/\b<wa.heap.size:=fun b hb=>⟨by have:=hGr b hb;omega,by have:=HS.out.2.2 b hb;omega⟩;have kw:Keep [] wr (wB.alloc (.cells #[.int .i64 zk,.int .u64 (zn:Int),.int .i64 zs,.string zt,.slice za1 zl1 zc1,.slice za2 zl2 zc2] 26)):=HI.out.2.2.1.trans KaB (by simp);have kz:Keep ((w.heap.size+1+1)::G) wr (wC.setCell ⟨w.heap.size+1+1,5,none⟩ (.slice ao nl cc)):=(kw.nil.trans kC (fun b hb=>.inl (by simp[hb]))).set (.inl (by simp)) _ _ _;have kz2:Keep ((w.heap.size+1+1)::G) wB (wC.setCell ⟨w.heap.size+1+1,5,none⟩ (.slice ao nl cc)):=(((Keep.refl [] wB).alloc _).nil.trans kC (fun b hb=>.inl (by simp[hb]))).set (.inl (by simp)) _ _ _;have hno:∀q,q<=w.heap.size+1->q ∉ (w.heap.size+1+1)::G:=fun q hq=>by
              simp only[List.mem_cons,not_or];exact⟨by omega,fun hm=>by have:=(hGt q hm).1;omega⟩
             refine⟨j+1,hj2,by go_num,Lib.hid ⟨G',.slice ao nl cc,l++[Six.mk (.int .i64 zk) (.int .u64 (zn:Int)) (.int .i64 zs) (.string zt) (.slice za1 zl1 zc1) (.slice za2 zl2 zc2)],hkr.trans kz (fun b hb=>.inr ?_),hxr.keep kz (hno _ (by omega)),hrr.keep kz (hno _ (by omega)),?_,?_,?_,fun b hb=>?_⟩⟩
             ·simp only[List.mem_cons]at hb;rcases hb with hb|hb
              ·omega
              ·have:=(hGt b hb).1;omega
             ·exact hTC.set 5 _
             ·refine hO'.keep ((Keep.refl [w.heap.size+1+1] wC).set (.inl (by simp)) _ _ _) (fun b hb hm=>?_);rw[List.mem_singleton]at hm;subst hm;exact(hG' _ hb).elim htG (fun h=>by omega)
             ·rw[take_snoc HI.out.2.1,List.map_append];have hVB2:VtIn (fun b=>b<w0.heap.size\/wa.heap.size<=b) d wB (Six.mk (.int .i64 zk) (.int .u64 (zn:Int)) (.int .i64 zs) (.string zt) (.slice za1 zl1 zc1) (.slice za2 zl2 zc2)).agg (lwV d y):=hVB;have:=Sixes.step (L:=wa.heap.size) (M:=wB.heap.size+1) hSr hVB2 kz kz2 (by omega) hGt (by omega) (by omega) (by omega) (fun b hb=>by have:=hG' b hb;rwa[z5]at this);exact this
             ·rcases hG' b hb with h|h
              ·have:=(hGt b h).1;omega
              ·omega
            case measure=>simp[intOf];omega
      ·go_simp;refine(HI.out.1 _ (Keep.refl [] wa).drew).mono ?_;rintro e wB ⟨v',rfl,kB,hVB⟩;obtain⟨zk,zs,zn,zt,za1,za2,zl1,zc1,zl2,zc2,rfl⟩:=hVB.six;have u5:=kB.cell_some (p:=⟨tb,5,none⟩) t5 (by simp);have u5a:=((Keep.refl [] wB).alloc (.cells #[.int .i64 zk,.int .u64 (zn:Int),.int .i64 zs,.string zt,.slice za1 zl1 zc1,.slice za2 zl2 zc2] 26)).cell_some u5 (by simp);have HB:=qq2 kB hVB;clear kB hVB;refine hK _ _ ?_;clear hK K;refine wpAny_ready (rs:=[1,4]) (by kernel_rfl) (by simp) ?_;refine(AllReady.cons rfl (fun K hK=>?_) (AllReady.cons rfl (fun K hK=>?_) AllReady.nil))
       ·go_simp;refine hK _ _ ?_;clear hK K;refine wpAny_ready (rs:=[4]) (by kernel_rfl) (by simp) ?_;refine(AllReady.cons rfl (fun K hK=>?_) AllReady.nil)
        ·go_simp;refine hK _ _ ?_;clear hK K;refine wpAny_ready (rs:=[5]) (by kernel_rfl) (by simp) ?_;refine(AllReady.cons rfl (fun K hK=>?_) AllReady.nil)
         ·rw[if_pos (by rfl)];refine wp_append_ownC (cf:=Six.cells) (G:=G) (l:=l) Six.len (by decide) _ _ 24 26 rfl i0 88 Tryz.underlying24 Hi.out.1 ⟨_,Hi.out.2.1,rfl⟩ Hi.out.2.2.1 Hi.out.2.2.2 rfl
           (((HR.out.2.2.2.2.1.keep HI.out.2.2.1 (by simp)).keep (S:=[]) ((Keep.refl [] wa).drew.trans HB.out.1 (by simp)) (by simp)).keep (S:=[]) ((Keep.refl [] wB).alloc (.cells #[.int .i64 zk,.int .u64 (zn:Int),.int .i64 zs,.string zt,.slice za1 zl1 zc1,.slice za2 zl2 zc2] 26)) (by simp)) _
           [Six.mk (.int .i64 zk) (.int .u64 (zn:Int)) (.int .i64 zs) (.string zt) (.slice za1 zl1 zc1) (.slice za2 zl2 zc2)] rfl (srcSix _ (six_one zk zs zn zt za1 za2 zl1 zc1 zl2 zc2) (Blk.new wB _ _)) (by rw[Hll.out];simp;omega) (by rw[Hll.out];simp;omega) ?_
          intro v'' wC G' hO' kC hG';obtain⟨ao,nl,cc,rfl⟩:=hO'.shape2;have htG:tb ∉ G:=fun hm=>by have:=HR.out.2.2.2.2.2.2 _ hm;have:=Htb.out.1;omega
          have KaB:Keep [] wa (wB.alloc (.cells #[.int .i64 zk,.int .u64 (zn:Int),.int .i64 zs,.string zt,.slice za1 zl1 zc1,.slice za2 zl2 zc2] 26)):=((Keep.refl [] wa).drew.trans HB.out.1 (by simp)).alloc _;have hTC:=(HI.out.2.2.2.keep KaB (by simp)).keep kC (by rw[<-Htb.out.1];exact htG);rw[<-Htb.out.1]at hTC;have s5:=hTC.cell (i:=5) rfl;have fC:=hTC.frozen;have HC:=qq6 hO' kC hG' KaB htG hTC;clear hO' kC hG' KaB hTC htG;refine hK _ _ ?_;clear hK K;refine wpAny_ready (rs:=[6]) (by kernel_rfl) (by simp) ?_;refine(AllReady.cons rfl (fun K hK=>?_) AllReady.nil)
          ·go_simp;refine hK _ _ ?_;clear hK K;refine wpAny_ready (rs:=[7]) (by kernel_rfl) (by simp) ?_;refine(AllReady.cons rfl (fun K hK=>?_) AllReady.nil)
           ·go_simp;refine hK _ _ ?_;clear hK K;refine wpAny_done (by kernel_rfl) ?_ _
            try simp only[Act.put,List.setIfInBounds_toArray,List.set_cons_zero,List.set_cons_succ]
            have e0:=Htb.out.1;have Htb2:=qq Htb.out.2;clear Htb;subst e0;go_wp2;go_roundw
            case rel=>
             obtain⟨kB,hVB⟩:=HB.out;obtain⟨hO',kC,hG',KaB,htG,hTC⟩:=HC.out;obtain⟨hkr,hxr,hrr,htr,hOr,hSr,hGr⟩:=HR.out;have e2:=Htb2.out;have z1:=HS.out.1;have z2:=HS.out.2.1;have z3:=HI.out.2.2.1.size;have z4:wa.heap.size<=wB.heap.size:=kB.size;have z5:(wB.alloc (.cells #[.int .i64 zk,.int .u64 (zn:Int),.int .i64 zs,.string zt,.slice za1 zl1 zc1,.slice za2 zl2 zc2] 26)).heap.size=wB.heap.size+1:=by simp
             have z6:=H.out.2.2.2.2.1.size;have hGt:∀b ∈ G,w.heap.size+1+1<b/\b<wa.heap.size:=fun b hb=>⟨by have:=hGr b hb;omega,by have:=HS.out.2.2 b hb;omega⟩;have kw:Keep [] wr (wB.alloc (.cells #[.int .i64 zk,.int .u64 (zn:Int),.int .i64 zs,.string zt,.slice za1 zl1 zc1,.slice za2 zl2 zc2] 26)):=HI.out.2.2.1.trans KaB (by simp);have kz:Keep ((w.heap.size+1+1)::G) wr (wC.setCell ⟨w.heap.size+1+1,5,none⟩ (.slice ao nl cc)):=(kw.nil.trans kC (fun b hb=>.inl (by simp[hb]))).set (.inl (by simp)) _ _ _;have kz2:Keep ((w.heap.size+1+1)::G) wB (wC.setCell ⟨w.heap.size+1+1,5,none⟩ (.slice ao nl cc)):=(((Keep.refl [] wB).alloc _).nil.trans kC (fun b hb=>.inl (by simp[hb]))).set (.inl (by simp)) _ _ _;have hno:∀q,q<=w.heap.size+1->q ∉ (w.heap.size+1+1)::G:=fun q hq=>by
              simp only[List.mem_cons,not_or];exact⟨by omega,fun hm=>by have:=(hGt q hm).1;omega⟩
             refine⟨j+1,hj2,by go_num,Lib.hid ⟨G',.slice ao nl cc,l++[Six.mk (.int .i64 zk) (.int .u64 (zn:Int)) (.int .i64 zs) (.string zt) (.slice za1 zl1 zc1) (.slice za2 zl2 zc2)],hkr.trans kz (fun b hb=>.inr ?_),hxr.keep kz (hno _ (by omega)),hrr.keep kz (hno _ (by omega)),?_,?_,?_,fun b hb=>?_⟩⟩
             ·simp only[List.mem_cons]at hb;rcases hb with hb|hb
              ·omega
              ·have:=(hGt b hb).1;omega
             ·exact hTC.set 5 _
             ·refine hO'.keep ((Keep.refl [w.heap.size+1+1] wC).set (.inl (by simp)) _ _ _) (fun b hb hm=>?_);rw[List.mem_singleton]at hm;subst hm;exact(hG' _ hb).elim htG (fun h=>by omega)
             ·rw[take_snoc HI.out.2.1,List.map_append];have hVB2:VtIn (fun b=>b<w0.heap.size\/wa.heap.size<=b) d wB (Six.mk (.int .i64 zk) (.int .u64 (zn:Int)) (.int .i64 zs) (.string zt) (.slice za1 zl1 zc1) (.slice za2 zl2 zc2)).agg (lwV d y):=hVB;have:=Sixes.step (L:=wa.heap.size) (M:=wB.heap.size+1) hSr hVB2 kz kz2 (by omega) hGt (by omega) (by omega) (by omega) (fun b hb=>by have:=hG' b hb;rwa[z5]at this);exact this
             ·rcases hG' b hb with h|h
              ·have:=(hGt b h).1;omega
              ·omega
            case measure=>simp[intOf];omega
       ·go_simp;refine hK _ _ ?_;clear hK K;refine wpAny_ready (rs:=[1]) (by kernel_rfl) (by simp) ?_;refine(AllReady.cons rfl (fun K hK=>?_) AllReady.nil)
        ·go_simp;refine hK _ _ ?_;clear hK K;refine wpAny_ready (rs:=[5]) (by kernel_rfl) (by simp) ?_;refine(AllReady.cons rfl (fun K hK=>?_) AllReady.nil)
         ·rw[if_pos (by rfl)];refine wp_append_ownC (cf:=Six.cells) (G:=G) (l:=l) Six.len (by decide) _ _ 24 26 rfl i0 88 Tryz.underlying24 Hi.out.1 ⟨_,Hi.out.2.1,rfl⟩ Hi.out.2.2.1 Hi.out.2.2.2 rfl
           (((HR.out.2.2.2.2.1.keep HI.out.2.2.1 (by simp)).keep (S:=[]) ((Keep.refl [] wa).drew.trans HB.out.1 (by simp)) (by simp)).keep (S:=[]) ((Keep.refl [] wB).alloc (.cells #[.int .i64 zk,.int .u64 (zn:Int),.int .i64 zs,.string zt,.slice za1 zl1 zc1,.slice za2 zl2 zc2] 26)) (by simp)) _
           [Six.mk (.int .i64 zk) (.int .u64 (zn:Int)) (.int .i64 zs) (.string zt) (.slice za1 zl1 zc1) (.slice za2 zl2 zc2)] rfl (srcSix _ (six_one zk zs zn zt za1 za2 zl1 zc1 zl2 zc2) (Blk.new wB _ _)) (by rw[Hll.out];simp;omega) (by rw[Hll.out];simp;omega) ?_
          intro v'' wC G' hO' kC hG';obtain⟨ao,nl,cc,rfl⟩:=hO'.shape2;have htG:tb ∉ G:=fun hm=>by have:=HR.out.2.2.2.2.2.2 _ hm;have:=Htb.out.1;omega
          have KaB:Keep [] wa (wB.alloc (.cells #[.int .i64 zk,.int .u64 (zn:Int),.int .i64 zs,.string zt,.slice za1 zl1 zc1,.slice za2 zl2 zc2] 26)):=((Keep.refl [] wa).drew.trans HB.out.1 (by simp)).alloc _;have hTC:=(HI.out.2.2.2.keep KaB (by simp)).keep kC (by rw[<-Htb.out.1];exact htG);rw[<-Htb.out.1]at hTC;have s5:=hTC.cell (i:=5) rfl;have fC:=hTC.frozen;have HC:=qq6 hO' kC hG' KaB htG hTC;clear hO' kC hG' KaB hTC htG;refine hK _ _ ?_;clear hK K;refine wpAny_ready (rs:=[6]) (by kernel_rfl) (by simp) ?_;refine(AllReady.cons rfl (fun K hK=>?_) AllReady.nil)
          ·go_simp;refine hK _ _ ?_;clear hK K;refine wpAny_ready (rs:=[7]) (by kernel_rfl) (by simp) ?_;refine(AllReady.cons rfl (fun K hK=>?_) AllReady.nil)
           ·go_simp;refine hK _ _ ?_;clear hK K;refine wpAny_done (by kernel_rfl) ?_ _
            try simp only[Act.put,List.setIfInBounds_toArray,List.set_cons_zero,List.set_cons_succ]
            have e0:=Htb.out.1;have Htb2:=qq Htb.out.2;clear Htb;subst e0;go_wp2;go_roundw
            case rel=>
             obtain⟨kB,hVB⟩:=HB.out;obtain⟨hO',kC,hG',KaB,htG,hTC⟩:=HC.out;obtain⟨hkr,hxr,hrr,htr,hOr,hSr,hGr⟩:=HR.out;have e2:=Htb2.out;have z1:=HS.out.1;have z2:=HS.out.2.1;have z3:=HI.out.2.2.1.size;have z4:wa.heap.size<=wB.heap.size:=kB.size;have z5:(wB.alloc (.cells #[.int .i64 zk,.int .u64 (zn:Int),.int .i64 zs,.string zt,.slice za1 zl1 zc1,.slice za2 zl2 zc2] 26)).heap.size=wB.heap.size+1:=by simp
             have z6:=H.out.2.2.2.2.1.size;have hGt:∀b ∈ G,w.heap.size+1+1<b/\b<wa.heap.size:=fun b hb=>⟨by have:=hGr b hb;omega,by have:=HS.out.2.2 b hb;omega⟩;have kw:Keep [] wr (wB.alloc (.cells #[.int .i64 zk,.int .u64 (zn:Int),.int .i64 zs,.string zt,.slice za1 zl1 zc1,.slice za2 zl2 zc2] 26)):=HI.out.2.2.1.trans KaB (by simp);have kz:Keep ((w.heap.size+1+1)::G) wr (wC.setCell ⟨w.heap.size+1+1,5,none⟩ (.slice ao nl cc)):=(kw.nil.trans kC (fun b hb=>.inl (by simp[hb]))).set (.inl (by simp)) _ _ _;have kz2:Keep ((w.heap.size+1+1)::G) wB (wC.setCell ⟨w.heap.size+1+1,5,none⟩ (.slice ao nl cc)):=(((Keep.refl [] wB).alloc _).nil.trans kC (fun b hb=>.inl (by simp[hb]))).set (.inl (by simp)) _ _ _;have hno:∀q,q<=w.heap.size+1->q ∉ (w.heap.size+1+1)::G:=fun q hq=>by
              simp only[List.mem_cons,not_or];exact⟨by omega,fun hm=>by have:=(hGt q hm).1;omega⟩
             refine⟨j+1,hj2,by go_num,Lib.hid ⟨G',.slice ao nl cc,l++[Six.mk (.int .i64 zk) (.int .u64 (zn:Int)) (.int .i64 zs) (.string zt) (.slice za1 zl1 zc1) (.slice za2 zl2 zc2)],hkr.trans kz (fun b hb=>.inr ?_),hxr.keep kz (hno _ (by omega)),hrr.keep kz (hno _ (by omega)),?_,?_,?_,fun b hb=>?_⟩⟩
             ·simp only[List.mem_cons]at hb;rcases hb with hb|hb
              ·omega
              ·have:=(hGt b hb).1;omega
             ·exact hTC.set 5 _
             ·refine hO'.keep ((Keep.refl [w.heap.size+1+1] wC).set (.inl (by simp)) _ _ _) (fun b hb hm=>?_);rw[List.mem_singleton]at hm;subst hm;exact(hG' _ hb).elim htG (fun h=>by omega)
             ·rw[take_snoc HI.out.2.1,List.map_append];have hVB2:VtIn (fun b=>b<w0.heap.size\/wa.heap.size<=b) d wB (Six.mk (.int .i64 zk) (.int .u64 (zn:Int)) (.int .i64 zs) (.string zt) (.slice za1 zl1 zc1) (.slice za2 zl2 zc2)).agg (lwV d y):=hVB;have:=Sixes.step (L:=wa.heap.size) (M:=wB.heap.size+1) hSr hVB2 kz kz2 (by omega) hGt (by omega) (by omega) (by omega) (fun b hb=>by have:=hG' b hb;rwa[z5]at this);exact this
             ·rcases hG' b hb with h|h
              ·have:=(hGt b h).1;omega
              ·omega
            case measure=>simp[intOf];omega
    ·have hjm:j=m:=by omega
     subst hjm;have hnl:¬(j:Int)<(j:Int):=by omega
     have hct:c.take j=c:=List.take_of_length_le (by rw[H.out.2.2.1];exact Nat.le_refl _);rw[hct]at HR;obtain⟨ao,nl,cc,hov⟩:=HR.out.2.2.2.2.1.shape2;subst hov;have ht:=HR.out.2.2.2.1;have hr:=HR.out.2.2.1;have hne:¬w.heap.size+1=w.heap.size+1+1:=by omega
     obtain⟨t0,t1,t2,t3,t4,t5⟩:=ht.c6 0 1 2 3 4 5 rfl rfl rfl rfl rfl rfl;obtain⟨r0,r1,r2,r3,r4,r5⟩:=hr.c6 0 1 2 3 4 5 rfl rfl rfl rfl rfl rfl;have fr:=hr.frozen;clear ht hr hct;go_wp2;have hz:=(((((HR.out.2.2.1.set 0 (.int .i64 kind)).set 1 (.int .u64 (num:Int))).set 2 (.int .i64 scale)).set 3 (.string text)).set 4 (.slice ta n tcap)).set 5 (.slice ao nl cc);obtain⟨z0,z1,z2,z3,z4,z5⟩:=hz.c6 0 1 2 3 4 5 rfl rfl rfl rfl rfl rfl;obtain⟨hkr,hxr,hrr,htr,hOr,hSr,hGr⟩:=HR.out;have kz:Keep [w.heap.size+1] wr ((((((wr.setCell ⟨w.heap.size+1,0,none⟩ (.int .i64 kind)).setCell ⟨w.heap.size+1,1,none⟩ (.int .u64 (num:Int))).setCell ⟨w.heap.size+1,2,none⟩ (.int .i64 scale)).setCell ⟨w.heap.size+1,3,none⟩ (.string text)).setCell ⟨w.heap.size+1,4,none⟩ (.slice ta n tcap)).setCell ⟨w.heap.size+1,5,none⟩ (.slice ao nl cc)):=
      ((((((Keep.refl _ wr).set (.inl (by simp)) _ _ _).set (.inl (by simp)) _ _ _).set (.inl (by simp)) _ _ _).set (.inl (by simp)) _ _ _).set (.inl (by simp)) _ _ _).set (.inl (by simp)) _ _ _
     have z6:=H.out.2.2.2.2.1.size;have kwz:Keep [] w _:=hkr.trans kz (fun b hb=>by simp at hb;subst hb;exact .inr (by omega));have hOz:=hOr.keep kz (fun b hb hm=>by simp at hm;have:=hGr b hb;omega);have hSz:=hSr.mono (R':=VtIn (fun b=>b<w0.heap.size\/w.heap.size<=b) d _) (fun u x h=>h.keep d kz (fun b hb hm=>by simp at hm;omega) (fun b hb _=>hb.imp_right (fun h=>by omega)));refine bodyPost_ret (v:=.agg #[.int .i64 kind,.int .u64 (num:Int),.int .i64 scale,.string text,.slice ta n tcap,.slice ao nl cc]) ?_ rfl ⟨_,rfl,kwz,?_⟩
     ·rw[results_cell1 rfl];go_simp
     ·exact⟨_,_,rfl,H.out.2.2.2.1.keep (H.out.2.2.2.2.1.trans kwz (by simp)) (fun b hb=>by simp) (fun b hb _=>.inl hb),hOz.kids (fun b hb=>.inr (by have:=hGr b hb;omega)) hSz⟩
theorem leastV:∀d,LwOk d
 |0=>fun x v w0 w h _ _ _=>h.elim
 |d+1=>fun x v w0 w h1 h2 h3 h4=>leastN d (leastV d) x v w0 w h1 h2 h3 h4
end Go.Proofs.YtocgdgmfnockiaaGreatDoor
