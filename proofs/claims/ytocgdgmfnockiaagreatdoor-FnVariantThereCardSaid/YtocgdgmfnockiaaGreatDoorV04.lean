/- A bytes.Buffer at the head of a block that is known whole, only written. No walk here. bytes.Buffer: Len, tryGrowByReslice. bytes.growSlice. bytes.Buffer: grow, Grow. -/
import Derived.Test.YtocgdgmfnockiaaGreatDoorV02
import Derived.Deep.Draws
import Derived.Defers
import Derived.Recover
import Derived.Deep.RegionWith
set_option linter.unusedVariables false
set_option linter.unusedSimpArgs false
set_option maxRecDepth 100000
set_option maxHeartbeats 8000000
namespace Go.Proofs.YtocgdgmfnockiaaGreatDoor
open Go.RowKit

def BufRow (g:List Nat) (w:World) (v:Value) (bs:List Nat):Prop:=
 (g=[]/\v=.slice none 0 0/\bs=[])\/∃r L,g=[r]/\v=.slice (some ⟨r,0,none⟩) bs.length L.length/\Blk w r (rowV .u8 L)/\L.take bs.length=bs/\bs.length<=L.length/\L.length<=maxLen

def BufAt (w:World) (b:Nat) (g:List Nat) (rest:List Value) (bs:List Nat):Prop:=
 ∃v lr,Blk w b (v::.int .i64 0::.int .i8 lr::rest)/\BufRow g w v bs/\b ∉ g

def BufRoom (w:World) (b r:Nat) (rest:List Value) (bs L:List Nat):Prop:=
 ∃lr,Blk w b (.slice (some ⟨r,0,none⟩) bs.length L.length::.int .i64 0::.int .i8 lr::rest)/\Blk w r (rowV .u8 L)/\L.take bs.length=bs/\bs.length<=L.length/\L.length<=maxLen/\b≠r
theorem BufRoom.at {w:World} {b r:Nat} {rest:List Value} {bs L:List Nat} (h:BufRoom w b r rest bs L):BufAt w b [r] rest bs:=by
 obtain⟨lr,h1,h2,h3,h4,h5,h6⟩:=h;exact⟨_,lr,h1,.inr ⟨r,L,rfl,rfl,h2,h3,h4,h5⟩,by simpa using h6⟩
theorem BufRow.keep {S g:List Nat} {w w':World} {v:Value} {bs:List Nat} (h:BufRow g w v bs) (k:Keep S w w') (hn:∀x ∈ g,x ∉ S):BufRow g w' v bs:=by
 rcases h with h|⟨r,L,rfl,h2,h3,h4⟩
 ·exact .inl h
 ·exact .inr ⟨r,L,rfl,h2,h3.keep k (hn r (by simp)),h4⟩
theorem BufRow.lt {g:List Nat} {w:World} {v:Value} {bs:List Nat} (h:BufRow g w v bs):∀x ∈ g,x<w.heap.size:=by
 rcases h with⟨rfl,_⟩|⟨r,L,rfl,h2,h3,h4⟩
 ·simp
 ·intro x hx;simp at hx;subst hx;exact h3.lt
theorem BufAt.keep {S g:List Nat} {w w':World} {b:Nat} {rest:List Value} {bs:List Nat} (h:BufAt w b g rest bs) (k:Keep S w w') (hb:b ∉ S) (hn:∀x ∈ g,x ∉ S):BufAt w' b g rest bs:=by
 obtain⟨v,lr,h1,h2,h3⟩:=h;exact⟨v,lr,h1.keep k hb,h2.keep k hn,h3⟩
theorem BufAt.lt {g:List Nat} {w:World} {b:Nat} {rest:List Value} {bs:List Nat} (h:BufAt w b g rest bs):b<w.heap.size:=by
 obtain⟨v,lr,h1,h2,h3⟩:=h;exact h1.lt
theorem BufAt.glt {g:List Nat} {w:World} {b:Nat} {rest:List Value} {bs:List Nat} (h:BufAt w b g rest bs):∀x ∈ g,x<w.heap.size:=by
 obtain⟨v,lr,h1,h2,h3⟩:=h;exact h2.lt

theorem BufAt.rest {g:List Nat} {w w':World} {b:Nat} {rest rest':List Value} {bs:List Nat} {v:Value} {lr:Int} (h1:Blk w' b (v::.int .i64 0::.int .i8 lr::rest')) (h2:BufRow g w v bs) (h3:b ∉ g) (k:Keep [b] w w'):BufAt w' b g rest' bs:=
 ⟨v,lr,h1,h2.keep k (fun x hx=>by simp;intro e;exact h3 (e▸hx)),h3⟩
theorem BufRow.le {g:List Nat} {w:World} {v:Value} {bs:List Nat} (h:BufRow g w v bs):bs.length<=maxLen:=by
 rcases h with⟨rfl,rfl,rfl⟩|⟨r,L,rfl,h2,h3,h4,h5,h6⟩
 ·simp
 ·omega
theorem BufRow.shape {g:List Nat} {w:World} {v:Value} {bs:List Nat} (h:BufRow g w v bs):∃ao c,v=.slice ao bs.length c:=by
 rcases h with⟨rfl,rfl,rfl⟩|⟨r,L,rfl,h2,h3,h4,h5,h6⟩
 ·exact⟨none,0,rfl⟩
 ·exact⟨_,_,h2⟩
theorem bufLenCells (b n c:Nat) (ao:Option Addr) (w:World) (c0:w.cell? ⟨b,0,none⟩=some (.slice ao n c)) (c1:w.cell? ⟨b,0+1,none⟩=some (.int .i64 0)) (hmax:n<=maxLen):
  Calls Tryz.prog 75 #[.pointer (some ⟨b,0,none⟩)] w fun e w'=>e=.returned (.int .i64 (n:Int))/\Keep [] w w':=by
 unfold maxLen at hmax
 go_enter Tryz.func75,Tryz.ntmps75
 go_wp2_with fail
 go_quiet (fail)
 go_wp2;go_ret;exact⟨rfl,(Keep.refl [] w).drewN nq⟩
theorem bufLenC (b:Nat) (g:List Nat) (rest:List Value) (bs:List Nat) (w:World) (h:BufAt w b g rest bs):
  Calls Tryz.prog 75 #[.pointer (some ⟨b,0,none⟩)] w fun e w'=>e=.returned (.int .i64 (bs.length:Int))/\Keep [] w w':=by
 obtain⟨v,lr,h1,h2,h3⟩:=h;have hmax:=h2.le;obtain⟨ao,c,rfl⟩:=h2.shape;exact bufLenCells b bs.length c ao w (h1.cell rfl) (h1.cell rfl) hmax

theorem tryGrowRoom (b n r m:Nat) (lr:Int) (rest:List Value) (L:List Nat) (w:World) (h:Blk w b (.slice (some ⟨r,0,none⟩) m L.length::.int .i64 0::.int .i8 lr::rest)) (hm:m+n<=L.length) (hL:L.length<=maxLen):
  Calls Tryz.prog 138 #[.pointer (some ⟨b,0,none⟩),.int .i64 (n:Int)] w fun e w'=>e=.returned (.tuple #[.int .i64 (m:Int),.bool true])/\
   Blk w' b (.slice (some ⟨r,0,none⟩) (m+n) L.length::.int .i64 0::.int .i8 lr::rest)/\Keep [b] w w':=by
 unfold maxLen at hL;obtain⟨c,hc⟩:∃c,c=L.length:=⟨_,rfl⟩;rw[<-hc]at h hm hL ⊢;have c0:w.cell? ⟨b,0,none⟩=some (.slice (some ⟨r,0,none⟩) m c):=h.cell rfl;have f0:=h.frozen 0;have h1:(n:Int)<=(c:Int)-(m:Int):=by omega
 have H:=qq2 hc h;clear hc h
 go_enter Tryz.func138,Tryz.ntmps138
 go_wp2
 go_ret2
 refine⟨rfl,?_,(Keep.refl [b] w).set (by simp) _ _ _⟩;exact H.out.2.set 0 _

theorem tryGrowNone (b n m c:Nat) (ao:Option Addr) (w:World) (c0:w.cell? ⟨b,0,none⟩=some (.slice ao m c)) (hm:c<m+n) (hmc:m<=c) (hc:c<=maxLen):
  Calls Tryz.prog 138 #[.pointer (some ⟨b,0,none⟩),.int .i64 (n:Int)] w fun e w'=>e=.returned (.tuple #[.int .i64 0,.bool false])/\w=w':=by
 unfold maxLen at hc;have h1:¬(n:Int)<=(c:Int)-(m:Int):=by omega
 go_enter Tryz.func138,Tryz.ntmps138
 go_wp2
 go_ret2
 exact⟨rfl,rfl⟩
theorem catchIdle (w:World):CallsD Tryz.prog 175 #[] .returning w fun e u' w'=>e=.returned (.tuple #[])/\u'=.returning/\w'=w:=by
 refine callsD_of_wpS Tryz.func175 rfl fun c₀ cs hu=>?_;apply wpS_seq;apply wpS_region;simp[wpOpsS,go_sem,recoverD,hu,Tryz.ntmps175,Exit.thenS];refine wpS_cond (t:=false) (by simp[Act.eval,Array.replicate]) ?_;simp only[Bool.false_eq_true,if_false];refine wpS_of_wp (wp_skip ?_);cases c₀
 simp_all [bodyPostS,results,Tryz.results175]
theorem info_u8t:(Tryz.prog.info? 5).map (fun i=>(i.zero,i.size,i.bytes))=some (some (.int .u8 0),1,1):=by kernel_rfl
theorem size_u8t:(Tryz.prog.info? 5).map (·.size)=some 1:=by kernel_rfl

theorem growSliceC (r l n c:Nat) (L:List Nat) (w:World) (h:Blk w r (rowV .u8 L)) (hc:c=L.length) (hlc:l<=c) (hn:1<=n) (hlim:l+n<=70368744177664) (hcl:c<=70368744177664):
  Calls Tryz.prog 167 #[.slice (some ⟨r,0,none⟩) l c,.int .i64 (n:Int)] w fun e w'=>∃L2,e=.returned (.slice (some ⟨w.heap.size,0,none⟩) l L2.length)/\Blk w' w.heap.size (rowV .u8 L2)/\
   L2.take l=L.take l/\l+n<=L2.length/\L2.length<=maxLen/\Keep [] w w':=by
 obtain⟨i0,hi,hz0,hz1,hz2⟩:=info_parts info_u8t;by_cases hC:l+n<2*c
 ·obtain⟨C,hCe⟩:∃C,C=2*c:=⟨_,rfl⟩;have happ:=Lib.run_append_nil_zeros (P:=Tryz.prog) w 30 3 30 5 i0 (.int .u8 0) .i64 .i64 Tryz.underlying30 Tryz.underlying3 hi hz0 C (by omega) (by omega) (by omega) (by rw[hz2];omega);have hCi:(C:Int)=2*(c:Int):=by omega
  have hlt:(l:Int)+(n:Int)<2*(c:Int):=by omega
  have hlC:l<=C/\l+n<=C/\C<=140737488355328:=by omega
  clear hCe;generalize hcap:grownCap w C 0 5=cap2 at happ;have hcapge:C<=cap2:=by rw[<-hcap];exact grownCap_ge w _ 0 5
  have hcaple:cap2<=maxLen:=by rw[<-hcap];exact grownCap_le_maxLen w _ 0 5 (by unfold maxLen;omega)
  have hZ:Builtin.zeroCells (Value.int .u8 0).cells C++Builtin.zeroCells (Value.int .u8 0).cells (cap2-C)=(rowV .u8 (List.replicate cap2 0)).toArray:=by
   rw[zeroCells_row,zeroCells_row,List.append_toArray,<-rowV_append,List.replicate_append_replicate,Nat.add_sub_cancel' hcapge]
  rw[hZ]at happ;clear hcap hZ;have hg0:Blk (w.alloc (.cells (rowV .u8 (List.replicate cap2 0)).toArray 5)).drew w.heap.size (rowV .u8 (List.replicate cap2 0)):=Blk.new w _ _;have hr0:Blk (w.alloc (.cells (rowV .u8 (List.replicate cap2 0)).toArray 5)).drew r (rowV .u8 L):=h.alloc _;have hcopy:=fun ty=>run_copy_blk (P:=Tryz.prog) hg0 hr0 30 30 ty 5 0 0 C cap2 l c Tryz.underlying30 size_u8t l (Nat.min_eq_left (by omega)).symm (by simp;omega) (by simp;omega) (one_rowV _ _);rw[List.drop_zero,<-rowV_take]at hcopy;have hg1:=hg0.setCells (vs:=rowV .u8 (L.take l)) (o:=0) (by simp;omega);rw[<-rowV_splice,splice_zero]at hg1;have K1:Keep [] w ((w.alloc (.cells (rowV .u8 (List.replicate cap2 0)).toArray 5)).drew.setCells w.heap.size 0 (rowV .u8 (L.take l))):=Keep.setCells (by simp) ((Keep.refl [] w).alloc _).drew;rw[hCi]at happ;have hlcap:l<=cap2:=by omega
  have HH:=qq6 hg1 hc hlC hcapge hcaple K1;clear hg1 hg0 hr0 h hc hlC hCi K1
  go_enter_defers Tryz.func167,Tryz.ntmps167
  go_wp2_with(at_builtin;refine Lib.wpList_append_run _ rfl _ _ _ _ rfl _ _ rfl rfl _ _ happ ?_)
  refine leaves_cons (f:=175) (args:=#[]) (by simp) (by simp[go_sem]) ?_;refine(catchIdle _).mono ?_;rintro e u' w'' ⟨rfl,rfl,rfl⟩;refine⟨_,results_tmp rfl _ _ _,L.take l++(List.replicate cap2 0).drop (L.take l).length,?_⟩;obtain⟨h1,h2,h3,h4,h5,K1⟩:=HH.out;have e1:(L.take l).length=l:=by simp;omega
  have e2:(L.take l++(List.replicate cap2 0).drop (L.take l).length).length=cap2:=by simp;omega
  refine⟨by rw[e2];rfl,h1,?_,?_,?_,?_⟩
  ·rw[List.take_left' e1]
  ·rw[e2];omega
  ·rw[e2];exact h5
  ·exact K1
 ·obtain⟨C,hCe⟩:∃C,C=l+n:=⟨_,rfl⟩;have happ:=Lib.run_append_nil_zeros (P:=Tryz.prog) w 30 3 30 5 i0 (.int .u8 0) .i64 .i64 Tryz.underlying30 Tryz.underlying3 hi hz0 C (by omega) (by omega) (by omega) (by rw[hz2];omega);have hCi:(C:Int)=(l:Int)+(n:Int):=by omega
  have hlt:¬(l:Int)+(n:Int)<2*(c:Int):=by omega
  have hlC:l<=C/\l+n<=C/\C<=140737488355328:=by omega
  clear hCe;generalize hcap:grownCap w C 0 5=cap2 at happ;have hcapge:C<=cap2:=by rw[<-hcap];exact grownCap_ge w _ 0 5
  have hcaple:cap2<=maxLen:=by rw[<-hcap];exact grownCap_le_maxLen w _ 0 5 (by unfold maxLen;omega)
  have hZ:Builtin.zeroCells (Value.int .u8 0).cells C++Builtin.zeroCells (Value.int .u8 0).cells (cap2-C)=(rowV .u8 (List.replicate cap2 0)).toArray:=by
   rw[zeroCells_row,zeroCells_row,List.append_toArray,<-rowV_append,List.replicate_append_replicate,Nat.add_sub_cancel' hcapge]
  rw[hZ]at happ;clear hcap hZ;have hg0:Blk (w.alloc (.cells (rowV .u8 (List.replicate cap2 0)).toArray 5)).drew w.heap.size (rowV .u8 (List.replicate cap2 0)):=Blk.new w _ _;have hr0:Blk (w.alloc (.cells (rowV .u8 (List.replicate cap2 0)).toArray 5)).drew r (rowV .u8 L):=h.alloc _;have hcopy:=fun ty=>run_copy_blk (P:=Tryz.prog) hg0 hr0 30 30 ty 5 0 0 C cap2 l c Tryz.underlying30 size_u8t l (Nat.min_eq_left (by omega)).symm (by simp;omega) (by simp;omega) (one_rowV _ _);rw[List.drop_zero,<-rowV_take]at hcopy;have hg1:=hg0.setCells (vs:=rowV .u8 (L.take l)) (o:=0) (by simp;omega);rw[<-rowV_splice,splice_zero]at hg1;have K1:Keep [] w ((w.alloc (.cells (rowV .u8 (List.replicate cap2 0)).toArray 5)).drew.setCells w.heap.size 0 (rowV .u8 (L.take l))):=Keep.setCells (by simp) ((Keep.refl [] w).alloc _).drew;rw[hCi]at happ;have hlcap:l<=cap2:=by omega
  have HH:=qq6 hg1 hc hlC hcapge hcaple K1;clear hg1 hg0 hr0 h hc hlC hCi K1
  go_enter_defers Tryz.func167,Tryz.ntmps167
  go_wp2_with(at_builtin;refine Lib.wpList_append_run _ rfl _ _ _ _ rfl _ _ rfl rfl _ _ happ ?_)
  refine leaves_cons (f:=175) (args:=#[]) (by simp) (by simp[go_sem]) ?_;refine(catchIdle _).mono ?_;rintro e u' w'' ⟨rfl,rfl,rfl⟩;refine⟨_,results_tmp rfl _ _ _,L.take l++(List.replicate cap2 0).drop (L.take l).length,?_⟩;obtain⟨h1,h2,h3,h4,h5,K1⟩:=HH.out;have e1:(L.take l).length=l:=by simp;omega
  have e2:(L.take l++(List.replicate cap2 0).drop (L.take l).length).length=cap2:=by simp;omega
  refine⟨by rw[e2];rfl,h1,?_,?_,?_,?_⟩
  ·rw[List.take_left' e1]
  ·rw[e2];omega
  ·rw[e2];exact h5
  ·exact K1
theorem nilEql (w:World):(binOp .eql 30 (.slice none 0 0) (.slice none 0 0)).run Tryz.prog w=.ok (.bool true) w:=Lib.run_eql_slice_nil w 30 _ none 0 0 0 0 Tryz.underlying30
theorem someEql (r n c:Nat) (w:World):(binOp .eql 30 (.slice (some ⟨r,0,none⟩) n c) (.slice none 0 0)).run Tryz.prog w=.ok (.bool false) w:=Lib.run_eql_slice_nil w 30 _ (some ⟨r,0,none⟩) n c 0 0 Tryz.underlying30

theorem growSliceNil (n:Nat) (w:World) (hn:1<=n) (hlim:n<=70368744177664):
  Calls Tryz.prog 167 #[.slice none 0 0,.int .i64 (n:Int)] w fun e w'=>∃L2,e=.returned (.slice (some ⟨w.heap.size,0,none⟩) 0 L2.length)/\Blk w' w.heap.size (rowV .u8 L2)/\
   n<=L2.length/\L2.length<=maxLen/\Keep [] w w':=by
 obtain⟨i0,hi,hz0,hz1,hz2⟩:=info_parts info_u8t;have happ:=Lib.run_append_nil_zeros (P:=Tryz.prog) w 30 3 30 5 i0 (.int .u8 0) .i64 .i64 Tryz.underlying30 Tryz.underlying3 hi hz0 n (by omega) (by omega) (by omega) (by rw[hz2];omega);generalize hcap:grownCap w n 0 5=cap2 at happ;have hcapge:n<=cap2:=by rw[<-hcap];exact grownCap_ge w _ 0 5
 have hcaple:cap2<=maxLen:=by rw[<-hcap];exact grownCap_le_maxLen w _ 0 5 (by unfold maxLen;omega)
 have hZ:Builtin.zeroCells (Value.int .u8 0).cells n++Builtin.zeroCells (Value.int .u8 0).cells (cap2-n)=(rowV .u8 (List.replicate cap2 0)).toArray:=by
  rw[zeroCells_row,zeroCells_row,List.append_toArray,<-rowV_append,List.replicate_append_replicate,Nat.add_sub_cancel' hcapge]
 rw[hZ]at happ;clear hcap hZ;have hg0:Blk (w.alloc (.cells (rowV .u8 (List.replicate cap2 0)).toArray 5)).drew w.heap.size (rowV .u8 (List.replicate cap2 0)):=Blk.new w _ _;have hcopy:=fun ty=>run_copy_nil (P:=Tryz.prog) (w.alloc (.cells (rowV .u8 (List.replicate cap2 0)).toArray 5)).drew 30 30 ty 5 ⟨w.heap.size,0,none⟩ n cap2 Tryz.underlying30 (by rw[hi];rfl);have HH:=qq3 hg0 hcapge hcaple;have hlt:(0:Int)<=(n:Int):=by omega
 have hnlt:¬(n:Int)<0:=by omega
 clear hg0 hcapge
 go_enter_defers Tryz.func167,Tryz.ntmps167
 go_wp2_with(at_builtin;refine Lib.wpList_append_run _ rfl _ _ _ _ rfl _ _ rfl rfl _ _ happ ?_)
 refine leaves_cons (f:=175) (args:=#[]) (by simp) (by simp[go_sem]) ?_;refine(catchIdle _).mono ?_;rintro e u' w'' ⟨rfl,rfl,rfl⟩;refine⟨_,results_tmp rfl _ _ _,List.replicate cap2 0,?_⟩;obtain⟨h1,h2,h3⟩:=HH.out;exact⟨by rw[List.length_replicate];rfl,h1,by simpa using h2,by simpa using h3,((Keep.refl [] w).alloc _).drew⟩

theorem growRow (b r l n:Nat) (lr:Int) (rest:List Value) (L:List Nat) (w:World) (h:Blk w b (.slice (some ⟨r,0,none⟩) l L.length::.int .i64 0::.int .i8 lr::rest)) (hr:Blk w r (rowV .u8 L)) (hl:l<=L.length)
  (hno:L.length<l+n) (hlim:l+n<=70368744177664):
  Calls Tryz.prog 137 #[.pointer (some ⟨b,0,none⟩),.int .i64 (n:Int)] w fun e w'=>e=.returned (.int .i64 (l:Int))/\∃r2 L2,Blk w' b (.slice (some ⟨r2,0,none⟩) (l+n) L2.length::.int .i64 0::.int .i8 lr::rest)/\
   Blk w' r2 (rowV .u8 L2)/\L2.take l=L.take l/\l+n<=L2.length/\L2.length<=maxLen/\w.heap.size<=r2/\Keep [b] w w':=by
 have hnil:=someEql r l L.length;obtain⟨c,hc⟩:∃c,c=L.length:=⟨_,rfl⟩;rw[<-hc]at h hl hno hnil;have c0:w.cell? ⟨b,0,none⟩=some (.slice (some ⟨r,0,none⟩) l c):=h.cell rfl;have c1:w.cell? ⟨b,0+1,none⟩=some (.int .i64 0):=h.cell rfl;have HH:=qq3 hc h hr;clear hc;by_cases hl0:l=0
 ·subst hl0
  go_enter Tryz.func137,Tryz.ntmps137
  go_wp2_with fail
  refine(bufLenCells b 0 c _ _ c0 c1 (by unfold maxLen;omega)).mono ?_;rintro e w1 ⟨rfl,k1⟩;have hb1:=h.keep k1 (by simp);have hr1:=hr.keep k1 (by simp);have c0':w1.cell? ⟨b,0,none⟩=some (.slice (some ⟨r,0,none⟩) 0 c):=hb1.cell rfl;have c1':w1.cell? ⟨b,0+1,none⟩=some (.int .i64 0):=hb1.cell rfl;have HK:=qq3 k1 hb1 hr1;clear k1 c0 c1 h hr hb1 hr1;go_wp2_with fail
  refine(tryGrowNone b n 0 c _ _ c0' hno hl (by unfold maxLen;omega)).mono ?_;rintro e w2 ⟨rfl,rfl⟩;have h2:¬(n:Int)<=(c:Int) / 2:=by omega
  have h3:¬(9223372036854775807:Int)-(c:Int)-(n:Int)<(c:Int):=by omega
  have hwn:IntKind.i64.wrap (n:Int)=n:=by rw[IntKind.wrap_i64];omega
  go_wp2
  go_region_with (
   go_at_call 167;
   refine(growSliceC r 0 n c L _ ?_ HH.out.1 hl (by omega) hlim (by omega)).mono ?_;
   exact HK.out.2.2.drew;
   rintro e w2 ⟨L2,rfl,g1,g2,g3,g4,g5⟩;
   have hb2:=HK.out.2.1.drew.keep g5 (by simp);
   have d0:w2.cell? ⟨b,0,none⟩=some (.slice (some ⟨r,0,none⟩) 0 c):=hb2.cell rfl;
   have d1:w2.cell? ⟨b,0+1,none⟩=some (.int .i64 0):=hb2.cell rfl;
   have e0:=hb2.frozen 0;
   have e1:w2.frozen? ⟨b,0+1,none⟩=false:=hb2.frozen 1)
  all_goals
   have HG:=qq4 g1 g2 g5 hb2;clear g1 g2 g5 hb2;unfold maxLen at g4;go_wp2;go_ret;obtain⟨q1,q2,q3,q4⟩:=HG.out;have k0:=HK.out.1;have q5:=(((q4.set 0 (.slice (some ⟨w1.heap.size,0,none⟩) 0 L2.length)).set 1 (.int .i64 0)).set 0 (.slice (some ⟨w1.heap.size,0,none⟩) n L2.length));have hlb:=HH.out.2.1.lt;have hs1:=k0.size;refine⟨rfl,w1.heap.size,L2,by rw[Nat.zero_add];exact q5,?_,q2,g3,by unfold maxLen;exact g4,hs1,?_⟩
   ·have hne:w1.heap.size≠b:=by omega
    exact((Blk.set_other (Blk.set_other (Blk.set_other q1 hne 0 none _) hne 1 none _) hne 0 none _))
   ·exact(((k0.drew.trans q3 (by simp)).weaken (by simp)).set (b:=b) (by simp) _ _ _ |>.set (b:=b) (by simp) _ _ _ |>.set (b:=b) (by simp) _ _ _)
 ·have h1:decide ((l:Int)=0)=false:=by simp;omega
  go_enter Tryz.func137,Tryz.ntmps137
  go_wp2_with fail
  refine(bufLenCells b l c _ _ c0 c1 (by unfold maxLen;omega)).mono ?_;rintro e w1 ⟨rfl,k1⟩;have hb1:=h.keep k1 (by simp);have hr1:=hr.keep k1 (by simp);have c0':w1.cell? ⟨b,0,none⟩=some (.slice (some ⟨r,0,none⟩) l c):=hb1.cell rfl;have c1':w1.cell? ⟨b,0+1,none⟩=some (.int .i64 0):=hb1.cell rfl;have HK:=qq3 k1 hb1 hr1;clear k1 c0 c1 h hr hb1 hr1;go_wp2_with fail
  refine(tryGrowNone b n l c _ _ c0' hno hl (by unfold maxLen;omega)).mono ?_;rintro e w2 ⟨rfl,rfl⟩;have h2:¬(n:Int)<=(c:Int) / 2-(l:Int):=by omega
  have h3:¬(9223372036854775807:Int)-(c:Int)-(n:Int)<(c:Int):=by omega
  have hwn:IntKind.i64.wrap (n:Int)=n:=by rw[IntKind.wrap_i64];omega
  go_wp2
  go_region_with (
   go_at_call 167;
   refine(growSliceC r l n c L _ ?_ HH.out.1 hl (by omega) hlim (by omega)).mono ?_;
   exact HK.out.2.2.drew;
   rintro e w2 ⟨L2,rfl,g1,g2,g3,g4,g5⟩;
   have hb2:=HK.out.2.1.drew.keep g5 (by simp);
   have d0:w2.cell? ⟨b,0,none⟩=some (.slice (some ⟨r,0,none⟩) l c):=hb2.cell rfl;
   have d1:w2.cell? ⟨b,0+1,none⟩=some (.int .i64 0):=hb2.cell rfl;
   have e0:=hb2.frozen 0;
   have e1:w2.frozen? ⟨b,0+1,none⟩=false:=hb2.frozen 1)
  all_goals
   have HG:=qq4 g1 g2 g5 hb2;clear g1 g2 g5 hb2;unfold maxLen at g4;go_wp2;go_ret;obtain⟨q1,q2,q3,q4⟩:=HG.out;have k0:=HK.out.1;have q5:=(((q4.set 0 (.slice (some ⟨w1.heap.size,0,none⟩) l L2.length)).set 1 (.int .i64 0)).set 0 (.slice (some ⟨w1.heap.size,0,none⟩) (l+n) L2.length));have hlb:=HH.out.2.1.lt;have hs1:=k0.size;refine⟨rfl,w1.heap.size,L2,q5,?_,q2,g3,by unfold maxLen;exact g4,hs1,?_⟩
   ·have hne:w1.heap.size≠b:=by omega
    exact((Blk.set_other (Blk.set_other (Blk.set_other q1 hne 0 none _) hne 1 none _) hne 0 none _))
   ·exact(((k0.drew.trans q3 (by simp)).weaken (by simp)).set (b:=b) (by simp) _ _ _ |>.set (b:=b) (by simp) _ _ _ |>.set (b:=b) (by simp) _ _ _)
end Go.Proofs.YtocgdgmfnockiaaGreatDoor
