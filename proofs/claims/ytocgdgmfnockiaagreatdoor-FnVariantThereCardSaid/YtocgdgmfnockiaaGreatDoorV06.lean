/- Variants: headers of values, writeLittle. Variants: type assertions; numberOf, writeNumeric. -/
import Derived.Test.YtocgdgmfnockiaaGreatDoorV05
import Derived.Test.YtocgdgmfnockiaaGreatDoorV03
set_option linter.unusedVariables false
set_option linter.unusedSimpArgs false
set_option maxRecDepth 100000
set_option maxHeartbeats 8000000
namespace Go.Proofs.YtocgdgmfnockiaaGreatDoor
open Go.RowKit
theorem flipW {P:Program} {f:FuncId} {args:Array Value} {w:World} {v:Value} (h:Calls P f args w fun e w'=>e=.returned v/\w=w'):Calls P f args w fun e w'=>e=.returned v/\w'=w:=
 h.mono fun _ _ ⟨a,b⟩=>⟨a,b.symm⟩
theorem primHdrC (t:Nat) (w:World) (ht:t<=20):Calls Tryz.prog 91 #[.int .i64 (t:Int)] w fun e w'=>e=.returned (.int .u8 ((4*t:Nat):Int))/\w=w':=by
 have h:t=0\/t=1\/t=2\/t=3\/t=4\/t=5\/t=6\/t=7\/t=8\/t=9\/t=10\/t=11\/t=12\/t=13\/t=14\/t=15\/t=16\/t=17\/t=18\/t=19\/t=20:=by omega
 rcases h with rfl|rfl|rfl|rfl|rfl|rfl|rfl|rfl|rfl|rfl|rfl|rfl|rfl|rfl|rfl|rfl|rfl|rfl|rfl|rfl|rfl<;>
 ·go_enter Tryz.func91,Tryz.ntmps91
  go_wp2;go_ret;exact⟨rfl,rfl⟩
theorem shortOr:∀n:Nat,n<=63->bits .or .u8 ((n:Int)*4) 1=((1+4*n:Nat):Int):=by decide
theorem shortHdrC (n:Nat) (w:World) (hn:n<=63):Calls Tryz.prog 97 #[.int .i64 (n:Int)] w fun e w'=>e=.returned (.int .u8 ((1+4*n:Nat):Int))/\w=w':=by
 have H:=qq (shortOr n hn);have h0:(n:Int)<=63:=by omega
 go_enter Tryz.func97,Tryz.ntmps97
 go_wp2;go_ret;exact⟨by rw[<-H.out];rfl,rfl⟩

theorem putU64C (q v:Nat) (y0 y1 y2 y3 y4 y5 y6 y7:Nat) (w:World) (h:Blk w q (rowV .u8 [y0,y1,y2,y3,y4,y5,y6,y7])) (hv:v<18446744073709551616):
  Calls Tryz.prog 144 #[.agg #[],.slice (some ⟨q,0,none⟩) 8 8,.int .u64 (v:Int)] w fun e w'=>e=.returned (.tuple #[])/\Blk w' q (rowV .u8 (leBytes 8 v))/\Keep [q] w w':=by
 have c0:w.cell? ⟨q,0,none⟩=some (.int .u8 (y0:Int)):=h.cell rfl;have c1:w.cell? ⟨q,0+1,none⟩=some (.int .u8 (y1:Int)):=h.cell rfl;have c2:w.cell? ⟨q,0+2,none⟩=some (.int .u8 (y2:Int)):=h.cell rfl;have c3:w.cell? ⟨q,0+3,none⟩=some (.int .u8 (y3:Int)):=h.cell rfl;have c4:w.cell? ⟨q,0+4,none⟩=some (.int .u8 (y4:Int)):=h.cell rfl;have c5:w.cell? ⟨q,0+5,none⟩=some (.int .u8 (y5:Int)):=h.cell rfl;have c6:w.cell? ⟨q,0+6,none⟩=some (.int .u8 (y6:Int)):=h.cell rfl;have c7:w.cell? ⟨q,0+7,none⟩=some (.int .u8 (y7:Int)):=h.cell rfl;have f0:w.frozen? ⟨q,0,none⟩=false:=h.frozen 0;have f1:w.frozen? ⟨q,0+1,none⟩=false:=h.frozen 1;have f2:w.frozen? ⟨q,0+2,none⟩=false:=h.frozen 2;have f3:w.frozen? ⟨q,0+3,none⟩=false:=h.frozen 3;have f4:w.frozen? ⟨q,0+4,none⟩=false:=h.frozen 4;have f5:w.frozen? ⟨q,0+5,none⟩=false:=h.frozen 5;have f6:w.frozen? ⟨q,0+6,none⟩=false:=h.frozen 6;have f7:w.frozen? ⟨q,0+7,none⟩=false:=h.frozen 7;have h0:(0:Int)<=(v:Int):=by omega
 have hlt:=h.lt;have H:=qq h;clear h
 go_enter Tryz.func144,Tryz.ntmps144
 go_wp2;go_end0;refine⟨rfl,?_,?_⟩
 ·rw[leBytes8,show(v:Int) / 72057594037927936%256=(v:Int) / 72057594037927936 by omega];exact((((((((H.out.set 0 _).set 1 _).set 2 _).set 3 _).set 4 _).set 5 _).set 6 _).set 7 _).alloc _
 ·exact(((((((((Keep.refl [q] w).set (by simp) _ _ _).set (by simp) _ _ _).set (by simp) _ _ _).set (by simp) _ _ _).set (by simp) _ _ _).set (by simp) _ _ _).set (by simp) _ _ _).set (by simp) _ _ _).alloc _
theorem method_Write (a:Addr) (w:World):(method 415 163 (.pointer (some a)) "Write").run Tryz.prog w=.ok (87,.pointer (some a)) w:=by kernel_rfl
theorem nil_Write (a:Addr) (w:World):(nilAhead 415 163 (.pointer (some a)) "Write").run Tryz.prog w=.ok (some false) w:=by kernel_rfl
theorem method_WriteByte (a:Addr) (w:World):(method 415 163 (.pointer (some a)) "WriteByte").run Tryz.prog w=.ok (90,.pointer (some a)) w:=by kernel_rfl
theorem nil_WriteByte (a:Addr) (w:World):(nilAhead 415 163 (.pointer (some a)) "WriteByte").run Tryz.prog w=.ok (some false) w:=by kernel_rfl
theorem makeF (fn:Fn) (first cap:Array Value) (w:World):(Instr.makeFunc fn first cap).run Tryz.prog w=.ok (.func fn first cap) w:=rfl
theorem BufRoom.keep {S:List Nat} {w w':World} {b r:Nat} {rest:List Value} {bs L:List Nat} (h:BufRoom w b r rest bs L) (k:Keep S w w') (hb:b ∉ S) (hr:r ∉ S):BufRoom w' b r rest bs L:=by
 obtain⟨lr,h1,h2,h3⟩:=h;exact⟨lr,h1.keep k hb,h2.keep k hr,h3⟩
theorem BufRoom.drew {w:World} {b r:Nat} {rest:List Value} {bs L:List Nat} (h:BufRoom w b r rest bs L):BufRoom w.drew b r rest bs L:=h
theorem BufRoom.lt {w:World} {b r:Nat} {rest:List Value} {bs L:List Nat} (h:BufRoom w b r rest bs L):b<w.heap.size/\r<w.heap.size:=by
 obtain⟨lr,h1,h2,h3⟩:=h;exact⟨h1.lt,h2.lt⟩
theorem leBytes_take:∀(n m v:Nat),n<=m->(leBytes m v).take n=leBytes n v
 |0,_,_,_=>by simp[leBytes]
 |n+1,0,_,h=>by omega
 |n+1,m+1,v,h=>by rw[leBytes,leBytes,List.take_succ_cons,leBytes_take n m _ (by omega)]

theorem writeLittleC (b r n v:Nat) (rest:List Value) (bs L:List Nat) (w:World) (h:BufRoom w b r rest bs L) (hn1:1<=n) (hn8:n<=8) (hv:v<18446744073709551616) (hle:bs.length+n<=L.length):
  Calls Tryz.prog 100 #[.iface 163 (.pointer (some ⟨b,0,none⟩)),.int .u64 (v:Int),.int .i64 (n:Int)] w fun e w'=>e=.returned .nilIface/\∃L',L'.length=L.length/\BufRoom w' b r rest (bs++leBytes n v) L'/\Keep [b,r] w w':=by
 have hg:=le_run;have hm:=method_Write ⟨b,0,none⟩;have hni:=nil_Write ⟨b,0,none⟩;have hmf:=makeF;have hlt:=h.lt;have H:=qq h;clear h;have hn8i:(n:Int)<=8:=by omega
 go_enter Tryz.func100,Tryz.ntmps100
 obtain⟨w1,hw1⟩:∃w1,w1=w.alloc (.cells #[.int .u8 0,.int .u8 0,.int .u8 0,.int .u8 0,.int .u8 0,.int .u8 0,.int .u8 0,.int .u8 0] 231):=⟨_,rfl⟩;have hq1:Blk w1 w.heap.size (rowV .u8 [0,0,0,0,0,0,0,0]):=by rw[hw1];exact Blk.new w _ _
 have hB1:BufRoom w1 b r rest bs L:=by rw[hw1];exact H.out.keep ((Keep.refl [] w).alloc _) (by simp) (by simp)
 have K1:Keep [] w w1:=by rw[hw1];exact(Keep.refl [] w).alloc _
 go_wp2_with fail
 rw[<-hw1];clear hw1;refine wp_region_mid 3 (by kernel_rfl) (by kernel_rfl) ?_;simp only[List.take_succ_cons,List.take_zero,List.drop_succ_cons,List.drop_zero];change wpStill _ _ (World.drew _) _ _ _;repeat still_step
 refine wpStill_nil ?_;go_wp2_with fail
 refine(putU64C w.heap.size v 0 0 0 0 0 0 0 0 w1.drew hq1.drew hv).mono ?_;rintro e w2 ⟨rfl,hq2,k2⟩;have hB2:=hB1.drew.keep k2 (by simp;omega) (by simp;omega);have K2:Keep [] w w2:=K1.drew.trans k2 (by simp);have HQ:=qq3 hq2 hB2 K2;clear hq1 hB1 K1 hq2 k2 hB2 K2;go_wp2_with fail
 repeat still_step
 refine wpStill_nil ?_;go_wp2_with fail
 refine wp_region_mid 6 (by kernel_rfl) (by kernel_rfl) ?_;simp only[List.take_succ_cons,List.take_zero,List.drop_succ_cons,List.drop_zero];change wpStill _ _ (World.drew _) _ _ _;repeat still_step
 refine wpStill_nil ?_;go_wp2_with fail
 refine(writeRoom b r n 8 ⟨w.heap.size,0,none⟩ (leBytes n v) rest bs L w2.drew HQ.out.2.1.drew (by simp) (by omega) hle (by simp;omega) (fun j x hj=>?_)).mono ?_
 ·rw[add_at,Nat.zero_add];refine HQ.out.1.drew.cell ?_;rw[<-leBytes_take n 8 v hn8,List.getElem?_take]at hj;split at hj
  ·exact rowV_get hj
  ·cases hj
 rintro e w3 ⟨rfl,L',q1,q2,q3⟩;have K3:Keep [b,r] w w3:=HQ.out.2.2.drew.nil.trans q3 (by simp);have HR:=qq3 q1 q2 K3;clear q1 q2 q3 K3;go_wp2_with fail
 repeat still_step
 refine wpStill_nil ?_;go_wp2;go_ret;exact⟨rfl,L',HR.out⟩

def u64of (z:Int):Nat:=(z%18446744073709551616).toNat
theorem u64of_lt (z:Int):u64of z<18446744073709551616:=by unfold u64of;omega
theorem u64of_wrap (z:Int):IntKind.u64.wrap z=((u64of z:Nat):Int):=by rw[IntKind.wrap_u64];unfold u64of;omega
theorem ta_yes {P:Program} (U:TypeId) (k:TypeDesc) (h:P.underlying U=some k) (hk:∀m,k≠.interface m) (v:Value) (w:World):(Instr.typeAssert (.iface U v) 20 U true).run P w=.ok (.tuple #[v,.bool true]) w:=by
 unfold Instr.typeAssert;simp[run_underlying h]
theorem ta_no {P:Program} (T U:TypeId) (k:TypeDesc) (h:P.underlying U=some k) (hk:∀m,k≠.interface m) (z:Value) (hz:∀w,(zeroValue U).run P w=.ok z w) (hne:T≠U) (v:Value) (w:World):
  (Instr.typeAssert (.iface T v) 20 U true).run P w=.ok (.tuple #[z,.bool false]) w:=by
 unfold Instr.typeAssert;simp[run_underlying h,hne,hz]
theorem yes41 (v:Value) (w:World):(Instr.typeAssert (.iface 41 v) 20 41 true).run Tryz.prog w=.ok (.tuple #[v,.bool true]) w:=ta_yes 41 _ Tryz.underlying41 (by intro m h;cases h) v w
theorem no41 (T:TypeId) (h:T≠41) (v:Value) (w:World):(Instr.typeAssert (.iface T v) 20 41 true).run Tryz.prog w=.ok (.tuple #[.int .i8 0,.bool false]) w:=ta_no T 41 _ Tryz.underlying41 (by intro m h;cases h) _ Tryz.zeroValue41 h v w
theorem yes121 (v:Value) (w:World):(Instr.typeAssert (.iface 121 v) 20 121 true).run Tryz.prog w=.ok (.tuple #[v,.bool true]) w:=ta_yes 121 _ Tryz.underlying121 (by intro m h;cases h) v w
theorem no121 (T:TypeId) (h:T≠121) (v:Value) (w:World):(Instr.typeAssert (.iface T v) 20 121 true).run Tryz.prog w=.ok (.tuple #[.int .i16 0,.bool false]) w:=ta_no T 121 _ Tryz.underlying121 (by intro m h;cases h) _ Tryz.zeroValue121 h v w
theorem yes21 (v:Value) (w:World):(Instr.typeAssert (.iface 21 v) 20 21 true).run Tryz.prog w=.ok (.tuple #[v,.bool true]) w:=ta_yes 21 _ Tryz.underlying21 (by intro m h;cases h) v w
theorem no21 (T:TypeId) (h:T≠21) (v:Value) (w:World):(Instr.typeAssert (.iface T v) 20 21 true).run Tryz.prog w=.ok (.tuple #[.int .i32 0,.bool false]) w:=ta_no T 21 _ Tryz.underlying21 (by intro m h;cases h) _ Tryz.zeroValue21 h v w
theorem yes2 (v:Value) (w:World):(Instr.typeAssert (.iface 2 v) 20 2 true).run Tryz.prog w=.ok (.tuple #[v,.bool true]) w:=ta_yes 2 _ Tryz.underlying2 (by intro m h;cases h) v w
theorem no2 (T:TypeId) (h:T≠2) (v:Value) (w:World):(Instr.typeAssert (.iface T v) 20 2 true).run Tryz.prog w=.ok (.tuple #[.int .i64 0,.bool false]) w:=ta_no T 2 _ Tryz.underlying2 (by intro m h;cases h) _ Tryz.zeroValue2 h v w
theorem yes97 (v:Value) (w:World):(Instr.typeAssert (.iface 97 v) 20 97 true).run Tryz.prog w=.ok (.tuple #[v,.bool true]) w:=ta_yes 97 _ Tryz.underlying97 (by intro m h;cases h) v w
theorem no97 (T:TypeId) (h:T≠97) (v:Value) (w:World):(Instr.typeAssert (.iface T v) 20 97 true).run Tryz.prog w=.ok (.tuple #[.float .f32 0,.bool false]) w:=ta_no T 97 _ Tryz.underlying97 (by intro m h;cases h) _ Tryz.zeroValue97 h v w
theorem yes83 (v:Value) (w:World):(Instr.typeAssert (.iface 83 v) 20 83 true).run Tryz.prog w=.ok (.tuple #[v,.bool true]) w:=ta_yes 83 _ Tryz.underlying83 (by intro m h;cases h) v w
theorem no83 (T:TypeId) (h:T≠83) (v:Value) (w:World):(Instr.typeAssert (.iface T v) 20 83 true).run Tryz.prog w=.ok (.tuple #[.float .f64 0,.bool false]) w:=ta_no T 83 _ Tryz.underlying83 (by intro m h;cases h) _ Tryz.zeroValue83 h v w
theorem yes95 (v:Value) (w:World):(Instr.typeAssert (.iface 95 v) 20 95 true).run Tryz.prog w=.ok (.tuple #[v,.bool true]) w:=ta_yes 95 _ Tryz.underlying95 (by intro m h;cases h) v w
theorem no95 (T:TypeId) (h:T≠95) (v:Value) (w:World):(Instr.typeAssert (.iface T v) 20 95 true).run Tryz.prog w=.ok (.tuple #[.int .i32 0,.bool false]) w:=ta_no T 95 _ Tryz.underlying95 (by intro m h;cases h) _ Tryz.zeroValue95 h v w
theorem yes101 (v:Value) (w:World):(Instr.typeAssert (.iface 101 v) 20 101 true).run Tryz.prog w=.ok (.tuple #[v,.bool true]) w:=ta_yes 101 _ Tryz.underlying101 (by intro m h;cases h) v w
theorem no101 (T:TypeId) (h:T≠101) (v:Value) (w:World):(Instr.typeAssert (.iface T v) 20 101 true).run Tryz.prog w=.ok (.tuple #[.int .i64 0,.bool false]) w:=ta_no T 101 _ Tryz.underlying101 (by intro m h;cases h) _ Tryz.zeroValue101 h v w
theorem yes4 (v:Value) (w:World):(Instr.typeAssert (.iface 4 v) 20 4 true).run Tryz.prog w=.ok (.tuple #[v,.bool true]) w:=ta_yes 4 _ Tryz.underlying4 (by intro m h;cases h) v w
theorem no4 (T:TypeId) (h:T≠4) (v:Value) (w:World):(Instr.typeAssert (.iface T v) 20 4 true).run Tryz.prog w=.ok (.tuple #[.bool false,.bool false]) w:=ta_no T 4 _ Tryz.underlying4 (by intro m h;cases h) _ Tryz.zeroValue4 h v w
theorem yes9 (v:Value) (w:World):(Instr.typeAssert (.iface 9 v) 20 9 true).run Tryz.prog w=.ok (.tuple #[v,.bool true]) w:=ta_yes 9 _ Tryz.underlying9 (by intro m h;cases h) v w
theorem no9 (T:TypeId) (h:T≠9) (v:Value) (w:World):(Instr.typeAssert (.iface T v) 20 9 true).run Tryz.prog w=.ok (.tuple #[.string ⟨#[]⟩,.bool false]) w:=ta_no T 9 _ Tryz.underlying9 (by intro m h;cases h) _ Tryz.zeroValue9 h v w
theorem yes30 (v:Value) (w:World):(Instr.typeAssert (.iface 30 v) 20 30 true).run Tryz.prog w=.ok (.tuple #[v,.bool true]) w:=ta_yes 30 _ Tryz.underlying30 (by intro m h;cases h) v w
theorem no30 (T:TypeId) (h:T≠30) (v:Value) (w:World):(Instr.typeAssert (.iface T v) 20 30 true).run Tryz.prog w=.ok (.tuple #[.slice none 0 0,.bool false]) w:=ta_no T 30 _ Tryz.underlying30 (by intro m h;cases h) _ Tryz.zeroValue30 h v w
theorem yes103 (v:Value) (w:World):(Instr.typeAssert (.iface 103 v) 20 103 true).run Tryz.prog w=.ok (.tuple #[v,.bool true]) w:=ta_yes 103 _ Tryz.underlying103 (by intro m h;cases h) v w
theorem no103 (T:TypeId) (h:T≠103) (v:Value) (w:World):(Instr.typeAssert (.iface T v) 20 103 true).run Tryz.prog w=.ok (.tuple #[.int .i64 0,.bool false]) w:=ta_no T 103 _ Tryz.underlying103 (by intro m h;cases h) _ Tryz.zeroValue103 h v w
theorem yes105 (v:Value) (w:World):(Instr.typeAssert (.iface 105 v) 20 105 true).run Tryz.prog w=.ok (.tuple #[v,.bool true]) w:=ta_yes 105 _ Tryz.underlying105 (by intro m h;cases h) v w
theorem no105 (T:TypeId) (h:T≠105) (v:Value) (w:World):(Instr.typeAssert (.iface T v) 20 105 true).run Tryz.prog w=.ok (.tuple #[.agg #[.int .u8 0,.int .u8 0,.int .u8 0,.int .u8 0,.int .u8 0,.int .u8 0,.int .u8 0,.int .u8 0,.int .u8 0,.int .u8 0,.int .u8 0,.int .u8 0,.int .u8 0,.int .u8 0,.int .u8 0,.int .u8 0],.bool false]) w:=ta_no T 105 _ Tryz.underlying105 (by intro m h;cases h) _ Tryz.zeroValue105 h v w
theorem yes127 (v:Value) (w:World):(Instr.typeAssert (.iface 127 v) 20 127 true).run Tryz.prog w=.ok (.tuple #[v,.bool true]) w:=ta_yes 127 _ Tryz.underlying127 (by intro m h;cases h) v w
theorem no127 (T:TypeId) (h:T≠127) (v:Value) (w:World):(Instr.typeAssert (.iface T v) 20 127 true).run Tryz.prog w=.ok (.tuple #[.agg #[.int .u8 0,.nilIface],.bool false]) w:=ta_no T 127 _ Tryz.underlying127 (by intro m h;cases h) _ Tryz.zeroValue127 h v w
theorem yes131 (v:Value) (w:World):(Instr.typeAssert (.iface 131 v) 20 131 true).run Tryz.prog w=.ok (.tuple #[v,.bool true]) w:=ta_yes 131 _ Tryz.underlying131 (by intro m h;cases h) v w
theorem no131 (T:TypeId) (h:T≠131) (v:Value) (w:World):(Instr.typeAssert (.iface T v) 20 131 true).run Tryz.prog w=.ok (.tuple #[.agg #[.int .u8 0,.nilIface],.bool false]) w:=ta_no T 131 _ Tryz.underlying131 (by intro m h;cases h) _ Tryz.zeroValue131 h v w
theorem yes135 (v:Value) (w:World):(Instr.typeAssert (.iface 135 v) 20 135 true).run Tryz.prog w=.ok (.tuple #[v,.bool true]) w:=ta_yes 135 _ Tryz.underlying135 (by intro m h;cases h) v w
theorem no135 (T:TypeId) (h:T≠135) (v:Value) (w:World):(Instr.typeAssert (.iface T v) 20 135 true).run Tryz.prog w=.ok (.tuple #[.agg #[.int .u8 0,.nilIface],.bool false]) w:=ta_no T 135 _ Tryz.underlying135 (by intro m h;cases h) _ Tryz.zeroValue135 h v w
theorem yes140 (v:Value) (w:World):(Instr.typeAssert (.iface 140 v) 20 140 true).run Tryz.prog w=.ok (.tuple #[v,.bool true]) w:=ta_yes 140 _ Tryz.underlying140 (by intro m h;cases h) v w
theorem no140 (T:TypeId) (h:T≠140) (v:Value) (w:World):(Instr.typeAssert (.iface T v) 20 140 true).run Tryz.prog w=.ok (.tuple #[.agg #[.slice none 0 0,.slice none 0 0,.slice none 0 0,.int .u32 0,.int .u64 0,.int .u8 0,.int .u64 0],.bool false]) w:=ta_no T 140 _ Tryz.underlying140 (by intro m h;cases h) _ Tryz.zeroValue140 h v w
theorem yes143 (v:Value) (w:World):(Instr.typeAssert (.iface 143 v) 20 143 true).run Tryz.prog w=.ok (.tuple #[v,.bool true]) w:=ta_yes 143 _ Tryz.underlying143 (by intro m h;cases h) v w
theorem no143 (T:TypeId) (h:T≠143) (v:Value) (w:World):(Instr.typeAssert (.iface T v) 20 143 true).run Tryz.prog w=.ok (.tuple #[.agg #[.slice none 0 0,.slice none 0 0,.slice none 0 0,.int .u32 0,.int .u64 0,.int .u64 0,.int .u8 0,.int .u8 0,.int .u64 0],.bool false]) w:=ta_no T 143 _ Tryz.underlying143 (by intro m h;cases h) _ Tryz.zeroValue143 h v w
theorem num41 (z:Int) (w:World):Calls Tryz.prog 139 #[.int .i8 z] w fun e w'=>e=.returned (.tuple #[.int .u64 ((u64of z:Nat):Int),.int .i64 1])/\w=w':=by
 have H:=qq (u64of_wrap z);have y:=yes41
 go_enter Tryz.func139,Tryz.ntmps139
 go_wp2
 go_ret2
 exact⟨by rw[<-H.out];rfl,rfl⟩
theorem num121 (z:Int) (w:World):Calls Tryz.prog 140 #[.int .i16 z] w fun e w'=>e=.returned (.tuple #[.int .u64 ((u64of z:Nat):Int),.int .i64 2])/\w=w':=by
 have H:=qq (u64of_wrap z);have n41:=no41 121 (by decide);have y:=yes121
 go_enter Tryz.func140,Tryz.ntmps140
 go_wp2
 go_ret2
 exact⟨by rw[<-H.out];rfl,rfl⟩
theorem num21 (z:Int) (w:World):Calls Tryz.prog 141 #[.int .i32 z] w fun e w'=>e=.returned (.tuple #[.int .u64 ((u64of z:Nat):Int),.int .i64 4])/\w=w':=by
 have H:=qq (u64of_wrap z);have n41:=no41 21 (by decide);have n121:=no121 21 (by decide);have y:=yes21
 go_enter Tryz.func141,Tryz.ntmps141
 go_wp2
 go_ret2
 exact⟨by rw[<-H.out];rfl,rfl⟩
theorem num2 (z:Int) (w:World):Calls Tryz.prog 142 #[.int .i64 z] w fun e w'=>e=.returned (.tuple #[.int .u64 ((u64of z:Nat):Int),.int .i64 8])/\w=w':=by
 have H:=qq (u64of_wrap z);have n41:=no41 2 (by decide);have n121:=no121 2 (by decide);have n21:=no21 2 (by decide);have n97:=no97 2 (by decide);have n95:=no95 2 (by decide);have y:=yes2
 go_enter Tryz.func142,Tryz.ntmps142
 go_wp2
 go_ret2
 exact⟨by rw[<-H.out];rfl,rfl⟩
theorem num95 (z:Int) (w:World):Calls Tryz.prog 145 #[.int .i32 z] w fun e w'=>e=.returned (.tuple #[.int .u64 ((u64of z:Nat):Int),.int .i64 4])/\w=w':=by
 have H:=qq (u64of_wrap z);have n41:=no41 95 (by decide);have n121:=no121 95 (by decide);have n21:=no21 95 (by decide);have n97:=no97 95 (by decide);have y:=yes95
 go_enter Tryz.func145,Tryz.ntmps145
 go_wp2
 go_ret2
 exact⟨by rw[<-H.out];rfl,rfl⟩
theorem num101 (z:Int) (w:World):Calls Tryz.prog 147 #[.int .i64 z] w fun e w'=>e=.returned (.tuple #[.int .u64 ((u64of z:Nat):Int),.int .i64 8])/\w=w':=by
 have H:=qq (u64of_wrap z);have n41:=no41 101 (by decide);have n121:=no121 101 (by decide);have n21:=no21 101 (by decide);have n97:=no97 101 (by decide);have n95:=no95 101 (by decide);have n2:=no2 101 (by decide);have n83:=no83 101 (by decide);have y:=yes101
 go_enter Tryz.func147,Tryz.ntmps147
 go_wp2
 go_ret2
 exact⟨by rw[<-H.out];rfl,rfl⟩
theorem run_f32bits (x:Nat) (w:World):(callFunc 65 #[.float .f32 x]).run Tryz.prog w=.ok (.value (.int .u32 (x:Int))) w:=by
 rw[run_callFunc_extern (e:=Extern.MathFloatBits.float32bits) Tryz.func65 (by kernel_rfl) (by kernel_rfl) (by kernel_rfl) (by kernel_rfl)];rfl
theorem run_f64bits (x:Nat) (w:World):(callFunc 66 #[.float .f64 x]).run Tryz.prog w=.ok (.value (.int .u64 (x:Int))) w:=by
 rw[run_callFunc_extern (e:=Extern.MathFloatBits.float64bits) Tryz.func66 (by kernel_rfl) (by kernel_rfl) (by kernel_rfl) (by kernel_rfl)];rfl
theorem run_bitsf32 (x:Nat) (w:World):(callFunc 48 #[.int .u32 (x:Int)]).run Tryz.prog w=.ok (.value (.float .f32 x)) w:=by
 rw[run_callFunc_extern (e:=Extern.MathFloatBits.float32frombits) Tryz.func48 (by kernel_rfl) (by kernel_rfl) (by kernel_rfl) (by kernel_rfl)];rfl
theorem run_bitsf64 (x:Nat) (w:World):(callFunc 40 #[.int .u64 (x:Int)]).run Tryz.prog w=.ok (.value (.float .f64 x)) w:=by
 rw[run_callFunc_extern (e:=Extern.MathFloatBits.float64frombits) Tryz.func40 (by kernel_rfl) (by kernel_rfl) (by kernel_rfl) (by kernel_rfl)];rfl
theorem num97 (x:Nat) (w:World) (hx:x<4294967296):Calls Tryz.prog 146 #[.float .f32 x] w fun e w'=>e=.returned (.tuple #[.int .u64 (x:Int),.int .i64 4])/\w=w':=by
 have hf:=run_f32bits x;have n41:=no41 97 (by decide);have n121:=no121 97 (by decide);have n21:=no21 97 (by decide);have y:=yes97
 go_enter Tryz.func146,Tryz.ntmps146
 go_wp2
 go_ret2
 exact⟨rfl,rfl⟩
theorem num83 (x:Nat) (w:World) (hx:x<18446744073709551616):Calls Tryz.prog 143 #[.float .f64 x] w fun e w'=>e=.returned (.tuple #[.int .u64 (x:Int),.int .i64 8])/\w=w':=by
 have hf:=run_f64bits x;have n41:=no41 83 (by decide);have n121:=no121 83 (by decide);have n21:=no21 83 (by decide);have n97:=no97 83 (by decide);have n95:=no95 83 (by decide);have n2:=no2 83 (by decide);have y:=yes83
 go_enter Tryz.func143,Tryz.ntmps143
 go_wp2
 go_ret2
 exact⟨rfl,rfl⟩
theorem writeNum41 (z:Int) (b r:Nat) (rest:List Value) (bs L:List Nat) (w:World) (h:BufRoom w b r rest bs L) (hle:bs.length+2<=L.length):
  Calls Tryz.prog 92 #[.iface 163 (.pointer (some ⟨b,0,none⟩)),.int .i8 z] w fun e w'=>e=.returned .nilIface/\∃L',L'.length=L.length/\BufRoom w' b r rest (bs++(12::leBytes 1 (u64of z))) L'/\Keep [b,r] w w':=by
 have y:=yes41;have hm:=method_WriteByte ⟨b,0,none⟩;have hni:=nil_WriteByte ⟨b,0,none⟩;have hmf:=makeF;have H:=qq h;clear h
 go_enter Tryz.func92,Tryz.ntmps92
 go_wp2_with fail
 refine wp_region_mid 6 (by kernel_rfl) (by kernel_rfl) ?_;simp only[List.take_succ_cons,List.take_zero,List.drop_succ_cons,List.drop_zero];change wpStill _ _ (World.drew _) _ _ _;repeat still_step
 still_call (flipW (primHdrC 3 _ (by omega)))
 repeat still_step
 refine wpStill_nil ?_;go_wp2_with fail
 refine(writeByteRoom b r 12 rest bs L w.drew H.out.drew (by omega)).mono ?_;rintro e w1 ⟨rfl,L1,e1,q1,k1⟩;have HQ:=qq4 e1 q1 k1 hle;clear e1 q1 k1 hle;go_wp2_with fail
 repeat still_step
 refine wpStill_nil ?_;go_wp2_with fail
 refine(num41 z _).mono ?_;rintro e w2 ⟨rfl,rfl⟩;go_wp2_with fail
 refine(writeLittleC b r 1 (u64of z) rest (bs++[12]) L1 _ HQ.out.2.1 (by omega) (by omega) (u64of_lt z) (by rw[HQ.out.1,List.length_append];have:=HQ.out.2.2.2;simp;omega)).mono ?_;rintro e w3 ⟨rfl,L2,e2,q2,k2⟩;have HR:=qq3 e2 q2 k2;clear e2 q2 k2;go_wp2;go_ret;obtain⟨e2,q2,k2⟩:=HR.out;obtain⟨e1,q1,k1,-⟩:=HQ.out;refine⟨rfl,L2,e2.trans e1,?_,(((Keep.refl [] w).drew.nil.trans k1 (by simp))).trans k2 (by simp)⟩;rw[List.append_assoc,List.singleton_append]at q2;exact q2
theorem writeNum121 (z:Int) (b r:Nat) (rest:List Value) (bs L:List Nat) (w:World) (h:BufRoom w b r rest bs L) (hle:bs.length+3<=L.length):
  Calls Tryz.prog 93 #[.iface 163 (.pointer (some ⟨b,0,none⟩)),.int .i16 z] w fun e w'=>e=.returned .nilIface/\∃L',L'.length=L.length/\BufRoom w' b r rest (bs++(16::leBytes 2 (u64of z))) L'/\Keep [b,r] w w':=by
 have n41:=no41 121 (by decide);have y:=yes121;have hm:=method_WriteByte ⟨b,0,none⟩;have hni:=nil_WriteByte ⟨b,0,none⟩;have hmf:=makeF;have H:=qq h;clear h
 go_enter Tryz.func93,Tryz.ntmps93
 go_wp2_with fail
 refine wp_region_mid 6 (by kernel_rfl) (by kernel_rfl) ?_;simp only[List.take_succ_cons,List.take_zero,List.drop_succ_cons,List.drop_zero];change wpStill _ _ (World.drew _) _ _ _;repeat still_step
 still_call (flipW (primHdrC 4 _ (by omega)))
 repeat still_step
 refine wpStill_nil ?_;go_wp2_with fail
 refine(writeByteRoom b r 16 rest bs L w.drew H.out.drew (by omega)).mono ?_;rintro e w1 ⟨rfl,L1,e1,q1,k1⟩;have HQ:=qq4 e1 q1 k1 hle;clear e1 q1 k1 hle;go_wp2_with fail
 repeat still_step
 refine wpStill_nil ?_;go_wp2_with fail
 refine(num121 z _).mono ?_;rintro e w2 ⟨rfl,rfl⟩;go_wp2_with fail
 refine(writeLittleC b r 2 (u64of z) rest (bs++[16]) L1 _ HQ.out.2.1 (by omega) (by omega) (u64of_lt z) (by rw[HQ.out.1,List.length_append];have:=HQ.out.2.2.2;simp;omega)).mono ?_;rintro e w3 ⟨rfl,L2,e2,q2,k2⟩;have HR:=qq3 e2 q2 k2;clear e2 q2 k2;go_wp2;go_ret;obtain⟨e2,q2,k2⟩:=HR.out;obtain⟨e1,q1,k1,-⟩:=HQ.out;refine⟨rfl,L2,e2.trans e1,?_,(((Keep.refl [] w).drew.nil.trans k1 (by simp))).trans k2 (by simp)⟩;rw[List.append_assoc,List.singleton_append]at q2;exact q2
theorem writeNum21 (z:Int) (b r:Nat) (rest:List Value) (bs L:List Nat) (w:World) (h:BufRoom w b r rest bs L) (hle:bs.length+5<=L.length):
  Calls Tryz.prog 94 #[.iface 163 (.pointer (some ⟨b,0,none⟩)),.int .i32 z] w fun e w'=>e=.returned .nilIface/\∃L',L'.length=L.length/\BufRoom w' b r rest (bs++(20::leBytes 4 (u64of z))) L'/\Keep [b,r] w w':=by
 have n41:=no41 21 (by decide);have n121:=no121 21 (by decide);have y:=yes21;have hm:=method_WriteByte ⟨b,0,none⟩;have hni:=nil_WriteByte ⟨b,0,none⟩;have hmf:=makeF;have H:=qq h;clear h
 go_enter Tryz.func94,Tryz.ntmps94
 go_wp2_with fail
 refine wp_region_mid 6 (by kernel_rfl) (by kernel_rfl) ?_;simp only[List.take_succ_cons,List.take_zero,List.drop_succ_cons,List.drop_zero];change wpStill _ _ (World.drew _) _ _ _;repeat still_step
 still_call (flipW (primHdrC 5 _ (by omega)))
 repeat still_step
 refine wpStill_nil ?_;go_wp2_with fail
 refine(writeByteRoom b r 20 rest bs L w.drew H.out.drew (by omega)).mono ?_;rintro e w1 ⟨rfl,L1,e1,q1,k1⟩;have HQ:=qq4 e1 q1 k1 hle;clear e1 q1 k1 hle;go_wp2_with fail
 repeat still_step
 refine wpStill_nil ?_;go_wp2_with fail
 refine(num21 z _).mono ?_;rintro e w2 ⟨rfl,rfl⟩;go_wp2_with fail
 refine(writeLittleC b r 4 (u64of z) rest (bs++[20]) L1 _ HQ.out.2.1 (by omega) (by omega) (u64of_lt z) (by rw[HQ.out.1,List.length_append];have:=HQ.out.2.2.2;simp;omega)).mono ?_;rintro e w3 ⟨rfl,L2,e2,q2,k2⟩;have HR:=qq3 e2 q2 k2;clear e2 q2 k2;go_wp2;go_ret;obtain⟨e2,q2,k2⟩:=HR.out;obtain⟨e1,q1,k1,-⟩:=HQ.out;refine⟨rfl,L2,e2.trans e1,?_,(((Keep.refl [] w).drew.nil.trans k1 (by simp))).trans k2 (by simp)⟩;rw[List.append_assoc,List.singleton_append]at q2;exact q2
theorem writeNum2 (z:Int) (b r:Nat) (rest:List Value) (bs L:List Nat) (w:World) (h:BufRoom w b r rest bs L) (hle:bs.length+9<=L.length):
  Calls Tryz.prog 95 #[.iface 163 (.pointer (some ⟨b,0,none⟩)),.int .i64 z] w fun e w'=>e=.returned .nilIface/\∃L',L'.length=L.length/\BufRoom w' b r rest (bs++(24::leBytes 8 (u64of z))) L'/\Keep [b,r] w w':=by
 have n41:=no41 2 (by decide);have n121:=no121 2 (by decide);have n21:=no21 2 (by decide);have y:=yes2;have hm:=method_WriteByte ⟨b,0,none⟩;have hni:=nil_WriteByte ⟨b,0,none⟩;have hmf:=makeF;have H:=qq h;clear h
 go_enter Tryz.func95,Tryz.ntmps95
 go_wp2_with fail
 refine wp_region_mid 6 (by kernel_rfl) (by kernel_rfl) ?_;simp only[List.take_succ_cons,List.take_zero,List.drop_succ_cons,List.drop_zero];change wpStill _ _ (World.drew _) _ _ _;repeat still_step
 still_call (flipW (primHdrC 6 _ (by omega)))
 repeat still_step
 refine wpStill_nil ?_;go_wp2_with fail
 refine(writeByteRoom b r 24 rest bs L w.drew H.out.drew (by omega)).mono ?_;rintro e w1 ⟨rfl,L1,e1,q1,k1⟩;have HQ:=qq4 e1 q1 k1 hle;clear e1 q1 k1 hle;go_wp2_with fail
 repeat still_step
 refine wpStill_nil ?_;go_wp2_with fail
 refine(num2 z _).mono ?_;rintro e w2 ⟨rfl,rfl⟩;go_wp2_with fail
 refine(writeLittleC b r 8 (u64of z) rest (bs++[24]) L1 _ HQ.out.2.1 (by omega) (by omega) (u64of_lt z) (by rw[HQ.out.1,List.length_append];have:=HQ.out.2.2.2;simp;omega)).mono ?_;rintro e w3 ⟨rfl,L2,e2,q2,k2⟩;have HR:=qq3 e2 q2 k2;clear e2 q2 k2;go_wp2;go_ret;obtain⟨e2,q2,k2⟩:=HR.out;obtain⟨e1,q1,k1,-⟩:=HQ.out;refine⟨rfl,L2,e2.trans e1,?_,(((Keep.refl [] w).drew.nil.trans k1 (by simp))).trans k2 (by simp)⟩;rw[List.append_assoc,List.singleton_append]at q2;exact q2
theorem writeNum95 (z:Int) (b r:Nat) (rest:List Value) (bs L:List Nat) (w:World) (h:BufRoom w b r rest bs L) (hle:bs.length+5<=L.length):
  Calls Tryz.prog 101 #[.iface 163 (.pointer (some ⟨b,0,none⟩)),.int .i32 z] w fun e w'=>e=.returned .nilIface/\∃L',L'.length=L.length/\BufRoom w' b r rest (bs++(44::leBytes 4 (u64of z))) L'/\Keep [b,r] w w':=by
 have n41:=no41 95 (by decide);have n121:=no121 95 (by decide);have n21:=no21 95 (by decide);have n2:=no2 95 (by decide);have n97:=no97 95 (by decide);have n83:=no83 95 (by decide);have y:=yes95;have hm:=method_WriteByte ⟨b,0,none⟩;have hni:=nil_WriteByte ⟨b,0,none⟩;have hmf:=makeF;have H:=qq h;clear h
 go_enter Tryz.func101,Tryz.ntmps101
 go_wp2_with fail
 refine wp_region_mid 6 (by kernel_rfl) (by kernel_rfl) ?_;simp only[List.take_succ_cons,List.take_zero,List.drop_succ_cons,List.drop_zero];change wpStill _ _ (World.drew _) _ _ _;repeat still_step
 still_call (flipW (primHdrC 11 _ (by omega)))
 repeat still_step
 refine wpStill_nil ?_;go_wp2_with fail
 refine(writeByteRoom b r 44 rest bs L w.drew H.out.drew (by omega)).mono ?_;rintro e w1 ⟨rfl,L1,e1,q1,k1⟩;have HQ:=qq4 e1 q1 k1 hle;clear e1 q1 k1 hle;go_wp2_with fail
 repeat still_step
 refine wpStill_nil ?_;go_wp2_with fail
 refine(num95 z _).mono ?_;rintro e w2 ⟨rfl,rfl⟩;go_wp2_with fail
 refine(writeLittleC b r 4 (u64of z) rest (bs++[44]) L1 _ HQ.out.2.1 (by omega) (by omega) (u64of_lt z) (by rw[HQ.out.1,List.length_append];have:=HQ.out.2.2.2;simp;omega)).mono ?_;rintro e w3 ⟨rfl,L2,e2,q2,k2⟩;have HR:=qq3 e2 q2 k2;clear e2 q2 k2;go_wp2;go_ret;obtain⟨e2,q2,k2⟩:=HR.out;obtain⟨e1,q1,k1,-⟩:=HQ.out;refine⟨rfl,L2,e2.trans e1,?_,(((Keep.refl [] w).drew.nil.trans k1 (by simp))).trans k2 (by simp)⟩;rw[List.append_assoc,List.singleton_append]at q2;exact q2
theorem writeNum101 (z:Int) (b r:Nat) (rest:List Value) (bs L:List Nat) (w:World) (h:BufRoom w b r rest bs L) (hle:bs.length+9<=L.length):
  Calls Tryz.prog 104 #[.iface 163 (.pointer (some ⟨b,0,none⟩)),.int .i64 z] w fun e w'=>e=.returned .nilIface/\∃L',L'.length=L.length/\BufRoom w' b r rest (bs++(68::leBytes 8 (u64of z))) L'/\Keep [b,r] w w':=by
 have n41:=no41 101 (by decide);have n121:=no121 101 (by decide);have n21:=no21 101 (by decide);have n2:=no2 101 (by decide);have n97:=no97 101 (by decide);have n83:=no83 101 (by decide);have n95:=no95 101 (by decide);have y:=yes101;have hm:=method_WriteByte ⟨b,0,none⟩;have hni:=nil_WriteByte ⟨b,0,none⟩;have hmf:=makeF;have H:=qq h;clear h
 go_enter Tryz.func104,Tryz.ntmps104
 go_wp2_with fail
 refine wp_region_mid 6 (by kernel_rfl) (by kernel_rfl) ?_;simp only[List.take_succ_cons,List.take_zero,List.drop_succ_cons,List.drop_zero];change wpStill _ _ (World.drew _) _ _ _;repeat still_step
 still_call (flipW (primHdrC 17 _ (by omega)))
 repeat still_step
 refine wpStill_nil ?_;go_wp2_with fail
 refine(writeByteRoom b r 68 rest bs L w.drew H.out.drew (by omega)).mono ?_;rintro e w1 ⟨rfl,L1,e1,q1,k1⟩;have HQ:=qq4 e1 q1 k1 hle;clear e1 q1 k1 hle;go_wp2_with fail
 repeat still_step
 refine wpStill_nil ?_;go_wp2_with fail
 refine(num101 z _).mono ?_;rintro e w2 ⟨rfl,rfl⟩;go_wp2_with fail
 refine(writeLittleC b r 8 (u64of z) rest (bs++[68]) L1 _ HQ.out.2.1 (by omega) (by omega) (u64of_lt z) (by rw[HQ.out.1,List.length_append];have:=HQ.out.2.2.2;simp;omega)).mono ?_;rintro e w3 ⟨rfl,L2,e2,q2,k2⟩;have HR:=qq3 e2 q2 k2;clear e2 q2 k2;go_wp2;go_ret;obtain⟨e2,q2,k2⟩:=HR.out;obtain⟨e1,q1,k1,-⟩:=HQ.out;refine⟨rfl,L2,e2.trans e1,?_,(((Keep.refl [] w).drew.nil.trans k1 (by simp))).trans k2 (by simp)⟩;rw[List.append_assoc,List.singleton_append]at q2;exact q2
theorem writeNum97 (x:Nat) (b r:Nat) (rest:List Value) (bs L:List Nat) (w:World) (h:BufRoom w b r rest bs L) (hx:x<4294967296) (hle:bs.length+5<=L.length):
  Calls Tryz.prog 102 #[.iface 163 (.pointer (some ⟨b,0,none⟩)),.float .f32 x] w fun e w'=>e=.returned .nilIface/\∃L',L'.length=L.length/\BufRoom w' b r rest (bs++(56::leBytes 4 x)) L'/\Keep [b,r] w w':=by
 have n41:=no41 97 (by decide);have n121:=no121 97 (by decide);have n21:=no21 97 (by decide);have n2:=no2 97 (by decide);have y:=yes97;have hm:=method_WriteByte ⟨b,0,none⟩;have hni:=nil_WriteByte ⟨b,0,none⟩;have hmf:=makeF;have H:=qq h;clear h
 go_enter Tryz.func102,Tryz.ntmps102
 go_wp2_with fail
 refine wp_region_mid 6 (by kernel_rfl) (by kernel_rfl) ?_;simp only[List.take_succ_cons,List.take_zero,List.drop_succ_cons,List.drop_zero];change wpStill _ _ (World.drew _) _ _ _;repeat still_step
 still_call (flipW (primHdrC 14 _ (by omega)))
 repeat still_step
 refine wpStill_nil ?_;go_wp2_with fail
 refine(writeByteRoom b r 56 rest bs L w.drew H.out.drew (by omega)).mono ?_;rintro e w1 ⟨rfl,L1,e1,q1,k1⟩;have HQ:=qq4 e1 q1 k1 hle;clear e1 q1 k1 hle;go_wp2_with fail
 repeat still_step
 refine wpStill_nil ?_;go_wp2_with fail
 refine(num97 x _ hx).mono ?_;rintro e w2 ⟨rfl,rfl⟩;go_wp2_with fail
 refine(writeLittleC b r 4 x rest (bs++[56]) L1 _ HQ.out.2.1 (by omega) (by omega) (by omega) (by rw[HQ.out.1,List.length_append];have:=HQ.out.2.2.2;simp;omega)).mono ?_;rintro e w3 ⟨rfl,L2,e2,q2,k2⟩;have HR:=qq3 e2 q2 k2;clear e2 q2 k2;go_wp2;go_ret;obtain⟨e2,q2,k2⟩:=HR.out;obtain⟨e1,q1,k1,-⟩:=HQ.out;refine⟨rfl,L2,e2.trans e1,?_,(((Keep.refl [] w).drew.nil.trans k1 (by simp))).trans k2 (by simp)⟩;rw[List.append_assoc,List.singleton_append]at q2;exact q2
theorem writeNum83 (x:Nat) (b r:Nat) (rest:List Value) (bs L:List Nat) (w:World) (h:BufRoom w b r rest bs L) (hx:x<18446744073709551616) (hle:bs.length+9<=L.length):
  Calls Tryz.prog 99 #[.iface 163 (.pointer (some ⟨b,0,none⟩)),.float .f64 x] w fun e w'=>e=.returned .nilIface/\∃L',L'.length=L.length/\BufRoom w' b r rest (bs++(28::leBytes 8 x)) L'/\Keep [b,r] w w':=by
 have n41:=no41 83 (by decide);have n121:=no121 83 (by decide);have n21:=no21 83 (by decide);have n2:=no2 83 (by decide);have n97:=no97 83 (by decide);have y:=yes83;have hm:=method_WriteByte ⟨b,0,none⟩;have hni:=nil_WriteByte ⟨b,0,none⟩;have hmf:=makeF;have H:=qq h;clear h
 go_enter Tryz.func99,Tryz.ntmps99
 go_wp2_with fail
 refine wp_region_mid 6 (by kernel_rfl) (by kernel_rfl) ?_;simp only[List.take_succ_cons,List.take_zero,List.drop_succ_cons,List.drop_zero];change wpStill _ _ (World.drew _) _ _ _;repeat still_step
 still_call (flipW (primHdrC 7 _ (by omega)))
 repeat still_step
 refine wpStill_nil ?_;go_wp2_with fail
 refine(writeByteRoom b r 28 rest bs L w.drew H.out.drew (by omega)).mono ?_;rintro e w1 ⟨rfl,L1,e1,q1,k1⟩;have HQ:=qq4 e1 q1 k1 hle;clear e1 q1 k1 hle;go_wp2_with fail
 repeat still_step
 refine wpStill_nil ?_;go_wp2_with fail
 refine(num83 x _ hx).mono ?_;rintro e w2 ⟨rfl,rfl⟩;go_wp2_with fail
 refine(writeLittleC b r 8 x rest (bs++[28]) L1 _ HQ.out.2.1 (by omega) (by omega) (by omega) (by rw[HQ.out.1,List.length_append];have:=HQ.out.2.2.2;simp;omega)).mono ?_;rintro e w3 ⟨rfl,L2,e2,q2,k2⟩;have HR:=qq3 e2 q2 k2;clear e2 q2 k2;go_wp2;go_ret;obtain⟨e2,q2,k2⟩:=HR.out;obtain⟨e1,q1,k1,-⟩:=HQ.out;refine⟨rfl,L2,e2.trans e1,?_,(((Keep.refl [] w).drew.nil.trans k1 (by simp))).trans k2 (by simp)⟩;rw[List.append_assoc,List.singleton_append]at q2;exact q2
end Go.Proofs.YtocgdgmfnockiaaGreatDoor
