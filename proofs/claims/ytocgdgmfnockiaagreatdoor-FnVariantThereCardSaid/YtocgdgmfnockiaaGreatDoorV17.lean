/- Variants read: readExact. Variants read: Value.Value of numbers (printed by gen_val.py). -/
import Derived.Test.YtocgdgmfnockiaaGreatDoorV16
import Derived.Test.YtocgdgmfnockiaaGreatDoorV06
set_option linter.unusedVariables false
set_option linter.unusedSimpArgs false
set_option maxRecDepth 100000
set_option maxHeartbeats 8000000
namespace Go.Proofs.YtocgdgmfnockiaaGreatDoor
open Go.RowKit
theorem wrap32_i32 (z:Int):wrap32 z=IntKind.i32.wrap z:=by rw[IntKind.wrap_i32];unfold wrap32;omega
theorem wrap64_i64 (z:Int):wrap64 z=IntKind.i64.wrap z:=by rw[IntKind.wrap_i64];unfold wrap64;omega
theorem run_store_f32 {w:World} {a:Addr} {u:Value} (x:Nat) (h:w.cell? a=some u) (hf:w.frozen? a=false):(store a (.float .f32 x)).run Tryz.prog w=.ok () (w.setCell a (.float .f32 x)):=by
 simp[store,Sem.run,h,hf]
theorem run_store_f64 {w:World} {a:Addr} {u:Value} (x:Nat) (h:w.cell? a=some u) (hf:w.frozen? a=false):(store a (.float .f64 x)).run Tryz.prog w=.ok () (w.setCell a (.float .f64 x)):=by
 simp[store,Sem.run,h,hf]
theorem yes239 (v:Value) (w:World):(Instr.typeAssert (.iface 239 v) 20 239 true).run Tryz.prog w=.ok (.tuple #[v,.bool true]) w:=ta_yes 239 _ Tryz.underlying239 (by intro m h;cases h) v w
theorem no239 (T:TypeId) (h:T≠239) (v:Value) (w:World):(Instr.typeAssert (.iface T v) 20 239 true).run Tryz.prog w=.ok (.tuple #[.pointer none,.bool false]) w:=ta_no T 239 _ Tryz.underlying239 (by intro m h;cases h) _ Tryz.zeroValue239 h v w
theorem yes240 (v:Value) (w:World):(Instr.typeAssert (.iface 240 v) 20 240 true).run Tryz.prog w=.ok (.tuple #[v,.bool true]) w:=ta_yes 240 _ Tryz.underlying240 (by intro m h;cases h) v w
theorem no240 (T:TypeId) (h:T≠240) (v:Value) (w:World):(Instr.typeAssert (.iface T v) 20 240 true).run Tryz.prog w=.ok (.tuple #[.pointer none,.bool false]) w:=ta_no T 240 _ Tryz.underlying240 (by intro m h;cases h) _ Tryz.zeroValue240 h v w
theorem yes243 (v:Value) (w:World):(Instr.typeAssert (.iface 243 v) 20 243 true).run Tryz.prog w=.ok (.tuple #[v,.bool true]) w:=ta_yes 243 _ Tryz.underlying243 (by intro m h;cases h) v w
theorem no243 (T:TypeId) (h:T≠243) (v:Value) (w:World):(Instr.typeAssert (.iface T v) 20 243 true).run Tryz.prog w=.ok (.tuple #[.pointer none,.bool false]) w:=ta_no T 243 _ Tryz.underlying243 (by intro m h;cases h) _ Tryz.zeroValue243 h v w
theorem yes244 (v:Value) (w:World):(Instr.typeAssert (.iface 244 v) 20 244 true).run Tryz.prog w=.ok (.tuple #[v,.bool true]) w:=ta_yes 244 _ Tryz.underlying244 (by intro m h;cases h) v w
theorem no244 (T:TypeId) (h:T≠244) (v:Value) (w:World):(Instr.typeAssert (.iface T v) 20 244 true).run Tryz.prog w=.ok (.tuple #[.pointer none,.bool false]) w:=ta_no T 244 _ Tryz.underlying244 (by intro m h;cases h) _ Tryz.zeroValue244 h v w
theorem yes245 (v:Value) (w:World):(Instr.typeAssert (.iface 245 v) 20 245 true).run Tryz.prog w=.ok (.tuple #[v,.bool true]) w:=ta_yes 245 _ Tryz.underlying245 (by intro m h;cases h) v w
theorem no245 (T:TypeId) (h:T≠245) (v:Value) (w:World):(Instr.typeAssert (.iface T v) 20 245 true).run Tryz.prog w=.ok (.tuple #[.pointer none,.bool false]) w:=ta_no T 245 _ Tryz.underlying245 (by intro m h;cases h) _ Tryz.zeroValue245 h v w
theorem yes246 (v:Value) (w:World):(Instr.typeAssert (.iface 246 v) 20 246 true).run Tryz.prog w=.ok (.tuple #[v,.bool true]) w:=ta_yes 246 _ Tryz.underlying246 (by intro m h;cases h) v w
theorem exact_i8 (b o n cap v:Nat) (w:World) (hB:Byt w b o (leBytes 1 v)) (hn:1<=n) (hnm:n<=1000000000):
  Calls Tryz.prog 113 #[.slice (some ⟨b,o,none⟩) n cap] w fun e w'=>e=.returned (.int .i8 (IntKind.i8.wrap ((v%256:Nat):Int)))/\Keep [] w w':=by
 have y:=yes239;have hni:(1:Int)<=(n:Int):=by omega
 have hc1:=fun o=>((Keep.refl [] w).alloc o).cell_some (hB 0 _ rfl) (by simp);rw[Nat.add_zero]at hc1;obtain⟨x,hx⟩:∃x,x=v%256:=⟨_,rfl⟩;rw[<-hx]at hc1 ⊢;clear hB hx
 go_enter Tryz.func113,Tryz.ntmps113
 go_wp2;go_ret;exact⟨rfl,(Keep.refl [] w).alloc _⟩
theorem exact_i16 (b o n cap v:Nat) (w:World) (hB:Byt w b o (leBytes 2 v)) (hn:2<=n) (hnm:n<=1000000000):
  Calls Tryz.prog 114 #[.slice (some ⟨b,o,none⟩) n cap] w fun e w'=>e=.returned (.int .i16 (IntKind.i16.wrap ((v%65536:Nat):Int)))/\Keep [] w w':=by
 have n239:=no239 240 (by decide);have y:=yes240;obtain⟨x,hx⟩:∃x,x=v%65536:=⟨_,rfl⟩;have hni:(2:Int)<=(n:Int):=by omega
 have hle:=le_run;have HU:=qq (fun(wx:World) (kk:Keep [] w wx)=>u16L b o n cap v wx (hB.keep kk (by simp)) (by omega) (by omega));rw[<-hx]at HU ⊢;clear hB hx
 go_enter Tryz.func114,Tryz.ntmps114
 go_wp2_with fail
 refine(HU.out _ ((Keep.refl [] w).alloc _)).mono ?_;rintro e w5 ⟨rfl,k5⟩;have K5:Keep [] w w5:=((Keep.refl [] w).alloc _).trans k5 (by simp);have hb5:Blk w5 w.heap.size [.int .i16 0]:=(Blk.of_new (cs:=[.int .i16 0]) rfl).keep k5 (by simp);have c0:=hb5.cell (i:=0) rfl;have f0:=hb5.frozen 0;clear hb5 k5;go_wp2;go_ret;exact⟨rfl,K5.set (.inr (Nat.le_refl _)) _ _ _⟩
theorem exact_i32 (b o n cap v:Nat) (w:World) (hB:Byt w b o (leBytes 4 v)) (hn:4<=n) (hnm:n<=1000000000):
  Calls Tryz.prog 115 #[.slice (some ⟨b,o,none⟩) n cap] w fun e w'=>e=.returned (.int .i32 (IntKind.i32.wrap ((v%4294967296:Nat):Int)))/\Keep [] w w':=by
 have n239:=no239 243 (by decide);have n240:=no240 243 (by decide);have y:=yes243;obtain⟨x,hx⟩:∃x,x=v%4294967296:=⟨_,rfl⟩;have hni:(4:Int)<=(n:Int):=by omega
 have hle:=le_run;have HU:=qq (fun(wx:World) (kk:Keep [] w wx)=>u32L b o n cap v wx (hB.keep kk (by simp)) (by omega) (by omega));rw[<-hx]at HU ⊢;clear hB hx
 go_enter Tryz.func115,Tryz.ntmps115
 go_wp2_with fail
 refine(HU.out _ ((Keep.refl [] w).alloc _)).mono ?_;rintro e w5 ⟨rfl,k5⟩;have K5:Keep [] w w5:=((Keep.refl [] w).alloc _).trans k5 (by simp);have hb5:Blk w5 w.heap.size [.int .i32 0]:=(Blk.of_new (cs:=[.int .i32 0]) rfl).keep k5 (by simp);have c0:=hb5.cell (i:=0) rfl;have f0:=hb5.frozen 0;clear hb5 k5;go_wp2;go_ret;exact⟨congrArg (fun z:Int=>Ending.returned (.int .i32 z)) (wrap32_i32 _),K5.set (.inr (Nat.le_refl _)) _ _ _⟩
theorem exact_i64 (b o n cap v:Nat) (w:World) (hB:Byt w b o (leBytes 8 v)) (hn:8<=n) (hnm:n<=1000000000) (hv:v<18446744073709551616):
  Calls Tryz.prog 116 #[.slice (some ⟨b,o,none⟩) n cap] w fun e w'=>e=.returned (.int .i64 (IntKind.i64.wrap (v:Int)))/\Keep [] w w':=by
 have n239:=no239 244 (by decide);have n240:=no240 244 (by decide);have n243:=no243 244 (by decide);have y:=yes244;have hni:(8:Int)<=(n:Int):=by omega
 have hle:=le_run;have HU:=qq (fun(wx:World) (kk:Keep [] w wx)=>u64L b o n cap v wx (hB.keep kk (by simp)) (by omega) (by omega) hv);clear hB
 go_enter Tryz.func116,Tryz.ntmps116
 go_wp2_with fail
 refine(HU.out _ ((Keep.refl [] w).alloc _)).mono ?_;rintro e w5 ⟨rfl,k5⟩;have K5:Keep [] w w5:=((Keep.refl [] w).alloc _).trans k5 (by simp);have hb5:Blk w5 w.heap.size [.int .i64 0]:=(Blk.of_new (cs:=[.int .i64 0]) rfl).keep k5 (by simp);have c0:=hb5.cell (i:=0) rfl;have f0:=hb5.frozen 0;clear hb5 k5;go_wp2;go_ret;exact⟨congrArg (fun z:Int=>Ending.returned (.int .i64 z)) (wrap64_i64 _),K5.set (.inr (Nat.le_refl _)) _ _ _⟩
theorem exact_f32 (b o n cap v:Nat) (w:World) (hB:Byt w b o (leBytes 4 v)) (hn:4<=n) (hnm:n<=1000000000):
  Calls Tryz.prog 118 #[.slice (some ⟨b,o,none⟩) n cap] w fun e w'=>e=.returned (.float .f32 (v%4294967296))/\Keep [] w w':=by
 have n239:=no239 245 (by decide);have n240:=no240 245 (by decide);have n243:=no243 245 (by decide);have n244:=no244 245 (by decide);have y:=yes245;obtain⟨x,hx⟩:∃x,x=v%4294967296:=⟨_,rfl⟩;have hni:(4:Int)<=(n:Int):=by omega
 have hle:=le_run;have hfb:=run_bitsf32;have HU:=qq (fun(wx:World) (kk:Keep [] w wx)=>u32L b o n cap v wx (hB.keep kk (by simp)) (by omega) (by omega));rw[<-hx]at HU ⊢;clear hB hx
 go_enter Tryz.func118,Tryz.ntmps118
 go_wp2_with fail
 refine(HU.out _ ((Keep.refl [] w).alloc _)).mono ?_;rintro e w5 ⟨rfl,k5⟩;have K5:Keep [] w w5:=((Keep.refl [] w).alloc _).trans k5 (by simp);have hb5:Blk w5 w.heap.size [.float .f32 0]:=(Blk.of_new (cs:=[.float .f32 0]) rfl).keep k5 (by simp);have c0:=hb5.cell (i:=0) rfl;have f0:=hb5.frozen 0;have hst:=run_store_f32 x c0 f0;have ct:=(hb5.set 0 (.float .f32 x)).cell (i:=0) (v:=.float .f32 x) rfl;clear hb5 k5;go_wp2;go_ret;exact⟨rfl,K5.set (.inr (Nat.le_refl _)) _ _ _⟩
theorem exact_f64 (b o n cap v:Nat) (w:World) (hB:Byt w b o (leBytes 8 v)) (hn:8<=n) (hnm:n<=1000000000) (hv:v<18446744073709551616):
  Calls Tryz.prog 117 #[.slice (some ⟨b,o,none⟩) n cap] w fun e w'=>e=.returned (.float .f64 v)/\Keep [] w w':=by
 have n239:=no239 246 (by decide);have n240:=no240 246 (by decide);have n243:=no243 246 (by decide);have n244:=no244 246 (by decide);have n245:=no245 246 (by decide);have y:=yes246;have hni:(8:Int)<=(n:Int):=by omega
 have hle:=le_run;have hfb:=run_bitsf64;have HU:=qq (fun(wx:World) (kk:Keep [] w wx)=>u64L b o n cap v wx (hB.keep kk (by simp)) (by omega) (by omega) hv);clear hB
 go_enter Tryz.func117,Tryz.ntmps117
 go_wp2_with fail
 refine(HU.out _ ((Keep.refl [] w).alloc _)).mono ?_;rintro e w5 ⟨rfl,k5⟩;have K5:Keep [] w w5:=((Keep.refl [] w).alloc _).trans k5 (by simp);have hb5:Blk w5 w.heap.size [.float .f64 0]:=(Blk.of_new (cs:=[.float .f64 0]) rfl).keep k5 (by simp);have c0:=hb5.cell (i:=0) rfl;have f0:=hb5.frozen 0;have hst:=run_store_f64 v c0 f0;have ct:=(hb5.set 0 (.float .f64 v)).cell (i:=0) (v:=.float .f64 v) rfl;clear hb5 k5;go_wp2;go_ret;exact⟨rfl,K5.set (.inr (Nat.le_refl _)) _ _ _⟩
theorem valPrim0 (b o n c h:Nat) (ma ko:Option Addr) (mn mc kn kc:Nat) (w:World) (hc:w.cell? ⟨b,o,none⟩=some (.int .u8 (h:Int))) (hn:0<n) (hh:h=4*0):Calls Tryz.prog 63 #[.agg #[.slice (some ⟨b,o,none⟩) n c,.slice ma mn mc,.slice ko kn kc]] w fun e w'=>e=.returned (.nilIface)/\Keep [] w w':=by
 have hh256:h<256:=by omega
 have hr:h%4=0:=by omega
 have HP:=qq (fun wx=>primTypeC h 0 wx (by omega) (by omega));clear hh;have hb1:Blk (w.alloc (.cells #[.slice (some ⟨b,o,none⟩) n c,.slice ma mn mc,.slice ko kn kc] 57)) w.heap.size [.slice (some ⟨b,o,none⟩) n c,.slice ma mn mc,.slice ko kn kc]:=Blk.new w _ _;have k1:Keep [] w (w.alloc (.cells #[.slice (some ⟨b,o,none⟩) n c,.slice ma mn mc,.slice ko kn kc] 57)):=(Keep.refl [] w).alloc _;have hc1:=k1.cell_some hc (by simp);have HB:=qq (basicC b o n c h ma ko mn mc kn kc _ hc1 hn hh256);have H1:=qq3 hb1 k1 hc1;clear hb1 k1 hc1 hc
 go_enter Tryz.func63,Tryz.ntmps63
 go_wp2_with fail
 refine HB.out.mono ?_;rintro e w2 ⟨rfl,k2⟩;have hb2:=H1.out.1.keep k2 (by simp);obtain⟨a0,a1,a2⟩:=hb2.c3 0 1 2 rfl rfl rfl;have e0:=k2.cell_some H1.out.2.2 (by simp);have K2:Keep [] w w2:=H1.out.2.1.trans k2 (by simp);rw[hr];have HK:=qq2 K2 hb2;clear hb2 k2 HB K2;go_wp2_with fail
 refine(HP.out _).mono ?_;rintro e w3 ⟨rfl,rfl⟩;go_wp2;go_ret;exact⟨rfl,HK.out.1⟩
theorem valPrim1 (b o n c h:Nat) (ma ko:Option Addr) (mn mc kn kc:Nat) (w:World) (hc:w.cell? ⟨b,o,none⟩=some (.int .u8 (h:Int))) (hn:0<n) (hh:h=4*1):Calls Tryz.prog 63 #[.agg #[.slice (some ⟨b,o,none⟩) n c,.slice ma mn mc,.slice ko kn kc]] w fun e w'=>e=.returned (.iface 4 (.bool true))/\Keep [] w w':=by
 have hh256:h<256:=by omega
 have hr:h%4=0:=by omega
 have HP:=qq (fun wx=>primTypeC h 1 wx (by omega) (by omega));clear hh;have hb1:Blk (w.alloc (.cells #[.slice (some ⟨b,o,none⟩) n c,.slice ma mn mc,.slice ko kn kc] 57)) w.heap.size [.slice (some ⟨b,o,none⟩) n c,.slice ma mn mc,.slice ko kn kc]:=Blk.new w _ _;have k1:Keep [] w (w.alloc (.cells #[.slice (some ⟨b,o,none⟩) n c,.slice ma mn mc,.slice ko kn kc] 57)):=(Keep.refl [] w).alloc _;have hc1:=k1.cell_some hc (by simp);have HB:=qq (basicC b o n c h ma ko mn mc kn kc _ hc1 hn hh256);have H1:=qq3 hb1 k1 hc1;clear hb1 k1 hc1 hc
 go_enter Tryz.func63,Tryz.ntmps63
 go_wp2_with fail
 refine HB.out.mono ?_;rintro e w2 ⟨rfl,k2⟩;have hb2:=H1.out.1.keep k2 (by simp);obtain⟨a0,a1,a2⟩:=hb2.c3 0 1 2 rfl rfl rfl;have e0:=k2.cell_some H1.out.2.2 (by simp);have K2:Keep [] w w2:=H1.out.2.1.trans k2 (by simp);rw[hr];have HK:=qq2 K2 hb2;clear hb2 k2 HB K2;go_wp2_with fail
 refine(HP.out _).mono ?_;rintro e w3 ⟨rfl,rfl⟩;go_wp2;go_ret;exact⟨rfl,HK.out.1⟩
theorem valPrim2 (b o n c h:Nat) (ma ko:Option Addr) (mn mc kn kc:Nat) (w:World) (hc:w.cell? ⟨b,o,none⟩=some (.int .u8 (h:Int))) (hn:0<n) (hh:h=4*2):Calls Tryz.prog 63 #[.agg #[.slice (some ⟨b,o,none⟩) n c,.slice ma mn mc,.slice ko kn kc]] w fun e w'=>e=.returned (.iface 4 (.bool false))/\Keep [] w w':=by
 have hh256:h<256:=by omega
 have hr:h%4=0:=by omega
 have HP:=qq (fun wx=>primTypeC h 2 wx (by omega) (by omega));clear hh;have hb1:Blk (w.alloc (.cells #[.slice (some ⟨b,o,none⟩) n c,.slice ma mn mc,.slice ko kn kc] 57)) w.heap.size [.slice (some ⟨b,o,none⟩) n c,.slice ma mn mc,.slice ko kn kc]:=Blk.new w _ _;have k1:Keep [] w (w.alloc (.cells #[.slice (some ⟨b,o,none⟩) n c,.slice ma mn mc,.slice ko kn kc] 57)):=(Keep.refl [] w).alloc _;have hc1:=k1.cell_some hc (by simp);have HB:=qq (basicC b o n c h ma ko mn mc kn kc _ hc1 hn hh256);have H1:=qq3 hb1 k1 hc1;clear hb1 k1 hc1 hc
 go_enter Tryz.func63,Tryz.ntmps63
 go_wp2_with fail
 refine HB.out.mono ?_;rintro e w2 ⟨rfl,k2⟩;have hb2:=H1.out.1.keep k2 (by simp);obtain⟨a0,a1,a2⟩:=hb2.c3 0 1 2 rfl rfl rfl;have e0:=k2.cell_some H1.out.2.2 (by simp);have K2:Keep [] w w2:=H1.out.2.1.trans k2 (by simp);rw[hr];have HK:=qq2 K2 hb2;clear hb2 k2 HB K2;go_wp2_with fail
 refine(HP.out _).mono ?_;rintro e w3 ⟨rfl,rfl⟩;go_wp2;go_ret;exact⟨rfl,HK.out.1⟩
theorem valPrim3 (b o n c h v:Nat) (ma ko:Option Addr) (mn mc kn kc:Nat) (w:World) (hc:w.cell? ⟨b,o,none⟩=some (.int .u8 (h:Int))) (hn:0<n) (hh:h=4*3) (hB:Byt w b (o+1) (leBytes 1 v)) (hln:2<=n) (hnc:n<=c) (hn9:n<=1000000000) (z:Int) (hz:IntKind.i8.wrap ((v%256:Nat):Int)=z):Calls Tryz.prog 63 #[.agg #[.slice (some ⟨b,o,none⟩) n c,.slice ma mn mc,.slice ko kn kc]] w fun e w'=>e=.returned (.iface 41 (.int .i8 z))/\Keep [] w w':=by
 have hX:=fun(wx:World) (kx:Keep [] w wx)=>exact_i8 b (o+1) (n-1) (c-1) v wx (hB.keep kx (by simp)) (by omega) (by omega);rw[hz]at hX;have HX:=qq hX;have hci:¬c=1:=by omega
 have hn1:1<=n:=by omega
 clear hB hX hz;have hh256:h<256:=by omega
 have hr:h%4=0:=by omega
 have HP:=qq (fun wx=>primTypeC h 3 wx (by omega) (by omega));clear hh;have hb1:Blk (w.alloc (.cells #[.slice (some ⟨b,o,none⟩) n c,.slice ma mn mc,.slice ko kn kc] 57)) w.heap.size [.slice (some ⟨b,o,none⟩) n c,.slice ma mn mc,.slice ko kn kc]:=Blk.new w _ _;have k1:Keep [] w (w.alloc (.cells #[.slice (some ⟨b,o,none⟩) n c,.slice ma mn mc,.slice ko kn kc] 57)):=(Keep.refl [] w).alloc _;have hc1:=k1.cell_some hc (by simp);have HB:=qq (basicC b o n c h ma ko mn mc kn kc _ hc1 hn hh256);have H1:=qq3 hb1 k1 hc1;clear hb1 k1 hc1 hc
 go_enter Tryz.func63,Tryz.ntmps63
 go_wp2_with fail
 refine HB.out.mono ?_;rintro e w2 ⟨rfl,k2⟩;have hb2:=H1.out.1.keep k2 (by simp);obtain⟨a0,a1,a2⟩:=hb2.c3 0 1 2 rfl rfl rfl;have e0:=k2.cell_some H1.out.2.2 (by simp);have K2:Keep [] w w2:=H1.out.2.1.trans k2 (by simp);rw[hr];have HK:=qq2 K2 hb2;clear hb2 k2 HB K2;go_wp2_with fail
 refine(HP.out _).mono ?_;rintro e w3 ⟨rfl,rfl⟩;go_wp2_with fail
 refine(HX.out _ HK.out.1).mono ?_;rintro e w4 ⟨rfl,k4⟩;go_wp2;go_ret;exact⟨rfl,HK.out.1.trans k4 (by simp)⟩
theorem valPrim4 (b o n c h v:Nat) (ma ko:Option Addr) (mn mc kn kc:Nat) (w:World) (hc:w.cell? ⟨b,o,none⟩=some (.int .u8 (h:Int))) (hn:0<n) (hh:h=4*4) (hB:Byt w b (o+1) (leBytes 2 v)) (hln:3<=n) (hnc:n<=c) (hn9:n<=1000000000) (z:Int) (hz:IntKind.i16.wrap ((v%65536:Nat):Int)=z):Calls Tryz.prog 63 #[.agg #[.slice (some ⟨b,o,none⟩) n c,.slice ma mn mc,.slice ko kn kc]] w fun e w'=>e=.returned (.iface 121 (.int .i16 z))/\Keep [] w w':=by
 have hX:=fun(wx:World) (kx:Keep [] w wx)=>exact_i16 b (o+1) (n-1) (c-1) v wx (hB.keep kx (by simp)) (by omega) (by omega);rw[hz]at hX;have HX:=qq hX;have hci:¬c=1:=by omega
 have hn1:1<=n:=by omega
 clear hB hX hz;have hh256:h<256:=by omega
 have hr:h%4=0:=by omega
 have HP:=qq (fun wx=>primTypeC h 4 wx (by omega) (by omega));clear hh;have hb1:Blk (w.alloc (.cells #[.slice (some ⟨b,o,none⟩) n c,.slice ma mn mc,.slice ko kn kc] 57)) w.heap.size [.slice (some ⟨b,o,none⟩) n c,.slice ma mn mc,.slice ko kn kc]:=Blk.new w _ _;have k1:Keep [] w (w.alloc (.cells #[.slice (some ⟨b,o,none⟩) n c,.slice ma mn mc,.slice ko kn kc] 57)):=(Keep.refl [] w).alloc _;have hc1:=k1.cell_some hc (by simp);have HB:=qq (basicC b o n c h ma ko mn mc kn kc _ hc1 hn hh256);have H1:=qq3 hb1 k1 hc1;clear hb1 k1 hc1 hc
 go_enter Tryz.func63,Tryz.ntmps63
 go_wp2_with fail
 refine HB.out.mono ?_;rintro e w2 ⟨rfl,k2⟩;have hb2:=H1.out.1.keep k2 (by simp);obtain⟨a0,a1,a2⟩:=hb2.c3 0 1 2 rfl rfl rfl;have e0:=k2.cell_some H1.out.2.2 (by simp);have K2:Keep [] w w2:=H1.out.2.1.trans k2 (by simp);rw[hr];have HK:=qq2 K2 hb2;clear hb2 k2 HB K2;go_wp2_with fail
 refine(HP.out _).mono ?_;rintro e w3 ⟨rfl,rfl⟩;go_wp2_with fail
 refine(HX.out _ HK.out.1).mono ?_;rintro e w4 ⟨rfl,k4⟩;go_wp2;go_ret;exact⟨rfl,HK.out.1.trans k4 (by simp)⟩
theorem valPrim5 (b o n c h v:Nat) (ma ko:Option Addr) (mn mc kn kc:Nat) (w:World) (hc:w.cell? ⟨b,o,none⟩=some (.int .u8 (h:Int))) (hn:0<n) (hh:h=4*5) (hB:Byt w b (o+1) (leBytes 4 v)) (hln:5<=n) (hnc:n<=c) (hn9:n<=1000000000) (z:Int) (hz:IntKind.i32.wrap ((v%4294967296:Nat):Int)=z):Calls Tryz.prog 63 #[.agg #[.slice (some ⟨b,o,none⟩) n c,.slice ma mn mc,.slice ko kn kc]] w fun e w'=>e=.returned (.iface 21 (.int .i32 z))/\Keep [] w w':=by
 have hX:=fun(wx:World) (kx:Keep [] w wx)=>exact_i32 b (o+1) (n-1) (c-1) v wx (hB.keep kx (by simp)) (by omega) (by omega);rw[hz]at hX;have HX:=qq hX;have hci:¬c=1:=by omega
 have hn1:1<=n:=by omega
 clear hB hX hz;have hh256:h<256:=by omega
 have hr:h%4=0:=by omega
 have HP:=qq (fun wx=>primTypeC h 5 wx (by omega) (by omega));clear hh;have hb1:Blk (w.alloc (.cells #[.slice (some ⟨b,o,none⟩) n c,.slice ma mn mc,.slice ko kn kc] 57)) w.heap.size [.slice (some ⟨b,o,none⟩) n c,.slice ma mn mc,.slice ko kn kc]:=Blk.new w _ _;have k1:Keep [] w (w.alloc (.cells #[.slice (some ⟨b,o,none⟩) n c,.slice ma mn mc,.slice ko kn kc] 57)):=(Keep.refl [] w).alloc _;have hc1:=k1.cell_some hc (by simp);have HB:=qq (basicC b o n c h ma ko mn mc kn kc _ hc1 hn hh256);have H1:=qq3 hb1 k1 hc1;clear hb1 k1 hc1 hc
 go_enter Tryz.func63,Tryz.ntmps63
 go_wp2_with fail
 refine HB.out.mono ?_;rintro e w2 ⟨rfl,k2⟩;have hb2:=H1.out.1.keep k2 (by simp);obtain⟨a0,a1,a2⟩:=hb2.c3 0 1 2 rfl rfl rfl;have e0:=k2.cell_some H1.out.2.2 (by simp);have K2:Keep [] w w2:=H1.out.2.1.trans k2 (by simp);rw[hr];have HK:=qq2 K2 hb2;clear hb2 k2 HB K2;go_wp2_with fail
 refine(HP.out _).mono ?_;rintro e w3 ⟨rfl,rfl⟩;go_wp2_with fail
 refine(HX.out _ HK.out.1).mono ?_;rintro e w4 ⟨rfl,k4⟩;go_wp2;go_ret;exact⟨rfl,HK.out.1.trans k4 (by simp)⟩
theorem valPrim6 (b o n c h v:Nat) (ma ko:Option Addr) (mn mc kn kc:Nat) (w:World) (hc:w.cell? ⟨b,o,none⟩=some (.int .u8 (h:Int))) (hn:0<n) (hh:h=4*6) (hB:Byt w b (o+1) (leBytes 8 v)) (hln:9<=n) (hnc:n<=c) (hn9:n<=1000000000) (hv:v<18446744073709551616) (z:Int) (hz:IntKind.i64.wrap (v:Int)=z):Calls Tryz.prog 63 #[.agg #[.slice (some ⟨b,o,none⟩) n c,.slice ma mn mc,.slice ko kn kc]] w fun e w'=>e=.returned (.iface 2 (.int .i64 z))/\Keep [] w w':=by
 have hX:=fun(wx:World) (kx:Keep [] w wx)=>exact_i64 b (o+1) (n-1) (c-1) v wx (hB.keep kx (by simp)) (by omega) (by omega) hv;rw[hz]at hX;have HX:=qq hX;have hci:¬c=1:=by omega
 have hn1:1<=n:=by omega
 clear hB hX hz;have hh256:h<256:=by omega
 have hr:h%4=0:=by omega
 have HP:=qq (fun wx=>primTypeC h 6 wx (by omega) (by omega));clear hh;have hb1:Blk (w.alloc (.cells #[.slice (some ⟨b,o,none⟩) n c,.slice ma mn mc,.slice ko kn kc] 57)) w.heap.size [.slice (some ⟨b,o,none⟩) n c,.slice ma mn mc,.slice ko kn kc]:=Blk.new w _ _;have k1:Keep [] w (w.alloc (.cells #[.slice (some ⟨b,o,none⟩) n c,.slice ma mn mc,.slice ko kn kc] 57)):=(Keep.refl [] w).alloc _;have hc1:=k1.cell_some hc (by simp);have HB:=qq (basicC b o n c h ma ko mn mc kn kc _ hc1 hn hh256);have H1:=qq3 hb1 k1 hc1;clear hb1 k1 hc1 hc
 go_enter Tryz.func63,Tryz.ntmps63
 go_wp2_with fail
 refine HB.out.mono ?_;rintro e w2 ⟨rfl,k2⟩;have hb2:=H1.out.1.keep k2 (by simp);obtain⟨a0,a1,a2⟩:=hb2.c3 0 1 2 rfl rfl rfl;have e0:=k2.cell_some H1.out.2.2 (by simp);have K2:Keep [] w w2:=H1.out.2.1.trans k2 (by simp);rw[hr];have HK:=qq2 K2 hb2;clear hb2 k2 HB K2;go_wp2_with fail
 refine(HP.out _).mono ?_;rintro e w3 ⟨rfl,rfl⟩;go_wp2_with fail
 refine(HX.out _ HK.out.1).mono ?_;rintro e w4 ⟨rfl,k4⟩;go_wp2;go_ret;exact⟨rfl,HK.out.1.trans k4 (by simp)⟩
theorem valPrim7 (b o n c h v:Nat) (ma ko:Option Addr) (mn mc kn kc:Nat) (w:World) (hc:w.cell? ⟨b,o,none⟩=some (.int .u8 (h:Int))) (hn:0<n) (hh:h=4*7) (hB:Byt w b (o+1) (leBytes 8 v)) (hln:9<=n) (hnc:n<=c) (hn9:n<=1000000000) (hv:v<18446744073709551616):Calls Tryz.prog 63 #[.agg #[.slice (some ⟨b,o,none⟩) n c,.slice ma mn mc,.slice ko kn kc]] w fun e w'=>e=.returned (.iface 83 (.float .f64 v))/\Keep [] w w':=by
 have hX:=fun(wx:World) (kx:Keep [] w wx)=>exact_f64 b (o+1) (n-1) (c-1) v wx (hB.keep kx (by simp)) (by omega) (by omega) hv;have HX:=qq hX;have hci:¬c=1:=by omega
 have hn1:1<=n:=by omega
 clear hB hX;have hh256:h<256:=by omega
 have hr:h%4=0:=by omega
 have HP:=qq (fun wx=>primTypeC h 7 wx (by omega) (by omega));clear hh;have hb1:Blk (w.alloc (.cells #[.slice (some ⟨b,o,none⟩) n c,.slice ma mn mc,.slice ko kn kc] 57)) w.heap.size [.slice (some ⟨b,o,none⟩) n c,.slice ma mn mc,.slice ko kn kc]:=Blk.new w _ _;have k1:Keep [] w (w.alloc (.cells #[.slice (some ⟨b,o,none⟩) n c,.slice ma mn mc,.slice ko kn kc] 57)):=(Keep.refl [] w).alloc _;have hc1:=k1.cell_some hc (by simp);have HB:=qq (basicC b o n c h ma ko mn mc kn kc _ hc1 hn hh256);have H1:=qq3 hb1 k1 hc1;clear hb1 k1 hc1 hc
 go_enter Tryz.func63,Tryz.ntmps63
 go_wp2_with fail
 refine HB.out.mono ?_;rintro e w2 ⟨rfl,k2⟩;have hb2:=H1.out.1.keep k2 (by simp);obtain⟨a0,a1,a2⟩:=hb2.c3 0 1 2 rfl rfl rfl;have e0:=k2.cell_some H1.out.2.2 (by simp);have K2:Keep [] w w2:=H1.out.2.1.trans k2 (by simp);rw[hr];have HK:=qq2 K2 hb2;clear hb2 k2 HB K2;go_wp2_with fail
 refine(HP.out _).mono ?_;rintro e w3 ⟨rfl,rfl⟩;go_wp2_with fail
 refine(HX.out _ HK.out.1).mono ?_;rintro e w4 ⟨rfl,k4⟩;go_wp2;go_ret;exact⟨rfl,HK.out.1.trans k4 (by simp)⟩
theorem valPrim14 (b o n c h v:Nat) (ma ko:Option Addr) (mn mc kn kc:Nat) (w:World) (hc:w.cell? ⟨b,o,none⟩=some (.int .u8 (h:Int))) (hn:0<n) (hh:h=4*14) (hB:Byt w b (o+1) (leBytes 4 v)) (hln:5<=n) (hnc:n<=c) (hn9:n<=1000000000):Calls Tryz.prog 63 #[.agg #[.slice (some ⟨b,o,none⟩) n c,.slice ma mn mc,.slice ko kn kc]] w fun e w'=>e=.returned (.iface 97 (.float .f32 (v%4294967296)))/\Keep [] w w':=by
 have hX:=fun(wx:World) (kx:Keep [] w wx)=>exact_f32 b (o+1) (n-1) (c-1) v wx (hB.keep kx (by simp)) (by omega) (by omega);have HX:=qq hX;have hci:¬c=1:=by omega
 have hn1:1<=n:=by omega
 clear hB hX;have hh256:h<256:=by omega
 have hr:h%4=0:=by omega
 have HP:=qq (fun wx=>primTypeC h 14 wx (by omega) (by omega));clear hh;have hb1:Blk (w.alloc (.cells #[.slice (some ⟨b,o,none⟩) n c,.slice ma mn mc,.slice ko kn kc] 57)) w.heap.size [.slice (some ⟨b,o,none⟩) n c,.slice ma mn mc,.slice ko kn kc]:=Blk.new w _ _;have k1:Keep [] w (w.alloc (.cells #[.slice (some ⟨b,o,none⟩) n c,.slice ma mn mc,.slice ko kn kc] 57)):=(Keep.refl [] w).alloc _;have hc1:=k1.cell_some hc (by simp);have HB:=qq (basicC b o n c h ma ko mn mc kn kc _ hc1 hn hh256);have H1:=qq3 hb1 k1 hc1;clear hb1 k1 hc1 hc
 go_enter Tryz.func63,Tryz.ntmps63
 go_wp2_with fail
 refine HB.out.mono ?_;rintro e w2 ⟨rfl,k2⟩;have hb2:=H1.out.1.keep k2 (by simp);obtain⟨a0,a1,a2⟩:=hb2.c3 0 1 2 rfl rfl rfl;have e0:=k2.cell_some H1.out.2.2 (by simp);have K2:Keep [] w w2:=H1.out.2.1.trans k2 (by simp);rw[hr];have HK:=qq2 K2 hb2;clear hb2 k2 HB K2;go_wp2_with fail
 refine(HP.out _).mono ?_;rintro e w3 ⟨rfl,rfl⟩;go_wp2_with fail
 refine(HX.out _ HK.out.1).mono ?_;rintro e w4 ⟨rfl,k4⟩;go_wp2;go_ret;exact⟨rfl,HK.out.1.trans k4 (by simp)⟩
theorem valPrim11 (b o n c h v:Nat) (ma ko:Option Addr) (mn mc kn kc:Nat) (w:World) (hc:w.cell? ⟨b,o,none⟩=some (.int .u8 (h:Int))) (hn:0<n) (hh:h=4*11) (hB:Byt w b (o+1) (leBytes 4 v)) (hln:5<=n) (hnc:n<=c) (hn9:n<=1000000000) (z:Int) (hz:IntKind.i32.wrap ((v%4294967296:Nat):Int)=z):Calls Tryz.prog 63 #[.agg #[.slice (some ⟨b,o,none⟩) n c,.slice ma mn mc,.slice ko kn kc]] w fun e w'=>e=.returned (.iface 95 (.int .i32 z))/\Keep [] w w':=by
 have hX:=fun(wx:World) (kx:Keep [] w wx)=>exact_i32 b (o+1) (n-1) (c-1) v wx (hB.keep kx (by simp)) (by omega) (by omega);rw[hz]at hX;have HX:=qq hX;have hci:¬c=1:=by omega
 have hn1:1<=n:=by omega
 clear hB hX hz;have hh256:h<256:=by omega
 have hr:h%4=0:=by omega
 have HP:=qq (fun wx=>primTypeC h 11 wx (by omega) (by omega));clear hh;have hb1:Blk (w.alloc (.cells #[.slice (some ⟨b,o,none⟩) n c,.slice ma mn mc,.slice ko kn kc] 57)) w.heap.size [.slice (some ⟨b,o,none⟩) n c,.slice ma mn mc,.slice ko kn kc]:=Blk.new w _ _;have k1:Keep [] w (w.alloc (.cells #[.slice (some ⟨b,o,none⟩) n c,.slice ma mn mc,.slice ko kn kc] 57)):=(Keep.refl [] w).alloc _;have hc1:=k1.cell_some hc (by simp);have HB:=qq (basicC b o n c h ma ko mn mc kn kc _ hc1 hn hh256);have H1:=qq3 hb1 k1 hc1;clear hb1 k1 hc1 hc
 go_enter Tryz.func63,Tryz.ntmps63
 go_wp2_with fail
 refine HB.out.mono ?_;rintro e w2 ⟨rfl,k2⟩;have hb2:=H1.out.1.keep k2 (by simp);obtain⟨a0,a1,a2⟩:=hb2.c3 0 1 2 rfl rfl rfl;have e0:=k2.cell_some H1.out.2.2 (by simp);have K2:Keep [] w w2:=H1.out.2.1.trans k2 (by simp);rw[hr];have HK:=qq2 K2 hb2;clear hb2 k2 HB K2;go_wp2_with fail
 refine(HP.out _).mono ?_;rintro e w3 ⟨rfl,rfl⟩;go_wp2_with fail
 refine(HX.out _ HK.out.1).mono ?_;rintro e w4 ⟨rfl,k4⟩;go_wp2;go_ret;exact⟨rfl,HK.out.1.trans k4 (by simp)⟩
theorem valPrim12 (b o n c h v:Nat) (ma ko:Option Addr) (mn mc kn kc:Nat) (w:World) (hc:w.cell? ⟨b,o,none⟩=some (.int .u8 (h:Int))) (hn:0<n) (hh:h=4*12) (hB:Byt w b (o+1) (leBytes 8 v)) (hln:9<=n) (hnc:n<=c) (hn9:n<=1000000000) (hv:v<18446744073709551616) (z:Int) (hz:IntKind.i64.wrap (v:Int)=z):Calls Tryz.prog 63 #[.agg #[.slice (some ⟨b,o,none⟩) n c,.slice ma mn mc,.slice ko kn kc]] w fun e w'=>e=.returned (.iface 103 (.int .i64 z))/\Keep [] w w':=by
 have hX:=fun(wx:World) (kx:Keep [] w wx)=>exact_i64 b (o+1) (n-1) (c-1) v wx (hB.keep kx (by simp)) (by omega) (by omega) hv;rw[hz]at hX;have HX:=qq hX;have hci:¬c=1:=by omega
 have hn1:1<=n:=by omega
 clear hB hX hz;have hh256:h<256:=by omega
 have hr:h%4=0:=by omega
 have HP:=qq (fun wx=>primTypeC h 12 wx (by omega) (by omega));clear hh;have hb1:Blk (w.alloc (.cells #[.slice (some ⟨b,o,none⟩) n c,.slice ma mn mc,.slice ko kn kc] 57)) w.heap.size [.slice (some ⟨b,o,none⟩) n c,.slice ma mn mc,.slice ko kn kc]:=Blk.new w _ _;have k1:Keep [] w (w.alloc (.cells #[.slice (some ⟨b,o,none⟩) n c,.slice ma mn mc,.slice ko kn kc] 57)):=(Keep.refl [] w).alloc _;have hc1:=k1.cell_some hc (by simp);have HB:=qq (basicC b o n c h ma ko mn mc kn kc _ hc1 hn hh256);have H1:=qq3 hb1 k1 hc1;clear hb1 k1 hc1 hc
 go_enter Tryz.func63,Tryz.ntmps63
 go_wp2_with fail
 refine HB.out.mono ?_;rintro e w2 ⟨rfl,k2⟩;have hb2:=H1.out.1.keep k2 (by simp);obtain⟨a0,a1,a2⟩:=hb2.c3 0 1 2 rfl rfl rfl;have e0:=k2.cell_some H1.out.2.2 (by simp);have K2:Keep [] w w2:=H1.out.2.1.trans k2 (by simp);rw[hr];have HK:=qq2 K2 hb2;clear hb2 k2 HB K2;go_wp2_with fail
 refine(HP.out _).mono ?_;rintro e w3 ⟨rfl,rfl⟩;go_wp2_with fail
 refine(HX.out _ HK.out.1).mono ?_;rintro e w4 ⟨rfl,k4⟩;go_wp2;go_ret;exact⟨rfl,HK.out.1.trans k4 (by simp)⟩
theorem valPrim13 (b o n c h v:Nat) (ma ko:Option Addr) (mn mc kn kc:Nat) (w:World) (hc:w.cell? ⟨b,o,none⟩=some (.int .u8 (h:Int))) (hn:0<n) (hh:h=4*13) (hB:Byt w b (o+1) (leBytes 8 v)) (hln:9<=n) (hnc:n<=c) (hn9:n<=1000000000) (hv:v<18446744073709551616) (z:Int) (hz:IntKind.i64.wrap (v:Int)=z):Calls Tryz.prog 63 #[.agg #[.slice (some ⟨b,o,none⟩) n c,.slice ma mn mc,.slice ko kn kc]] w fun e w'=>e=.returned (.iface 103 (.int .i64 z))/\Keep [] w w':=by
 have hX:=fun(wx:World) (kx:Keep [] w wx)=>exact_i64 b (o+1) (n-1) (c-1) v wx (hB.keep kx (by simp)) (by omega) (by omega) hv;rw[hz]at hX;have HX:=qq hX;have hci:¬c=1:=by omega
 have hn1:1<=n:=by omega
 clear hB hX hz;have hh256:h<256:=by omega
 have hr:h%4=0:=by omega
 have HP:=qq (fun wx=>primTypeC h 13 wx (by omega) (by omega));clear hh;have hb1:Blk (w.alloc (.cells #[.slice (some ⟨b,o,none⟩) n c,.slice ma mn mc,.slice ko kn kc] 57)) w.heap.size [.slice (some ⟨b,o,none⟩) n c,.slice ma mn mc,.slice ko kn kc]:=Blk.new w _ _;have k1:Keep [] w (w.alloc (.cells #[.slice (some ⟨b,o,none⟩) n c,.slice ma mn mc,.slice ko kn kc] 57)):=(Keep.refl [] w).alloc _;have hc1:=k1.cell_some hc (by simp);have HB:=qq (basicC b o n c h ma ko mn mc kn kc _ hc1 hn hh256);have H1:=qq3 hb1 k1 hc1;clear hb1 k1 hc1 hc
 go_enter Tryz.func63,Tryz.ntmps63
 go_wp2_with fail
 refine HB.out.mono ?_;rintro e w2 ⟨rfl,k2⟩;have hb2:=H1.out.1.keep k2 (by simp);obtain⟨a0,a1,a2⟩:=hb2.c3 0 1 2 rfl rfl rfl;have e0:=k2.cell_some H1.out.2.2 (by simp);have K2:Keep [] w w2:=H1.out.2.1.trans k2 (by simp);rw[hr];have HK:=qq2 K2 hb2;clear hb2 k2 HB K2;go_wp2_with fail
 refine(HP.out _).mono ?_;rintro e w3 ⟨rfl,rfl⟩;go_wp2_with fail
 refine(HX.out _ HK.out.1).mono ?_;rintro e w4 ⟨rfl,k4⟩;go_wp2;go_ret;exact⟨rfl,HK.out.1.trans k4 (by simp)⟩
theorem valPrim18 (b o n c h v:Nat) (ma ko:Option Addr) (mn mc kn kc:Nat) (w:World) (hc:w.cell? ⟨b,o,none⟩=some (.int .u8 (h:Int))) (hn:0<n) (hh:h=4*18) (hB:Byt w b (o+1) (leBytes 8 v)) (hln:9<=n) (hnc:n<=c) (hn9:n<=1000000000) (hv:v<18446744073709551616) (z:Int) (hz:IntKind.i64.wrap (v:Int)=z):Calls Tryz.prog 63 #[.agg #[.slice (some ⟨b,o,none⟩) n c,.slice ma mn mc,.slice ko kn kc]] w fun e w'=>e=.returned (.iface 103 (.int .i64 z))/\Keep [] w w':=by
 have hX:=fun(wx:World) (kx:Keep [] w wx)=>exact_i64 b (o+1) (n-1) (c-1) v wx (hB.keep kx (by simp)) (by omega) (by omega) hv;rw[hz]at hX;have HX:=qq hX;have hci:¬c=1:=by omega
 have hn1:1<=n:=by omega
 clear hB hX hz;have hh256:h<256:=by omega
 have hr:h%4=0:=by omega
 have HP:=qq (fun wx=>primTypeC h 18 wx (by omega) (by omega));clear hh;have hb1:Blk (w.alloc (.cells #[.slice (some ⟨b,o,none⟩) n c,.slice ma mn mc,.slice ko kn kc] 57)) w.heap.size [.slice (some ⟨b,o,none⟩) n c,.slice ma mn mc,.slice ko kn kc]:=Blk.new w _ _;have k1:Keep [] w (w.alloc (.cells #[.slice (some ⟨b,o,none⟩) n c,.slice ma mn mc,.slice ko kn kc] 57)):=(Keep.refl [] w).alloc _;have hc1:=k1.cell_some hc (by simp);have HB:=qq (basicC b o n c h ma ko mn mc kn kc _ hc1 hn hh256);have H1:=qq3 hb1 k1 hc1;clear hb1 k1 hc1 hc
 go_enter Tryz.func63,Tryz.ntmps63
 go_wp2_with fail
 refine HB.out.mono ?_;rintro e w2 ⟨rfl,k2⟩;have hb2:=H1.out.1.keep k2 (by simp);obtain⟨a0,a1,a2⟩:=hb2.c3 0 1 2 rfl rfl rfl;have e0:=k2.cell_some H1.out.2.2 (by simp);have K2:Keep [] w w2:=H1.out.2.1.trans k2 (by simp);rw[hr];have HK:=qq2 K2 hb2;clear hb2 k2 HB K2;go_wp2_with fail
 refine(HP.out _).mono ?_;rintro e w3 ⟨rfl,rfl⟩;go_wp2_with fail
 refine(HX.out _ HK.out.1).mono ?_;rintro e w4 ⟨rfl,k4⟩;go_wp2;go_ret;exact⟨rfl,HK.out.1.trans k4 (by simp)⟩
theorem valPrim19 (b o n c h v:Nat) (ma ko:Option Addr) (mn mc kn kc:Nat) (w:World) (hc:w.cell? ⟨b,o,none⟩=some (.int .u8 (h:Int))) (hn:0<n) (hh:h=4*19) (hB:Byt w b (o+1) (leBytes 8 v)) (hln:9<=n) (hnc:n<=c) (hn9:n<=1000000000) (hv:v<18446744073709551616) (z:Int) (hz:IntKind.i64.wrap (v:Int)=z):Calls Tryz.prog 63 #[.agg #[.slice (some ⟨b,o,none⟩) n c,.slice ma mn mc,.slice ko kn kc]] w fun e w'=>e=.returned (.iface 103 (.int .i64 z))/\Keep [] w w':=by
 have hX:=fun(wx:World) (kx:Keep [] w wx)=>exact_i64 b (o+1) (n-1) (c-1) v wx (hB.keep kx (by simp)) (by omega) (by omega) hv;rw[hz]at hX;have HX:=qq hX;have hci:¬c=1:=by omega
 have hn1:1<=n:=by omega
 clear hB hX hz;have hh256:h<256:=by omega
 have hr:h%4=0:=by omega
 have HP:=qq (fun wx=>primTypeC h 19 wx (by omega) (by omega));clear hh;have hb1:Blk (w.alloc (.cells #[.slice (some ⟨b,o,none⟩) n c,.slice ma mn mc,.slice ko kn kc] 57)) w.heap.size [.slice (some ⟨b,o,none⟩) n c,.slice ma mn mc,.slice ko kn kc]:=Blk.new w _ _;have k1:Keep [] w (w.alloc (.cells #[.slice (some ⟨b,o,none⟩) n c,.slice ma mn mc,.slice ko kn kc] 57)):=(Keep.refl [] w).alloc _;have hc1:=k1.cell_some hc (by simp);have HB:=qq (basicC b o n c h ma ko mn mc kn kc _ hc1 hn hh256);have H1:=qq3 hb1 k1 hc1;clear hb1 k1 hc1 hc
 go_enter Tryz.func63,Tryz.ntmps63
 go_wp2_with fail
 refine HB.out.mono ?_;rintro e w2 ⟨rfl,k2⟩;have hb2:=H1.out.1.keep k2 (by simp);obtain⟨a0,a1,a2⟩:=hb2.c3 0 1 2 rfl rfl rfl;have e0:=k2.cell_some H1.out.2.2 (by simp);have K2:Keep [] w w2:=H1.out.2.1.trans k2 (by simp);rw[hr];have HK:=qq2 K2 hb2;clear hb2 k2 HB K2;go_wp2_with fail
 refine(HP.out _).mono ?_;rintro e w3 ⟨rfl,rfl⟩;go_wp2_with fail
 refine(HX.out _ HK.out.1).mono ?_;rintro e w4 ⟨rfl,k4⟩;go_wp2;go_ret;exact⟨rfl,HK.out.1.trans k4 (by simp)⟩
theorem valPrim17 (b o n c h v:Nat) (ma ko:Option Addr) (mn mc kn kc:Nat) (w:World) (hc:w.cell? ⟨b,o,none⟩=some (.int .u8 (h:Int))) (hn:0<n) (hh:h=4*17) (hB:Byt w b (o+1) (leBytes 8 v)) (hln:9<=n) (hnc:n<=c) (hn9:n<=1000000000) (hv:v<18446744073709551616) (z:Int) (hz:IntKind.i64.wrap (v:Int)=z):Calls Tryz.prog 63 #[.agg #[.slice (some ⟨b,o,none⟩) n c,.slice ma mn mc,.slice ko kn kc]] w fun e w'=>e=.returned (.iface 101 (.int .i64 z))/\Keep [] w w':=by
 have hX:=fun(wx:World) (kx:Keep [] w wx)=>exact_i64 b (o+1) (n-1) (c-1) v wx (hB.keep kx (by simp)) (by omega) (by omega) hv;rw[hz]at hX;have HX:=qq hX;have hci:¬c=1:=by omega
 have hn1:1<=n:=by omega
 clear hB hX hz;have hh256:h<256:=by omega
 have hr:h%4=0:=by omega
 have HP:=qq (fun wx=>primTypeC h 17 wx (by omega) (by omega));clear hh;have hb1:Blk (w.alloc (.cells #[.slice (some ⟨b,o,none⟩) n c,.slice ma mn mc,.slice ko kn kc] 57)) w.heap.size [.slice (some ⟨b,o,none⟩) n c,.slice ma mn mc,.slice ko kn kc]:=Blk.new w _ _;have k1:Keep [] w (w.alloc (.cells #[.slice (some ⟨b,o,none⟩) n c,.slice ma mn mc,.slice ko kn kc] 57)):=(Keep.refl [] w).alloc _;have hc1:=k1.cell_some hc (by simp);have HB:=qq (basicC b o n c h ma ko mn mc kn kc _ hc1 hn hh256);have H1:=qq3 hb1 k1 hc1;clear hb1 k1 hc1 hc
 go_enter Tryz.func63,Tryz.ntmps63
 go_wp2_with fail
 refine HB.out.mono ?_;rintro e w2 ⟨rfl,k2⟩;have hb2:=H1.out.1.keep k2 (by simp);obtain⟨a0,a1,a2⟩:=hb2.c3 0 1 2 rfl rfl rfl;have e0:=k2.cell_some H1.out.2.2 (by simp);have K2:Keep [] w w2:=H1.out.2.1.trans k2 (by simp);rw[hr];have HK:=qq2 K2 hb2;clear hb2 k2 HB K2;go_wp2_with fail
 refine(HP.out _).mono ?_;rintro e w3 ⟨rfl,rfl⟩;go_wp2_with fail
 refine(HX.out _ HK.out.1).mono ?_;rintro e w4 ⟨rfl,k4⟩;go_wp2;go_ret;exact⟨rfl,HK.out.1.trans k4 (by simp)⟩
end Go.Proofs.YtocgdgmfnockiaaGreatDoor
