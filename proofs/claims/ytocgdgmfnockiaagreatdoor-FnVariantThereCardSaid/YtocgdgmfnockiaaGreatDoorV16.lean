/- Variants read: readLEU32 at whatever bytes. Variants read: a header's two parts. Variants read: validatePrimitiveValue. Variants read: binary.LittleEndian at whatever bytes (turned from B4). Variants read: validatePrimitiveValue where a length is written; valueSize of what holds no others. Variants read: valueSize of what holds no others. Variants read: valueSize of texts, binaries, objects. Variants read: Value.BasicType, Value.Type. -/
import Derived.Test.YtocgdgmfnockiaaGreatDoorV02
import Derived.Test.YtocgdgmfnockiaaGreatDoorV03
import Derived.Test.YtocgdgmfnockiaaGreatDoorV01
import Derived.Deep.RegionWith
set_option linter.unusedVariables false
set_option linter.unusedSimpArgs false
set_option maxRecDepth 100000
set_option maxHeartbeats 8000000
namespace Go.Proofs.YtocgdgmfnockiaaGreatDoor
open Go.RowKit
theorem readC (b o n cap:Nat) (D:List Nat) (w:World) (hB:Byt w b o D) (hl:D.length=n) (hby:∀y ∈ D,y<256) (hn1:1<=n) (hn4:n<=4):
  Calls Tryz.prog 121 #[.slice (some ⟨b,o,none⟩) n cap] w fun e w'=>e=.returned (.int .u32 ((leVal D:Nat):Int))/\Keep [] w w':=by
 have hle:=le_run;have H:=qq3 hB hl hby
 clear hB hl hby
 go_enter Tryz.func121,Tryz.ntmps121
 go_wp2_with fail
 refine(assertC _ _ _).mono ?_;rintro e w' ⟨rfl,rfl⟩;go_wp2_with fail
 refine(assertC _ _ _).mono ?_;rintro e w' ⟨rfl,rfl⟩;have K1:Keep [] w (w.alloc (Obj.cells #[Value.int IntKind.u8 0,Value.int IntKind.u8 0,Value.int IntKind.u8 0,Value.int IntKind.u8 0] 247)):=(Keep.refl [] w).alloc _;have hg1:Blk (w.alloc (Obj.cells #[Value.int IntKind.u8 0,Value.int IntKind.u8 0,Value.int IntKind.u8 0,Value.int IntKind.u8 0] 247)) w.heap.size (rowV .u8 (List.replicate 4 0)):=Blk.of_new (cs:=[Value.int IntKind.u8 0,Value.int IntKind.u8 0,Value.int IntKind.u8 0,Value.int IntKind.u8 0]) rfl;have hcp:=fun ty=>run_copy_from (P:=Tryz.prog) hg1 30 30 ty 5 0 4 4 ⟨b,o,none⟩ n cap (rowV .u8 D) Tryz.underlying30 (by kernel_rfl) (by rw[length_rowV,H.out.2.1];show n=min n 4;omega) (fun j v hj=>by
  unfold rowV at hj;rw[List.getElem?_map]at hj;obtain⟨x,hx,rfl⟩:=Option.map_eq_some_iff.1 hj;rw[add_at];exact K1.cell_some (H.out.1 j x hx) (by simp)) (by rw[length_rowV,H.out.2.1];simp;omega) (one_rowV _ _)
 rw[length_rowV,H.out.2.1]at hcp;have hg2:=hg1.setCells (o:=0) (vs:=rowV .u8 D) (by rw[length_rowV,H.out.2.1];simp;omega);have e2:splice (rowV .u8 (List.replicate 4 0)) 0 (rowV .u8 D)=rowV .u8 (D++List.replicate (4-n) 0):=by
  unfold splice;rw[List.take_zero,List.nil_append,rowV_append,Nat.zero_add,length_rowV,H.out.2.1,<-rowV_drop,List.drop_replicate]
 rw[e2]at hg2;obtain⟨w2,hw2⟩:∃w2,w2=(w.alloc (Obj.cells #[Value.int IntKind.u8 0,Value.int IntKind.u8 0,Value.int IntKind.u8 0,Value.int IntKind.u8 0] 247)).setCells w.heap.size 0 (rowV .u8 D):=⟨_,rfl⟩;rw[<-hw2]at hg2 hcp;have K2:Keep [] w w2:=by rw[hw2];exact Keep.setCells (by simp) ((Keep.refl [] w).alloc _)
 have hpl:(D++List.replicate (4-n) 0).length=4:=by simp[H.out.2.1];omega
 have hpb:∀y ∈ D++List.replicate (4-n) 0,y<256:=fun y hy=>by
  rw[List.mem_append,List.mem_replicate]at hy;rcases hy with hy|⟨_,rfl⟩
  ·exact H.out.2.2 y hy
  ·omega
 have hlv:=leVal_pad D (4-n);obtain⟨y0,y1,y2,y3,hy⟩:∃y0 y1 y2 y3,D++List.replicate (4-n) 0=[y0,y1,y2,y3]:=four_of _ hpl;rw[hy]at hg2 hpb hlv;have hU:=uint32C w.heap.size 0 4 4 y0 y1 y2 y3 (rowV .u8 [y0,y1,y2,y3]) w2.drew hg2.drew (by omega) (by omega) rfl rfl rfl rfl (hpb y0 (by simp)) (hpb y1 (by simp)) (hpb y2 (by simp)) (hpb y3 (by simp));have HU:=qq3 hU hlv K2;clear hU hlv K2 hy hpl hpb hw2 hg2 e2 hg1 K1;go_wp2_with fail
 refine wp_region_mid 2 (by kernel_rfl) (by kernel_rfl) ?_;simp only[List.take_succ_cons,List.take_zero,List.drop_succ_cons,List.drop_zero];change wpStill _ _ (World.drew _) _ _ _;repeat still_step
 refine wpStill_nil ?_;go_wp2_with fail
 refine HU.out.1.mono ?_;rintro e w5 ⟨rfl,k5,-⟩;have K5:Keep [] w w5:=HU.out.2.2.drew.trans k5 (by simp);rw[HU.out.2.1];clear k5;go_wp2_with fail
 repeat still_step
 refine wpStill_nil ?_;go_wp2;go_ret;exact⟨rfl,K5⟩

theorem readLe (b o n cap v:Nat) (w:World) (hB:Byt w b o (leBytes n v)) (hv:v<256^n) (hn1:1<=n) (hn4:n<=4):
  Calls Tryz.prog 121 #[.slice (some ⟨b,o,none⟩) n cap] w fun e w'=>e=.returned (.int .u32 (v:Int))/\Keep [] w w':=by
 refine(readC b o n cap _ w hB (length_leBytes _ _) (leBytes_lt _ _) hn1 hn4).mono ?_;rintro e w' ⟨rfl,k⟩;rw[leVal_leBytes n v hv];exact⟨rfl,k⟩
theorem and3:∀h:Nat,h<256->bits .and .u8 (h:Int) 3=((h%4:Nat):Int):=by decide
theorem and63:∀h:Nat,h<64->bits .and .u8 (h:Int) 63=(h:Int):=by decide
theorem basicTypeC (h:Nat) (w:World) (hh:h<256):Calls Tryz.prog 149 #[.int .u8 (h:Int)] w fun e w'=>e=.returned (.int .i64 ((h%4:Nat):Int))/\w'=w:=by
 have h1:=and3 h hh;have hl:h%4<4:=Nat.mod_lt _ (by omega);generalize h%4=r at h1 hl ⊢
 go_enter Tryz.func149,Tryz.ntmps149
 go_wp2;go_ret;exact⟨rfl,rfl⟩
theorem primTypeC (h t:Nat) (w:World) (ht:t<64) (hh:h / 4=t):Calls Tryz.prog 112 #[.int .u8 (h:Int)] w fun e w'=>e=.returned (.int .i64 (t:Int))/\w'=w:=by
 have hd:(h:Int) / 4=(t:Int):=by omega
 have hm:(t:Int)%64=(t:Int):=by omega
 clear hh
 go_enter Tryz.func112,Tryz.ntmps112
 go_wp2;go_ret;exact⟨rfl,rfl⟩

def psize (t:Nat):Nat:=
 if t<=2 then 1 else if t=3 then 2 else if t=4 then 3 else if t=5 then 5 else if t=6 then 9 else if t=7 then 9 else if t=8 then 6 else if t=9 then 10 else if t=10 then 18 else if t=11 then 5
 else if t=12 then 9 else if t=13 then 9 else if t=14 then 5 else if t=17 then 9 else if t=18 then 9 else if t=19 then 9 else 17
theorem psize_pos (t:Nat):0<psize t:=by
 have h:∀{c:Prop} [Decidable c] {a b:Nat},0<a->0<b->0<(if c then a else b):=fun ha hb=>by split<;>assumption
 unfold psize
 repeat' refine h ?_ ?_
 all_goals decide
theorem validPrimC (b o n cap h t:Nat) (w:World) (hc:w.cell? ⟨b,o,none⟩=some (.int .u8 (h:Int))) (hh:h / 4=t) (ht:t<=20) (h15:t≠15) (h16:t≠16) (hn:psize t<=n) (hnm:n<=1000000000):
  Calls Tryz.prog 185 #[.slice (some ⟨b,o,none⟩) n cap] w fun e w'=>e=.returned (.tuple #[.int .i64 (psize t:Int),.nilIface])/\w'=w:=by
 have hcase:t=0\/t=1\/t=2\/t=3\/t=4\/t=5\/t=6\/t=7\/t=8\/t=9\/t=10\/t=11\/t=12\/t=13\/t=14\/t=17\/t=18\/t=19\/t=20:=by omega
 have hn0:0<n:=Nat.lt_of_lt_of_le (psize_pos t) hn;have HP:=qq (primTypeC h t w (by omega) hh);clear hh;rcases hcase with rfl|rfl|rfl|rfl|rfl|rfl|rfl|rfl|rfl|rfl|rfl|rfl|rfl|rfl|rfl|rfl|rfl|rfl|rfl
 all_goals
  simp only[psize]at hn ⊢;simp at hn
  go_enter Tryz.func185,Tryz.ntmps185
  go_wp2_with fail
  refine HP.out.mono ?_;rintro e w' ⟨rfl,rfl⟩;go_wp2
  go_ret2
  exact⟨rfl,rfl⟩
theorem u16K (b o len cap x0 x1:Nat) (w:World) (hl:2<=len) (hlen:len<=1099511627776)
  (c0:w.cell? ⟨b,o,none⟩=some (.int .u8 (x0:Int))) (c1:w.cell? ⟨b,o+1,none⟩=some (.int .u8 (x1:Int)))
  (l0:x0<256) (l1:x1<256):
  Calls Tryz.prog 150 #[.agg #[],.slice (some ⟨b,o,none⟩) len cap] w fun e w'=>
   e=.returned (.int .u16 ((leVal [x0,x1]:Nat):Int))/\Keep [] w w'/\w'.heap.size=w.heap.size+1:=by
 have hlt:b<w.heap.size:=World.block_lt_of_cell? _ _ c0;have l2':(1:Int)<(len:Int):=by omega
 obtain⟨s1,e1⟩:∃s,s=x0+x1*256:=⟨_,rfl⟩;have b1:s1<65536:=by omega
 have q1:bits .or .u16 (x0:Int) ((x1:Int)*256)=(s1:Int):=by rw[e1];exact or_join_u16 8 _ _ (by omega) (by omega) (by omega)
 have HS:Hid (s1=leVal [x0,x1]):=qq (by simp only[leVal];omega);clear e1
 go_enter Tryz.func150,Tryz.ntmps150
 go_wp2_with fail
 go_quiet (fail)
 go_wp2;go_ret;refine⟨?_,((Keep.refl [] w).alloc _).drewN nq,by simp⟩;rw[<-HS.out];rfl
theorem u32K (b o len cap x0 x1 x2 x3:Nat) (w:World) (hl:4<=len) (hlen:len<=1099511627776)
  (c0:w.cell? ⟨b,o,none⟩=some (.int .u8 (x0:Int))) (c1:w.cell? ⟨b,o+1,none⟩=some (.int .u8 (x1:Int))) (c2:w.cell? ⟨b,o+2,none⟩=some (.int .u8 (x2:Int))) (c3:w.cell? ⟨b,o+3,none⟩=some (.int .u8 (x3:Int)))
  (l0:x0<256) (l1:x1<256) (l2:x2<256) (l3:x3<256):
  Calls Tryz.prog 119 #[.agg #[],.slice (some ⟨b,o,none⟩) len cap] w fun e w'=>
   e=.returned (.int .u32 ((leVal [x0,x1,x2,x3]:Nat):Int))/\Keep [] w w'/\w'.heap.size=w.heap.size+1:=by
 have hlt:b<w.heap.size:=World.block_lt_of_cell? _ _ c0;have l4':(3:Int)<(len:Int):=by omega
 obtain⟨s1,e1⟩:∃s,s=x0+x1*256:=⟨_,rfl⟩;have b1:s1<65536:=by omega
 have q1:bits .or .u32 (x0:Int) ((x1:Int)*256)=(s1:Int):=by rw[e1];exact or_join_u32 8 _ _ (by omega) (by omega) (by omega)
 obtain⟨s2,e2⟩:∃s,s=s1+x2*65536:=⟨_,rfl⟩;have b2:s2<16777216:=by omega
 have q2:bits .or .u32 (s1:Int) ((x2:Int)*65536)=(s2:Int):=by rw[e2];exact or_join_u32 16 _ _ (by omega) (by omega) (by omega)
 obtain⟨s3,e3⟩:∃s,s=s2+x3*16777216:=⟨_,rfl⟩;have b3:s3<4294967296:=by omega
 have q3:bits .or .u32 (s2:Int) ((x3:Int)*16777216)=(s3:Int):=by rw[e3];exact or_join_u32 24 _ _ (by omega) (by omega) (by omega)
 have HS:Hid (s3=leVal [x0,x1,x2,x3]):=qq (by simp only[leVal];omega);clear e1 e2 e3
 go_enter Tryz.func119,Tryz.ntmps119
 go_wp2_with fail
 go_quiet (fail)
 go_wp2;go_ret;refine⟨?_,((Keep.refl [] w).alloc _).drewN nq,by simp⟩;rw[<-HS.out];rfl
theorem u64K (b o len cap x0 x1 x2 x3 x4 x5 x6 x7:Nat) (w:World) (hl:8<=len) (hlen:len<=1099511627776)
  (c0:w.cell? ⟨b,o,none⟩=some (.int .u8 (x0:Int))) (c1:w.cell? ⟨b,o+1,none⟩=some (.int .u8 (x1:Int))) (c2:w.cell? ⟨b,o+2,none⟩=some (.int .u8 (x2:Int))) (c3:w.cell? ⟨b,o+3,none⟩=some (.int .u8 (x3:Int))) (c4:w.cell? ⟨b,o+4,none⟩=some (.int .u8 (x4:Int))) (c5:w.cell? ⟨b,o+5,none⟩=some (.int .u8 (x5:Int))) (c6:w.cell? ⟨b,o+6,none⟩=some (.int .u8 (x6:Int))) (c7:w.cell? ⟨b,o+7,none⟩=some (.int .u8 (x7:Int)))
  (l0:x0<256) (l1:x1<256) (l2:x2<256) (l3:x3<256) (l4:x4<256) (l5:x5<256) (l6:x6<256) (l7:x7<256):
  Calls Tryz.prog 151 #[.agg #[],.slice (some ⟨b,o,none⟩) len cap] w fun e w'=>
   e=.returned (.int .u64 ((leVal [x0,x1,x2,x3,x4,x5,x6,x7]:Nat):Int))/\Keep [] w w'/\w'.heap.size=w.heap.size+1:=by
 have hlt:b<w.heap.size:=World.block_lt_of_cell? _ _ c0;have l8':(7:Int)<(len:Int):=by omega
 obtain⟨s1,e1⟩:∃s,s=x0+x1*256:=⟨_,rfl⟩;have b1:s1<65536:=by omega
 have q1:bits .or .u64 (x0:Int) ((x1:Int)*256)=(s1:Int):=by rw[e1];exact or_join_u64 8 _ _ (by omega) (by omega) (by omega)
 obtain⟨s2,e2⟩:∃s,s=s1+x2*65536:=⟨_,rfl⟩;have b2:s2<16777216:=by omega
 have q2:bits .or .u64 (s1:Int) ((x2:Int)*65536)=(s2:Int):=by rw[e2];exact or_join_u64 16 _ _ (by omega) (by omega) (by omega)
 obtain⟨s3,e3⟩:∃s,s=s2+x3*16777216:=⟨_,rfl⟩;have b3:s3<4294967296:=by omega
 have q3:bits .or .u64 (s2:Int) ((x3:Int)*16777216)=(s3:Int):=by rw[e3];exact or_join_u64 24 _ _ (by omega) (by omega) (by omega)
 obtain⟨s4,e4⟩:∃s,s=s3+x4*4294967296:=⟨_,rfl⟩;have b4:s4<1099511627776:=by omega
 have q4:bits .or .u64 (s3:Int) ((x4:Int)*4294967296)=(s4:Int):=by rw[e4];exact or_join_u64 32 _ _ (by omega) (by omega) (by omega)
 obtain⟨s5,e5⟩:∃s,s=s4+x5*1099511627776:=⟨_,rfl⟩;have b5:s5<281474976710656:=by omega
 have q5:bits .or .u64 (s4:Int) ((x5:Int)*1099511627776)=(s5:Int):=by rw[e5];exact or_join_u64 40 _ _ (by omega) (by omega) (by omega)
 obtain⟨s6,e6⟩:∃s,s=s5+x6*281474976710656:=⟨_,rfl⟩;have b6:s6<72057594037927936:=by omega
 have q6:bits .or .u64 (s5:Int) ((x6:Int)*281474976710656)=(s6:Int):=by rw[e6];exact or_join_u64 48 _ _ (by omega) (by omega) (by omega)
 obtain⟨s7,e7⟩:∃s,s=s6+x7*72057594037927936:=⟨_,rfl⟩;have b7:s7<18446744073709551616:=by omega
 have q7:bits .or .u64 (s6:Int) ((x7:Int)*72057594037927936)=(s7:Int):=by rw[e7];exact or_join_u64 56 _ _ (by omega) (by omega) (by omega)
 have HS:Hid (s7=leVal [x0,x1,x2,x3,x4,x5,x6,x7]):=qq (by simp only[leVal];omega);clear e1 e2 e3 e4 e5 e6 e7
 go_enter Tryz.func151,Tryz.ntmps151
 go_wp2_with fail
 go_quiet (fail)
 go_wp2;go_ret;refine⟨?_,((Keep.refl [] w).alloc _).drewN nq,by simp⟩;rw[<-HS.out];rfl
theorem lt256_of {D:List Nat} (h:∀y ∈ D,y<256) {i x:Nat} (hx:D[i]?=some x):x<256:=h x (List.mem_of_getElem? hx)
theorem u16L (b o len cap v:Nat) (w:World) (hB:Byt w b o (leBytes 2 v)) (hl:2<=len) (hlen:len<=1099511627776):
  Calls Tryz.prog 150 #[.agg #[],.slice (some ⟨b,o,none⟩) len cap] w fun e w'=>e=.returned (.int .u16 ((v%65536:Nat):Int))/\Keep [] w w':=by
 refine(u16K b o len cap (v%256) (v / 256%256) w hl hlen (hB 0 _ rfl) (hB 1 _ rfl) (by omega) (by omega)).mono ?_;rintro e w' ⟨rfl,k,-⟩;exact⟨by congr 2;simp only[leVal];omega,k⟩
theorem u32L (b o len cap v:Nat) (w:World) (hB:Byt w b o (leBytes 4 v)) (hl:4<=len) (hlen:len<=1099511627776):
  Calls Tryz.prog 119 #[.agg #[],.slice (some ⟨b,o,none⟩) len cap] w fun e w'=>e=.returned (.int .u32 ((v%4294967296:Nat):Int))/\Keep [] w w':=by
 refine(u32K b o len cap (v%256) (v / 256%256) (v / 256 / 256%256) (v / 256 / 256 / 256%256) w hl hlen (hB 0 _ rfl) (hB 1 _ rfl) (hB 2 _ rfl) (hB 3 _ rfl) (by omega) (by omega) (by omega) (by omega)).mono ?_;rintro e w' ⟨rfl,k,-⟩;exact⟨by congr 2;simp only[leVal];omega,k⟩
theorem u64L (b o len cap v:Nat) (w:World) (hB:Byt w b o (leBytes 8 v)) (hl:8<=len) (hlen:len<=1099511627776) (hv:v<18446744073709551616):
  Calls Tryz.prog 151 #[.agg #[],.slice (some ⟨b,o,none⟩) len cap] w fun e w'=>e=.returned (.int .u64 (v:Int))/\Keep [] w w':=by
 refine(u64K b o len cap (v%256) (v / 256%256) (v / 256 / 256%256) (v / 256 / 256 / 256%256) (v / 256 / 256 / 256 / 256%256) (v / 256 / 256 / 256 / 256 / 256%256) (v / 256 / 256 / 256 / 256 / 256 / 256%256) (v / 256 / 256 / 256 / 256 / 256 / 256 / 256%256) w hl hlen
  (hB 0 _ rfl) (hB 1 _ rfl) (hB 2 _ rfl) (hB 3 _ rfl) (hB 4 _ rfl) (hB 5 _ rfl) (hB 6 _ rfl) (hB 7 _ rfl) (by omega) (by omega) (by omega) (by omega) (by omega) (by omega) (by omega) (by omega)).mono ?_
 rintro e w' ⟨rfl,k,-⟩;exact⟨by congr 2;simp only[leVal];omega,k⟩
theorem validLongC (b o n cap h t m:Nat) (w:World) (hc:w.cell? ⟨b,o,none⟩=some (.int .u8 (h:Int))) (hh:h / 4=t) (ht:t=15\/t=16) (hB:Byt w b (o+1) (leBytes 4 m)) (hm:m<=1000000) (hn:5+m<=n) (hnm:n<=1000000000) (hcap:n<=cap):
  Calls Tryz.prog 185 #[.slice (some ⟨b,o,none⟩) n cap] w fun e w'=>e=.returned (.tuple #[.int .i64 ((5+m:Nat):Int),.nilIface])/\Keep [] w w':=by
 have HP:=qq (primTypeC h t w (by omega) hh);have hn5:¬(n:Int)<5:=by omega
 have hn0:0<n:=by omega
 obtain⟨q,hq⟩:∃q,q=n-5:=⟨_,rfl⟩;have hqi:(n:Int)-5=(q:Int):=by omega
 have hmq:¬(q:Int)<(m:Int):=by omega
 have hc5:(5:Int)<=(cap:Int):=by omega
 have hc5':5<=cap:=by omega
 have hc1:¬cap=1:=by omega
 have hle:=le_run;have hU:=fun(wx:World) (kk:Keep [] w wx)=>u32L b (o+1) 4 (cap-1) m wx (hB.keep kk (by simp)) (by omega) (by omega);have hmm:m%4294967296=m:=Nat.mod_eq_of_lt (by omega);rw[hmm]at hU;have HU:=qq hU;clear hh hU hB hq hmm;rcases ht with rfl|rfl
 all_goals
  go_enter Tryz.func185,Tryz.ntmps185
  go_wp2_with fail
  refine HP.out.mono ?_;rintro e w' ⟨rfl,rfl⟩;go_wp2_with fail
  refine wp_region_mid 3 (by kernel_rfl) (by kernel_rfl) ?_;simp only[List.take_succ_cons,List.take_zero,List.drop_succ_cons,List.drop_zero];change wpStill _ _ (World.drew _) _ _ _;repeat still_step
  refine wpStill_nil ?_;go_wp2_with fail
  refine(HU.out _ ((Keep.refl [] _).drew)).mono ?_;rintro e w5 ⟨rfl,k5⟩;go_wp2_with fail
  repeat still_step
  refine wpStill_nil ?_;go_wp2
  go_ret2
  exact⟨rfl,(Keep.refl [] _).drew.trans k5 (by simp)⟩
theorem sizePrimC (b o n cap h t:Nat) (w:World) (hc:w.cell? ⟨b,o,none⟩=some (.int .u8 (h:Int))) (hh:h=4*t) (ht:t<=20) (h15:t≠15) (h16:t≠16) (hn:0<n) (hnm:n<=1000000000):
  Calls Tryz.prog 82 #[.slice (some ⟨b,o,none⟩) n cap] w fun e w'=>e=.returned (.int .i64 (psize t:Int))/\Keep [] w w':=by
 have hcase:t=0\/t=1\/t=2\/t=3\/t=4\/t=5\/t=6\/t=7\/t=8\/t=9\/t=10\/t=11\/t=12\/t=13\/t=14\/t=17\/t=18\/t=19\/t=20:=by omega
 rcases hcase with rfl|rfl|rfl|rfl|rfl|rfl|rfl|rfl|rfl|rfl|rfl|rfl|rfl|rfl|rfl|rfl|rfl|rfl|rfl
 all_goals
  simp only[psize];subst hh
  go_enter Tryz.func82,Tryz.ntmps82
  go_wp2_with fail
  go_quiet (fail)
  go_wp2;go_ret;exact⟨rfl,(Keep.refl [] w).drewN nq⟩
theorem sizeShortC (b o n cap h m:Nat) (w:World) (hc:w.cell? ⟨b,o,none⟩=some (.int .u8 (h:Int))) (hh:h=1+4*m) (hm:m<64) (hn:0<n) (hnm:n<=1000000000):
  Calls Tryz.prog 82 #[.slice (some ⟨b,o,none⟩) n cap] w fun e w'=>e=.returned (.int .i64 ((1+m:Nat):Int))/\Keep [] w w':=by
 have hd:(h:Int) / 4=(m:Int):=by omega
 have hr:(h:Int)%4=1:=by omega
 have hmm:(m:Int)%64=(m:Int):=by omega
 have hb3:bits .and .u8 (h:Int) 3=1:=by rw[and3 h (by omega)];omega
 have hb63:bits .and .u8 (m:Int) 63=(m:Int):=and63 m hm;clear hh
 go_enter Tryz.func82,Tryz.ntmps82
 go_wp2_with fail
 go_quiet (fail)
 go_wp2;go_ret;exact⟨rfl,(Keep.refl [] w).drewN nq⟩
theorem sizeLongC (b o n cap h t m:Nat) (w:World) (hc:w.cell? ⟨b,o,none⟩=some (.int .u8 (h:Int))) (hh:h=4*t) (ht:t=15\/t=16) (hB:Byt w b (o+1) (leBytes 4 m)) (hm:m<=1000000) (hn:5<=n) (hnm:n<=1000000000) (hcap:n<=cap):
  Calls Tryz.prog 82 #[.slice (some ⟨b,o,none⟩) n cap] w fun e w'=>e=.returned (.int .i64 ((5+m:Nat):Int))/\Keep [] w w':=by
 have hn0:0<n:=by omega
 have hc5:(5:Int)<=(cap:Int):=by omega
 have hc5':5<=cap:=by omega
 have hc1:¬cap=1:=by omega
 have hU:=fun(wx:World) (kk:Keep [] w wx)=>readLe b (o+1) 4 (cap-1) m wx (hB.keep kk (by simp)) (by omega) (by omega) (by omega);have HU:=qq hU;clear hU hB;rcases ht with rfl|rfl
 all_goals
  subst hh
  go_enter Tryz.func82,Tryz.ntmps82
  go_wp2_with fail
  go_quiet (fail)
  go_wp2_with fail
  refine(HU.out _ (((Keep.refl [] w).drewN nq))).mono ?_;rintro e w5 ⟨rfl,k5⟩;have K5:Keep [] w w5:=((Keep.refl [] w).drewN nq).trans k5 (by simp);go_wp2;go_ret;exact⟨rfl,K5⟩
theorem sizeObjC (b o ln cap h s n tot q:Nat) (w:World) (hc:w.cell? ⟨b,o,none⟩=some (.int .u8 (h:Int))) (hh:h=2+4*s) (hs:s<=3) (hB1:Byt w b (o+1) (leBytes 1 n)) (hq:q=2+n+n*(s+1)) (hB2:Byt w b (o+q) (leBytes (s+1) tot)) (hn:n<=255) (ht:tot<256^(s+1)) (htl:tot<=1000000000)
  (hln:q+(s+1)<=ln) (hnm:ln<=1000000000) (hcap:ln<=cap):
  Calls Tryz.prog 82 #[.slice (some ⟨b,o,none⟩) ln cap] w fun e w'=>e=.returned (.int .i64 ((q+(s+1)+tot:Nat):Int))/\Keep [] w w':=by
 have hn0:0<ln:=by omega
 have hc2:(2:Int)<=(cap:Int):=by omega
 have hc2':2<=cap:=by omega
 have hc1:¬cap=1:=by omega
 have hcq:¬cap=q:=by omega
 have hU1:=fun(wx:World) (kk:Keep [] w wx)=>readLe b (o+1) 1 (cap-1) n wx (hB1.keep kk (by simp)) (by omega) (by omega) (by omega);have hU2:=fun(q':Nat) (hq':q'=2+n+n*(s+1)) (wx:World) (kk:Keep [] w wx)=>readLe b (o+q') (s+1) (cap-q') tot wx (hq'.trans hq.symm▸hB2.keep kk (by simp)) ht (by omega) (by omega);have HU:=qq2 hU1 hU2;clear hU1 hU2 hB1 hB2 ht;have hcase:s=0\/s=1\/s=2\/s=3:=by omega
 have Hq:=qq hq;have bt0_3:bits .and .u8 0 3=0:=by decide
 have bt1_3:bits .and .u8 1 3=1:=by decide
 have bt2_3:bits .and .u8 2 3=2:=by decide
 have bt3_3:bits .and .u8 3 3=3:=by decide
 have bt4_3:bits .and .u8 4 3=0:=by decide
 have bt5_3:bits .and .u8 5 3=1:=by decide
 have bt6_3:bits .and .u8 6 3=2:=by decide
 have bt7_3:bits .and .u8 7 3=3:=by decide
 have bt10_3:bits .and .u8 10 3=2:=by decide
 have bt14_3:bits .and .u8 14 3=2:=by decide
 have bt11_3:bits .and .u8 11 3=3:=by decide
 have bt15_3:bits .and .u8 15 3=3:=by decide
 have bt19_3:bits .and .u8 19 3=3:=by decide
 have bt23_3:bits .and .u8 23 3=3:=by decide
 have bt27_3:bits .and .u8 27 3=3:=by decide
 have bt31_3:bits .and .u8 31 3=3:=by decide
 have bt0_1:bits .and .u8 0 1=0:=by decide
 have bt1_1:bits .and .u8 1 1=1:=by decide
 have bt2_1:bits .and .u8 2 1=0:=by decide
 have bt3_1:bits .and .u8 3 1=1:=by decide
 have bt0_63:bits .and .u8 0 63=0:=by decide
 have bt1_63:bits .and .u8 1 63=1:=by decide
 have bt2_63:bits .and .u8 2 63=2:=by decide
 have bt3_63:bits .and .u8 3 63=3:=by decide
 have bt4_63:bits .and .u8 4 63=4:=by decide
 have bt5_63:bits .and .u8 5 63=5:=by decide
 have bt6_63:bits .and .u8 6 63=6:=by decide
 have bt7_63:bits .and .u8 7 63=7:=by decide
 rcases hcase with rfl|rfl|rfl|rfl
 all_goals
  subst hh
  go_enter Tryz.func82,Tryz.ntmps82
  go_wp2_with fail
  go_quiet (fail)
  go_wp2_with fail
  refine(HU.out.1 _ (((Keep.refl [] w).drewN nq))).mono ?_;rintro e w5 ⟨rfl,k5⟩;have K5:Keep [] w w5:=((Keep.refl [] w).drewN nq).trans k5 (by simp);clear k5;go_wp2_with fail
  refine(HU.out.2 _ (by omega) _ K5).mono ?_;rintro e w6 ⟨rfl,k6⟩;have K6:Keep [] w w6:=K5.trans k6 (by simp);clear k6;go_wp2;go_ret;have hqo:=Hq.out;exact⟨congrArg (fun z:Int=>Ending.returned (.int .i64 z)) (by omega),K6⟩
theorem sizeArrC (b o ln cap h s n k tot q:Nat) (w:World) (hc:w.cell? ⟨b,o,none⟩=some (.int .u8 (h:Int))) (hk:k=if 255<n then 4 else 1) (hh:h=3+4*s+(if 255<n then 16 else 0)) (hs:s<=3) (hB1:Byt w b (o+1) (leBytes k n)) (hq:q=1+k+n*(s+1)) (hB2:Byt w b (o+q) (leBytes (s+1) tot)) (hn:n<=1000000) (ht:tot<256^(s+1)) (htl:tot<=1000000000)
  (hln:q+(s+1)<=ln) (hnm:ln<=1000000000) (hcap:ln<=cap):
  Calls Tryz.prog 82 #[.slice (some ⟨b,o,none⟩) ln cap] w fun e w'=>e=.returned (.int .i64 ((q+(s+1)+tot:Nat):Int))/\Keep [] w w':=by
 obtain⟨l,hl⟩:∃l:Nat,l=if 255<n then 1 else 0:=⟨_,rfl⟩;have hl1:l=0/\k=1/\h=3+4*s/\n<=255\/l=1/\k=4/\h=3+4*s+16:=by
  by_cases h2:255<n
  ·rw[if_pos h2]at hk hh hl;exact .inr ⟨hl,hk,hh⟩
  ·rw[if_neg h2]at hk hh hl;exact .inl ⟨hl,hk,hh,by omega⟩
 clear hk hh hl;have hk1:1<=k:=by omega
 have hk4:k<=4:=by omega
 have hn0:0<ln:=by omega
 have hck:((1+k:Nat):Int)<=(cap:Int):=by omega
 have hck':1+k<=cap:=by omega
 have hc1:¬cap=1:=by omega
 have hcq:¬cap=q:=by omega
 have hnk:n<256^k:=by
  rcases hl1 with⟨_,rfl,_,h⟩|⟨_,rfl,_⟩<;>omega
 have hU1:=fun(wx:World) (kk:Keep [] w wx)=>readLe b (o+1) k (cap-1) n wx (hB1.keep kk (by simp)) hnk (by omega) (by omega);have hU2:=fun(q':Nat) (hq':q'=1+k+n*(s+1)) (wx:World) (kk:Keep [] w wx)=>readLe b (o+q') (s+1) (cap-q') tot wx (hq'.trans hq.symm▸hB2.keep kk (by simp)) ht (by omega) (by omega);have HU:=qq2 hU1 hU2;clear hU1 hU2 hB1 hB2 ht hnk;have hcase:s=0\/s=1\/s=2\/s=3:=by omega
 have Hq:=qq hq;have bt0_3:bits .and .u8 0 3=0:=by decide
 have bt1_3:bits .and .u8 1 3=1:=by decide
 have bt2_3:bits .and .u8 2 3=2:=by decide
 have bt3_3:bits .and .u8 3 3=3:=by decide
 have bt4_3:bits .and .u8 4 3=0:=by decide
 have bt5_3:bits .and .u8 5 3=1:=by decide
 have bt6_3:bits .and .u8 6 3=2:=by decide
 have bt7_3:bits .and .u8 7 3=3:=by decide
 have bt10_3:bits .and .u8 10 3=2:=by decide
 have bt14_3:bits .and .u8 14 3=2:=by decide
 have bt11_3:bits .and .u8 11 3=3:=by decide
 have bt15_3:bits .and .u8 15 3=3:=by decide
 have bt19_3:bits .and .u8 19 3=3:=by decide
 have bt23_3:bits .and .u8 23 3=3:=by decide
 have bt27_3:bits .and .u8 27 3=3:=by decide
 have bt31_3:bits .and .u8 31 3=3:=by decide
 have bt0_1:bits .and .u8 0 1=0:=by decide
 have bt1_1:bits .and .u8 1 1=1:=by decide
 have bt2_1:bits .and .u8 2 1=0:=by decide
 have bt3_1:bits .and .u8 3 1=1:=by decide
 have bt0_63:bits .and .u8 0 63=0:=by decide
 have bt1_63:bits .and .u8 1 63=1:=by decide
 have bt2_63:bits .and .u8 2 63=2:=by decide
 have bt3_63:bits .and .u8 3 63=3:=by decide
 have bt4_63:bits .and .u8 4 63=4:=by decide
 have bt5_63:bits .and .u8 5 63=5:=by decide
 have bt6_63:bits .and .u8 6 63=6:=by decide
 have bt7_63:bits .and .u8 7 63=7:=by decide
 rcases hcase with rfl|rfl|rfl|rfl<;>rcases hl1 with⟨rfl,rfl,rfl,h255⟩|⟨rfl,rfl,rfl⟩
 all_goals
  go_enter Tryz.func82,Tryz.ntmps82
  go_wp2_with fail
  go_quiet (fail)
  go_wp2_with fail
  refine(HU.out.1 _ (((Keep.refl [] w).drewN nq))).mono ?_;rintro e w5 ⟨rfl,k5⟩;have K5:Keep [] w w5:=((Keep.refl [] w).drewN nq).trans k5 (by simp);clear k5;go_wp2_with fail
  refine(HU.out.2 _ (by omega) _ K5).mono ?_;rintro e w6 ⟨rfl,k6⟩;have K6:Keep [] w w6:=K5.trans k6 (by simp);clear k6;go_wp2;go_ret;have hqo:=Hq.out;exact⟨congrArg (fun z:Int=>Ending.returned (.int .i64 z)) (by omega),K6⟩

def valV (b o n c:Nat) (ma ko:Option Addr) (mn mc kn kc:Nat):Value:=.agg #[.slice (some ⟨b,o,none⟩) n c,.slice ma mn mc,.slice ko kn kc]
theorem basicC (b o n c h:Nat) (ma ko:Option Addr) (mn mc kn kc:Nat) (w:World) (hc:w.cell? ⟨b,o,none⟩=some (.int .u8 (h:Int))) (hn:0<n) (hh:h<256):Calls Tryz.prog 111 #[.agg #[.slice (some ⟨b,o,none⟩) n c,.slice ma mn mc,.slice ko kn kc]] w fun e w'=>e=.returned (.int .i64 ((h%4:Nat):Int))/\Keep [] w w':=by
 have hc':=fun o=>((Keep.refl [] w).alloc o).cell_some hc (by simp);have HB:=qq (fun wx=>basicTypeC h wx hh)
 go_enter Tryz.func111,Tryz.ntmps111
 go_wp2_with fail
 refine(HB.out _).mono ?_;rintro e w' ⟨rfl,rfl⟩;go_wp2;go_ret;exact⟨rfl,(Keep.refl [] w).alloc _⟩
def typeOf (t:Nat):Int:=
 if t=0 then 2 else if t<=2 then 3 else if t=3 then 4 else if t=4 then 5 else if t=5 then 6 else if t=6 then 7 else if t=7 then 9 else if t=8 then 10 else if t=9 then 11 else if t=10 then 12 else if t=11 then 13
 else if t=12 then 14 else if t=13 then 15 else if t=14 then 16 else if t=15 then 17 else if t=16 then 8 else if t=17 then 18 else if t=18 then 19 else if t=19 then 20 else 21
theorem typePrimC (b o n c h t:Nat) (ma ko:Option Addr) (mn mc kn kc:Nat) (w:World) (hc:w.cell? ⟨b,o,none⟩=some (.int .u8 (h:Int))) (hn:0<n) (hh:h=4*t) (ht:t<=20):Calls Tryz.prog 62 #[.agg #[.slice (some ⟨b,o,none⟩) n c,.slice ma mn mc,.slice ko kn kc]] w fun e w'=>e=.returned (.int .i64 (typeOf t))/\Keep [] w w':=by
 have hcase:t=0\/t=1\/t=2\/t=3\/t=4\/t=5\/t=6\/t=7\/t=8\/t=9\/t=10\/t=11\/t=12\/t=13\/t=14\/t=15\/t=16\/t=17\/t=18\/t=19\/t=20:=by omega
 have hh256:h<256:=by omega
 have hr:h%4=0:=by omega
 have HP:=qq (fun wx=>primTypeC h t wx (by omega) (by omega));clear hh;have hb1:Blk (w.alloc (.cells #[.slice (some ⟨b,o,none⟩) n c,.slice ma mn mc,.slice ko kn kc] 57)) w.heap.size [.slice (some ⟨b,o,none⟩) n c,.slice ma mn mc,.slice ko kn kc]:=Blk.new w _ _;have k1:Keep [] w (w.alloc (.cells #[.slice (some ⟨b,o,none⟩) n c,.slice ma mn mc,.slice ko kn kc] 57)):=(Keep.refl [] w).alloc _;have hc1:=k1.cell_some hc (by simp);have HB:=qq (basicC b o n c h ma ko mn mc kn kc _ hc1 hn hh256);have H1:=qq3 hb1 k1 hc1;clear hb1 k1 hc1 hc
 go_enter Tryz.func62,Tryz.ntmps62
 go_wp2_with fail
 refine HB.out.mono ?_;rintro e w2 ⟨rfl,k2⟩;have hb2:=H1.out.1.keep k2 (by simp);have a0:=hb2.cell (i:=0) rfl;have e0:=k2.cell_some H1.out.2.2 (by simp);have K2:Keep [] w w2:=H1.out.2.1.trans k2 (by simp);rw[hr];clear hb2 k2 HB;have HK:=qq K2;clear K2 H1;rcases hcase with rfl|rfl|rfl|rfl|rfl|rfl|rfl|rfl|rfl|rfl|rfl|rfl|rfl|rfl|rfl|rfl|rfl|rfl|rfl|rfl|rfl
 all_goals
  go_wp2_with fail
  refine(HP.out _).mono ?_;rintro e w3 ⟨rfl,rfl⟩;go_wp2;go_ret;exact⟨rfl,HK.out⟩
theorem typeShortC (b o n c h:Nat) (ma ko:Option Addr) (mn mc kn kc:Nat) (w:World) (hc:w.cell? ⟨b,o,none⟩=some (.int .u8 (h:Int))) (hn:0<n) (hr:h%4=1) (hh:h<256):Calls Tryz.prog 62 #[.agg #[.slice (some ⟨b,o,none⟩) n c,.slice ma mn mc,.slice ko kn kc]] w fun e w'=>e=.returned (.int .i64 8)/\Keep [] w w':=by
 have hh256:h<256:=hh;have hb1:Blk (w.alloc (.cells #[.slice (some ⟨b,o,none⟩) n c,.slice ma mn mc,.slice ko kn kc] 57)) w.heap.size [.slice (some ⟨b,o,none⟩) n c,.slice ma mn mc,.slice ko kn kc]:=Blk.new w _ _;have k1:Keep [] w (w.alloc (.cells #[.slice (some ⟨b,o,none⟩) n c,.slice ma mn mc,.slice ko kn kc] 57)):=(Keep.refl [] w).alloc _;have hc1:=k1.cell_some hc (by simp);have HB:=qq (basicC b o n c h ma ko mn mc kn kc _ hc1 hn hh256);have H1:=qq3 hb1 k1 hc1;clear hb1 k1 hc1 hc
 go_enter Tryz.func62,Tryz.ntmps62
 go_wp2_with fail
 refine HB.out.mono ?_;rintro e w2 ⟨rfl,k2⟩;have hb2:=H1.out.1.keep k2 (by simp);have a0:=hb2.cell (i:=0) rfl;have e0:=k2.cell_some H1.out.2.2 (by simp);have K2:Keep [] w w2:=H1.out.2.1.trans k2 (by simp);rw[hr];clear hb2 k2 HB;have HK:=qq K2;clear K2 H1;go_wp2;go_ret;exact⟨rfl,HK.out⟩
theorem typeObjC (b o n c h:Nat) (ma ko:Option Addr) (mn mc kn kc:Nat) (w:World) (hc:w.cell? ⟨b,o,none⟩=some (.int .u8 (h:Int))) (hn:0<n) (hr:h%4=2) (hh:h<256):Calls Tryz.prog 62 #[.agg #[.slice (some ⟨b,o,none⟩) n c,.slice ma mn mc,.slice ko kn kc]] w fun e w'=>e=.returned (.int .i64 0)/\Keep [] w w':=by
 have hh256:h<256:=hh;have hb1:Blk (w.alloc (.cells #[.slice (some ⟨b,o,none⟩) n c,.slice ma mn mc,.slice ko kn kc] 57)) w.heap.size [.slice (some ⟨b,o,none⟩) n c,.slice ma mn mc,.slice ko kn kc]:=Blk.new w _ _;have k1:Keep [] w (w.alloc (.cells #[.slice (some ⟨b,o,none⟩) n c,.slice ma mn mc,.slice ko kn kc] 57)):=(Keep.refl [] w).alloc _;have hc1:=k1.cell_some hc (by simp);have HB:=qq (basicC b o n c h ma ko mn mc kn kc _ hc1 hn hh256);have H1:=qq3 hb1 k1 hc1;clear hb1 k1 hc1 hc
 go_enter Tryz.func62,Tryz.ntmps62
 go_wp2_with fail
 refine HB.out.mono ?_;rintro e w2 ⟨rfl,k2⟩;have hb2:=H1.out.1.keep k2 (by simp);have a0:=hb2.cell (i:=0) rfl;have e0:=k2.cell_some H1.out.2.2 (by simp);have K2:Keep [] w w2:=H1.out.2.1.trans k2 (by simp);rw[hr];clear hb2 k2 HB;have HK:=qq K2;clear K2 H1;go_wp2;go_ret;exact⟨rfl,HK.out⟩
theorem typeArrC (b o n c h:Nat) (ma ko:Option Addr) (mn mc kn kc:Nat) (w:World) (hc:w.cell? ⟨b,o,none⟩=some (.int .u8 (h:Int))) (hn:0<n) (hr:h%4=3) (hh:h<256):Calls Tryz.prog 62 #[.agg #[.slice (some ⟨b,o,none⟩) n c,.slice ma mn mc,.slice ko kn kc]] w fun e w'=>e=.returned (.int .i64 1)/\Keep [] w w':=by
 have hh256:h<256:=hh;have hb1:Blk (w.alloc (.cells #[.slice (some ⟨b,o,none⟩) n c,.slice ma mn mc,.slice ko kn kc] 57)) w.heap.size [.slice (some ⟨b,o,none⟩) n c,.slice ma mn mc,.slice ko kn kc]:=Blk.new w _ _;have k1:Keep [] w (w.alloc (.cells #[.slice (some ⟨b,o,none⟩) n c,.slice ma mn mc,.slice ko kn kc] 57)):=(Keep.refl [] w).alloc _;have hc1:=k1.cell_some hc (by simp);have HB:=qq (basicC b o n c h ma ko mn mc kn kc _ hc1 hn hh256);have H1:=qq3 hb1 k1 hc1;clear hb1 k1 hc1 hc
 go_enter Tryz.func62,Tryz.ntmps62
 go_wp2_with fail
 refine HB.out.mono ?_;rintro e w2 ⟨rfl,k2⟩;have hb2:=H1.out.1.keep k2 (by simp);have a0:=hb2.cell (i:=0) rfl;have e0:=k2.cell_some H1.out.2.2 (by simp);have K2:Keep [] w w2:=H1.out.2.1.trans k2 (by simp);rw[hr];clear hb2 k2 HB;have HK:=qq K2;clear K2 H1;go_wp2;go_ret;exact⟨rfl,HK.out⟩
end Go.Proofs.YtocgdgmfnockiaaGreatDoor
