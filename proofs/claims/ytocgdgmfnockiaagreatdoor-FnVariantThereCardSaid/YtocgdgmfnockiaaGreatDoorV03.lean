/- Variants: binary.LittleEndian (printed by gen_le.py, as D2). Variants: readLEU32. -/
import Derived.Test.YtocgdgmfnockiaaGreatDoorV02
import Derived.Test.YtocgdgmfnockiaaGreatDoorV01
import Derived.Deep.RegionWith
set_option linter.unusedVariables false
set_option linter.unusedSimpArgs false
set_option maxRecDepth 100000
set_option maxHeartbeats 8000000
namespace Go.Proofs.YtocgdgmfnockiaaGreatDoor
open Go.RowKit
theorem or_join_u16 (i s y:Nat) (hs:s<2^i) (hi:2^i<=65536) (hb:y*2^i<65536):bits .or .u16 (s:Int) ((y:Int)*((2^i:Nat):Int))=((s+y*2^i:Nat):Int):=by
 by_cases hy:y=0
 ·subst hy;have h2:(2:Nat)^i>0:=Nat.two_pow_pos i;have:=u16_or_nat s 0 (by omega) (by omega);simp at this ⊢;exact this
 ·have h2:1*2^i<=y*2^i:=Nat.mul_le_mul_right _ (by omega);rw[<-Int.natCast_mul,u16_or_nat _ _ (by omega) hb,Nat.or_comm,nat_join i _ _ (Nat.mul_mod_left _ _) hs,Nat.add_comm]
theorem or_join_u32 (i s y:Nat) (hs:s<2^i) (hi:2^i<=4294967296) (hb:y*2^i<4294967296):bits .or .u32 (s:Int) ((y:Int)*((2^i:Nat):Int))=((s+y*2^i:Nat):Int):=by
 by_cases hy:y=0
 ·subst hy;have h2:(2:Nat)^i>0:=Nat.two_pow_pos i;have:=u32_or_nat s 0 (by omega) (by omega);simp at this ⊢;exact this
 ·have h2:1*2^i<=y*2^i:=Nat.mul_le_mul_right _ (by omega);rw[<-Int.natCast_mul,u32_or_nat _ _ (by omega) hb,Nat.or_comm,nat_join i _ _ (Nat.mul_mod_left _ _) hs,Nat.add_comm]
theorem or_join_u64 (i s y:Nat) (hs:s<2^i) (hi:2^i<=18446744073709551616) (hb:y*2^i<18446744073709551616):bits .or .u64 (s:Int) ((y:Int)*((2^i:Nat):Int))=((s+y*2^i:Nat):Int):=by
 by_cases hy:y=0
 ·subst hy;have h2:(2:Nat)^i>0:=Nat.two_pow_pos i;have:=u64_or_nat s 0 (by omega) (by omega);simp at this ⊢;exact this
 ·have h2:1*2^i<=y*2^i:=Nat.mul_le_mul_right _ (by omega);rw[<-Int.natCast_mul,u64_or_nat _ _ (by omega) hb,Nat.or_comm,nat_join i _ _ (Nat.mul_mod_left _ _) hs,Nat.add_comm]
theorem uint16C (b o len cap x0 x1:Nat) (cs:List Value) (w:World) (hb:Blk w b cs) (hl:2<=len) (hlen:len<=1099511627776)
  (h0:cs[o]?=some (.int .u8 (x0:Int))) (h1:cs[o+1]?=some (.int .u8 (x1:Int)))
  (l0:x0<256) (l1:x1<256):
  Calls Tryz.prog 150 #[.agg #[],.slice (some ⟨b,o,none⟩) len cap] w fun e w'=>
   e=.returned (.int .u16 ((leVal [x0,x1]:Nat):Int))/\Keep [] w w'/\w'.heap.size=w.heap.size+1:=by
 have c0:=hb.cell h0;have c1:=hb.cell h1;have hlt:=hb.lt;have l2':(1:Int)<(len:Int):=by omega
 obtain⟨s1,e1⟩:∃s,s=x0+x1*256:=⟨_,rfl⟩;have b1:s1<65536:=by omega
 have q1:bits .or .u16 (x0:Int) ((x1:Int)*256)=(s1:Int):=by rw[e1];exact or_join_u16 8 _ _ (by omega) (by omega) (by omega)
 have HS:Hid (s1=leVal [x0,x1]):=qq (by simp only[leVal];omega);clear hb h0 h1 e1
 go_enter Tryz.func150,Tryz.ntmps150
 go_wp2_with fail
 go_quiet (fail)
 go_wp2;go_ret;refine⟨?_,((Keep.refl [] w).alloc _).drewN nq,by simp⟩;rw[<-HS.out];rfl
theorem uint32C (b o len cap x0 x1 x2 x3:Nat) (cs:List Value) (w:World) (hb:Blk w b cs) (hl:4<=len) (hlen:len<=1099511627776)
  (h0:cs[o]?=some (.int .u8 (x0:Int))) (h1:cs[o+1]?=some (.int .u8 (x1:Int))) (h2:cs[o+2]?=some (.int .u8 (x2:Int))) (h3:cs[o+3]?=some (.int .u8 (x3:Int)))
  (l0:x0<256) (l1:x1<256) (l2:x2<256) (l3:x3<256):
  Calls Tryz.prog 119 #[.agg #[],.slice (some ⟨b,o,none⟩) len cap] w fun e w'=>
   e=.returned (.int .u32 ((leVal [x0,x1,x2,x3]:Nat):Int))/\Keep [] w w'/\w'.heap.size=w.heap.size+1:=by
 have c0:=hb.cell h0;have c1:=hb.cell h1;have c2:=hb.cell h2;have c3:=hb.cell h3;have hlt:=hb.lt;have l4':(3:Int)<(len:Int):=by omega
 obtain⟨s1,e1⟩:∃s,s=x0+x1*256:=⟨_,rfl⟩;have b1:s1<65536:=by omega
 have q1:bits .or .u32 (x0:Int) ((x1:Int)*256)=(s1:Int):=by rw[e1];exact or_join_u32 8 _ _ (by omega) (by omega) (by omega)
 obtain⟨s2,e2⟩:∃s,s=s1+x2*65536:=⟨_,rfl⟩;have b2:s2<16777216:=by omega
 have q2:bits .or .u32 (s1:Int) ((x2:Int)*65536)=(s2:Int):=by rw[e2];exact or_join_u32 16 _ _ (by omega) (by omega) (by omega)
 obtain⟨s3,e3⟩:∃s,s=s2+x3*16777216:=⟨_,rfl⟩;have b3:s3<4294967296:=by omega
 have q3:bits .or .u32 (s2:Int) ((x3:Int)*16777216)=(s3:Int):=by rw[e3];exact or_join_u32 24 _ _ (by omega) (by omega) (by omega)
 have HS:Hid (s3=leVal [x0,x1,x2,x3]):=qq (by simp only[leVal];omega);clear hb h0 h1 h2 h3 e1 e2 e3
 go_enter Tryz.func119,Tryz.ntmps119
 go_wp2_with fail
 go_quiet (fail)
 go_wp2;go_ret;refine⟨?_,((Keep.refl [] w).alloc _).drewN nq,by simp⟩;rw[<-HS.out];rfl
theorem uint64C (b o len cap x0 x1 x2 x3 x4 x5 x6 x7:Nat) (cs:List Value) (w:World) (hb:Blk w b cs) (hl:8<=len) (hlen:len<=1099511627776)
  (h0:cs[o]?=some (.int .u8 (x0:Int))) (h1:cs[o+1]?=some (.int .u8 (x1:Int))) (h2:cs[o+2]?=some (.int .u8 (x2:Int))) (h3:cs[o+3]?=some (.int .u8 (x3:Int))) (h4:cs[o+4]?=some (.int .u8 (x4:Int))) (h5:cs[o+5]?=some (.int .u8 (x5:Int))) (h6:cs[o+6]?=some (.int .u8 (x6:Int))) (h7:cs[o+7]?=some (.int .u8 (x7:Int)))
  (l0:x0<256) (l1:x1<256) (l2:x2<256) (l3:x3<256) (l4:x4<256) (l5:x5<256) (l6:x6<256) (l7:x7<256):
  Calls Tryz.prog 151 #[.agg #[],.slice (some ⟨b,o,none⟩) len cap] w fun e w'=>
   e=.returned (.int .u64 ((leVal [x0,x1,x2,x3,x4,x5,x6,x7]:Nat):Int))/\Keep [] w w'/\w'.heap.size=w.heap.size+1:=by
 have c0:=hb.cell h0;have c1:=hb.cell h1;have c2:=hb.cell h2;have c3:=hb.cell h3;have c4:=hb.cell h4;have c5:=hb.cell h5;have c6:=hb.cell h6;have c7:=hb.cell h7;have hlt:=hb.lt;have l8':(7:Int)<(len:Int):=by omega
 obtain⟨s1,e1⟩:∃s,s=x0+x1*256:=⟨_,rfl⟩;have b1:s1<65536:=by omega
 have q1:bits .or .u64 (x0:Int) ((x1:Int)*256)=(s1:Int):=by rw[e1];exact or_join_u64 8 _ _ (by omega) (by omega) (by omega)
 obtain⟨s2,e2⟩:∃s,s=s1+x2*65536:=⟨_,rfl⟩;have b2:s2<16777216:=by omega
 have q2:bits .or .u64 (s1:Int) ((x2:Int)*65536)=(s2:Int):=by rw[e2];exact or_join_u64 16 _ _ (by omega) (by omega) (by omega)
 obtain⟨s3,e3⟩:∃s,s=s2+x3*16777216:=⟨_,rfl⟩;have b3:s3<4294967296:=by omega
 have q3:bits .or .u64 (s2:Int) ((x3:Int)*16777216)=(s3:Int):=by rw[e3];exact or_join_u64 24 _ _ (by omega) (by omega) (by omega)
 obtain⟨s4,e4⟩:∃s,s=s3+x4*4294967296:=⟨_,rfl⟩;have b4:s4<1099511627776:=by omega
 have q4:bits .or .u64 (s3:Int) ((x4:Int)*4294967296)=(s4:Int):=by rw[e4];exact or_join_u64 32 _ _ (by omega) (by omega) (by omega)
 obtain⟨s5,e5⟩:∃s,s=s4+x5*1099511627776:=⟨_,rfl⟩;have b5:s5<281474976710656:=by omega
 have q5:bits .or .u64 (s4:Int) ((x5:Int)*1099511627776)=(s5:Int):=by rw[e5];exact or_join_u64 40 _ _ (by omega) (by omega) (by omega)
 obtain⟨s6,e6⟩:∃s,s=s5+x6*281474976710656:=⟨_,rfl⟩;have b6:s6<72057594037927936:=by omega
 have q6:bits .or .u64 (s5:Int) ((x6:Int)*281474976710656)=(s6:Int):=by rw[e6];exact or_join_u64 48 _ _ (by omega) (by omega) (by omega)
 obtain⟨s7,e7⟩:∃s,s=s6+x7*72057594037927936:=⟨_,rfl⟩;have b7:s7<18446744073709551616:=by omega
 have q7:bits .or .u64 (s6:Int) ((x7:Int)*72057594037927936)=(s7:Int):=by rw[e7];exact or_join_u64 56 _ _ (by omega) (by omega) (by omega)
 have HS:Hid (s7=leVal [x0,x1,x2,x3,x4,x5,x6,x7]):=qq (by simp only[leVal];omega);clear hb h0 h1 h2 h3 h4 h5 h6 h7 e1 e2 e3 e4 e5 e6 e7
 go_enter Tryz.func151,Tryz.ntmps151
 go_wp2_with fail
 go_quiet (fail)
 go_wp2;go_ret;refine⟨?_,((Keep.refl [] w).alloc _).drewN nq,by simp⟩;rw[<-HS.out];rfl
theorem le_run (w:World):(loadVar 191 ⟨1,0,none⟩).run Tryz.prog w=.ok (.agg #[]) w:=by kernel_rfl
theorem leVal_pad:∀(R:List Nat) (k:Nat),leVal (R++List.replicate k 0)=leVal R
 |[],0=>rfl
 |[],k+1=>by
  have h0:leVal (List.replicate k 0)=0:=leVal_pad [] k;simp[leVal,List.replicate_succ,h0]
 |b::R,k=>by simp only[List.cons_append,leVal,leVal_pad R k]
theorem four_of:∀(l:List Nat),l.length=4->∃y0 y1 y2 y3,l=[y0,y1,y2,y3]
 |[a,b,c,d],_=>⟨a,b,c,d,rfl⟩
theorem readLEU32C (b o n cap:Nat) (cs:List Value) (D:List Nat) (w:World) (hb:Blk w b cs) (hD:(cs.drop o).take n=rowV .u8 D) (hl:D.length=n) (hby:∀y ∈ D,y<256) (h1:∀v ∈ cs,v.oneCell'=true) (hon:o+n<=cs.length) (hn1:1<=n) (hn4:n<=4):
  Calls Tryz.prog 121 #[.slice (some ⟨b,o,none⟩) n cap] w fun e w'=>e=.returned (.int .u32 ((leVal D:Nat):Int))/\Keep [] w w':=by
 have hle:=le_run;have H:=qq5 hb hD hl hby h1;clear hb hD hl hby h1
 go_enter Tryz.func121,Tryz.ntmps121
 go_wp2_with fail
 refine(assertC _ _ _).mono ?_;rintro e w' ⟨rfl,rfl⟩;go_wp2_with fail
 refine(assertC _ _ _).mono ?_;rintro e w' ⟨rfl,rfl⟩;have hb1:=H.out.1.alloc (Obj.cells #[Value.int IntKind.u8 0,Value.int IntKind.u8 0,Value.int IntKind.u8 0,Value.int IntKind.u8 0] 247);have hg1:Blk (w.alloc (Obj.cells #[Value.int IntKind.u8 0,Value.int IntKind.u8 0,Value.int IntKind.u8 0,Value.int IntKind.u8 0] 247)) w.heap.size (rowV .u8 (List.replicate 4 0)):=Blk.of_new (cs:=[Value.int IntKind.u8 0,Value.int IntKind.u8 0,Value.int IntKind.u8 0,Value.int IntKind.u8 0]) rfl;have hcp:=fun ty=>run_copy_blk (P:=Tryz.prog) hg1 hb1 30 30 ty 5 0 o 4 4 n cap Tryz.underlying30 (by kernel_rfl) n (by show n=min n 4;omega) (by simp;omega) hon H.out.2.2.2.2;rw[H.out.2.1]at hcp;have hg2:=hg1.setCells (o:=0) (vs:=rowV .u8 D) (by simp[H.out.2.2.1];omega);have e2:splice (rowV .u8 (List.replicate 4 0)) 0 (rowV .u8 D)=rowV .u8 (D++List.replicate (4-n) 0):=by
  unfold splice;rw[List.take_zero,List.nil_append,rowV_append,Nat.zero_add,length_rowV,H.out.2.2.1,<-rowV_drop,List.drop_replicate]
 rw[e2]at hg2;obtain⟨w2,hw2⟩:∃w2,w2=(w.alloc (Obj.cells #[Value.int IntKind.u8 0,Value.int IntKind.u8 0,Value.int IntKind.u8 0,Value.int IntKind.u8 0] 247)).setCells w.heap.size 0 (rowV .u8 D):=⟨_,rfl⟩;rw[<-hw2]at hg2 hcp;have K2:Keep [] w w2:=by rw[hw2];exact Keep.setCells (by simp) ((Keep.refl [] w).alloc _)
 have hpl:(D++List.replicate (4-n) 0).length=4:=by simp[H.out.2.2.1];omega
 have hpb:∀y ∈ D++List.replicate (4-n) 0,y<256:=fun y hy=>by
  rw[List.mem_append,List.mem_replicate]at hy;rcases hy with hy|⟨_,rfl⟩
  ·exact H.out.2.2.2.1 y hy
  ·omega
 have hlv:=leVal_pad D (4-n);obtain⟨y0,y1,y2,y3,hy⟩:∃y0 y1 y2 y3,D++List.replicate (4-n) 0=[y0,y1,y2,y3]:=four_of _ hpl;rw[hy]at hg2 hpb hlv;have hU:=uint32C w.heap.size 0 4 4 y0 y1 y2 y3 (rowV .u8 [y0,y1,y2,y3]) w2.drew hg2.drew (by omega) (by omega) rfl rfl rfl rfl (hpb y0 (by simp)) (hpb y1 (by simp)) (hpb y2 (by simp)) (hpb y3 (by simp));have HU:=qq3 hU hlv K2;clear hU hlv K2 hy hpl hpb hw2 hg2 e2 hg1 hb1;go_wp2_with fail
 refine wp_region_mid 2 (by kernel_rfl) (by kernel_rfl) ?_;simp only[List.take_succ_cons,List.take_zero,List.drop_succ_cons,List.drop_zero];change wpStill _ _ (World.drew _) _ _ _;repeat still_step
 refine wpStill_nil ?_;go_wp2_with fail
 refine HU.out.1.mono ?_;rintro e w5 ⟨rfl,k5,-⟩;have K5:Keep [] w w5:=HU.out.2.2.drew.trans k5 (by simp);rw[HU.out.2.1];clear k5;go_wp2_with fail
 repeat still_step
 refine wpStill_nil ?_;go_wp2;go_ret;exact⟨rfl,K5⟩
end Go.Proofs.YtocgdgmfnockiaaGreatDoor
