/- Variants read: Value.Value of objects and arrays. Variants read: Value.Value of arrays. Variants back: arrays and objects. Variants back: whatever variant. -/
import Derived.Test.YtocgdgmfnockiaaGreatDoorV17
import Derived.Test.YtocgdgmfnockiaaGreatDoorV16
import Derived.Test.YtocgdgmfnockiaaGreatDoorV47
import Derived.Test.YtocgdgmfnockiaaGreatDoorV44
import Derived.Test.YtocgdgmfnockiaaGreatDoorV43
import Derived.Test.YtocgdgmfnockiaaGreatDoorV34
set_option linter.unusedVariables false
set_option linter.unusedSimpArgs false
set_option maxRecDepth 100000
set_option maxHeartbeats 8000000
namespace Go.Proofs.YtocgdgmfnockiaaGreatDoor
open Go.RowKit
theorem basicR (b o n c h r:Nat) (ma ko:Option Addr) (mn mc kn kc:Nat) (w:World) (hc:w.cell? ⟨b,o,none⟩=some (.int .u8 (h:Int))) (hn:0<n) (hh:h<256) (hr:h%4=r):Calls Tryz.prog 111 #[.agg #[.slice (some ⟨b,o,none⟩) n c,.slice ma mn mc,.slice ko kn kc]] w fun e w'=>e=.returned (.int .i64 (r:Int))/\Keep [] w w':=by
 subst hr;exact basicC b o n c h ma ko mn mc kn kc w hc hn hh
theorem assertD {p:Prop} {hd:Decidable p} (hp:p) (v:Value) (w:World):Calls Tryz.prog 105 #[.bool (@decide p hd),v] w fun e w'=>e=.returned (.tuple #[])/\w=w':=by
 rw[decide_eq_true hp];exact assertC _ _ _
theorem retObj {v m1 m2:Value} {k z z' y y' x x':Int} (hz:z=z') (hy:y=y') (hx:x=x'):Ending.returned (.iface 143 (.agg #[v,m1,m2,.int .u32 k,.int .u64 z,.int .u64 y,.int .u8 1,.int .u8 x,.int .u64 2]))=Ending.returned (.iface 143 (.agg #[v,m1,m2,.int .u32 k,.int .u64 z',.int .u64 y',.int .u8 1,.int .u8 x',.int .u64 2])):=by
 rw[hz,hy,hx]
theorem retArr {v m1 m2:Value} {k z z' y y' x x':Int} (hz:z=z') (hy:y=y') (hx:x=x'):Ending.returned (.iface 140 (.agg #[v,m1,m2,.int .u32 k,.int .u64 z,.int .u8 x,.int .u64 y]))=Ending.returned (.iface 140 (.agg #[v,m1,m2,.int .u32 k,.int .u64 z',.int .u8 x',.int .u64 y'])):=by
 rw[hz,hy,hx]
theorem valObj (b o n c h s k q:Nat) (ma ko:Option Addr) (mn mc kn kc:Nat) (w:World) (hc:w.cell? ⟨b,o,none⟩=some (.int .u8 (h:Int))) (hh:h=2+4*s) (hs:s<=3) (hB1:Byt w b (o+1) (leBytes 1 k)) (hk:k<=255) (hq:q=2+k+(k+1)*(s+1)) (hn:q<=n) (hn9:n<=1000000000) (hnc:n<=c):
  Calls Tryz.prog 63 #[.agg #[.slice (some ⟨b,o,none⟩) n c,.slice ma mn mc,.slice ko kn kc]] w fun e w'=>e=.returned (.iface 143 (.agg #[.slice (some ⟨b,o,none⟩) n c,.slice ma mn mc,.slice ko kn kc,.int .u32 (k:Int),.int .u64 ((2+k:Nat):Int),.int .u64 (q:Int),.int .u8 1,.int .u8 ((s+1:Nat):Int),.int .u64 2]))/\Keep [] w w':=by
 have hh256:h<256:=by omega
 have hr:h%4=2:=by omega
 have hn0:0<n:=by omega
 have hc2:(2:Int)<=(c:Int):=by omega
 have hc2':2<=c:=by omega
 have hc1':¬c=1:=by omega
 have HU:=qq (fun(wx:World) (kk:Keep [] w wx)=>readLe b (o+1) 1 (c-1) k wx (hB1.keep kk (by simp)) (by omega) (by omega) (by omega));have Hq:=qq3 hq hn hnc;have hcase:s=0\/s=1\/s=2\/s=3:=by omega
 clear hB1 hs;have bt0_3:bits .and .u8 0 3=0:=by decide
 have bt1_3:bits .and .u8 1 3=1:=by decide
 have bt2_3:bits .and .u8 2 3=2:=by decide
 have bt3_3:bits .and .u8 3 3=3:=by decide
 have bt4_3:bits .and .u8 4 3=0:=by decide
 have bt5_3:bits .and .u8 5 3=1:=by decide
 have bt6_3:bits .and .u8 6 3=2:=by decide
 have bt7_3:bits .and .u8 7 3=3:=by decide
 have bt10_3:bits .and .u8 10 3=2:=by decide
 have bt14_3:bits .and .u8 14 3=2:=by decide
 have bt11_3:bits .and .u8 11 3=3:=by decide
 have bt15_3:bits .and .u8 15 3=3:=by decide
 have bt19_3:bits .and .u8 19 3=3:=by decide
 have bt23_3:bits .and .u8 23 3=3:=by decide
 have bt27_3:bits .and .u8 27 3=3:=by decide
 have bt31_3:bits .and .u8 31 3=3:=by decide
 have bt0_1:bits .and .u8 0 1=0:=by decide
 have bt1_1:bits .and .u8 1 1=1:=by decide
 have bt2_1:bits .and .u8 2 1=0:=by decide
 have bt3_1:bits .and .u8 3 1=1:=by decide
 have bt0_63:bits .and .u8 0 63=0:=by decide
 have bt1_63:bits .and .u8 1 63=1:=by decide
 have bt2_63:bits .and .u8 2 63=2:=by decide
 have bt3_63:bits .and .u8 3 63=3:=by decide
 have bt4_63:bits .and .u8 4 63=4:=by decide
 have bt5_63:bits .and .u8 5 63=5:=by decide
 have bt6_63:bits .and .u8 6 63=6:=by decide
 have bt7_63:bits .and .u8 7 63=7:=by decide
 rcases hcase with rfl|rfl|rfl|rfl
 all_goals
  simp only[Nat.reduceMul,Nat.reduceAdd]at hh;subst hh;have hq:=Hq.out.1;have hn:=Hq.out.2.1;have hb1:Blk (w.alloc (.cells #[.slice (some ⟨b,o,none⟩) n c,.slice ma mn mc,.slice ko kn kc] 57)) w.heap.size [.slice (some ⟨b,o,none⟩) n c,.slice ma mn mc,.slice ko kn kc]:=Blk.new w _ _;have k1:Keep [] w (w.alloc (.cells #[.slice (some ⟨b,o,none⟩) n c,.slice ma mn mc,.slice ko kn kc] 57)):=(Keep.refl [] w).alloc _;have hc1:=k1.cell_some hc (by simp);have HB:=qq (basicR b o n c _ 2 ma ko mn mc kn kc _ hc1 hn0 hh256 hr);have H1:=qq3 hb1 k1 hc1;clear hb1 k1 hc1 hc
  go_enter Tryz.func63,Tryz.ntmps63
  go_wp2_with fail
  refine HB.out.mono ?_;rintro e w2 ⟨rfl,k2⟩;have hb2:=H1.out.1.keep k2 (by simp);obtain⟨a0,a1,a2⟩:=hb2.c3 0 1 2 rfl rfl rfl;have e0:=k2.cell_some H1.out.2.2 (by simp);have K2:Keep [] w w2:=H1.out.2.1.trans k2 (by simp);have HK:=qq2 K2 hb2;clear hb2 k2 HB K2;go_wp2_with fail
  refine(assertD (by omega) _ _).mono ?_;rintro e w' ⟨rfl,rfl⟩;go_wp2_with fail
  refine(HU.out _ HK.out.1).mono ?_;rintro e w4 ⟨rfl,k4⟩;have K4:Keep [] w w4:=HK.out.1.trans k4 (by simp);have HK4:=qq K4;have b0:=k4.cell_some a0 (by simp);have b1:=k4.cell_some a1 (by simp);have b2:=k4.cell_some a2 (by simp);clear k4 K4;go_wp2_with fail
  refine(assertD (by omega) _ _).mono ?_;rintro e w' ⟨rfl,rfl⟩;go_wp2;go_ret;have hqq:=Hq.out.1;exact⟨retObj (by omega) (by omega) (by omega),HK4.out⟩
theorem valArr (b o n c h s k l q:Nat) (ma ko:Option Addr) (mn mc kn kc:Nat) (w:World) (hc:w.cell? ⟨b,o,none⟩=some (.int .u8 (h:Int))) (hl:l=if 255<k then 4 else 1) (hh:h=3+4*s+(if 255<k then 16 else 0)) (hs:s<=3) (hB1:Byt w b (o+1) (leBytes l k)) (hk:k<=1000000) (hq:q=1+l+(k+1)*(s+1)) (hn:q<=n) (hn9:n<=1000000000) (hnc:n<=c):
  Calls Tryz.prog 63 #[.agg #[.slice (some ⟨b,o,none⟩) n c,.slice ma mn mc,.slice ko kn kc]] w fun e w'=>e=.returned (.iface 140 (.agg #[.slice (some ⟨b,o,none⟩) n c,.slice ma mn mc,.slice ko kn kc,.int .u32 (k:Int),.int .u64 (q:Int),.int .u8 ((s+1:Nat):Int),.int .u64 ((1+l:Nat):Int)]))/\Keep [] w w':=by
 have hl1:l=1/\h=3+4*s/\k<=255\/l=4/\h=3+4*s+16:=by
  by_cases h2:255<k
  ·rw[if_pos h2]at hl hh;exact .inr ⟨hl,hh⟩
  ·rw[if_neg h2]at hl hh;exact .inl ⟨hl,hh,by omega⟩
 clear hl hh;have hh256:h<256:=by omega
 have hr:h%4=3:=by omega
 have hn0:0<n:=by omega
 have hn1:1<n:=by omega
 have hc1':¬c=1:=by omega
 have Hq:=qq3 hq hn hnc;have hcase:s=0\/s=1\/s=2\/s=3:=by omega
 clear hs;have bt0_3:bits .and .u8 0 3=0:=by decide
 have bt1_3:bits .and .u8 1 3=1:=by decide
 have bt2_3:bits .and .u8 2 3=2:=by decide
 have bt3_3:bits .and .u8 3 3=3:=by decide
 have bt4_3:bits .and .u8 4 3=0:=by decide
 have bt5_3:bits .and .u8 5 3=1:=by decide
 have bt6_3:bits .and .u8 6 3=2:=by decide
 have bt7_3:bits .and .u8 7 3=3:=by decide
 have bt10_3:bits .and .u8 10 3=2:=by decide
 have bt14_3:bits .and .u8 14 3=2:=by decide
 have bt11_3:bits .and .u8 11 3=3:=by decide
 have bt15_3:bits .and .u8 15 3=3:=by decide
 have bt19_3:bits .and .u8 19 3=3:=by decide
 have bt23_3:bits .and .u8 23 3=3:=by decide
 have bt27_3:bits .and .u8 27 3=3:=by decide
 have bt31_3:bits .and .u8 31 3=3:=by decide
 have bt0_1:bits .and .u8 0 1=0:=by decide
 have bt1_1:bits .and .u8 1 1=1:=by decide
 have bt2_1:bits .and .u8 2 1=0:=by decide
 have bt3_1:bits .and .u8 3 1=1:=by decide
 have bt0_63:bits .and .u8 0 63=0:=by decide
 have bt1_63:bits .and .u8 1 63=1:=by decide
 have bt2_63:bits .and .u8 2 63=2:=by decide
 have bt3_63:bits .and .u8 3 63=3:=by decide
 have bt4_63:bits .and .u8 4 63=4:=by decide
 have bt5_63:bits .and .u8 5 63=5:=by decide
 have bt6_63:bits .and .u8 6 63=6:=by decide
 have bt7_63:bits .and .u8 7 63=7:=by decide
 rcases hl1 with⟨rfl,hh,hk255⟩|⟨rfl,hh⟩
 ·have hx:k%256=k:=by omega
  have hcx:=hB1 0 _ rfl;rw[Nat.add_zero,hx]at hcx;have HX:=qq hcx;clear hB1 hcx hx;rcases hcase with rfl|rfl|rfl|rfl
  all_goals
   simp only[Nat.reduceMul,Nat.reduceAdd]at hh;subst hh;have hb1:Blk (w.alloc (.cells #[.slice (some ⟨b,o,none⟩) n c,.slice ma mn mc,.slice ko kn kc] 57)) w.heap.size [.slice (some ⟨b,o,none⟩) n c,.slice ma mn mc,.slice ko kn kc]:=Blk.new w _ _;have k1:Keep [] w (w.alloc (.cells #[.slice (some ⟨b,o,none⟩) n c,.slice ma mn mc,.slice ko kn kc] 57)):=(Keep.refl [] w).alloc _;have hc1:=k1.cell_some hc (by simp);have HB:=qq (basicR b o n c _ 3 ma ko mn mc kn kc _ hc1 hn0 hh256 hr);have H1:=qq3 hb1 k1 hc1;clear hb1 k1 hc1 hc
   go_enter Tryz.func63,Tryz.ntmps63
   go_wp2_with fail
   refine HB.out.mono ?_;rintro e w2 ⟨rfl,k2⟩;have hb2:=H1.out.1.keep k2 (by simp);obtain⟨a0,a1,a2⟩:=hb2.c3 0 1 2 rfl rfl rfl;have e0:=k2.cell_some H1.out.2.2 (by simp);have K2:Keep [] w w2:=H1.out.2.1.trans k2 (by simp);have HK:=qq2 K2 hb2;clear hb2 k2 HB K2;have hx2:=HK.out.1.cell_some HX.out (by simp);have hn':=Hq.out;go_wp2_with fail
   refine(assertD (by omega) _ _).mono ?_;rintro e w' ⟨rfl,rfl⟩;go_wp2;go_ret;have hqq:=Hq.out.1;exact⟨retArr (by omega) (by omega) (by omega),HK.out.1⟩
 ·have hc5:(5:Int)<=(c:Int):=by omega
  have hc5':5<=c:=by omega
  have HU:=qq (fun(wx:World) (kk:Keep [] w wx)=>readLe b (o+1) 4 (c-1) k wx (hB1.keep kk (by simp)) (by omega) (by omega) (by omega));clear hB1;rcases hcase with rfl|rfl|rfl|rfl
  all_goals
   simp only[Nat.reduceMul,Nat.reduceAdd]at hh;subst hh;have hb1:Blk (w.alloc (.cells #[.slice (some ⟨b,o,none⟩) n c,.slice ma mn mc,.slice ko kn kc] 57)) w.heap.size [.slice (some ⟨b,o,none⟩) n c,.slice ma mn mc,.slice ko kn kc]:=Blk.new w _ _;have k1:Keep [] w (w.alloc (.cells #[.slice (some ⟨b,o,none⟩) n c,.slice ma mn mc,.slice ko kn kc] 57)):=(Keep.refl [] w).alloc _;have hc1:=k1.cell_some hc (by simp);have HB:=qq (basicR b o n c _ 3 ma ko mn mc kn kc _ hc1 hn0 hh256 hr);have H1:=qq3 hb1 k1 hc1;clear hb1 k1 hc1 hc
   go_enter Tryz.func63,Tryz.ntmps63
   go_wp2_with fail
   refine HB.out.mono ?_;rintro e w2 ⟨rfl,k2⟩;have hb2:=H1.out.1.keep k2 (by simp);obtain⟨a0,a1,a2⟩:=hb2.c3 0 1 2 rfl rfl rfl;have e0:=k2.cell_some H1.out.2.2 (by simp);have K2:Keep [] w w2:=H1.out.2.1.trans k2 (by simp);have HK:=qq2 K2 hb2;clear hb2 k2 HB K2;go_wp2_with fail
   refine(HU.out _ HK.out.1).mono ?_;rintro e w4 ⟨rfl,k4⟩;have K4:Keep [] w w4:=HK.out.1.trans k4 (by simp);have HK4:=qq K4;have b0:=k4.cell_some a0 (by simp);have b1:=k4.cell_some a1 (by simp);have b2:=k4.cell_some a2 (by simp);clear k4 K4;have hn':=Hq.out;go_wp2_with fail
   refine(assertD (by omega) _ _).mono ?_;rintro e w' ⟨rfl,rfl⟩;go_wp2;go_ret;have hqq:=Hq.out.1;exact⟨retArr (by omega) (by omega) (by omega),HK4.out⟩
theorem KidsIn.done {d a b:Nat} {w w6 w7 w9:World} {v:Value} {l:List (Vt d)} (h:KidsIn (fun p=>w6.heap.size<=p) (VtIn (fun p=>w6.heap.size<=p) d w7) w7 v l) (k:Keep [a,b] w7 w9) (ha:a<w6.heap.size) (hb:b<w6.heap.size) (hw:w.heap.size<=w6.heap.size):KidsIn (fun p=>w.heap.size<=p) (VtIn (fun p=>w.heap.size<=p) d w9) w9 v l:=
 h.keep k (fun p hp hm=>by simp at hm;omega) (fun p hp _=>by omega) (fun u x hx=>hx.keep d k (fun p hp hm=>by simp at hm;omega) (fun p hp _=>by omega))
theorem TextsIn.done {a b:Nat} {w w6 w7 w9:World} {v:Value} {l:List ByteArray} (h:TextsIn (fun p=>w6.heap.size<=p) w7 v l) (k:Keep [a,b] w7 w9) (ha:a<w6.heap.size) (hb:b<w6.heap.size) (hw:w.heap.size<=w6.heap.size):TextsIn (fun p=>w.heap.size<=p) w9 v l:=
 h.keep k (fun p hp hm=>by simp at hm;omega) (fun p hp _=>by omega)
theorem backArr (d:Nat) (cs:List (Vt d)) (how:Int) (b o n c h k y0 q0 sz:Nat) (ma ko:Option Addr) (mn mc kn kc:Nat) (w:World) (hc:w.cell? ⟨b,o,none⟩=some (.int .u8 (h:Int))) (hn0:0<n) (hr:h%4=3) (hh:h<256)
  (hval:∀wx,Keep [] w wx->Calls Tryz.prog 63 #[.agg #[.slice (some ⟨b,o,none⟩) n c,.slice ma mn mc,.slice ko kn kc]] wx fun e w'=>e=.returned (.iface 140 (.agg #[.slice (some ⟨b,o,none⟩) n c,.slice ma mn mc,.slice ko kn kc,.int .u32 (k:Int),.int .u64 (q0:Int),.int .u8 (sz:Int),.int .u64 (y0:Int)]))/\Keep [] wx w')
  (hel:∀wx,Keep [] w wx->Calls Tryz.prog 70 #[.agg #[.slice (some ⟨b,o,none⟩) n c,.slice ma mn mc,.slice ko kn kc,.int .u32 (k:Int),.int .u64 (q0:Int),.int .u8 (sz:Int),.int .u64 (y0:Int)],.int .i64 how] wx fun e w'=>ElPost d cs wx e w'):
  Calls Tryz.prog 26 #[.agg #[.slice (some ⟨b,o,none⟩) n c,.slice ma mn mc,.slice ko kn kc],.int .i64 how] w fun e w'=>∃ov,e=.returned (.agg #[.int .i64 1,.int .u64 0,.int .i64 0,.string ⟨#[]⟩,.slice none 0 0,ov])/\Keep [] w w'/\KidsIn (fun p=>w.heap.size<=p) (VtIn (fun p=>w.heap.size<=p) d w') w' ov (cs.map (lwV d)):=by
 have HT:=qq (fun(wx:World) (kx:Keep [] w wx)=>typeArrC b o n c h ma ko mn mc kn kc wx (kx.cell_some hc (by simp)) hn0 hr hh);have HV:=qq hval;have HE:=qq hel;obtain⟨ty,hty⟩:∃ty:Int,ty=1:=⟨_,rfl⟩;rw[<-hty]at HT;have Hty:=qq hty;clear hty hc hval hel;obtain⟨w3,hw3⟩:∃w3,w3=(w.alloc (.cells #[.slice (some ⟨b,o,none⟩) n c,.slice ma mn mc,.slice ko kn kc] 57)).alloc (.cells #[.int .i64 0,.int .u64 0,.int .i64 0,.string ⟨#[]⟩,.slice none 0 0,.slice none 0 0] 26):=⟨_,rfl⟩;have K3:Keep [] w w3:=by rw[hw3];exact((Keep.refl [] w).alloc _).alloc _
 have hb3:Blk w3 w.heap.size [.slice (some ⟨b,o,none⟩) n c,.slice ma mn mc,.slice ko kn kc]:=by rw[hw3];exact(Blk.new w _ _).alloc _
 have hr3:Blk w3 (w.heap.size+1) [.int .i64 0,.int .u64 0,.int .i64 0,.string ⟨#[]⟩,.slice none 0 0,.slice none 0 0]:=by rw[hw3];exact Blk.of_new (cs:=[.int .i64 0,.int .u64 0,.int .i64 0,.string ⟨#[]⟩,.slice none 0 0,.slice none 0 0]) (by simp)
 have H3:=qq3 K3 hb3 hr3;have Hw3:=qq hw3;clear K3 hb3 hr3 hw3
 go_enter Tryz.func26,Tryz.ntmps26
 go_wp2_with fail
 rw[<-Hw3.out];refine(HT.out _ H3.out.1).mono ?_;rintro e w4 ⟨rfl,k4⟩;have hb4:=H3.out.2.1.keep k4 (by simp);have hr4:=H3.out.2.2.keep k4 (by simp);have hb5:=hb4.alloc (.cells #[.int .i64 ty,.int .u64 0,.int .i64 0,.string ⟨#[]⟩,.slice none 0 0,.slice none 0 0] 26);have hr5:=hr4.alloc (.cells #[.int .i64 ty,.int .u64 0,.int .i64 0,.string ⟨#[]⟩,.slice none 0 0,.slice none 0 0] 26);have ho5:=Blk.new w4 [.int .i64 ty,.int .u64 0,.int .i64 0,.string ⟨#[]⟩,.slice none 0 0,.slice none 0 0] 26;have K5:=(H3.out.1.trans k4 (by simp)).alloc (.cells #[.int .i64 ty,.int .u64 0,.int .i64 0,.string ⟨#[]⟩,.slice none 0 0,.slice none 0 0] 26);obtain⟨a0,a1,a2⟩:=hb5.c3 0 1 2 rfl rfl rfl;have hab:w.heap.size+1<w4.heap.size:=hr4.lt;have H5:=qq3 K5 hr5 ho5;clear hb4 hr4 k4 hb5 hr5 ho5 K5;go_wp2_with fail
 generalize w4.alloc (.cells #[.int .i64 ty,.int .u64 0,.int .i64 0,.string ⟨#[]⟩,.slice none 0 0,.slice none 0 0] 26)=w5 at H5 a0 a1 a2 ⊢;generalize w4.heap.size=ob at H5 hab ⊢;refine(HV.out _ H5.out.1).mono ?_;rintro e w6 ⟨rfl,k6⟩;have K6:=H5.out.1.trans k6 (by simp);have hr6:=H5.out.2.1.keep k6 (by simp);have ho6:=H5.out.2.2.keep k6 (by simp);obtain⟨w6a,hw6⟩:∃w6a,w6a=w6.alloc (.cells #[.slice (some ⟨b,o,none⟩) n c,.slice ma mn mc,.slice ko kn kc,.int .u32 (k:Int),.int .u64 (q0:Int),.int .u8 (sz:Int),.int .u64 (y0:Int)] 140):=⟨_,rfl⟩;have K6a:Keep [] w w6a:=by rw[hw6];exact K6.alloc _
 have hr6a:=hr6.alloc (.cells #[.slice (some ⟨b,o,none⟩) n c,.slice ma mn mc,.slice ko kn kc,.int .u32 (k:Int),.int .u64 (q0:Int),.int .u8 (sz:Int),.int .u64 (y0:Int)] 140);have ho6a:=ho6.alloc (.cells #[.slice (some ⟨b,o,none⟩) n c,.slice ma mn mc,.slice ko kn kc,.int .u32 (k:Int),.int .u64 (q0:Int),.int .u8 (sz:Int),.int .u64 (y0:Int)] 140);rw[<-hw6]at hr6a ho6a;have HA6:=qq5 K6a hr6a ho6a hr6a.lt ho6a.lt;have Hw6:=qq hw6;clear K6 K6a hr6 ho6 hr6a ho6a hw6 k6 a0 a1 a2;have n4:=no4 140 (by decide);have n41:=no41 140 (by decide);have n121:=no121 140 (by decide);have n21:=no21 140 (by decide);have n2:=no2 140 (by decide);have n97:=no97 140 (by decide);have n83:=no83 140 (by decide);have n9:=no9 140 (by decide);have n30:=no30 140 (by decide);have n105:=no105 140 (by decide);have n95:=no95 140 (by decide);have n101:=no101 140 (by decide);have n103:=no103 140 (by decide);have n127:=no127 140 (by decide);have n131:=no131 140 (by decide);have n135:=no135 140 (by decide);have y:=yes140;go_wp2_with fail
 rw[<-Hw6.out];refine(HE.out w6a HA6.out.1).mono ?_;rintro e w7 ⟨v',rfl,k7,hK7⟩;have HK7:=qq hK7;obtain⟨ao,cap,hv7,hK8⟩:=hK7;obtain⟨l7,hl7⟩:∃l7,l7=(cs.map (lwV d)).length:=⟨_,rfl⟩;rw[<-hl7]at hv7;clear hK8 hl7;subst hv7;have hsz7:=k7.size;have hr7:=HA6.out.2.1.keep k7 (by simp);have ho7:=HA6.out.2.2.1.keep k7 (by simp);obtain⟨o0,o1,o2,o3,o4,o5⟩:=ho7.c6 0 1 2 3 4 5 rfl rfl rfl rfl rfl rfl;have fo:=ho7.frozen;obtain⟨r0,r1,r2,r3,r4,r5⟩:=hr7.c6 0 1 2 3 4 5 rfl rfl rfl rfl rfl rfl;have fr:=hr7.frozen;have hne:¬w.heap.size+1=ob:=by omega
 have hne':¬ob=w.heap.size+1:=by omega
 have hob:w.heap.size<=ob:=by omega
 go_wp2;have hz:=(((((((hr7.set_other hne 5 none (.slice ao l7 cap)).set 0 (.int .i64 ty)).set 1 (.int .u64 0)).set 2 (.int .i64 0)).set 3 (.string ⟨#[]⟩)).set 4 (.slice none 0 0)).set 5 (.slice ao l7 cap));obtain⟨z0,z1,z2,z3,z4,z5⟩:=hz.c6 0 1 2 3 4 5 rfl rfl rfl rfl rfl rfl;refine bodyPost_ret (v:=.agg #[.int .i64 ty,.int .u64 0,.int .i64 0,.string ⟨#[]⟩,.slice none 0 0,.slice ao l7 cap]) ?_ rfl ⟨_,by rw[Hty.out],(HA6.out.1.trans k7 (by simp)).trans ((((((((Keep.refl [w.heap.size+1,ob] w7).set (.inl (by simp)) _ _ _).set (.inl (by simp)) _ _ _).set (.inl (by simp)) _ _ _).set (.inl (by simp)) _ _ _).set (.inl (by simp)) _ _ _).set (.inl (by simp)) _ _ _).set (.inl (by simp)) _ _ _) (fun b hb=>.inr (by simp at hb;rcases hb with rfl|rfl<;>omega)),HK7.out.done ((((((((Keep.refl [w.heap.size+1,ob] w7).set (.inl (by simp)) _ _ _).set (.inl (by simp)) _ _ _).set (.inl (by simp)) _ _ _).set (.inl (by simp)) _ _ _).set (.inl (by simp)) _ _ _).set (.inl (by simp)) _ _ _).set (.inl (by simp)) _ _ _) HA6.out.2.2.2.1 HA6.out.2.2.2.2 HA6.out.1.size⟩
 rw[results_cell1 rfl];go_simp
theorem backObj (d:Nat) (cs:List (Vt d)) (ks:List ByteArray) (how:Int) (b o n c h k y0 q0 sz:Nat) (ma ko:Option Addr) (mn mc kn kc:Nat) (w:World) (hc:w.cell? ⟨b,o,none⟩=some (.int .u8 (h:Int))) (hn0:0<n) (hr:h%4=2) (hh:h<256)
  (hval:∀wx,Keep [] w wx->Calls Tryz.prog 63 #[.agg #[.slice (some ⟨b,o,none⟩) n c,.slice ma mn mc,.slice ko kn kc]] wx fun e w'=>e=.returned (.iface 143 (.agg #[.slice (some ⟨b,o,none⟩) n c,.slice ma mn mc,.slice ko kn kc,.int .u32 (k:Int),.int .u64 (y0:Int),.int .u64 (q0:Int),.int .u8 1,.int .u8 (sz:Int),.int .u64 2]))/\Keep [] wx w')
  (hel:∀wx,Keep [] w wx->Calls Tryz.prog 71 #[.agg #[.slice (some ⟨b,o,none⟩) n c,.slice ma mn mc,.slice ko kn kc,.int .u32 (k:Int),.int .u64 (y0:Int),.int .u64 (q0:Int),.int .u8 1,.int .u8 (sz:Int),.int .u64 2],.int .i64 how] wx fun e w'=>MemPost d cs ks wx e w'):
  Calls Tryz.prog 26 #[.agg #[.slice (some ⟨b,o,none⟩) n c,.slice ma mn mc,.slice ko kn kc],.int .i64 how] w fun e w'=>∃kv ov,e=.returned (.agg #[.int .i64 0,.int .u64 0,.int .i64 0,.string ⟨#[]⟩,kv,ov])/\Keep [] w w'/\TextsIn (fun p=>w.heap.size<=p) w' kv ks/\KidsIn (fun p=>w.heap.size<=p) (VtIn (fun p=>w.heap.size<=p) d w') w' ov (cs.map (lwV d)):=by
 have HT:=qq (fun(wx:World) (kx:Keep [] w wx)=>typeObjC b o n c h ma ko mn mc kn kc wx (kx.cell_some hc (by simp)) hn0 hr hh);have HV:=qq hval;have HE:=qq hel;obtain⟨ty,hty⟩:∃ty:Int,ty=0:=⟨_,rfl⟩;rw[<-hty]at HT;have Hty:=qq hty;clear hty hc hval hel;obtain⟨w3,hw3⟩:∃w3,w3=(w.alloc (.cells #[.slice (some ⟨b,o,none⟩) n c,.slice ma mn mc,.slice ko kn kc] 57)).alloc (.cells #[.int .i64 0,.int .u64 0,.int .i64 0,.string ⟨#[]⟩,.slice none 0 0,.slice none 0 0] 26):=⟨_,rfl⟩;have K3:Keep [] w w3:=by rw[hw3];exact((Keep.refl [] w).alloc _).alloc _
 have hb3:Blk w3 w.heap.size [.slice (some ⟨b,o,none⟩) n c,.slice ma mn mc,.slice ko kn kc]:=by rw[hw3];exact(Blk.new w _ _).alloc _
 have hr3:Blk w3 (w.heap.size+1) [.int .i64 0,.int .u64 0,.int .i64 0,.string ⟨#[]⟩,.slice none 0 0,.slice none 0 0]:=by rw[hw3];exact Blk.of_new (cs:=[.int .i64 0,.int .u64 0,.int .i64 0,.string ⟨#[]⟩,.slice none 0 0,.slice none 0 0]) (by simp)
 have H3:=qq3 K3 hb3 hr3;have Hw3:=qq hw3;clear K3 hb3 hr3 hw3
 go_enter Tryz.func26,Tryz.ntmps26
 go_wp2_with fail
 rw[<-Hw3.out];refine(HT.out _ H3.out.1).mono ?_;rintro e w4 ⟨rfl,k4⟩;have hb4:=H3.out.2.1.keep k4 (by simp);have hr4:=H3.out.2.2.keep k4 (by simp);have hb5:=hb4.alloc (.cells #[.int .i64 ty,.int .u64 0,.int .i64 0,.string ⟨#[]⟩,.slice none 0 0,.slice none 0 0] 26);have hr5:=hr4.alloc (.cells #[.int .i64 ty,.int .u64 0,.int .i64 0,.string ⟨#[]⟩,.slice none 0 0,.slice none 0 0] 26);have ho5:=Blk.new w4 [.int .i64 ty,.int .u64 0,.int .i64 0,.string ⟨#[]⟩,.slice none 0 0,.slice none 0 0] 26;have K5:=(H3.out.1.trans k4 (by simp)).alloc (.cells #[.int .i64 ty,.int .u64 0,.int .i64 0,.string ⟨#[]⟩,.slice none 0 0,.slice none 0 0] 26);obtain⟨a0,a1,a2⟩:=hb5.c3 0 1 2 rfl rfl rfl;have hab:w.heap.size+1<w4.heap.size:=hr4.lt;have H5:=qq3 K5 hr5 ho5;clear hb4 hr4 k4 hb5 hr5 ho5 K5;go_wp2_with fail
 generalize w4.alloc (.cells #[.int .i64 ty,.int .u64 0,.int .i64 0,.string ⟨#[]⟩,.slice none 0 0,.slice none 0 0] 26)=w5 at H5 a0 a1 a2 ⊢;generalize w4.heap.size=ob at H5 hab ⊢;refine(HV.out _ H5.out.1).mono ?_;rintro e w6 ⟨rfl,k6⟩;have K6:=H5.out.1.trans k6 (by simp);have hr6:=H5.out.2.1.keep k6 (by simp);have ho6:=H5.out.2.2.keep k6 (by simp);obtain⟨w6a,hw6⟩:∃w6a,w6a=w6.alloc (.cells #[.slice (some ⟨b,o,none⟩) n c,.slice ma mn mc,.slice ko kn kc,.int .u32 (k:Int),.int .u64 (y0:Int),.int .u64 (q0:Int),.int .u8 1,.int .u8 (sz:Int),.int .u64 2] 143):=⟨_,rfl⟩;have K6a:Keep [] w w6a:=by rw[hw6];exact K6.alloc _
 have hr6a:=hr6.alloc (.cells #[.slice (some ⟨b,o,none⟩) n c,.slice ma mn mc,.slice ko kn kc,.int .u32 (k:Int),.int .u64 (y0:Int),.int .u64 (q0:Int),.int .u8 1,.int .u8 (sz:Int),.int .u64 2] 143);have ho6a:=ho6.alloc (.cells #[.slice (some ⟨b,o,none⟩) n c,.slice ma mn mc,.slice ko kn kc,.int .u32 (k:Int),.int .u64 (y0:Int),.int .u64 (q0:Int),.int .u8 1,.int .u8 (sz:Int),.int .u64 2] 143);rw[<-hw6]at hr6a ho6a;have HA6:=qq5 K6a hr6a ho6a hr6a.lt ho6a.lt;have Hw6:=qq hw6;clear K6 K6a hr6 ho6 hr6a ho6a hw6 k6 a0 a1 a2;have n4:=no4 143 (by decide);have n41:=no41 143 (by decide);have n121:=no121 143 (by decide);have n21:=no21 143 (by decide);have n2:=no2 143 (by decide);have n97:=no97 143 (by decide);have n83:=no83 143 (by decide);have n9:=no9 143 (by decide);have n30:=no30 143 (by decide);have n105:=no105 143 (by decide);have n95:=no95 143 (by decide);have n101:=no101 143 (by decide);have n103:=no103 143 (by decide);have n127:=no127 143 (by decide);have n131:=no131 143 (by decide);have n135:=no135 143 (by decide);have n140:=no140 143 (by decide);have y:=yes143;go_wp2_with fail
 rw[<-Hw6.out];refine(HE.out w6a HA6.out.1).mono ?_;rintro e w7 ⟨u',v',rfl,k7,hT7,hK7⟩;have HK7:=qq2 hT7 hK7;obtain⟨ao,cap,hv7,hK8⟩:=hK7;obtain⟨l7,hl7⟩:∃l7,l7=(cs.map (lwV d)).length:=⟨_,rfl⟩;rw[<-hl7]at hv7;clear hK8 hl7;subst hv7;obtain⟨ao2,cap2,hu7,hK8⟩:=hT7;obtain⟨l8,hl8⟩:∃l8,l8=ks.length:=⟨_,rfl⟩;rw[<-hl8]at hu7;clear hK8 hl8;subst hu7;have hsz7:=k7.size;have hr7:=HA6.out.2.1.keep k7 (by simp);have ho7:=HA6.out.2.2.1.keep k7 (by simp);obtain⟨o0,o1,o2,o3,o4,o5⟩:=ho7.c6 0 1 2 3 4 5 rfl rfl rfl rfl rfl rfl;have fo:=ho7.frozen;obtain⟨r0,r1,r2,r3,r4,r5⟩:=hr7.c6 0 1 2 3 4 5 rfl rfl rfl rfl rfl rfl;have fr:=hr7.frozen;have hne:¬w.heap.size+1=ob:=by omega
 have hne':¬ob=w.heap.size+1:=by omega
 have hob:w.heap.size<=ob:=by omega
 go_wp2;have hz:=((((((((hr7.set_other hne 4 none (.slice ao2 l8 cap2)).set_other hne 5 none (.slice ao l7 cap)).set 0 (.int .i64 ty)).set 1 (.int .u64 0)).set 2 (.int .i64 0)).set 3 (.string ⟨#[]⟩)).set 4 (.slice ao2 l8 cap2)).set 5 (.slice ao l7 cap));obtain⟨z0,z1,z2,z3,z4,z5⟩:=hz.c6 0 1 2 3 4 5 rfl rfl rfl rfl rfl rfl;refine bodyPost_ret (v:=.agg #[.int .i64 ty,.int .u64 0,.int .i64 0,.string ⟨#[]⟩,.slice ao2 l8 cap2,.slice ao l7 cap]) ?_ rfl ⟨_,_,by rw[Hty.out],(HA6.out.1.trans k7 (by simp)).trans (((((((((Keep.refl [w.heap.size+1,ob] w7).set (.inl (by simp)) _ _ _).set (.inl (by simp)) _ _ _).set (.inl (by simp)) _ _ _).set (.inl (by simp)) _ _ _).set (.inl (by simp)) _ _ _).set (.inl (by simp)) _ _ _).set (.inl (by simp)) _ _ _).set (.inl (by simp)) _ _ _) (fun b hb=>.inr (by simp at hb;rcases hb with rfl|rfl<;>omega)),HK7.out.1.done (((((((((Keep.refl [w.heap.size+1,ob] w7).set (.inl (by simp)) _ _ _).set (.inl (by simp)) _ _ _).set (.inl (by simp)) _ _ _).set (.inl (by simp)) _ _ _).set (.inl (by simp)) _ _ _).set (.inl (by simp)) _ _ _).set (.inl (by simp)) _ _ _).set (.inl (by simp)) _ _ _) HA6.out.2.2.2.1 HA6.out.2.2.2.2 HA6.out.1.size,HK7.out.2.done (((((((((Keep.refl [w.heap.size+1,ob] w7).set (.inl (by simp)) _ _ _).set (.inl (by simp)) _ _ _).set (.inl (by simp)) _ _ _).set (.inl (by simp)) _ _ _).set (.inl (by simp)) _ _ _).set (.inl (by simp)) _ _ _).set (.inl (by simp)) _ _ _).set (.inl (by simp)) _ _ _) HA6.out.2.2.2.1 HA6.out.2.2.2.2 HA6.out.1.size⟩
 rw[results_cell1 rfl];go_simp
def mK {α:Type} (f:α->List Nat) (c:List α) (i:Nat):Nat:=(c[i]?).elim 0 fun y=>(f y).length
theorem mK_eq {α:Type} {f:α->List Nat} {c:List α} {i:Nat} {y:α} (h:c[i]?=some y):mK f c i=(f y).length:=by unfold mK;rw[h];rfl

def SizeOk (b:Nat) (w:World) (E:List Nat):Prop:=∀o ln cap wx,Keep [] w wx->Byt wx b o E->E.length<=ln->ln<=cap->ln<=1000000000->Calls Tryz.prog 82 #[.slice (some ⟨b,o,none⟩) ln cap] wx fun e w'=>e=.returned (.int .i64 (E.length:Int))/\Keep [] wx w'
def BackOk (d:Nat) (b:Nat) (how:Int) (ma ko:Option Addr) (mn mc kn kc:Nat) (w:World) (E:List Nat) (y:Vt d):Prop:=∀o n cap wx,Keep [] w wx->Byt wx b o E->n=E.length->n<=cap->n<=1000000000->Calls Tryz.prog 26 #[.agg #[.slice (some ⟨b,o,none⟩) n cap,.slice ma mn mc,.slice ko kn kc],.int .i64 how] wx fun e w'=>∃v',e=.returned v'/\Keep [] wx w'/\VtIn (fun p=>wx.heap.size<=p) d w' v' (lwV d y)
section
variable {d:Nat} {f:Vt d->List Nat} {cs:List (Vt d)} {how:Int} {b o n c:Nat} {ma ko:Option Addr} {mn mc kn kc:Nat} {w:World}
theorem arrCtx (hB:Byt w b o (arrB f cs)) (hcl:cs.length<=500) (htot:totB f cs<=1000000000) (hn:n=(arrB f cs).length) (hnc:n<=c) (hn9:n<=1000000000) (hpos:∀y ∈ cs,0<(f y).length) (hsize:∀y ∈ cs,SizeOk b w (f y)) (hback:∀y ∈ cs,BackOk d b how ma ko mn mc kn kc w (f y) y):
  KidsCtx d cs how b o n c (1+aK cs.length) (aH cs.length (totB f cs)) (sizeW (totB f cs)) (offK f cs) (mK f cs) ma ko mn mc kn kc w:=by
 have hp:=arrB_parts hB;have hlA:=length_arrB (f:=f) (c:=cs);have hE:aH cs.length (totB f cs)=1+aK cs.length+(cs.length+1)*sizeW (totB f cs):=rfl;have hdt:(cs.map f).flatten.length=totB f cs:=rfl;have hkid:∀i y,cs[i]?=some y->∀wx,Keep [] w wx->Byt wx b (o+(aH cs.length (totB f cs)+offK f cs i)) (f y):=fun i y hy wx kx=>by
  have:=hp.2.2.2.kid hy;rw[Nat.add_assoc]at this;exact this.keep kx (by simp)
 have hfit:∀i y,cs[i]?=some y->offK f cs i<256^sizeW (totB f cs)/\0<mK f cs i/\aH cs.length (totB f cs)+offK f cs i+mK f cs i<=n/\1+aK cs.length+i*sizeW (totB f cs)+sizeW (totB f cs)<=n:=fun i y hy=>by
  have hi:=(List.getElem?_eq_some_iff.1 hy).1;have hsc:=offK_succ (f:=f) hy;have hle:=offK_le f cs (i+1);have hle0:=offK_le f cs i;rw[hdt]at hle hle0;have hw:=sizeW_fits (totB f cs) (by omega);have hmi:i*sizeW (totB f cs)+sizeW (totB f cs)<=(cs.length+1)*sizeW (totB f cs):=by
   rw[<-Nat.succ_mul];exact Nat.mul_le_mul_right _ (by omega)
  have:=hpos y (List.mem_of_getElem? hy);rw[mK_eq hy];exact⟨by omega,by omega,by omega,by omega⟩
 refine⟨sizeW_pos _,sizeW_le _,hn9,hnc,fun i y hy=>?_,hfit,fun i y hy wx kx=>?_,fun i y hy wx kx=>?_⟩
 ·have:=hp.2.2.1.tab (tabL_get (Nat.le_of_lt (List.getElem?_eq_some_iff.1 hy).1));rw[Nat.add_assoc]at this;exact this
 ·have h1:=hfit i y hy;rw[mK_eq hy]at h1 ⊢;exact hsize y (List.mem_of_getElem? hy) _ _ _ wx kx (hkid i y hy wx kx) (by omega) (by omega) (by omega)
 ·have h1:=hfit i y hy;rw[mK_eq hy]at h1 ⊢;exact hback y (List.mem_of_getElem? hy) _ _ _ wx kx (hkid i y hy wx kx) rfl (by omega) (by omega)
theorem objCtx {ks F:List ByteArray} (hkF:∀k ∈ ks,k ∈ F) (hF255:F.length<=255) (hkk:ks.length=cs.length) (hsort:ks.Pairwise fun a b=>ltK a b=true) (hK:KeysAt w (.slice ko kn kc) F) (hB:Byt w b o (objB f cs (ks.map (idxK F)))) (hcl:cs.length<=255) (htot:totB f cs<=1000000000) (hn:n=(objB f cs (ks.map (idxK F))).length) (hnc:n<=c) (hn9:n<=1000000000) (hpos:∀y ∈ cs,0<(f y).length) (hsize:∀y ∈ cs,SizeOk b w (f y)) (hback:∀y ∈ cs,BackOk d b how ma ko mn mc kn kc w (f y) y):
  MembCtx d cs ks how b o n c cs.length (2+cs.length) (oH cs.length (totB f cs)) (sizeW (totB f cs)) (fun i=>((ks.map (idxK F))[i]?).getD 0) F (offK f cs) (mK f cs) ma ko mn mc kn kc w:=by
 have hil:(ks.map (idxK F)).length=cs.length:=by rw[List.length_map];exact hkk
 have hp:=objB_parts hil hB;have hlA:=length_objB (f:=f) (c:=cs) hil;have hE:oH cs.length (totB f cs)=2+cs.length+(cs.length+1)*sizeW (totB f cs):=rfl;have hdt:(cs.map f).flatten.length=totB f cs:=rfl;have hw1:=sizeW_pos (totB f cs);have hkid:∀i y,cs[i]?=some y->∀wx,Keep [] w wx->Byt wx b (o+(oH cs.length (totB f cs)+offK f cs i)) (f y):=fun i y hy wx kx=>by
  have:=hp.2.2.2.2.kid hy;rw[Nat.add_assoc]at this;exact this.keep kx (by simp)
 have hfit:∀i y,cs[i]?=some y->offK f cs i<256^sizeW (totB f cs)/\0<mK f cs i/\oH cs.length (totB f cs)+offK f cs i+mK f cs i<=n/\2+cs.length+i*sizeW (totB f cs)+sizeW (totB f cs)<=n:=fun i y hy=>by
  have hi:=(List.getElem?_eq_some_iff.1 hy).1;have hsc:=offK_succ (f:=f) hy;have hle:=offK_le f cs (i+1);have hle0:=offK_le f cs i;rw[hdt]at hle hle0;have hw:=sizeW_fits (totB f cs) (by omega);have hmi:i*sizeW (totB f cs)+sizeW (totB f cs)<=(cs.length+1)*sizeW (totB f cs):=by
   rw[<-Nat.succ_mul];exact Nat.mul_le_mul_right _ (by omega)
  have:=hpos y (List.mem_of_getElem? hy);rw[mK_eq hy];exact⟨by omega,by omega,by omega,by omega⟩
 have hin:3+cs.length<=n:=by
  have:1*1<=(cs.length+1)*sizeW (totB f cs):=Nat.mul_le_mul (by omega) hw1;omega
 have hid:∀i,i<cs.length->∃k,ks[i]?=some k/\(ks.map (idxK F))[i]?=some (idxK F k)/\F[idxK F k]?=some k:=fun i hi=>by
  have hi2:i<ks.length:=by omega
  have h1:ks[i]?=some ks[i]:=List.getElem?_eq_getElem hi2;refine⟨ks[i],h1,by rw[List.getElem?_map,h1];rfl,idxK_get (hkF _ (List.mem_of_getElem? h1))⟩
 refine⟨⟨sizeW_pos _,sizeW_le _,hn9,hnc,fun i y hy=>?_,hfit,fun i y hy wx kx=>?_,fun i y hy wx kx=>?_⟩,rfl,hkk,fun i hi=>?_,hK,by omega,fun i kk hkk2=>?_,hsort,hin⟩
 ·have:=hp.2.2.2.1.tab (tabL_get (Nat.le_of_lt (List.getElem?_eq_some_iff.1 hy).1));rw[Nat.add_assoc]at this;exact this
 ·have h1:=hfit i y hy;rw[mK_eq hy]at h1 ⊢;exact hsize y (List.mem_of_getElem? hy) _ _ _ wx kx (hkid i y hy wx kx) (by omega) (by omega) (by omega)
 ·have h1:=hfit i y hy;rw[mK_eq hy]at h1 ⊢;exact hback y (List.mem_of_getElem? hy) _ _ _ wx kx (hkid i y hy wx kx) rfl (by omega) (by omega)
 ·obtain⟨k,h1,h2,h3⟩:=hid i hi;have h4:=hp.2.2.1.tab h2;rw[Nat.mul_one,Nat.add_assoc]at h4;have h5:=(List.getElem?_eq_some_iff.1 h3).1;simp only[h2,Option.getD_some];exact⟨h4,by omega⟩
 ·have hi:i<cs.length:=by rw[<-hkk];exact(List.getElem?_eq_some_iff.1 hkk2).1
  obtain⟨k,h1,h2,h3⟩:=hid i hi;rw[h1]at hkk2;cases hkk2
  simp only[h2,Option.getD_some];exact h3
end
theorem sizeV (b:Nat) (F:List ByteArray) (hF255:F.length<=255) (d:Nat) (x:Vt d) (hok:OkV d x) (hF:∀q ∈ keysV d x,q ∈ F) (hwt:wtV d x<=20000) (w:World):SizeOk b w (encV d F x):=by
 intro o ln cap wx kx hB hln hcap hnm;cases d with
 |zero=>cases x
 |succ d=>
  have hx:OkN (OkV d) x:=hok;have hle:=length_encV (d+1) F x hok;have hkF:∀k ∈ Node.keys x,k ∈ F:=fun k hk=>hF k (by
   show k ∈ keysN (keysV d) x
   unfold keysN;rw[List.mem_append];exact .inl hk)
  by_cases h0:Node.kind x=0
  ·have e:encV (d+1) F x=objB (encV d F) (Node.kids x) ((Node.keys x).map (idxK F)):=by
    show encN F (encV d F) x=_
    unfold encN;rw[if_pos h0];rfl
   have hkk:=hx.keysKids h0;have hkl:=keys_le hx.sorted hkF;rw[e]at hle hB hln ⊢;have hil:((Node.keys x).map (idxK F)).length=(Node.kids x).length:=by rw[List.length_map];exact hkk
   have hlA:=length_objB (f:=encV d F) (c:=Node.kids x) hil;exact sizeObjAll _ hil b o ln cap wx hB (by omega) (by omega) hln hcap hnm
  ·by_cases h1:Node.kind x=1
   ·have e:encV (d+1) F x=arrB (encV d F) (Node.kids x):=by
     show encN F (encV d F) x=_
     unfold encN;rw[if_neg h0,if_pos h1];rfl
    rw[e]at hle hB hln ⊢;have hlA:=length_arrB (f:=encV d F) (c:=Node.kids x);exact sizeArrAll b o ln cap wx hB (by have:=hx.kidsLe;omega) (by omega) hln hcap hnm
   ·have e:encV (d+1) F x=primB (Node.kind x) (Node.scale x) (Node.num x) (Node.text x):=by
     show encN F (encV d F) x=_
     unfold encN;rw[if_neg h0,if_neg h1]
    rw[e]at hB hln ⊢;have hk0:=hx.kind0;exact sizeFlat _ (flat_primB hx.flat (by omega) hx.textLe) b o ln cap wx hB hln hcap hnm
theorem TextsIn.none {P:Nat->Prop} {w:World}:TextsIn P w (.slice .none 0 0) []:=⟨.none,0,rfl,Nat.le_refl _,fun i s h=>by simp at h⟩
theorem KidsIn.none {α:Type} {P:Nat->Prop} {R:Value->α->Prop} {w:World}:KidsIn P R w (.slice .none 0 0) []:=⟨.none,0,rfl,Nat.le_refl _,fun i s h=>by simp at h⟩

theorem backV (b:Nat) (how:Int) (F:List ByteArray) (ma ko:Option Addr) (mn mc kn kc:Nat) (hF255:F.length<=255):∀(d:Nat) (x:Vt d),OkV d x->(∀q ∈ keysV d x,q ∈ F)->wtV d x<=20000->∀w,KeysAt w (.slice ko kn kc) F->BackOk d b how ma ko mn mc kn kc w (encV d F x) x
 |0,x,h,_,_=>by cases x
 |d+1,x,hok,hF,hwt=>by
  intro w hK o n cap wx kx hB hn hcap hn9;have hx:OkN (OkV d) x:=hok;have hle:=length_encV (d+1) F x hok;have hge:=wtN_ge (wtV d) x;have hwN:wtV (d+1) x=wtN (wtV d) x:=rfl;have hkid:∀y ∈ Node.kids x,OkV d y/\(∀q ∈ keysV d y,q ∈ F)/\wtV d y<=20000:=fun y hy=>by
   have h1:=le_sum (wtV d) _ y hy;exact⟨hx.kids y hy,fun q hq=>hF q (by
    show q ∈ keysN (keysV d) x
    unfold keysN;rw[List.mem_append,List.mem_flatMap];exact .inr ⟨y,hy,hq⟩),by omega⟩
  have hpos:∀y ∈ Node.kids x,0<(encV d F y).length:=fun y hy=>List.length_pos_iff.2 (encV_ne d F y (hx.kids y hy));have hsize:∀y ∈ Node.kids x,SizeOk b wx (encV d F y):=fun y hy=>sizeV b F hF255 d y (hkid y hy).1 (hkid y hy).2.1 (hkid y hy).2.2 wx;have hback:∀y ∈ Node.kids x,BackOk d b how ma ko mn mc kn kc wx (encV d F y) y:=fun y hy=>backV b how F ma ko mn mc kn kc hF255 d y (hkid y hy).1 (hkid y hy).2.1 (hkid y hy).2.2 wx (hK.keep kx);have hkF:∀k ∈ Node.keys x,k ∈ F:=fun k hk=>hF k (by
   show k ∈ keysN (keysV d) x
   unfold keysN;rw[List.mem_append];exact .inl hk)
  have hfl:=hx.flat;by_cases h0:Node.kind x=0
  ·have e:encV (d+1) F x=objB (encV d F) (Node.kids x) ((Node.keys x).map (idxK F)):=by
    show encN F (encV d F) x=_
    unfold encN;rw[if_pos h0];rfl
   have hkk:=hx.keysKids h0;have hkl:=keys_le hx.sorted hkF;rw[e]at hle hB hn;have hil:((Node.keys x).map (idxK F)).length=(Node.kids x).length:=by rw[List.length_map];exact hkk
   have hlA:=length_objB (f:=encV d F) (c:=Node.kids x) hil;obtain⟨s,hs,hs3⟩:=sizeW_s (totB (encV d F) (Node.kids x));have hC:=objCtx (how:=how) (ma:=ma) (mn:=mn) (mc:=mc) hkF hF255 hkk hx.sorted (hK.keep kx) hB (by omega) (by omega) hn hcap hn9 hpos hsize hback;have hp:=objB_parts hil hB;have hpp:=hp.1;have hE:oH (Node.kids x).length (totB (encV d F) (Node.kids x))=2+(Node.kids x).length+((Node.kids x).length+1)*sizeW (totB (encV d F) (Node.kids x)):=rfl;rw[hs,Nat.add_sub_cancel]at hpp;rw[hs]at hE hC;refine(backObj d (Node.kids x) (Node.keys x) how b o n cap (2+4*s) (Node.kids x).length (2+(Node.kids x).length) (oH (Node.kids x).length (totB (encV d F) (Node.kids x))) (s+1) ma ko mn mc kn kc wx hpp (by have:=hC.inn;omega) (by omega) (by omega)
    (fun wy ky=>valObj b o n cap _ s (Node.kids x).length _ ma ko mn mc kn kc wy (ky.cell_some hpp (by simp)) rfl hs3 (hp.2.1.keep ky (by simp)) (by omega) hE (by omega) hn9 hcap)
    (fun wy ky=>membersC d _ _ _ how b o n cap _ _ _ _ F _ _ ma ko mn mc kn kc wy ⟨⟨hC.kids.sz1,hC.kids.sz4,hC.kids.n9,hC.kids.nc,fun i y hy=>(hC.kids.bytes i y hy).keep ky (by simp),hC.kids.fits,fun i y hy wz kz=>hC.kids.size i y hy wz (ky.trans kz (by simp)),fun i y hy wz kz=>hC.kids.back i y hy wz (ky.trans kz (by simp))⟩,hC.lenC,hC.len,fun i hi=>⟨(hC.ids i hi).1.keep ky (by simp),(hC.ids i hi).2⟩,hC.dict.keep ky,hC.dlen,hC.key,hC.sort,hC.inn⟩ (by omega))).mono ?_
   rintro e w' ⟨kv,ov,rfl,kk,hT,hKi⟩;have t0:=empty_of_size (hfl.text0 (by omega) (by omega) (by omega) (by omega));have s0:=hfl.scale0 (by omega) (by omega) (by omega);have n0:=hfl.num0 (.inl h0);refine⟨_,rfl,kk,?_⟩;show ∃kv' cv',_=Value.agg #[.int .i64 (lwN (lwV d) x).kind,.int .u64 ((lwN (lwV d) x).num:Int),.int .i64 (lwN (lwV d) x).scale,.string (lwN (lwV d) x).text,kv',cv']/\TextsIn _ _ kv' (lwN (lwV d) x).keys/\KidsIn _ _ _ cv' (lwN (lwV d) x).kids
   refine⟨kv,ov,?_,hT,hKi⟩;simp only[lwN,h0,t0,s0,n0];rfl
  ·by_cases h1:Node.kind x=1
   ·have e:encV (d+1) F x=arrB (encV d F) (Node.kids x):=by
     show encN F (encV d F) x=_
     unfold encN;rw[if_neg h0,if_pos h1];rfl
    rw[e]at hle hB hn;have hlA:=length_arrB (f:=encV d F) (c:=Node.kids x);have hkl:=hx.kidsLe;obtain⟨s,hs,hs3⟩:=sizeW_s (totB (encV d F) (Node.kids x));have hC:=arrCtx (how:=how) (ma:=ma) (mn:=mn) (mc:=mc) (ko:=ko) (kn:=kn) (kc:=kc) hB hkl (by omega) hn hcap hn9 hpos hsize hback;have hp:=arrB_parts hB;have hpp:=hp.1;have hE:aH (Node.kids x).length (totB (encV d F) (Node.kids x))=1+aK (Node.kids x).length+((Node.kids x).length+1)*sizeW (totB (encV d F) (Node.kids x)):=rfl;have hk4:=aK_le (Node.kids x).length;rw[hs,Nat.add_sub_cancel]at hpp;rw[hs]at hE hC;have hr4:(3+4*s+(if 255<(Node.kids x).length then 16 else 0))%4=3/\3+4*s+(if 255<(Node.kids x).length then 16 else 0)<256:=by split<;>omega
    have hnil:Node.keys x=[]:=by
     rcases hk:Node.keys x with _|⟨a,l⟩
     ·rfl
     ·exact absurd (hx.keys0 (by rw[hk];simp)) h0
    refine(backArr d (Node.kids x) how b o n cap (3+4*s+(if 255<(Node.kids x).length then 16 else 0)) (Node.kids x).length (1+aK (Node.kids x).length) (aH (Node.kids x).length (totB (encV d F) (Node.kids x))) (s+1) ma ko mn mc kn kc wx hpp (by omega) hr4.1 hr4.2
     (fun wy ky=>valArr b o n cap _ s (Node.kids x).length (aK (Node.kids x).length) _ ma ko mn mc kn kc wy (ky.cell_some hpp (by simp)) rfl rfl hs3 (hp.2.1.keep ky (by simp)) (by omega) hE (by omega) hn9 hcap)
     (fun wy ky=>elementsC d _ _ how b o n cap _ _ _ _ _ ma ko mn mc kn kc wy ⟨hC.sz1,hC.sz4,hC.n9,hC.nc,fun i y hy=>(hC.bytes i y hy).keep ky (by simp),hC.fits,fun i y hy wz kz=>hC.size i y hy wz (ky.trans kz (by simp)),fun i y hy wz kz=>hC.back i y hy wz (ky.trans kz (by simp))⟩ rfl hkl (by omega))).mono ?_
    rintro e w' ⟨ov,rfl,kk,hKi⟩;have t0:=empty_of_size (hfl.text0 (by omega) (by omega) (by omega) (by omega));have s0:=hfl.scale0 (by omega) (by omega) (by omega);have n0:=hfl.num0 (.inr (.inl h1));refine⟨_,rfl,kk,?_⟩;show ∃kv' cv',_=Value.agg #[.int .i64 (lwN (lwV d) x).kind,.int .u64 ((lwN (lwV d) x).num:Int),.int .i64 (lwN (lwV d) x).scale,.string (lwN (lwV d) x).text,kv',cv']/\TextsIn _ _ kv' (lwN (lwV d) x).keys/\KidsIn _ _ _ cv' (lwN (lwV d) x).kids
    refine⟨.slice .none 0 0,ov,?_,?_,hKi⟩
    ·simp only[lwN,h1,t0,s0,n0];rfl
    ·show TextsIn _ _ _ (Node.keys x)
     rw[hnil];exact TextsIn.none
   ·have e:encV (d+1) F x=primB (Node.kind x) (Node.scale x) (Node.num x) (Node.text x):=by
     show encN F (encV d F) x=_
     unfold encN;rw[if_neg h0,if_neg h1]
    rw[e]at hB hn;have hk0:=hx.kind0;refine(backFlat _ _ _ _ b o n cap how ma ko mn mc kn kc wx (by omega) hfl hx.num hx.textLe hB hn hcap hn9).mono ?_;rintro e w' ⟨rfl,kk⟩;have hnil:Node.keys x=[]:=by
     rcases hk:Node.keys x with _|⟨a,l⟩
     ·rfl
     ·exact absurd (hx.keys0 (by rw[hk];simp)) h0
    have hnil2:Node.kids x=[]:=by
     rcases hk:Node.kids x with _|⟨a,l⟩
     ·rfl
     ·have:=hx.kids0 (by rw[hk];simp);omega
    refine⟨_,rfl,kk,?_⟩;show ∃kv' cv',_=Value.agg #[.int .i64 (lwN (lwV d) x).kind,.int .u64 ((lwN (lwV d) x).num:Int),.int .i64 (lwN (lwV d) x).scale,.string (lwN (lwV d) x).text,kv',cv']/\TextsIn _ _ kv' (lwN (lwV d) x).keys/\KidsIn _ _ _ cv' (lwN (lwV d) x).kids
    refine⟨.slice .none 0 0,.slice .none 0 0,rfl,?_,?_⟩
    ·show TextsIn _ _ _ (Node.keys x)
     rw[hnil];exact TextsIn.none
    ·show KidsIn _ _ _ _ ((Node.kids x).map (lwV d))
     rw[hnil2];exact KidsIn.none
end Go.Proofs.YtocgdgmfnockiaaGreatDoor
