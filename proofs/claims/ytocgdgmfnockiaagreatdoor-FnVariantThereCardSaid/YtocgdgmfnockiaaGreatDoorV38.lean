/- Variants read: trimValue, Len, NumElements. Variants back: boolValue. Variants read: ArrayValue.Value. Variants read: Values. Variants read: ObjectValue.FieldAt. -/
import Derived.Test.YtocgdgmfnockiaaGreatDoorV16
import Derived.Test.YtocgdgmfnockiaaGreatDoorV02
import Derived.Test.YtocgdgmfnockiaaGreatDoorV33
import Derived.Test.YtocgdgmfnockiaaGreatDoorV18
set_option linter.unusedVariables false
set_option linter.unusedSimpArgs false
set_option maxRecDepth 100000
set_option maxHeartbeats 8000000
namespace Go.Proofs.YtocgdgmfnockiaaGreatDoor
open Go.RowKit

theorem trimC (b o n c m:Nat) (ma ko:Option Addr) (mn mc kn kc:Nat) (w:World) (hz:∀wx,Keep [] w wx->Calls Tryz.prog 82 #[.slice (some ⟨b,o,none⟩) n c] wx fun e w'=>e=.returned (.int .i64 (m:Int))/\Keep [] wx w') (hm:m<=c):
  Calls Tryz.prog 153 #[.agg #[.slice ma mn mc,.slice ko kn kc],.slice (some ⟨b,o,none⟩) n c] w fun e w'=>e=.returned (.agg #[.slice (some ⟨b,o,none⟩) m c,.slice ma mn mc,.slice ko kn kc])/\Keep [] w w':=by
 have HZ:=qq hz;have hmi:(m:Int)<=(c:Int):=by omega
 have k1:Keep [] w ((w.alloc (.cells #[.slice ma mn mc,.slice ko kn kc] 55)).alloc (.cells #[.slice none 0 0,.slice none 0 0,.slice none 0 0] 57)):=((Keep.refl [] w).alloc _).alloc _;have hb2:Blk ((w.alloc (.cells #[.slice ma mn mc,.slice ko kn kc] 55)).alloc (.cells #[.slice none 0 0,.slice none 0 0,.slice none 0 0] 57)) w.heap.size [.slice ma mn mc,.slice ko kn kc]:=(Blk.new w _ _).alloc _;have hr2:Blk ((w.alloc (.cells #[.slice ma mn mc,.slice ko kn kc] 55)).alloc (.cells #[.slice none 0 0,.slice none 0 0,.slice none 0 0] 57)) (w.heap.size+1) [.slice none 0 0,.slice none 0 0,.slice none 0 0]:=Blk.of_new (cs:=[.slice none 0 0,.slice none 0 0,.slice none 0 0]) (by simp);have H1:=qq3 k1 hb2 hr2;clear hz k1 hb2 hr2
 go_enter Tryz.func153,Tryz.ntmps153
 go_wp2_with fail
 go_region_with (
  go_at_call 82;
  refine(HZ.out _ H1.out.1.drew).mono ?_;
  rintro e w3 ⟨rfl,k3⟩;
  have a0:=(H1.out.2.1.drew.keep k3 (by simp)).cell (i:=0) rfl;
  have a1:=(H1.out.2.1.drew.keep k3 (by simp)).cell (i:=1) rfl;
  have r0:=(H1.out.2.2.drew.keep k3 (by simp)).cell (i:=0) rfl;
  have r1:=(H1.out.2.2.drew.keep k3 (by simp)).cell (i:=1) rfl;
  have r2:=(H1.out.2.2.drew.keep k3 (by simp)).cell (i:=2) rfl;
  have fr:=(H1.out.2.2.drew.keep k3 (by simp)).frozen;
  have H3:=qq2 k3 (H1.out.2.2.drew.keep k3 (by simp)))
 all_goals
  go_wp2;have hz:=((H3.out.2.set 0 (.slice (some ⟨b,o,none⟩) m c)).set 1 (.slice ma mn mc)).set 2 (.slice ko kn kc);obtain⟨z0,z1,z2⟩:=hz.c3 0 1 2 rfl rfl rfl;have K3:Keep [] w w3:=(H1.out.1.drew).trans H3.out.1 (by simp);refine bodyPost_ret (v:=.agg #[.slice (some ⟨b,o,none⟩) m c,.slice ma mn mc,.slice ko kn kc]) ?_ rfl ⟨rfl,((K3.set (.inr (by simp)) _ _ _).set (.inr (by simp)) _ _ _).set (.inr (by simp)) _ _ _⟩;rw[results_cell1 rfl];go_simp

theorem lenC (v m1 m2:Value) (k q x y:Int) (w:World) (hv:∃a n c,v=.slice a n c) (h1:∃a n c,m1=.slice a n c) (h2:∃a n c,m2=.slice a n c):Calls Tryz.prog 124 #[.agg #[v,m1,m2,.int .u32 k,.int .u64 q,.int .u8 x,.int .u64 y]] w fun e w'=>e=.returned (.int .u32 k)/\Keep [] w w':=by
 obtain⟨a,n,c,rfl⟩:=hv;obtain⟨a1,n1,c1,rfl⟩:=h1;obtain⟨a2,n2,c2,rfl⟩:=h2
 go_enter Tryz.func124,Tryz.ntmps124
 go_wp2;go_ret;exact⟨rfl,(Keep.refl [] w).alloc _⟩
theorem numC (v m1 m2:Value) (k q x y z t:Int) (w:World) (hv:∃a n c,v=.slice a n c) (h1:∃a n c,m1=.slice a n c) (h2:∃a n c,m2=.slice a n c):Calls Tryz.prog 128 #[.agg #[v,m1,m2,.int .u32 k,.int .u64 q,.int .u64 x,.int .u8 y,.int .u8 z,.int .u64 t]] w fun e w'=>e=.returned (.int .u32 k)/\Keep [] w w':=by
 obtain⟨a,n,c,rfl⟩:=hv;obtain⟨a1,n1,c1,rfl⟩:=h1;obtain⟨a2,n2,c2,rfl⟩:=h2
 go_enter Tryz.func128,Tryz.ntmps128
 go_wp2;go_ret;exact⟨rfl,(Keep.refl [] w).alloc _⟩
theorem boolValueC (x:Bool) (w:World):Calls Tryz.prog 64 #[.bool x] w fun e w'=>e=.returned (.agg #[.bool false,.int .u64 (if x then 1 else 0),.string ByteArray.empty,.slice none 0 0])/\Keep [] w w':=by
 cases x
 ·go_enter Tryz.func64,Tryz.ntmps64
  go_wp2;refine bodyPost_ret (v:=.agg #[.bool false,.int .u64 0,.string ByteArray.empty,.slice none 0 0]) ?_ rfl ⟨rfl,(Keep.refl [] w).alloc _⟩;rw[results_cell1 rfl];go_simp;rfl
 ·go_enter Tryz.func64,Tryz.ntmps64
  go_wp2;refine bodyPost_ret (v:=.agg #[.bool false,.int .u64 1,.string ByteArray.empty,.slice none 0 0]) ?_ rfl ⟨rfl,(Keep.refl [] w).alloc _⟩;rw[results_cell1 rfl];go_simp;rfl
theorem arrAtC (b o n c k q s y i off g m:Nat) (ma ko:Option Addr) (mn mc kn kc:Nat) (w:World) (hs:s<=3) (hy:y<=5) (hk:k<=1000000) (hi:i<k) (hB:Byt w b (o+(y+i*(s+1))) (leBytes (s+1) off)) (hoff:off<256^(s+1)) (hm0:0<m) (hg:g=q+off) (hqm:g+m<=n) (hp:y+i*(s+1)+(s+1)<=n) (hn9:n<=1000000000) (hnc:n<=c)
  (hz:∀wx,Keep [] w wx->Calls Tryz.prog 82 #[.slice (some ⟨b,o+g,none⟩) (n-g) (c-g)] wx fun e w'=>e=.returned (.int .i64 (m:Int))/\Keep [] wx w'):
  Calls Tryz.prog 125 #[.agg #[.slice (some ⟨b,o,none⟩) n c,.slice ma mn mc,.slice ko kn kc,.int .u32 (k:Int),.int .u64 (q:Int),.int .u8 ((s+1:Nat):Int),.int .u64 (y:Int)],.int .u32 (i:Int)] w fun e w'=>e=.returned (.tuple #[.agg #[.slice (some ⟨b,o+g,none⟩) m (c-g),.slice ma mn mc,.slice ko kn kc],.nilIface])/\Keep [] w w':=by
 have hik:¬(k:Int)<=(i:Int):=by omega
 have hU:=fun(p':Nat) (hp':p'=y+i*(s+1)) (wx:World) (kk:Keep [] w wx)=>readLe b (o+p') (s+1) (c-p') off wx (hp'▸hB.keep kk (by simp)) hoff (by omega) (by omega);have HU:=qq hU;have HT:=qq (fun(wx:World) (kx:Keep [] w wx)=>trimC b (o+g) (n-g) (c-g) m ma ko mn mc kn kc wx (fun wy ky=>hz wy (kx.trans ky (by simp))) (by omega));have Hp:=qq4 hp hqm hnc hm0;have hcase:s=0\/s=1\/s=2\/s=3:=by omega
 have hgw:IntKind.u64.wrap ((q:Int)+(off:Int))=(g:Int):=by rw[IntKind.wrap_u64];omega
 have hgi:(q:Int)+(off:Int)=(g:Int):=by omega
 have hgw2:IntKind.u64.wrap (g:Int)=(g:Int):=by rw[IntKind.wrap_u64];omega
 have how:IntKind.u64.wrap (off:Int)=(off:Int):=by rw[IntKind.wrap_u64];omega
 have hgn:(g:Int)<=(n:Int):=by omega
 have hgn':g<=n:=by omega
 have hqc:¬c=g:=by omega
 have Hgi:=qq hgi;clear hg hgi;clear hU hB hoff hz hs;have H1:=qq (fun z:Int=>(show Keep [] w ((w.alloc (.cells #[.slice (some ⟨b,o,none⟩) n c,.slice ma mn mc,.slice ko kn kc,.int .u32 (k:Int),.int .u64 (q:Int),.int .u8 z,.int .u64 (y:Int)] 140)).alloc (.cells #[.slice none 0 0,.slice none 0 0,.slice none 0 0] 57))/\Blk ((w.alloc (.cells #[.slice (some ⟨b,o,none⟩) n c,.slice ma mn mc,.slice ko kn kc,.int .u32 (k:Int),.int .u64 (q:Int),.int .u8 z,.int .u64 (y:Int)] 140)).alloc (.cells #[.slice none 0 0,.slice none 0 0,.slice none 0 0] 57)) w.heap.size [.slice (some ⟨b,o,none⟩) n c,.slice ma mn mc,.slice ko kn kc,.int .u32 (k:Int),.int .u64 (q:Int),.int .u8 z,.int .u64 (y:Int)]/\Blk ((w.alloc (.cells #[.slice (some ⟨b,o,none⟩) n c,.slice ma mn mc,.slice ko kn kc,.int .u32 (k:Int),.int .u64 (q:Int),.int .u8 z,.int .u64 (y:Int)] 140)).alloc (.cells #[.slice none 0 0,.slice none 0 0,.slice none 0 0] 57)) (w.heap.size+1) [.slice none 0 0,.slice none 0 0,.slice none 0 0]from
  ⟨((Keep.refl [] w).alloc _).alloc _,(Blk.new w _ _).alloc _,Blk.of_new (cs:=[.slice none 0 0,.slice none 0 0,.slice none 0 0]) (by simp)⟩))
 rcases hcase with rfl|rfl|rfl|rfl
 all_goals
  have hp:=Hp.out.1
  go_enter Tryz.func125,Tryz.ntmps125
  go_wp2_with fail
  refine(HU.out _ (by omega) _ (H1.out _).1).mono ?_;rintro e w4 ⟨rfl,k4⟩;have hb4:=(H1.out _).2.1.keep k4 (by simp);have hr4:=(H1.out _).2.2.keep k4 (by simp);obtain⟨a0,a1,a2,a4⟩:=hb4.c4 0 1 2 4 rfl rfl rfl rfl;have H4:=qq2 hr4 ((H1.out _).1.trans k4 (by simp));clear hb4 hr4 k4;go_wp2_with fail
  have hgi:=Hgi.out
  go_region_with (
   go_at_call 153;
   refine(HT.out _ H4.out.2.drew).mono ?_;
   rintro e w5 ⟨rfl,k5⟩;
   have r0:=(H4.out.1.drew.keep k5 (by simp)).cell (i:=0) rfl;
   have r1:=(H4.out.1.drew.keep k5 (by simp)).cell (i:=1) rfl;
   have r2:=(H4.out.1.drew.keep k5 (by simp)).cell (i:=2) rfl;
   have fr:=(H4.out.1.drew.keep k5 (by simp)).frozen;
   have H5:=qq2 (H4.out.2.drew.trans k5 (by simp)) (H4.out.1.drew.keep k5 (by simp)))
  all_goals
   go_wp2;have hz:=((H5.out.2.set 0 (.slice (some ⟨b,o+g,none⟩) m (c-g))).set 1 (.slice ma mn mc)).set 2 (.slice ko kn kc);obtain⟨z0,z1,z2⟩:=hz.c3 0 1 2 rfl rfl rfl;refine bodyPost_ret (v:=.tuple #[.agg #[.slice (some ⟨b,o+g,none⟩) m (c-g),.slice ma mn mc,.slice ko kn kc],.nilIface]) ?_ rfl ⟨rfl,((H5.out.1.set (.inr (by simp)) _ _ _).set (.inr (by simp)) _ _ _).set (.inr (by simp)) _ _ _⟩;rw[results_cell_tmp rfl];go_simp
theorem arrValuesC (v m1 m2:Value) (k q x y:Int) (w:World) (hv:∃a n c,v=.slice a n c) (h1:∃a n c,m1=.slice a n c) (h2:∃a n c,m2=.slice a n c):Calls Tryz.prog 122 #[.agg #[v,m1,m2,.int .u32 k,.int .u64 q,.int .u8 x,.int .u64 y]] w fun e w'=>e=.returned (.func (.func 152) #[] #[.pointer (some ⟨w.heap.size,0,none⟩)])/\w'=w.alloc (.cells #[v,m1,m2,.int .u32 k,.int .u64 q,.int .u8 x,.int .u64 y] 140):=by
 obtain⟨a,n,c,rfl⟩:=hv;obtain⟨a1,n1,c1,rfl⟩:=h1;obtain⟨a2,n2,c2,rfl⟩:=h2
 go_enter Tryz.func122,Tryz.ntmps122
 go_wp2;go_ret;exact⟨rfl,rfl⟩
theorem objValuesC (v m1 m2:Value) (k q x y z t:Int) (w:World) (hv:∃a n c,v=.slice a n c) (h1:∃a n c,m1=.slice a n c) (h2:∃a n c,m2=.slice a n c):Calls Tryz.prog 126 #[.agg #[v,m1,m2,.int .u32 k,.int .u64 q,.int .u64 x,.int .u8 y,.int .u8 z,.int .u64 t]] w fun e w'=>e=.returned (.func (.func 154) #[] #[.pointer (some ⟨w.heap.size,0,none⟩)])/\w'=w.alloc (.cells #[v,m1,m2,.int .u32 k,.int .u64 q,.int .u64 x,.int .u8 y,.int .u8 z,.int .u64 t] 143):=by
 obtain⟨a,n,c,rfl⟩:=hv;obtain⟨a1,n1,c1,rfl⟩:=h1;obtain⟨a2,n2,c2,rfl⟩:=h2
 go_enter Tryz.func126,Tryz.ntmps126
 go_wp2;go_ret;exact⟨rfl,rfl⟩
theorem fieldAtC (b o n c k q1 q2 sz i x off g p m:Nat) (key:ByteArray) (F:List ByteArray) (ma ko:Option Addr) (mn mc kn kc:Nat) (w:World) (hs1:1<=sz) (hs4:sz<=4) (hk:k<=1000000) (hi:i<k) (hBx:Byt w b (o+(2+i)) (leBytes 1 x)) (hx:x<256) (hK:KeysAt w (.slice ko kn kc) F) (hF:F[x]?=some key) (hFl:F.length<=1000000)
  (hp:p=q1+i*sz) (hB:Byt w b (o+p) (leBytes sz off)) (hoff:off<256^sz) (hpn:p+sz<=n) (hin:3+i<=n) (hm0:0<m) (hg:g=q2+off) (hqm:g+m<=n) (hn9:n<=1000000000) (hnc:n<=c)
  (hz:∀wx,Keep [] w wx->Calls Tryz.prog 82 #[.slice (some ⟨b,o+g,none⟩) (n-g) (c-g)] wx fun e w'=>e=.returned (.int .i64 (m:Int))/\Keep [] wx w'):
  Calls Tryz.prog 129 #[.agg #[.slice (some ⟨b,o,none⟩) n c,.slice ma mn mc,.slice ko kn kc,.int .u32 (k:Int),.int .u64 (q1:Int),.int .u64 (q2:Int),.int .u8 1,.int .u8 (sz:Int),.int .u64 2],.int .u32 (i:Int)] w fun e w'=>e=.returned (.tuple #[.agg #[.string key,.slice (some ⟨b,o+g,none⟩) m (c-g),.slice ma mn mc,.slice ko kn kc],.nilIface])/\Keep [] w w':=by
 have hik:¬(k:Int)<=(i:Int):=by omega
 have hU1:=fun(wx:World) (kk:Keep [] w wx)=>readLe b (o+(2+i)) 1 (c-(2+i)) x wx (hBx.keep kk (by simp)) (by omega) (by omega) (by omega);have hU2:=fun(wx:World) (kk:Keep [] w wx)=>readLe b (o+p) sz (c-p) off wx (hB.keep kk (by simp)) hoff (by omega) (by omega);have hKA:=fun(wx:World) (kk:Keep [] w wx)=>keyAtC ma mn mc (.slice ko kn kc) F x key wx (hK.keep kk) hF hFl;have HU:=qq3 hU1 hU2 hKA;have HT:=qq (fun(wx:World) (kx:Keep [] w wx)=>trimC b (o+g) (n-g) (c-g) m ma ko mn mc kn kc wx (fun wy ky=>hz wy (kx.trans ky (by simp))) (by omega));obtain⟨r,hr⟩:∃r,r=i*sz:=⟨_,rfl⟩;have hmul:(i:Int)*(sz:Int)=(r:Int):=by rw[hr];push_cast;rfl
 rw[<-hr]at hp;obtain⟨p2,hp2⟩:∃p2,p2=p+sz:=⟨_,rfl⟩;have m1:IntKind.u64.wrap (r:Int)=(r:Int):=by rw[IntKind.wrap_u64];omega
 have m2:(q1:Int)+(r:Int)=(p:Int):=by omega
 have m3:IntKind.u64.wrap (p:Int)=(p:Int):=by rw[IntKind.wrap_u64];omega
 have m4:(p:Int)+(sz:Int)=(p2:Int):=by omega
 have m5:IntKind.u64.wrap (p2:Int)=(p2:Int):=by rw[IntKind.wrap_u64];omega
 have m6:p2-p=sz:=by omega
 have m7:(p:Int)<=(p2:Int):=by omega
 have m7':p<=p2:=by omega
 have m8:(p2:Int)<=(c:Int):=by omega
 have m8':p2<=c:=by omega
 have m9:¬c=p:=by omega
 have how:IntKind.u64.wrap (off:Int)=(off:Int):=by
  have:256^sz<=256^4:=Nat.pow_le_pow_right (by omega) hs4;rw[IntKind.wrap_u64];omega
 have hgi:(q2:Int)+(off:Int)=(g:Int):=by omega
 have hgw2:IntKind.u64.wrap (g:Int)=(g:Int):=by rw[IntKind.wrap_u64];omega
 have hgn:(g:Int)<=(n:Int):=by omega
 have hgn':g<=n:=by omega
 have hqc:¬c=g:=by omega
 have hic:¬c=2+i:=by omega
 have H1:=qq (show Keep [] w ((w.alloc (.cells #[.slice (some ⟨b,o,none⟩) n c,.slice ma mn mc,.slice ko kn kc,.int .u32 (k:Int),.int .u64 (q1:Int),.int .u64 (q2:Int),.int .u8 1,.int .u8 (sz:Int),.int .u64 2] 143)).alloc (.cells #[.string ByteArray.empty,.slice none 0 0,.slice none 0 0,.slice none 0 0] 205))/\Blk ((w.alloc (.cells #[.slice (some ⟨b,o,none⟩) n c,.slice ma mn mc,.slice ko kn kc,.int .u32 (k:Int),.int .u64 (q1:Int),.int .u64 (q2:Int),.int .u8 1,.int .u8 (sz:Int),.int .u64 2] 143)).alloc (.cells #[.string ByteArray.empty,.slice none 0 0,.slice none 0 0,.slice none 0 0] 205)) w.heap.size [.slice (some ⟨b,o,none⟩) n c,.slice ma mn mc,.slice ko kn kc,.int .u32 (k:Int),.int .u64 (q1:Int),.int .u64 (q2:Int),.int .u8 1,.int .u8 (sz:Int),.int .u64 2]/\Blk ((w.alloc (.cells #[.slice (some ⟨b,o,none⟩) n c,.slice ma mn mc,.slice ko kn kc,.int .u32 (k:Int),.int .u64 (q1:Int),.int .u64 (q2:Int),.int .u8 1,.int .u8 (sz:Int),.int .u64 2] 143)).alloc (.cells #[.string ByteArray.empty,.slice none 0 0,.slice none 0 0,.slice none 0 0] 205)) (w.heap.size+1) [.string ByteArray.empty,.slice none 0 0,.slice none 0 0,.slice none 0 0]from
  ⟨((Keep.refl [] w).alloc _).alloc _,(Blk.new w _ _).alloc _,Blk.of_new (cs:=[.string ByteArray.empty,.slice none 0 0,.slice none 0 0,.slice none 0 0]) (by simp)⟩)
 clear hU1 hU2 hKA hB hBx hK hF hoff hz hr hp hp2 hg hFl
 go_enter Tryz.func129,Tryz.ntmps129
 go_wp2_with fail
 refine(HU.out.1 _ H1.out.1).mono ?_;rintro e w4 ⟨rfl,k4⟩;have hb4:=H1.out.2.1.keep k4 (by simp);have hr4:=H1.out.2.2.keep k4 (by simp);obtain⟨a0,a1,a2⟩:=hb4.c3 0 1 2 rfl rfl rfl;have H4:=qq3 hr4 hb4 (H1.out.1.trans k4 (by simp));clear hb4 hr4 k4;go_wp2_with fail
 refine(HU.out.2.2 _ H4.out.2.2).mono ?_;rintro e w5 ⟨rfl,k5⟩;have hb5:=H4.out.2.1.keep k5 (by simp);obtain⟨a0,a4,a7⟩:=hb5.c3 0 4 7 rfl rfl rfl;have H5:=qq3 (H4.out.1.keep k5 (by simp)) hb5 (H4.out.2.2.trans k5 (by simp));clear hb5 k5;go_wp2_with fail
 refine(HU.out.2.1 _ H5.out.2.2).mono ?_;rintro e w6 ⟨rfl,k6⟩;have hb6:=H5.out.2.1.keep k6 (by simp);obtain⟨a0,a1,a2,a5⟩:=hb6.c4 0 1 2 5 rfl rfl rfl rfl;have H6:=qq2 (H5.out.1.keep k6 (by simp)) (H5.out.2.2.trans k6 (by simp));clear hb6 k6;go_wp2_with fail
 go_region_with (
  go_at_call 153;
  refine(HT.out _ H6.out.2.drew).mono ?_;
  rintro e w7 ⟨rfl,k7⟩;
  have r0:=(H6.out.1.drew.keep k7 (by simp)).cell (i:=0) rfl;
  have r1:=(H6.out.1.drew.keep k7 (by simp)).cell (i:=1) rfl;
  have r2:=(H6.out.1.drew.keep k7 (by simp)).cell (i:=2) rfl;
  have r3:=(H6.out.1.drew.keep k7 (by simp)).cell (i:=3) rfl;
  have fr:=(H6.out.1.drew.keep k7 (by simp)).frozen;
  have H7:=qq2 (H6.out.2.drew.trans k7 (by simp)) (H6.out.1.drew.keep k7 (by simp)))
 all_goals
  go_wp2;have hz:=(((H7.out.2.set 0 (.string key)).set 1 (.slice (some ⟨b,o+g,none⟩) m (c-g))).set 2 (.slice ma mn mc)).set 3 (.slice ko kn kc);obtain⟨z0,z1,z2,z3⟩:=hz.c4 0 1 2 3 rfl rfl rfl rfl;refine bodyPost_ret (v:=.tuple #[.agg #[.string key,.slice (some ⟨b,o+g,none⟩) m (c-g),.slice ma mn mc,.slice ko kn kc],.nilIface]) ?_ rfl ⟨rfl,(((H7.out.1.set (.inr (by simp)) _ _ _).set (.inr (by simp)) _ _ _).set (.inr (by simp)) _ _ _).set (.inr (by simp)) _ _ _⟩;rw[results_cell_tmp rfl];go_simp
end Go.Proofs.YtocgdgmfnockiaaGreatDoor
