/- Variants read: validateValueLoop, validateValue. Variants read: NewWithMetadata. Variants read: loadDictionary. Variants read: the metadata's header. -/
import Derived.Test.YtocgdgmfnockiaaGreatDoorV34
import Derived.Test.YtocgdgmfnockiaaGreatDoorV33
set_option linter.unusedVariables false
set_option linter.unusedSimpArgs false
set_option maxRecDepth 100000
set_option maxHeartbeats 8000000
namespace Go.Proofs.YtocgdgmfnockiaaGreatDoor
open Go.RowKit
theorem validLoopC (l d:Nat) (x:Vt d) (F:List ByteArray) (sb rb b o n c:Nat) (ma ko:Option Addr) (mn mc kn kc:Nat) (v:Value) (R cs0:List Value) (w0 w1:World) (hl:l<=30) (hdep:DepV l d x) (hok:OkV d x) (hFx:∀q ∈ keysV d x,q ∈ F) (hF255:F.length<=255) (hwt:wtV d x<=20000) (k01:Keep [] w0 w1) (hFr:FrAt w1 sb (0*14) (VF.fresh b o n c) [] R) (hR:R.length=14*31)
  (hrb:Blk w1 rb cs0) (hc0:cs0.length=64*3) (hsb:w0.heap.size<=sb) (hrb0:w0.heap.size<=rb) (hrs:rb≠sb) (hb0:b<w0.heap.size) (hB:Byt w0 b o (encV d F x)) (hEn:(encV d F x).length<=n) (hnc:n<=c) (hn:n<=1000000000) (hK:KeysAt w0 (.slice ko kn kc) F):
  Calls Tryz.prog 168 #[.agg #[.slice ma mn mc,.slice ko kn kc],v,.slice (some ⟨sb,0,none⟩) 1 32,.slice (some ⟨rb,0,none⟩) 0 64,.int .i64 0] w1 fun e w'=>e=.returned (.tuple #[.int .i64 ((encV d F x).length:Int),.nilIface])/\Keep [] w0 w':=by
 have hbx:Blk (w1.alloc (.cells #[.slice ma mn mc,.slice ko kn kc] 55)) w1.heap.size [.slice ma mn mc,.slice ko kn kc]:=Blk.new w1 _ _;have k02:Keep [] w0 (w1.alloc (.cells #[.slice ma mn mc,.slice ko kn kc] 55)):=k01.alloc _;have hF2:FrAt (w1.alloc (.cells #[.slice ma mn mc,.slice ko kn kc] 55)) sb (0*14) (VF.fresh b o n c) [] R:=hFr.keep ((Keep.refl [] w1).alloc _) (by simp);have hrb2:Blk (w1.alloc (.cells #[.slice ma mn mc,.slice ko kn kc] 55)) rb cs0:=hrb.alloc _;have hs1:=hFr.lt;have hs2:=hrb.lt;have hs3:=k01.size;have H:=qq4 hbx k02 hF2 hrb2;clear hbx k02 hF2 hrb2 hFr hrb
 go_enter Tryz.func168,Tryz.ntmps168
 go_wp2_with fail
 generalize w1.alloc (.cells #[.slice ma mn mc,.slice ko kn kc] 55)=w2 at H ⊢;obtain⟨hbx,k02,hF2,hrb2⟩:=H.out;obtain⟨bxb,hbxb⟩:∃bxb,bxb=w1.heap.size:=⟨_,rfl⟩;rw[<-hbxb]at hbx ⊢;refine LoopOK.loop (c:=vbody) ?_;refine LSC.run (C:=⟨w0,sb,bxb,b,F,ma,ko,mn,mc,kn,kc,v,_⟩) (k:=1) (rtn:=0) (has:=false) ?_ rfl _ _ _ _ _ _ _ _ _ _ _ _ _ _ _ _ _ _ _ _ _ _ _ _ _ _ _ _ _ _ _ _ _ _ _ _ _ _ _ _ _ _ _ _ _ _ _ _ _ _ _ _ _ _ _ _ _ _ _ _ _ _ _ _ _ _ _ _ _ _ _ _ _ _ _ _ _ _ _ _ _ _ _ _ _ _ _ _ _ _ _ _ _ _ _ _ _ _ _ _ _ _ _ _ _ _ _ _ _ _ _ _ _ _ _ _ _ _ _ _ _ _ _ _ _ _ _ _ _ _ _ _ _ _ _ _ _ _ _ _ _ _ _ _ _ _ _ _ _ _ _ _ _ _ _ _ _ _ _ _ _ _ _ _ _ _ _ _ _ _ _ _ _ _ _ _ _ _ _ _ _ _ _ _ _ _ _ _ _ _ _ _ _ _ _ _ _ _ _ _ _ _ _ _ _ _ _ _ _ _ _ _ _ _ _ _ _ _ _ _ _ _ _ _ _ _ _ _ _ _ _ _ _ _ _ _ _ _ _ _ _ _ _ _ _ _ _ _ _ _ _ _ _ _ _ _ _ _ _ _ _ _ _ _ _ _ _ _ _ _ _ _ _ _ _ _ _ _ _ _ _ _ _ _ _ _ _ _ _ _ _ _ _ _ _;refine validV _ ?hC l d x hdep hok hFx hwt 0 1 [] R w2 _ _ 0 [] o n c rfl (by omega) hR hF2 ?hS hB hEn hnc hn (by omega) ?hA
 case hC=>exact⟨hK,hF255,hsb,by show w0.heap.size<=bxb;omega,by show bxb≠sb;omega,hb0,fun ch a a2 w hd h=>⟨hd.trans h.1,h.2⟩⟩
 case hS=>exact⟨k02,hbx,rb,0,64,[],cs0,rfl,hrb2,hc0,rfl,by simp,by omega,rfl,rfl,hrb0,⟨hrs,by show rb≠bxb;omega⟩,by omega⟩
 intro w' fr R' rng' hF' hR' hS';refine⟨fun h=>by omega,fun _ a h10 h11 hd=>?_⟩;show bodyPost Tryz.prog Tryz.f168 (fun e w'=>e=.returned (.tuple #[.int .i64 ((encV d F x).length:Int),.nilIface])/\Keep [] w0 w') .ret a w'
 refine bodyPost_ret (v:=.tuple #[.int .i64 ((encV d F x).length:Int),.nilIface]) ?_ hd ⟨rfl,hS'.kw⟩;simp[results,Tryz.results168,go_sem];exact⟨by simpa using h10,by simpa using h11⟩
def zfr:List Value:=[.int .u64 0,.int .u32 0,.int .u64 0,.int .u64 0,.int .u32 0,.int .u32 0,.int .u32 0,.int .u32 0,.int .u32 0,.int .u32 0,.int .u8 0,.int .u8 0,.bool false]
def zrest:List Value:=(List.replicate 31 (.slice none 0 0::zfr)).flatten
theorem length_zrest:zrest.length=14*31:=by kernel_rfl
theorem zero264:Tryz.zeroCells264.toList=.slice none 0 0::(zfr++zrest):=by kernel_rfl
theorem zero268:Tryz.zeroCells268.toList.length=64*3:=by kernel_rfl
theorem zero264_set (v:Value):Tryz.zeroCells264.setIfInBounds 0 v=(v::(zfr++zrest)).toArray:=by
 apply Array.ext';rw[Array.toList_setIfInBounds,zero264];rfl
theorem validC (l d:Nat) (x:Vt d) (F:List ByteArray) (b o n c:Nat) (ma ko:Option Addr) (mn mc kn kc:Nat) (w:World) (hl:l<=30) (hdep:DepV l d x) (hok:OkV d x) (hFx:∀q ∈ keysV d x,q ∈ F) (hF255:F.length<=255) (hwt:wtV d x<=20000) (hb0:b<w.heap.size) (hB:Byt w b o (encV d F x)) (hEn:(encV d F x).length<=n) (hnc:n<=c) (hn:n<=1000000000) (hK:KeysAt w (.slice ko kn kc) F):
  Calls Tryz.prog 148 #[.agg #[.slice ma mn mc,.slice ko kn kc],.slice (some ⟨b,o,none⟩) n c] w fun e w'=>e=.returned (.tuple #[.int .i64 ((encV d F x).length:Int),.nilIface])/\Keep [] w w':=by
 obtain⟨w3,hw3⟩:∃w3,w3=(((w.alloc (.cells #[.slice ma mn mc,.slice ko kn kc] 55)).alloc (.cells (Tryz.zeroCells264.setIfInBounds 0 (.slice (some ⟨b,o,none⟩) n c)) 264)).alloc (.cells Tryz.zeroCells268 268)):=⟨_,rfl⟩;have k3:Keep [] w w3:=by rw[hw3];exact(((Keep.refl [] w).alloc _).alloc _).alloc _
 have hF3:FrAt w3 (w.heap.size+1) (0*14) (VF.fresh b o n c) [] zrest:=by
  rw[hw3,zero264_set];exact⟨rfl,(Blk.of_new (cs:=.slice (some ⟨b,o,none⟩) n c::(zfr++zrest)) (by simp)).alloc _⟩
 have hB3:Blk w3 (w.heap.size+1+1) Tryz.zeroCells268.toList:=by
  rw[hw3];have:=Blk.of_new (w:=(w.alloc (.cells #[.slice ma mn mc,.slice ko kn kc] 55)).alloc (.cells (Tryz.zeroCells264.setIfInBounds 0 (.slice (some ⟨b,o,none⟩) n c)) 264)) (b:=w.heap.size+1+1) (cs:=Tryz.zeroCells268.toList) (T:=268) (by simp);rw[Array.toArray_toList]at this;exact this
 have hL:=validLoopC l d x F (w.heap.size+1) (w.heap.size+1+1) b o n c ma ko mn mc kn kc (.slice (some ⟨b,o,none⟩) n c) zrest Tryz.zeroCells268.toList w w3 hl hdep hok hFx hF255 hwt k3 hF3 length_zrest hB3 zero268 (by omega) (by omega) (by omega) hb0 hB hEn hnc hn hK;rw[hw3]at hL;have HL:=qq hL;clear hL hB3 hF3 k3 hw3 hok hdep hFx hB hK
 go_enter Tryz.func148,Tryz.ntmps148
 go_wp2_with fail
 refine HL.out.mono ?_;rintro e w4 ⟨rfl,k4⟩;go_wp2
 go_ret2
 exact⟨rfl,k4⟩
theorem validBytesC (l d:Nat) (x:Vt d) (F:List ByteArray) (b o n c:Nat) (ma ko:Option Addr) (mn mc kn kc:Nat) (w:World) (hl:l<=30) (hdep:DepV l d x) (hok:OkV d x) (hFx:∀q ∈ keysV d x,q ∈ F) (hF255:F.length<=255) (hwt:wtV d x<=20000) (hb0:b<w.heap.size) (hB:Byt w b o (encV d F x)) (hEn:(encV d F x).length=n) (hnc:n<=c) (hn:n<=1000000000) (hK:KeysAt w (.slice ko kn kc) F):
  Calls Tryz.prog 110 #[.agg #[.slice ma mn mc,.slice ko kn kc],.slice (some ⟨b,o,none⟩) n c] w fun e w'=>e=.returned .nilIface/\Keep [] w w':=by
 have k1:Keep [] w (w.alloc (.cells #[.slice ma mn mc,.slice ko kn kc] 55)):=(Keep.refl [] w).alloc _;have hV:=validC l d x F b o n c ma ko mn mc kn kc (w.alloc (.cells #[.slice ma mn mc,.slice ko kn kc] 55)) hl hdep hok hFx hF255 hwt (by simp;omega) (hB.keep k1 (by simp)) (by omega) hnc hn (hK.keep k1);rw[hEn]at hV;have HV:=qq2 hV k1;clear hV k1 hdep hok hFx hB hK hEn
 go_enter Tryz.func110,Tryz.ntmps110
 go_wp2_with fail
 refine HV.out.1.mono ?_;rintro e w4 ⟨rfl,k4⟩;go_wp2;go_ret;exact⟨rfl,HV.out.2.trans k4 (by simp)⟩
theorem newWithC (l d:Nat) (x:Vt d) (F:List ByteArray) (b o n c:Nat) (ma ko:Option Addr) (mn mc kn kc:Nat) (w:World) (hl:l<=30) (hdep:DepV l d x) (hok:OkV d x) (hFx:∀q ∈ keysV d x,q ∈ F) (hF255:F.length<=255) (hwt:wtV d x<=20000) (hb0:b<w.heap.size) (hB:Byt w b o (encV d F x)) (hEn:(encV d F x).length=n) (hnc:n<=c) (hn:n<=1000000000) (hn0:0<n) (hK:KeysAt w (.slice ko kn kc) F):
  Calls Tryz.prog 61 #[.agg #[.slice ma mn mc,.slice ko kn kc],.slice (some ⟨b,o,none⟩) n c] w fun e w'=>e=.returned (.tuple #[.agg #[.slice (some ⟨b,o,none⟩) n c,.slice ma mn mc,.slice ko kn kc],.nilIface])/\Keep [] w w':=by
 obtain⟨w2,hw2⟩:∃w2,w2=(w.alloc (.cells #[.slice ma mn mc,.slice ko kn kc] 55)).alloc (.cells #[.slice none 0 0,.slice none 0 0,.slice none 0 0] 57):=⟨_,rfl⟩;have k2:Keep [] w w2:=by rw[hw2];exact((Keep.refl [] w).alloc _).alloc _
 have hbx:Blk w2 w.heap.size [.slice ma mn mc,.slice ko kn kc]:=by rw[hw2];exact(Blk.new w _ _).alloc _
 have hr:Blk w2 (w.heap.size+1) [.slice none 0 0,.slice none 0 0,.slice none 0 0]:=by rw[hw2];exact Blk.of_new (cs:=[.slice none 0 0,.slice none 0 0,.slice none 0 0]) (by simp)
 have hV:=validBytesC l d x F b o n c ma ko mn mc kn kc w2 hl hdep hok hFx hF255 hwt (by have:=k2.size;omega) (hB.keep k2 (by simp)) hEn hnc hn (hK.keep k2);have HV:=qq4 k2 hbx hr hV;have Hw2:=qq hw2;have hn0i:¬(n:Int)=0:=by omega
 clear hV k2 hdep hok hFx hB hK hEn hbx hr hw2
 go_enter Tryz.func61,Tryz.ntmps61
 go_wp2_with fail
 rw[<-Hw2.out];refine HV.out.2.2.2.mono ?_;rintro e w4 ⟨rfl,k4⟩;have hb4:=HV.out.2.1.keep k4 (by simp);have hr4:=HV.out.2.2.1.keep k4 (by simp);obtain⟨e0,e1⟩:=hb4.c2 0 1 rfl rfl;obtain⟨r0,r1,r2⟩:=hr4.c3 0 1 2 rfl rfl rfl;have fr:=hr4.frozen;have HR:=qq hr4;have K4:Keep [] w w4:=HV.out.1.trans k4 (by simp);have HK:=qq K4;clear hb4 hr4 K4 k4;go_wp2;have hz:=((HR.out.set 0 (.slice (some ⟨b,o,none⟩) n c)).set 1 (.slice ma mn mc)).set 2 (.slice ko kn kc);obtain⟨z0,z1,z2⟩:=hz.c3 0 1 2 rfl rfl rfl;refine bodyPost_ret (v:=.tuple #[.agg #[.slice (some ⟨b,o,none⟩) n c,.slice ma mn mc,.slice ko kn kc],.nilIface]) ?_ rfl ⟨rfl,((HK.out.set (.inr (by omega)) _ _ _).set (.inr (by omega)) _ _ _).set (.inr (by omega)) _ _ _⟩;rw[results_cell_tmp rfl];go_simp
theorem info_sl30:(Tryz.prog.info? 30).map (fun i=>(i.zero,i.size,i.bytes))=some (some (.slice none 0 0),1,24):=by kernel_rfl
theorem makeKeys (n:Nat) (hn:n<=1000000) (w:World):(Instr.makeSlice 46 (.int .u32 (n:Int)) (.int .u32 (n:Int))).run Tryz.prog w=.ok (.slice (some ⟨w.heap.size,0,none⟩) n n) (w.alloc (.cells (List.replicate n (.slice none 0 0)).toArray 30)):=by
 obtain⟨i0,hi,hz0,hz1,hz2⟩:=info_parts info_sl30;have h:=run_makeSlice (P:=Tryz.prog) w 46 30 i0 (.slice none 0 0) Tryz.underlying46 hi hz0 .u32 .u32 n n (by omega) (by omega) (by rw[hz1];omega) (by rw[hz2];omega) (by omega);rw[h,hz1,Int.toNat_natCast,Nat.mul_one];show _=Result.ok _ (w.alloc (.cells (List.replicate n (.slice none 0 0)).toArray 30))
 rw[<-madeRow];rfl
theorem sizes_eq (K:List ByteArray):(K.map bytesN).map List.length=K.map (·.size):=by
 rw[List.map_map];apply List.map_congr_left;intro k _;simp
theorem totB_keys (K:List ByteArray):totB bytesN K=szK K:=length_bytesK K
theorem tabL_keys (K:List ByteArray):tabL bytesN K=offsL 0 (K.map (·.size))++[szK K]:=by unfold tabL;rw[sizes_eq,totB_keys]
def metaSz (K:List ByteArray) (tot:Nat):Nat:=sizeW (max tot K.length)

def metaHd (K:List ByteArray) (tot:Nat):Nat:=1+(K.length+2)*metaSz K tot
theorem metaB_parts {so:Bool} {K:List ByteArray} {tot:Nat} {w:World} {g:Nat} (h:Byt w g 0 (metaB so K tot)):w.cell? ⟨g,0,none⟩=some (.int .u8 ((1+(if so then 16 else 0)+64*(metaSz K tot-1):Nat):Int))/\Byt w g 1 (leBytes (metaSz K tot) K.length)/\Byt w g (1+metaSz K tot) (tabB (metaSz K tot) (tabL bytesN K))/\Byt w g (metaHd K tot) ((K.map bytesN).flatten):=by
 unfold metaB at h;rw[<-tabL_keys]at h;have h1:=h.tail.right;rw[length_leBytes]at h1;have h2:=h1.right;rw[length_tabB,length_tabL]at h2;have e0:0+1=1:=rfl;refine⟨h.head,h.tail.left,?_,?_⟩
 ·have:=h1.left;rw[Nat.zero_add]at this;exact this
 ·have:=h2.left;rw[show 0+1+sizeW (max tot K.length)+(K.length+1)*sizeW (max tot K.length)=metaHd K tot by unfold metaHd metaSz;rw[show(K.length+2)=(K.length+1)+1 from rfl,Nat.succ_mul (K.length+1)];omega]at this;exact this
theorem length_metaB_eq (so:Bool) (K:List ByteArray) (tot:Nat) (h:szK K<=tot):(metaB so K tot).length=metaHd K tot+tot:=by
 unfold metaB metaHd metaSz;simp only[List.length_cons,List.length_append,length_leBytes,length_tabB,length_offsL,List.length_map,length_bytesK,List.length_replicate,List.length_nil,Nat.zero_add];rw[show(K.length+2)=(K.length+1)+1 from rfl,Nat.succ_mul (K.length+1)];omega
theorem metaHdr_cases {so:Bool} {K:List ByteArray} {tot h:Nat} (hh:h=1+(if so then 16 else 0)+64*(metaSz K tot-1)):(h:Int)%16=1/\h / 64+1=metaSz K tot/\h<256/\bits .and .u8 (h:Int) 15=1:=by
 have h1:=sizeW_pos (max tot K.length);have h4:=sizeW_le (max tot K.length);unfold metaSz at*;generalize sizeW (max tot K.length)=s at*;have hcase:s=1\/s=2\/s=3\/s=4:=by omega
 cases so<;>rcases hcase with rfl|rfl|rfl|rfl<;>subst hh<;>decide
theorem versionC (g nn c h:Nat) (kv:Value) (w:World) (hk:∃ao n kc,kv=.slice ao n kc) (hc:w.cell? ⟨g,0,none⟩=some (.int .u8 (h:Int))) (hn:0<nn) (hb:bits .and .u8 (h:Int) 15=1) (hm:(h:Int)%16=1):
  Calls Tryz.prog 107 #[.agg #[.slice (some ⟨g,0,none⟩) nn c,kv]] w fun e w'=>e=.returned (.int .u8 1)/\Keep [] w w':=by
 obtain⟨ao,n,kc,rfl⟩:=hk;have hc':=fun o=>((Keep.refl [] w).alloc o).cell_some hc (by simp)
 go_enter Tryz.func107,Tryz.ntmps107
 go_wp2;go_ret;exact⟨rfl,(Keep.refl [] w).alloc _⟩
theorem offSizeC (g nn c h sz:Nat) (kv:Value) (w:World) (hk:∃ao n kc,kv=.slice ao n kc) (hc:w.cell? ⟨g,0,none⟩=some (.int .u8 (h:Int))) (hn:0<nn) (hs:h / 64+1=sz) (hz:sz<=4) (h256:h<256):
  Calls Tryz.prog 108 #[.agg #[.slice (some ⟨g,0,none⟩) nn c,kv]] w fun e w'=>e=.returned (.int .u8 (sz:Int))/\Keep [] w w':=by
 obtain⟨ao,n,kc,rfl⟩:=hk;obtain⟨q,hq⟩:∃q,q=h / 64:=⟨_,rfl⟩;have hq1:(h:Int) / 64=(q:Int):=by omega
 have hq4:q<=3:=by omega
 have hqm:(q:Int)%4=(q:Int):=by omega
 have hb:bits .and .u8 (q:Int) 3=(q:Int):=by rw[and3 q (by omega)];omega
 have hsz:(q:Int)+1=(sz:Int):=by omega
 have hc':=fun o=>((Keep.refl [] w).alloc o).cell_some hc (by simp);clear hs hq
 go_enter Tryz.func108,Tryz.ntmps108
 go_wp2;go_ret;exact⟨rfl,(Keep.refl [] w).alloc _⟩
end Go.Proofs.YtocgdgmfnockiaaGreatDoor
