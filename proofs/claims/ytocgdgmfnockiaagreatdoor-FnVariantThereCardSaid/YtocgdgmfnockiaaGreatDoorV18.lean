/- Variants read: readLEU32 at whatever bytes; a text out of bytes. Variants read: the frames of the validation's stack. No walk here. Variants back: littleBytes. Variants read: Value.Value of strings and binary values. Variants read: Value.Value of long strings and binary values. -/
import Derived.Test.YtocgdgmfnockiaaGreatDoorV05
import Derived.Test.YtocgdgmfnockiaaGreatDoorV16
import Derived.Laws.BytesArg
import Derived.Test.YtocgdgmfnockiaaGreatDoorV02
import Derived.Test.YtocgdgmfnockiaaGreatDoorV17
set_option linter.unusedVariables false
set_option linter.unusedSimpArgs false
set_option maxRecDepth 100000
set_option maxHeartbeats 8000000
namespace Go.Proofs.YtocgdgmfnockiaaGreatDoor
open Go.RowKit
theorem strOf_bytesN (s:ByteArray):strOfNums ((bytesN s).map fun x:Nat=>(x:Int))=s:=by
 unfold strOfNums bytesN;apply ByteArray.ext;have h:((fun n:Int=>UInt8.ofNat n.toNat)∘(fun x:Nat=>(x:Int))∘fun x:UInt8=>x.toNat)=id:=by
  funext x;simp
 simp only[List.map_map];rw[h];simp

theorem run_text {w:World} {b o:Nat} {s:ByteArray} (cap:Nat) (hB:Byt w b o (bytesN s)):(convert 30 9 (.slice (some ⟨b,o,none⟩) s.size cap)).run Tryz.prog w=.ok (.string s) w:=by
 have:=run_convert_bytes_arg (P:=Tryz.prog) w 30 5 Tryz.underlying30 Tryz.underlying5 b o s.size cap ((bytesN s).map fun x:Nat=>(x:Int)) (by simp) (fun i hi=>by
  have hl:i<(bytesN s).length:=by rw[length_bytesN];exact hi
  have h1:=hB i _ (List.getElem?_eq_getElem hl);rw[h1];simp[List.getD,List.getElem?_eq_getElem hl]) 9 Tryz.underlying9
 rw[strOf_bytesN]at this;exact this

def KeyB (w:World) (v:Value) (k:ByteArray):Prop:=∃b o cap,v=.slice (some ⟨b,o,none⟩) k.size cap/\k.size<=cap/\Byt w b o (bytesN k)

def KeysAt (w:World) (v:Value) (F:List ByteArray):Prop:=∃ao cap,v=.slice ao F.length cap/\F.length<=cap/\∀(i:Nat) (k:ByteArray),F[i]?=some k->∃a u,ao=some a/\w.cell? (a.add i)=some u/\KeyB w u k
theorem KeyB.keep {w w':World} {v:Value} {k:ByteArray} (h:KeyB w v k) (kk:Keep [] w w'):KeyB w' v k:=by
 obtain⟨b,o,cap,h1,h2,h3⟩:=h;exact⟨b,o,cap,h1,h2,h3.keep kk (by simp)⟩
theorem KeysAt.keep {w w':World} {v:Value} {F:List ByteArray} (h:KeysAt w v F) (kk:Keep [] w w'):KeysAt w' v F:=by
 obtain⟨ao,cap,h1,h2,h3⟩:=h;refine⟨ao,cap,h1,h2,fun i k hk=>?_⟩;obtain⟨a,u,e,hc,hu⟩:=h3 i k hk;exact⟨a,u,e,kk.cell_some hc (by simp),hu.keep kk⟩
theorem keyAtC (ma:Option Addr) (mn mc:Nat) (kv:Value) (F:List ByteArray) (i:Nat) (k:ByteArray) (w:World) (hK:KeysAt w kv F) (hi:F[i]?=some k) (hF:F.length<=1000000):
  Calls Tryz.prog 155 #[.agg #[.slice ma mn mc,kv],.int .u32 (i:Int)] w fun e w'=>e=.returned (.tuple #[.string k,.nilIface])/\Keep [] w w':=by
 obtain⟨ao,cap,rfl,hcap,hk⟩:=hK;obtain⟨a,u,rfl,hc,kb,ko,kc,rfl,hkc,hB⟩:=hk i k hi;have hil:=(List.getElem?_eq_some_iff.1 hi).1;obtain⟨n,hn⟩:∃n,n=F.length:=⟨_,rfl⟩;rw[<-hn]at hcap hF hil ⊢;have hlt:¬(n:Int)<=(i:Int):=by omega
 have hB1:=fun o=>hB.keep ((Keep.refl [] w).alloc o) (by simp);have hcv:=fun o=>run_text kc (hB1 o);have hc1:=fun o=>((Keep.refl [] w).alloc o).cell_some hc (by simp);clear hk hi hn hB hc
 go_enter Tryz.func155,Tryz.ntmps155
 go_wp2
 go_ret2
 exact⟨rfl,(Keep.refl [] w).alloc _⟩

structure VF where
 vb:Nat
 vo:Nat
 vn:Nat
 vc:Nat
 size:Nat
 dsize:Nat
 dstart:Nat
 ostart:Nat
 num:Nat
 next:Nat
 pidx:Nat
 pstart:Nat
 pexp:Nat
 rstart:Nat
 osz:Nat
 kind:Nat
 init:Bool
def VF.cells (f:VF):List Value:=
 [.slice (some ⟨f.vb,f.vo,none⟩) f.vn f.vc,.int .u64 (f.size:Int),.int .u32 (f.dsize:Int),.int .u64 (f.dstart:Int),.int .u64 (f.ostart:Int),.int .u32 (f.num:Int),.int .u32 (f.next:Int),.int .u32 (f.pidx:Int),.int .u32 (f.pstart:Int),
  .int .u32 (f.pexp:Int),.int .u32 (f.rstart:Int),.int .u8 (f.osz:Int),.int .u8 (f.kind:Int),.bool f.init]

def FrAt (w:World) (sb p:Nat) (f:VF) (L R:List Value):Prop:=p=L.length/\Blk w sb (L++(f.cells++R))
theorem FrAt.keep {S:List Nat} {w w':World} {sb p:Nat} {f:VF} {L R:List Value} (h:FrAt w sb p f L R) (k:Keep S w w') (hb:sb ∉ S):FrAt w' sb p f L R:=⟨h.1,h.2.keep k hb⟩
theorem FrAt.drew {w:World} {sb p:Nat} {f:VF} {L R:List Value} (h:FrAt w sb p f L R):FrAt w.drew sb p f L R:=h
theorem FrAt.cell {w:World} {sb p:Nat} {f:VF} {L R:List Value} (h:FrAt w sb p f L R) {j:Nat} {v:Value} (hj:f.cells[j]?=some v):w.cell? ⟨sb,p+j,none⟩=some v:=by
 obtain⟨rfl,hb⟩:=h;refine hb.cell ?_;have hl:=(List.getElem?_eq_some_iff.1 hj).1;rw[List.getElem?_append_right (by omega),Nat.add_sub_cancel_left,List.getElem?_append_left hl];exact hj
theorem FrAt.cell0 {w:World} {sb p:Nat} {f:VF} {L R:List Value} (h:FrAt w sb p f L R):w.cell? ⟨sb,p,none⟩=some (.slice (some ⟨f.vb,f.vo,none⟩) f.vn f.vc):=by
 have:=h.cell (j:=0) (v:=.slice (some ⟨f.vb,f.vo,none⟩) f.vn f.vc) rfl;simpa using this
theorem FrAt.frozen {w:World} {sb p:Nat} {f:VF} {L R:List Value} (h:FrAt w sb p f L R) (j:Nat):w.frozen? ⟨sb,j,none⟩=false:=h.2.frozen j
theorem set_fr (L A R:List Value) (j:Nat) (v:Value) (hj:j<A.length):(L++(A++R)).set (L.length+j) v=L++(A.set j v++R):=by
 rw[List.set_append_right _ _ (by omega),Nat.add_sub_cancel_left,List.set_append_left _ _ hj]

theorem FrAt.set {w:World} {sb p:Nat} {f f':VF} {L R:List Value} (h:FrAt w sb p f L R) (j:Nat) (v:Value) (hj:j<14) (hf:f.cells.set j v=f'.cells):FrAt (w.setCell ⟨sb,p+j,none⟩ v) sb p f' L R:=by
 obtain⟨rfl,hb⟩:=h;refine⟨rfl,?_⟩;have:=hb.set (L.length+j) v;rw[set_fr _ _ _ _ _ (by simpa[VF.cells]using hj),hf]at this;exact this

theorem FrAt.setI {w:World} {sb p:Nat} {f f':VF} {L R:List Value} (h:FrAt w sb p f L R) (j:Nat) (k:IntKind) (z:Int) (N:Nat) (hj:j<14) (hz:z=(N:Int)) (hf:f.cells.set j (.int k (N:Int))=f'.cells):FrAt (w.setCell ⟨sb,p+j,none⟩ (.int k z)) sb p f' L R:=by
 rw[hz];exact h.set j _ hj hf
theorem FrAt.lt {w:World} {sb p:Nat} {f:VF} {L R:List Value} (h:FrAt w sb p f L R):sb<w.heap.size:=h.2.lt
theorem info_byte:(Tryz.prog.info? 5).map (fun i=>(i.zero,i.size,i.bytes))=some (some (.int .u8 0),1,1):=by kernel_rfl
theorem makeB (n:Nat) (hn:n<=10000000) (w:World):(Instr.makeSlice 30 (.int .i64 (n:Int)) (.int .i64 (n:Int))).run Tryz.prog w=.ok (.slice (some ⟨w.heap.size,0,none⟩) n n) (w.alloc (.cells (rowV .u8 (List.replicate n 0)).toArray 5)):=by
 obtain⟨i0,hi,hz0,hz1,hz2⟩:=info_parts info_byte;have h:=run_makeSlice (P:=Tryz.prog) w 30 5 i0 (.int .u8 0) Tryz.underlying30 hi hz0 .i64 .i64 n n (by omega) (by omega) (by rw[hz1];omega) (by rw[hz2];omega) (by omega);rw[h,hz1,rowV_replicate,Int.toNat_natCast,Nat.mul_one];show _=Result.ok _ (w.alloc (.cells (List.replicate n (.int .u8 0)).toArray 5))
 rw[<-madeRow];rfl
theorem makeEight (w:World):(Instr.makeSlice 30 (.int .i64 8) (.int .i64 8)).run Tryz.prog w=.ok (.slice (some ⟨w.heap.size,0,none⟩) 8 8) (w.alloc (.cells (rowV .u8 (leBytes 0 0++List.replicate 8 0)).toArray 5)):=makeB 8 (by omega) w
theorem setLow (x j:Nat) (hj:j<8):(rowV .u8 (leBytes j x++List.replicate (8-j) 0)).set j (.int .u8 ((x / 256^j%256:Nat):Int))=rowV .u8 (leBytes (j+1) x++List.replicate (8-(j+1)) 0):=by
 have hl:(rowV .u8 (leBytes j x)).length=j:=by simp
 rw[rowV_append,rowV_append,leBytes_snoc,rowV_append,List.set_append_right _ _ (by omega),hl,Nat.sub_self];rw[show 8-j=(8-(j+1))+1 by omega,List.replicate_succ];simp[rowV]
theorem littleBC (x:Nat) (s:ByteArray) (w:World) (hx:x<18446744073709551616) (hs:bytesN s=leBytes 8 x):Calls Tryz.prog 67 #[.int .u64 (x:Int),.int .i64 8] w fun e w'=>e=.returned (.string s)/\Keep [] w w':=by
 have hmk:=makeEight w;have hb0:Blk (w.alloc (.cells (rowV .u8 (leBytes 0 0++List.replicate 8 0)).toArray 5)) w.heap.size (rowV .u8 (leBytes 0 x++List.replicate (8-0) 0)):=Blk.new w _ _;have hk0:Keep [] w (w.alloc (.cells (rowV .u8 (leBytes 0 0++List.replicate 8 0)).toArray 5)):=(Keep.refl [] w).alloc _;generalize w.alloc (.cells (rowV .u8 (leBytes 0 0++List.replicate 8 0)).toArray 5)=w1 at hmk hb0 hk0;obtain⟨g,hg⟩:∃g,g=w.heap.size:=⟨_,rfl⟩;rw[<-hg]at hmk hb0;have H:=qq4 hb0 hk0 hs hg;clear hb0 hk0 hs hg
 go_enter Tryz.func67,Tryz.ntmps67
 go_wp2_with fail
 go_loopw [11] (fun i wr=>∃j:Nat,j<=8/\i=.int .i64 (j:Int)/\Keep [] w wr/\Blk wr g (rowV .u8 (leBytes j x++List.replicate (8-j) 0))) (fun i _=>8-(intOf i).toNat)
 case atStart=>exact⟨0,Nat.zero_le _,rfl,H.out.2.1,H.out.1⟩
 case round=>
  obtain⟨j,hj,rfl,kk,hV⟩:=hrel;by_cases hj2:j<8
  ·obtain⟨y,hy⟩:∃y,y=x / 256^j%256:=⟨_,rfl⟩;obtain⟨u,hcu⟩:∃u,wr.cell? ⟨g,j,none⟩=some u:=by
    have hl:j<(rowV .u8 (leBytes j x++List.replicate (8-j) 0)).length:=by simp;omega
    exact⟨_,hV.cell (List.getElem?_eq_getElem hl)⟩
   have hfu:=hV.unfrozen;have HV:=qq3 hV hy kk;clear hV hy kk;go_wp2;go_roundw
   case rel=>
    refine⟨j+1,hj2,by go_num,HV.out.2.2.set (.inr (by rw[H.out.2.2.2];omega)) _ _ _,?_⟩;have h:=HV.out.1.set j (.int .u8 (y:Int));rw[HV.out.2.1,setLow x j hj2]at h;have e:(x:Int) / 2^(8*j)%256=((x / 256^j%256:Nat):Int):=by
     rw[show(256:Nat)^j=2^(8*j)by rw[Nat.pow_mul]];simp
    rw[e];exact h
   case measure=>simp[intOf];omega
  ·have hjk:j=8:=by omega
   subst hjk;have hB:Byt wr g 0 (bytesN s):=by
    rw[H.out.2.2.1];intro i y hy;rw[Nat.zero_add];refine hV.cell ?_;rw[Nat.sub_self,List.replicate_zero,List.append_nil];exact rowV_get hy
   have ht:=run_text 8 hB;have hsz:s.size=8:=by
    have:=congrArg List.length H.out.2.2.1;rw[length_bytesN,length_leBytes]at this;exact this
   rw[hsz]at ht;have HK:=qq kk;clear hB hV kk;go_wp2;go_ret;exact⟨rfl,HK.out⟩
theorem valShort (b o n c h m:Nat) (s:ByteArray) (ma ko:Option Addr) (mn mc kn kc:Nat) (w:World) (hc:w.cell? ⟨b,o,none⟩=some (.int .u8 (h:Int))) (hh:h=1+4*m) (hm:m<64) (hs:s.size=m) (hB:Byt w b (o+1) (bytesN s)) (hn:1+m<=n) (hnc:n<=c) (hn9:n<=1000000000):Calls Tryz.prog 63 #[.agg #[.slice (some ⟨b,o,none⟩) n c,.slice ma mn mc,.slice ko kn kc]] w fun e w'=>e=.returned (.iface 9 (.string s))/\Keep [] w w':=by
 have hh256:h<256:=by omega
 have hr:h%4=1:=by omega
 have hn0:0<n:=by omega
 have hT:=fun(wx:World) (kx:Keep [] w wx)=>run_text (s:=s) (c-1) (hB.keep kx (by simp));rw[hs]at hT;have HT:=qq hT;have hd:(h:Int) / 4=(m:Int):=by omega
 have hmc:1+(m:Int)<=(c:Int):=by omega
 have hmc':1+m<=c:=by omega
 have hm64:m<64:=hm;have Hs:=qq hs;clear hh hT hB hs hm;rcases Nat.eq_zero_or_pos m with h0|h0
 ·subst h0;have hs0:s=ByteArray.empty:=by
   apply ByteArray.ext;apply Array.eq_empty_of_size_eq_zero;exact Hs.out
  subst hs0;clear HT;have hb1:Blk (w.alloc (.cells #[.slice (some ⟨b,o,none⟩) n c,.slice ma mn mc,.slice ko kn kc] 57)) w.heap.size [.slice (some ⟨b,o,none⟩) n c,.slice ma mn mc,.slice ko kn kc]:=Blk.new w _ _;have k1:Keep [] w (w.alloc (.cells #[.slice (some ⟨b,o,none⟩) n c,.slice ma mn mc,.slice ko kn kc] 57)):=(Keep.refl [] w).alloc _;have hc1:=k1.cell_some hc (by simp);have HB:=qq (basicC b o n c h ma ko mn mc kn kc _ hc1 hn0 hh256);have H1:=qq3 hb1 k1 hc1;clear hb1 k1 hc1 hc
  go_enter Tryz.func63,Tryz.ntmps63
  go_wp2_with fail
  refine HB.out.mono ?_;rintro e w2 ⟨rfl,k2⟩;have hb2:=H1.out.1.keep k2 (by simp);obtain⟨a0,a1,a2⟩:=hb2.c3 0 1 2 rfl rfl rfl;have e0:=k2.cell_some H1.out.2.2 (by simp);have K2:Keep [] w w2:=H1.out.2.1.trans k2 (by simp);rw[hr];have HK:=qq2 K2 hb2;clear hb2 k2 HB K2;go_wp2;go_ret;exact⟨rfl,HK.out.1⟩
 ·have hmi:0<(m:Int):=by omega
  have hb1:Blk (w.alloc (.cells #[.slice (some ⟨b,o,none⟩) n c,.slice ma mn mc,.slice ko kn kc] 57)) w.heap.size [.slice (some ⟨b,o,none⟩) n c,.slice ma mn mc,.slice ko kn kc]:=Blk.new w _ _;have k1:Keep [] w (w.alloc (.cells #[.slice (some ⟨b,o,none⟩) n c,.slice ma mn mc,.slice ko kn kc] 57)):=(Keep.refl [] w).alloc _;have hc1:=k1.cell_some hc (by simp);have HB:=qq (basicC b o n c h ma ko mn mc kn kc _ hc1 hn0 hh256);have H1:=qq3 hb1 k1 hc1;clear hb1 k1 hc1 hc
  go_enter Tryz.func63,Tryz.ntmps63
  go_wp2_with fail
  refine HB.out.mono ?_;rintro e w2 ⟨rfl,k2⟩;have hb2:=H1.out.1.keep k2 (by simp);obtain⟨a0,a1,a2⟩:=hb2.c3 0 1 2 rfl rfl rfl;have e0:=k2.cell_some H1.out.2.2 (by simp);have K2:Keep [] w w2:=H1.out.2.1.trans k2 (by simp);rw[hr];have HK:=qq2 K2 hb2;clear hb2 k2 HB K2;have hT2:=HT.out w2 HK.out.1;go_wp2;go_ret;exact⟨rfl,HK.out.1⟩
theorem valBin (b o n c h m:Nat) (ma ko:Option Addr) (mn mc kn kc:Nat) (w:World) (hc:w.cell? ⟨b,o,none⟩=some (.int .u8 (h:Int))) (hh:h=4*15) (hB:Byt w b (o+1) (leBytes 4 m)) (hm:m<=1000000) (hn:5+m<=n) (hnc:n<=c) (hn9:n<=1000000000):Calls Tryz.prog 63 #[.agg #[.slice (some ⟨b,o,none⟩) n c,.slice ma mn mc,.slice ko kn kc]] w fun e w'=>(∃q cap,e=.returned (.iface 30 (.slice (some ⟨b,q,none⟩) m cap))/\m<=cap/\(0<m->q=o+5))/\Keep [] w w':=by
 have hh256:h<256:=by omega
 have hr:h%4=0:=by omega
 have hn0:0<n:=by omega
 have hle:=le_run;have hU:=fun(wx:World) (kk:Keep [] w wx)=>u32L b (o+1) 4 (c-1) m wx (hB.keep kk (by simp)) (by omega) (by omega);have hmm:m%4294967296=m:=Nat.mod_eq_of_lt (by omega);rw[hmm]at hU;have HU:=qq hU;have hc5:(5:Int)<=(c:Int):=by omega
 have hc5':5<=c:=by omega
 have hc1':¬c=1:=by omega
 have Hm:=qq3 hm hn hnc;have HP:=qq (fun wx=>primTypeC h 15 wx (by omega) (by omega));clear hh hU hB hmm hm hn;have hb1:Blk (w.alloc (.cells #[.slice (some ⟨b,o,none⟩) n c,.slice ma mn mc,.slice ko kn kc] 57)) w.heap.size [.slice (some ⟨b,o,none⟩) n c,.slice ma mn mc,.slice ko kn kc]:=Blk.new w _ _;have k1:Keep [] w (w.alloc (.cells #[.slice (some ⟨b,o,none⟩) n c,.slice ma mn mc,.slice ko kn kc] 57)):=(Keep.refl [] w).alloc _;have hc1:=k1.cell_some hc (by simp);have HB:=qq (basicC b o n c h ma ko mn mc kn kc _ hc1 hn0 hh256);have H1:=qq3 hb1 k1 hc1;clear hb1 k1 hc1 hc
 go_enter Tryz.func63,Tryz.ntmps63
 go_wp2_with fail
 refine HB.out.mono ?_;rintro e w2 ⟨rfl,k2⟩;have hb2:=H1.out.1.keep k2 (by simp);obtain⟨a0,a1,a2⟩:=hb2.c3 0 1 2 rfl rfl rfl;have e0:=k2.cell_some H1.out.2.2 (by simp);have K2:Keep [] w w2:=H1.out.2.1.trans k2 (by simp);rw[hr];have HK:=qq2 K2 hb2;clear hb2 k2 HB K2;go_wp2_with fail
 refine(HP.out _).mono ?_;rintro e w3 ⟨rfl,rfl⟩;go_wp2_with fail
 refine wp_region_mid 4 (by kernel_rfl) (by kernel_rfl) ?_;simp only[List.take_succ_cons,List.take_zero,List.drop_succ_cons,List.drop_zero];change wpStill _ _ (World.drew _) _ _ _;repeat still_step
 refine wpStill_nil ?_;go_wp2_with fail
 refine(HU.out _ (HK.out.1.drew)).mono ?_;rintro e w5 ⟨rfl,k5⟩;have k35:Keep [] w3 w5:=(Keep.refl [] w3).drew.trans k5 (by simp);have HK5:=qq (HK.out.1.trans k35 (by simp));have b0:=k35.cell_some a0 (by simp);have b1:=k35.cell_some e0 (by simp);clear k35 k5;obtain⟨q,hq⟩:∃q,q=5+m:=⟨_,rfl⟩;have hqw:IntKind.u32.wrap (5+(m:Int))=(q:Int):=by
  have h1:=Hm.out.1;rw[IntKind.wrap_u32];omega
 have hqm:(q:Int)-5=(m:Int):=by omega
 have hqm':q-5=m:=by omega
 have hq5:(5:Int)<=(q:Int):=by omega
 have hq5':5<=q:=by omega
 have hqc:(q:Int)<=(c:Int):=by have h1:=Hm.out;omega
 have hqc':q<=c:=by omega
 clear hq;go_wp2_with fail
 repeat still_step
 refine wpStill_nil ?_;go_wp2;all_goals
  go_ret;have hm:=Hm.out;exact⟨⟨_,_,rfl,by omega,by omega⟩,HK5.out⟩
theorem valStr (b o n c h m:Nat) (s:ByteArray) (ma ko:Option Addr) (mn mc kn kc:Nat) (w:World) (hc:w.cell? ⟨b,o,none⟩=some (.int .u8 (h:Int))) (hh:h=4*16) (hB:Byt w b (o+1) (leBytes 4 m)) (hBs:Byt w b (o+5) (bytesN s)) (hs:s.size=m) (hm0:0<m) (hm:m<=1000000) (hn:5+m<=n) (hnc:n<=c) (hn9:n<=1000000000):Calls Tryz.prog 63 #[.agg #[.slice (some ⟨b,o,none⟩) n c,.slice ma mn mc,.slice ko kn kc]] w fun e w'=>e=.returned (.iface 9 (.string s))/\Keep [] w w':=by
 have hT:=fun(wx:World) (kx:Keep [] w wx)=>run_text (s:=s) (c-5) (hBs.keep kx (by simp));rw[hs]at hT;have HT:=qq hT;obtain⟨y,hy⟩:∃y:Nat,(bytesN s)[0]?=some y:=⟨_,List.getElem?_eq_getElem (by rw[length_bytesN,hs];exact hm0)⟩;have hc5c:=hBs _ _ hy;rw[Nat.add_zero]at hc5c;have h5n:5<n:=by omega
 have hc55:¬c=5:=by omega
 clear hT hBs hs hm0 hy;have hh256:h<256:=by omega
 have hr:h%4=0:=by omega
 have hn0:0<n:=by omega
 have hle:=le_run;have hU:=fun(wx:World) (kk:Keep [] w wx)=>u32L b (o+1) 4 (c-1) m wx (hB.keep kk (by simp)) (by omega) (by omega);have hmm:m%4294967296=m:=Nat.mod_eq_of_lt (by omega);rw[hmm]at hU;have HU:=qq hU;have hc5:(5:Int)<=(c:Int):=by omega
 have hc5':5<=c:=by omega
 have hc1':¬c=1:=by omega
 have Hm:=qq3 hm hn hnc;have HP:=qq (fun wx=>primTypeC h 16 wx (by omega) (by omega));clear hh hU hB hmm hm hn;have H5:=qq hc5c;clear hc5c;have hb1:Blk (w.alloc (.cells #[.slice (some ⟨b,o,none⟩) n c,.slice ma mn mc,.slice ko kn kc] 57)) w.heap.size [.slice (some ⟨b,o,none⟩) n c,.slice ma mn mc,.slice ko kn kc]:=Blk.new w _ _;have k1:Keep [] w (w.alloc (.cells #[.slice (some ⟨b,o,none⟩) n c,.slice ma mn mc,.slice ko kn kc] 57)):=(Keep.refl [] w).alloc _;have hc1:=k1.cell_some hc (by simp);have HB:=qq (basicC b o n c h ma ko mn mc kn kc _ hc1 hn0 hh256);have H1:=qq3 hb1 k1 hc1;clear hb1 k1 hc1 hc
 go_enter Tryz.func63,Tryz.ntmps63
 go_wp2_with fail
 refine HB.out.mono ?_;rintro e w2 ⟨rfl,k2⟩;have hb2:=H1.out.1.keep k2 (by simp);obtain⟨a0,a1,a2⟩:=hb2.c3 0 1 2 rfl rfl rfl;have e0:=k2.cell_some H1.out.2.2 (by simp);have K2:Keep [] w w2:=H1.out.2.1.trans k2 (by simp);rw[hr];have HK:=qq2 K2 hb2;clear hb2 k2 HB K2;go_wp2_with fail
 refine(HP.out _).mono ?_;rintro e w3 ⟨rfl,rfl⟩;go_wp2_with fail
 refine wp_region_mid 4 (by kernel_rfl) (by kernel_rfl) ?_;simp only[List.take_succ_cons,List.take_zero,List.drop_succ_cons,List.drop_zero];change wpStill _ _ (World.drew _) _ _ _;repeat still_step
 refine wpStill_nil ?_;go_wp2_with fail
 refine(HU.out _ (HK.out.1.drew)).mono ?_;rintro e w5 ⟨rfl,k5⟩;have k35:Keep [] w3 w5:=(Keep.refl [] w3).drew.trans k5 (by simp);have HK5:=qq (HK.out.1.trans k35 (by simp));have b0:=k35.cell_some a0 (by simp);have b1:=k35.cell_some e0 (by simp);have b2:=HK5.out.cell_some H5.out (by simp);have hT:=HT.out w5 HK5.out;clear k35 k5;obtain⟨q,hq⟩:∃q,q=5+m:=⟨_,rfl⟩;have hqw:IntKind.u32.wrap (5+(m:Int))=(q:Int):=by
  have h1:=Hm.out.1;rw[IntKind.wrap_u32];omega
 have hqm:(q:Int)-5=(m:Int):=by omega
 have hqm':q-5=m:=by omega
 have hq5:(5:Int)<=(q:Int):=by omega
 have hq5':5<=q:=by omega
 have hqc:(q:Int)<=(c:Int):=by have h1:=Hm.out;omega
 have hqc':q<=c:=by omega
 clear hq;go_wp2_with fail
 repeat still_step
 refine wpStill_nil ?_;go_wp2;all_goals
  go_ret;exact⟨rfl,HK5.out⟩
end Go.Proofs.YtocgdgmfnockiaaGreatDoor
