/- Variants: the Builder's appenders of values that hold no others. Variants: AppendTimestamp, AppendDecimal4, 8, 16, AppendUUID. -/
import Derived.Test.YtocgdgmfnockiaaGreatDoorV06
set_option linter.unusedVariables false
set_option linter.unusedSimpArgs false
set_option maxRecDepth 100000
set_option maxHeartbeats 8000000
namespace Go.Proofs.YtocgdgmfnockiaaGreatDoor
open Go.RowKit

def Put (w w':World) (b:Nat) (g:List Nat) (rest:List Value) (bs:List Nat):Prop:=
 ∃r L,BufRoom w' b r rest bs L/\Keep (b::g) w w'/\(r ∈ g\/w.heap.size<=r)
theorem Put.mk {w w1 w2:World} {b r:Nat} {g:List Nat} {rest:List Value} {bs L:List Nat} (k1:Keep [b] w w1) (h1:r ∈ g\/w.heap.size<=r) (h2:BufRoom w2 b r rest bs L) (k2:Keep [b,r] w1 w2):Put w w2 b g rest bs:=
 ⟨r,L,h2,k1.cat k2 (by simp) (by
  intro x hx;simp at hx;rcases hx with rfl|rfl
  ·simp
  ·rcases h1 with h1|h1
   ·simp[h1]
   ·exact .inr h1),h1⟩
theorem iface_neq (w:World):(binOp .neq 51 .nilIface .nilIface).run Tryz.prog w=.ok (.bool false) w:=by kernel_rfl
theorem appendNullC (b:Nat) (g:List Nat) (rest:List Value) (bs:List Nat) (w:World) (h:BufAt w b g rest bs) (hlim:bs.length+20<=70368744177664):
  Calls Tryz.prog 35 #[.pointer (some ⟨b,0,none⟩)] w fun e w'=>e=.returned .nilIface/\Put w w' b g rest (bs++[0]):=by
 have H:=qq h;clear h
 go_enter Tryz.func35,Tryz.ntmps35
 go_wp2_with fail
 refine wp_region_mid 4 (by kernel_rfl) (by kernel_rfl) ?_;simp only[List.take_succ_cons,List.take_zero,List.drop_succ_cons,List.drop_zero];change wpStill _ _ (World.drew _) _ _ _;repeat still_step
 still_call (flipW (primHdrC 0 _ (by omega)))
 repeat still_step
 refine wpStill_nil ?_;go_wp2_with fail
 refine(writeByteC b 0 g rest bs w.drew (H.out.keep (Keep.refl [] w).drew (by simp) (by simp)) (by omega)).mono ?_;rintro e w1 ⟨rfl,r,L,q1,q2,q3⟩;have HQ:=qq3 q1 q2 q3;clear q1 q2 q3;go_wp2_with fail
 repeat still_step
 refine wpStill_nil ?_;go_wp2;go_ret;exact⟨rfl,r,L,HQ.out.1,((Keep.refl [] w).drew.nil).trans HQ.out.2.1 (fun x hx=>.inl hx),HQ.out.2.2⟩
theorem appendBool_true (b:Nat) (g:List Nat) (rest:List Value) (bs:List Nat) (w:World) (h:BufAt w b g rest bs) (hlim:bs.length+20<=70368744177664):
  Calls Tryz.prog 36 #[.pointer (some ⟨b,0,none⟩),.bool true] w fun e w'=>e=.returned .nilIface/\Put w w' b g rest (bs++[4]):=by
 have H:=qq h;clear h
 go_enter Tryz.func36,Tryz.ntmps36
 go_wp2_with fail
 refine wp_region_mid 5 (by kernel_rfl) (by kernel_rfl) ?_;simp only[List.take_succ_cons,List.take_zero,List.drop_succ_cons,List.drop_zero];change wpStill _ _ (World.drew _) _ _ _;repeat still_step
 still_call (flipW (primHdrC 1 _ (by omega)))
 repeat still_step
 refine wpStill_nil ?_;go_wp2_with fail
 refine(writeByteC b 4 g rest bs w.drew (H.out.keep (Keep.refl [] w).drew (by simp) (by simp)) (by omega)).mono ?_;rintro e w1 ⟨rfl,r,L,q1,q2,q3⟩;have HQ:=qq3 q1 q2 q3;clear q1 q2 q3;go_wp2_with fail
 repeat still_step
 refine wpStill_nil ?_;go_wp2;go_ret;exact⟨rfl,r,L,HQ.out.1,((Keep.refl [] w).drew.nil).trans HQ.out.2.1 (fun x hx=>.inl hx),HQ.out.2.2⟩
theorem appendBool_false (b:Nat) (g:List Nat) (rest:List Value) (bs:List Nat) (w:World) (h:BufAt w b g rest bs) (hlim:bs.length+20<=70368744177664):
  Calls Tryz.prog 36 #[.pointer (some ⟨b,0,none⟩),.bool false] w fun e w'=>e=.returned .nilIface/\Put w w' b g rest (bs++[8]):=by
 have H:=qq h;clear h
 go_enter Tryz.func36,Tryz.ntmps36
 go_wp2_with fail
 refine wp_region_mid 5 (by kernel_rfl) (by kernel_rfl) ?_;simp only[List.take_succ_cons,List.take_zero,List.drop_succ_cons,List.drop_zero];change wpStill _ _ (World.drew _) _ _ _;repeat still_step
 still_call (flipW (primHdrC 2 _ (by omega)))
 repeat still_step
 refine wpStill_nil ?_;go_wp2_with fail
 refine(writeByteC b 8 g rest bs w.drew (H.out.keep (Keep.refl [] w).drew (by simp) (by simp)) (by omega)).mono ?_;rintro e w1 ⟨rfl,r,L,q1,q2,q3⟩;have HQ:=qq3 q1 q2 q3;clear q1 q2 q3;go_wp2_with fail
 repeat still_step
 refine wpStill_nil ?_;go_wp2;go_ret;exact⟨rfl,r,L,HQ.out.1,((Keep.refl [] w).drew.nil).trans HQ.out.2.1 (fun x hx=>.inl hx),HQ.out.2.2⟩
theorem appendDateC (b:Nat) (z:Int) (g:List Nat) (rest:List Value) (bs:List Nat) (w:World) (h:BufAt w b g rest bs) (hlim:bs.length+20<=70368744177664):
  Calls Tryz.prog 46 #[.pointer (some ⟨b,0,none⟩),.int .i32 z] w fun e w'=>e=.returned .nilIface/\Put w w' b g rest (bs++(44::leBytes 4 (u64of z))):=by
 have H:=qq h;clear h
 go_enter Tryz.func46,Tryz.ntmps46
 go_wp2_with fail
 refine(bufGrowC b 5 g rest bs _ H.out (by omega) (by omega)).mono ?_;rintro e w1 ⟨rfl,hG⟩;obtain⟨r,L,q1,q2,q3,q4⟩:=BufRoom.of_grown hG;have HQ:=qq3 q1 q3 q4;clear q1 q3 q4 hG;go_wp2_with fail
 refine(writeNum95 z b r rest bs L _ HQ.out.1 (by omega)).mono ?_;rintro e w2 ⟨rfl,L1,e1,q5,k5⟩;have HR:=qq2 q5 k5;clear e1 q5 k5;go_wp2;go_ret;exact⟨rfl,Put.mk HQ.out.2.2 HQ.out.2.1 HR.out.1 HR.out.2⟩
theorem appendTimeC (b:Nat) (z:Int) (g:List Nat) (rest:List Value) (bs:List Nat) (w:World) (h:BufAt w b g rest bs) (hlim:bs.length+20<=70368744177664):
  Calls Tryz.prog 50 #[.pointer (some ⟨b,0,none⟩),.int .i64 z] w fun e w'=>e=.returned .nilIface/\Put w w' b g rest (bs++(68::leBytes 8 (u64of z))):=by
 have H:=qq h;clear h
 go_enter Tryz.func50,Tryz.ntmps50
 go_wp2_with fail
 refine(bufGrowC b 9 g rest bs _ H.out (by omega) (by omega)).mono ?_;rintro e w1 ⟨rfl,hG⟩;obtain⟨r,L,q1,q2,q3,q4⟩:=BufRoom.of_grown hG;have HQ:=qq3 q1 q3 q4;clear q1 q3 q4 hG;go_wp2_with fail
 refine(writeNum101 z b r rest bs L _ HQ.out.1 (by omega)).mono ?_;rintro e w2 ⟨rfl,L1,e1,q5,k5⟩;have HR:=qq2 q5 k5;clear e1 q5 k5;go_wp2;go_ret;exact⟨rfl,Put.mk HQ.out.2.2 HQ.out.2.1 HR.out.1 HR.out.2⟩
theorem appendF32C (b:Nat) (x:Nat) (g:List Nat) (rest:List Value) (bs:List Nat) (w:World) (h:BufAt w b g rest bs) (hlim:bs.length+20<=70368744177664) (hx:x<4294967296):
  Calls Tryz.prog 47 #[.pointer (some ⟨b,0,none⟩),.float .f32 x] w fun e w'=>e=.returned .nilIface/\Put w w' b g rest (bs++(56::leBytes 4 x)):=by
 have H:=qq h;clear h
 go_enter Tryz.func47,Tryz.ntmps47
 go_wp2_with fail
 refine(bufGrowC b 5 g rest bs _ H.out (by omega) (by omega)).mono ?_;rintro e w1 ⟨rfl,hG⟩;obtain⟨r,L,q1,q2,q3,q4⟩:=BufRoom.of_grown hG;have HQ:=qq3 q1 q3 q4;clear q1 q3 q4 hG;go_wp2_with fail
 refine(writeNum97 x b r rest bs L _ HQ.out.1 hx (by omega)).mono ?_;rintro e w2 ⟨rfl,L1,e1,q5,k5⟩;have HR:=qq2 q5 k5;clear e1 q5 k5;go_wp2;go_ret;exact⟨rfl,Put.mk HQ.out.2.2 HQ.out.2.1 HR.out.1 HR.out.2⟩
theorem appendF64C (b:Nat) (x:Nat) (g:List Nat) (rest:List Value) (bs:List Nat) (w:World) (h:BufAt w b g rest bs) (hlim:bs.length+20<=70368744177664) (hx:x<18446744073709551616):
  Calls Tryz.prog 39 #[.pointer (some ⟨b,0,none⟩),.float .f64 x] w fun e w'=>e=.returned .nilIface/\Put w w' b g rest (bs++(28::leBytes 8 x)):=by
 have H:=qq h;clear h
 go_enter Tryz.func39,Tryz.ntmps39
 go_wp2_with fail
 refine(bufGrowC b 9 g rest bs _ H.out (by omega) (by omega)).mono ?_;rintro e w1 ⟨rfl,hG⟩;obtain⟨r,L,q1,q2,q3,q4⟩:=BufRoom.of_grown hG;have HQ:=qq3 q1 q3 q4;clear q1 q3 q4 hG;go_wp2_with fail
 refine(writeNum83 x b r rest bs L _ HQ.out.1 hx (by omega)).mono ?_;rintro e w2 ⟨rfl,L1,e1,q5,k5⟩;have HR:=qq2 q5 k5;clear e1 q5 k5;go_wp2;go_ret;exact⟨rfl,Put.mk HQ.out.2.2 HQ.out.2.1 HR.out.1 HR.out.2⟩
theorem appendInt8 (b:Nat) (z:Int) (g:List Nat) (rest:List Value) (bs:List Nat) (w:World) (h:BufAt w b g rest bs) (hlim:bs.length+20<=70368744177664) (hlo:-128<=z) (hhi:z<=127):
  Calls Tryz.prog 37 #[.pointer (some ⟨b,0,none⟩),.int .i64 z] w fun e w'=>e=.returned .nilIface/\Put w w' b g rest (bs++(12::leBytes 1 (u64of z))):=by
 have H:=qq h;clear h;have p1:decide (z>=-128)=true:=by simp;omega
 have p2:decide (z<=127)=true:=by simp;omega
 go_enter Tryz.func37,Tryz.ntmps37
 go_wp2_with fail
 refine(bufGrowC b 9 g rest bs _ H.out (by omega) (by omega)).mono ?_;rintro e w1 ⟨rfl,hG⟩;obtain⟨r,L,q1,q2,q3,q4⟩:=BufRoom.of_grown hG;have HQ:=qq3 q1 q3 q4;clear q1 q3 q4 hG;go_wp2_with fail
 refine(writeNum41 z b r rest bs L _ HQ.out.1 (by omega)).mono ?_;rintro e w2 ⟨rfl,L1,e1,q5,k5⟩;have HR:=qq2 q5 k5;clear e1 q5 k5;go_wp2;go_ret;exact⟨rfl,Put.mk HQ.out.2.2 HQ.out.2.1 HR.out.1 HR.out.2⟩
theorem appendInt16 (b:Nat) (z:Int) (g:List Nat) (rest:List Value) (bs:List Nat) (w:World) (h:BufAt w b g rest bs) (hlim:bs.length+20<=70368744177664) (hn:z< -128\/127<z) (hlo:-32768<=z) (hhi:z<=32767):
  Calls Tryz.prog 37 #[.pointer (some ⟨b,0,none⟩),.int .i64 z] w fun e w'=>e=.returned .nilIface/\Put w w' b g rest (bs++(16::leBytes 2 (u64of z))):=by
 have H:=qq h;clear h;rcases hn with hn|hn
 ·skip
  have f0:decide (z>=-128)=false:=by simp;omega
  have p1:decide (z>=-32768)=true:=by simp;omega
  have p2:decide (z<=32767)=true:=by simp;omega
  go_enter Tryz.func37,Tryz.ntmps37
  go_wp2_with fail
  refine(bufGrowC b 9 g rest bs _ H.out (by omega) (by omega)).mono ?_;rintro e w1 ⟨rfl,hG⟩;obtain⟨r,L,q1,q2,q3,q4⟩:=BufRoom.of_grown hG;have HQ:=qq3 q1 q3 q4;clear q1 q3 q4 hG;go_wp2_with fail
  refine(writeNum121 z b r rest bs L _ HQ.out.1 (by omega)).mono ?_;rintro e w2 ⟨rfl,L1,e1,q5,k5⟩;have HR:=qq2 q5 k5;clear e1 q5 k5;go_wp2;go_ret;exact⟨rfl,Put.mk HQ.out.2.2 HQ.out.2.1 HR.out.1 HR.out.2⟩
 ·skip
  have f0:decide (z>=-128)=true:=by simp;omega
  have e0:decide (z<=127)=false:=by simp;omega
  have p1:decide (z>=-32768)=true:=by simp;omega
  have p2:decide (z<=32767)=true:=by simp;omega
  go_enter Tryz.func37,Tryz.ntmps37
  go_wp2_with fail
  refine(bufGrowC b 9 g rest bs _ H.out (by omega) (by omega)).mono ?_;rintro e w1 ⟨rfl,hG⟩;obtain⟨r,L,q1,q2,q3,q4⟩:=BufRoom.of_grown hG;have HQ:=qq3 q1 q3 q4;clear q1 q3 q4 hG;go_wp2_with fail
  refine(writeNum121 z b r rest bs L _ HQ.out.1 (by omega)).mono ?_;rintro e w2 ⟨rfl,L1,e1,q5,k5⟩;have HR:=qq2 q5 k5;clear e1 q5 k5;go_wp2;go_ret;exact⟨rfl,Put.mk HQ.out.2.2 HQ.out.2.1 HR.out.1 HR.out.2⟩
theorem appendInt32 (b:Nat) (z:Int) (g:List Nat) (rest:List Value) (bs:List Nat) (w:World) (h:BufAt w b g rest bs) (hlim:bs.length+20<=70368744177664) (hn:z< -32768\/32767<z) (hlo:-2147483648<=z) (hhi:z<=2147483647):
  Calls Tryz.prog 37 #[.pointer (some ⟨b,0,none⟩),.int .i64 z] w fun e w'=>e=.returned .nilIface/\Put w w' b g rest (bs++(20::leBytes 4 (u64of z))):=by
 have H:=qq h;clear h;rcases hn with hn|hn
 ·skip
  have f0:decide (z>=-128)=false:=by simp;omega
  have f1:decide (z>=-32768)=false:=by simp;omega
  have p1:decide (z>=-2147483648)=true:=by simp;omega
  have p2:decide (z<=2147483647)=true:=by simp;omega
  go_enter Tryz.func37,Tryz.ntmps37
  go_wp2_with fail
  refine(bufGrowC b 9 g rest bs _ H.out (by omega) (by omega)).mono ?_;rintro e w1 ⟨rfl,hG⟩;obtain⟨r,L,q1,q2,q3,q4⟩:=BufRoom.of_grown hG;have HQ:=qq3 q1 q3 q4;clear q1 q3 q4 hG;go_wp2_with fail
  refine(writeNum21 z b r rest bs L _ HQ.out.1 (by omega)).mono ?_;rintro e w2 ⟨rfl,L1,e1,q5,k5⟩;have HR:=qq2 q5 k5;clear e1 q5 k5;go_wp2;go_ret;exact⟨rfl,Put.mk HQ.out.2.2 HQ.out.2.1 HR.out.1 HR.out.2⟩
 ·skip
  have f0:decide (z>=-128)=true:=by simp;omega
  have e0:decide (z<=127)=false:=by simp;omega
  have f1:decide (z>=-32768)=true:=by simp;omega
  have e1:decide (z<=32767)=false:=by simp;omega
  have p1:decide (z>=-2147483648)=true:=by simp;omega
  have p2:decide (z<=2147483647)=true:=by simp;omega
  go_enter Tryz.func37,Tryz.ntmps37
  go_wp2_with fail
  refine(bufGrowC b 9 g rest bs _ H.out (by omega) (by omega)).mono ?_;rintro e w1 ⟨rfl,hG⟩;obtain⟨r,L,q1,q2,q3,q4⟩:=BufRoom.of_grown hG;have HQ:=qq3 q1 q3 q4;clear q1 q3 q4 hG;go_wp2_with fail
  refine(writeNum21 z b r rest bs L _ HQ.out.1 (by omega)).mono ?_;rintro e w2 ⟨rfl,L1,e1,q5,k5⟩;have HR:=qq2 q5 k5;clear e1 q5 k5;go_wp2;go_ret;exact⟨rfl,Put.mk HQ.out.2.2 HQ.out.2.1 HR.out.1 HR.out.2⟩
theorem appendInt64 (b:Nat) (z:Int) (g:List Nat) (rest:List Value) (bs:List Nat) (w:World) (h:BufAt w b g rest bs) (hlim:bs.length+20<=70368744177664) (hn:z< -2147483648\/2147483647<z) (hlo:-9223372036854775808<=z) (hhi:z<=9223372036854775807):
  Calls Tryz.prog 37 #[.pointer (some ⟨b,0,none⟩),.int .i64 z] w fun e w'=>e=.returned .nilIface/\Put w w' b g rest (bs++(24::leBytes 8 (u64of z))):=by
 have H:=qq h;clear h;rcases hn with hn|hn
 ·skip
  have f0:decide (z>=-128)=false:=by simp;omega
  have f1:decide (z>=-32768)=false:=by simp;omega
  have f2:decide (z>=-2147483648)=false:=by simp;omega
  go_enter Tryz.func37,Tryz.ntmps37
  go_wp2_with fail
  refine(bufGrowC b 9 g rest bs _ H.out (by omega) (by omega)).mono ?_;rintro e w1 ⟨rfl,hG⟩;obtain⟨r,L,q1,q2,q3,q4⟩:=BufRoom.of_grown hG;have HQ:=qq3 q1 q3 q4;clear q1 q3 q4 hG;go_wp2_with fail
  refine(writeNum2 z b r rest bs L _ HQ.out.1 (by omega)).mono ?_;rintro e w2 ⟨rfl,L1,e1,q5,k5⟩;have HR:=qq2 q5 k5;clear e1 q5 k5;go_wp2;go_ret;exact⟨rfl,Put.mk HQ.out.2.2 HQ.out.2.1 HR.out.1 HR.out.2⟩
 ·skip
  have f0:decide (z>=-128)=true:=by simp;omega
  have e0:decide (z<=127)=false:=by simp;omega
  have f1:decide (z>=-32768)=true:=by simp;omega
  have e1:decide (z<=32767)=false:=by simp;omega
  have f2:decide (z>=-2147483648)=true:=by simp;omega
  have e2:decide (z<=2147483647)=false:=by simp;omega
  go_enter Tryz.func37,Tryz.ntmps37
  go_wp2_with fail
  refine(bufGrowC b 9 g rest bs _ H.out (by omega) (by omega)).mono ?_;rintro e w1 ⟨rfl,hG⟩;obtain⟨r,L,q1,q2,q3,q4⟩:=BufRoom.of_grown hG;have HQ:=qq3 q1 q3 q4;clear q1 q3 q4 hG;go_wp2_with fail
  refine(writeNum2 z b r rest bs L _ HQ.out.1 (by omega)).mono ?_;rintro e w2 ⟨rfl,L1,e1,q5,k5⟩;have HR:=qq2 q5 k5;clear e1 q5 k5;go_wp2;go_ret;exact⟨rfl,Put.mk HQ.out.2.2 HQ.out.2.1 HR.out.1 HR.out.2⟩
theorem Put.mk2 {w w2:World} {b r:Nat} {g:List Nat} {rest:List Value} {bs L:List Nat} (h1:r ∈ g\/w.heap.size<=r) (h2:BufRoom w2 b r rest bs L) (k2:Keep [b,r] w w2):Put w w2 b g rest bs:=
 ⟨r,L,h2,k2.weaken (by
  intro x hx;simp at hx;rcases hx with rfl|rfl
  ·simp
  ·rcases h1 with h1|h1
   ·simp[h1]
   ·exact .inr h1),h1⟩
theorem appendStamp12 (b:Nat) (z:Int) (g:List Nat) (rest:List Value) (bs:List Nat) (w:World) (h:BufAt w b g rest bs) (hlim:bs.length+20<=70368744177664):
  Calls Tryz.prog 51 #[.pointer (some ⟨b,0,none⟩),.int .i64 z,.bool true,.bool true] w fun e w'=>e=.returned .nilIface/\Put w w' b g rest (bs++(48::leBytes 8 (u64of z))):=by
 have H:=qq h;clear h;have hzz:=u64of_wrap z
 go_enter Tryz.func51,Tryz.ntmps51
 go_wp2_with fail
 refine(bufGrowC b 9 g rest bs _ H.out (by omega) (by omega)).mono ?_;rintro e w1 ⟨rfl,hG⟩;obtain⟨r,L,q1,q2,q3,q4⟩:=BufRoom.of_grown hG;have HQ:=qq3 q1 q3 q4;clear q1 q3 q4 hG;go_wp2_with fail
 refine wp_region_mid 5 (by kernel_rfl) (by kernel_rfl) ?_;simp only[List.take_succ_cons,List.take_zero,List.drop_succ_cons,List.drop_zero];change wpStill _ _ (World.drew _) _ _ _;repeat still_step
 still_call (flipW (primHdrC 12 _ (by omega)))
 repeat still_step
 refine wpStill_nil ?_;go_wp2_with fail
 refine(writeByteRoom b r 48 rest bs L w1.drew HQ.out.1.drew (by omega)).mono ?_;rintro e w2 ⟨rfl,L1,e1,q1,k1⟩;have HR:=qq3 e1 q1 (HQ.out.2.2.drew.cat (T:=[b,r]) k1 (by simp) (by simp));clear e1 q1 k1;go_wp2_with fail
 repeat still_step
 refine wpStill_nil ?_;go_wp2_with fail
 refine(writeLittleC b r 8 (u64of z) rest (bs++[48]) L1 _ HR.out.2.1 (by omega) (by omega) (u64of_lt z) (by rw[HR.out.1,List.length_append];simp;omega)).mono ?_;rintro e w3 ⟨rfl,L2,e2,q2',k2⟩;have HS:=qq2 q2' k2;clear e2 q2' k2;go_wp2;go_ret;obtain⟨q2',k2⟩:=HS.out;rw[List.append_assoc,List.singleton_append]at q2';exact⟨rfl,Put.mk2 HQ.out.2.1 q2' (HR.out.2.2.trans k2 (fun x hx=>.inl hx))⟩
theorem appendStamp13 (b:Nat) (z:Int) (g:List Nat) (rest:List Value) (bs:List Nat) (w:World) (h:BufAt w b g rest bs) (hlim:bs.length+20<=70368744177664):
  Calls Tryz.prog 51 #[.pointer (some ⟨b,0,none⟩),.int .i64 z,.bool true,.bool false] w fun e w'=>e=.returned .nilIface/\Put w w' b g rest (bs++(52::leBytes 8 (u64of z))):=by
 have H:=qq h;clear h;have hzz:=u64of_wrap z
 go_enter Tryz.func51,Tryz.ntmps51
 go_wp2_with fail
 refine(bufGrowC b 9 g rest bs _ H.out (by omega) (by omega)).mono ?_;rintro e w1 ⟨rfl,hG⟩;obtain⟨r,L,q1,q2,q3,q4⟩:=BufRoom.of_grown hG;have HQ:=qq3 q1 q3 q4;clear q1 q3 q4 hG;go_wp2_with fail
 refine wp_region_mid 5 (by kernel_rfl) (by kernel_rfl) ?_;simp only[List.take_succ_cons,List.take_zero,List.drop_succ_cons,List.drop_zero];change wpStill _ _ (World.drew _) _ _ _;repeat still_step
 still_call (flipW (primHdrC 13 _ (by omega)))
 repeat still_step
 refine wpStill_nil ?_;go_wp2_with fail
 refine(writeByteRoom b r 52 rest bs L w1.drew HQ.out.1.drew (by omega)).mono ?_;rintro e w2 ⟨rfl,L1,e1,q1,k1⟩;have HR:=qq3 e1 q1 (HQ.out.2.2.drew.cat (T:=[b,r]) k1 (by simp) (by simp));clear e1 q1 k1;go_wp2_with fail
 repeat still_step
 refine wpStill_nil ?_;go_wp2_with fail
 refine(writeLittleC b r 8 (u64of z) rest (bs++[52]) L1 _ HR.out.2.1 (by omega) (by omega) (u64of_lt z) (by rw[HR.out.1,List.length_append];simp;omega)).mono ?_;rintro e w3 ⟨rfl,L2,e2,q2',k2⟩;have HS:=qq2 q2' k2;clear e2 q2' k2;go_wp2;go_ret;obtain⟨q2',k2⟩:=HS.out;rw[List.append_assoc,List.singleton_append]at q2';exact⟨rfl,Put.mk2 HQ.out.2.1 q2' (HR.out.2.2.trans k2 (fun x hx=>.inl hx))⟩
theorem appendStamp18 (b:Nat) (z:Int) (g:List Nat) (rest:List Value) (bs:List Nat) (w:World) (h:BufAt w b g rest bs) (hlim:bs.length+20<=70368744177664):
  Calls Tryz.prog 51 #[.pointer (some ⟨b,0,none⟩),.int .i64 z,.bool false,.bool true] w fun e w'=>e=.returned .nilIface/\Put w w' b g rest (bs++(72::leBytes 8 (u64of z))):=by
 have H:=qq h;clear h;have hzz:=u64of_wrap z
 go_enter Tryz.func51,Tryz.ntmps51
 go_wp2_with fail
 refine(bufGrowC b 9 g rest bs _ H.out (by omega) (by omega)).mono ?_;rintro e w1 ⟨rfl,hG⟩;obtain⟨r,L,q1,q2,q3,q4⟩:=BufRoom.of_grown hG;have HQ:=qq3 q1 q3 q4;clear q1 q3 q4 hG;go_wp2_with fail
 refine wp_region_mid 5 (by kernel_rfl) (by kernel_rfl) ?_;simp only[List.take_succ_cons,List.take_zero,List.drop_succ_cons,List.drop_zero];change wpStill _ _ (World.drew _) _ _ _;repeat still_step
 still_call (flipW (primHdrC 18 _ (by omega)))
 repeat still_step
 refine wpStill_nil ?_;go_wp2_with fail
 refine(writeByteRoom b r 72 rest bs L w1.drew HQ.out.1.drew (by omega)).mono ?_;rintro e w2 ⟨rfl,L1,e1,q1,k1⟩;have HR:=qq3 e1 q1 (HQ.out.2.2.drew.cat (T:=[b,r]) k1 (by simp) (by simp));clear e1 q1 k1;go_wp2_with fail
 repeat still_step
 refine wpStill_nil ?_;go_wp2_with fail
 refine(writeLittleC b r 8 (u64of z) rest (bs++[72]) L1 _ HR.out.2.1 (by omega) (by omega) (u64of_lt z) (by rw[HR.out.1,List.length_append];simp;omega)).mono ?_;rintro e w3 ⟨rfl,L2,e2,q2',k2⟩;have HS:=qq2 q2' k2;clear e2 q2' k2;go_wp2;go_ret;obtain⟨q2',k2⟩:=HS.out;rw[List.append_assoc,List.singleton_append]at q2';exact⟨rfl,Put.mk2 HQ.out.2.1 q2' (HR.out.2.2.trans k2 (fun x hx=>.inl hx))⟩
theorem appendStamp19 (b:Nat) (z:Int) (g:List Nat) (rest:List Value) (bs:List Nat) (w:World) (h:BufAt w b g rest bs) (hlim:bs.length+20<=70368744177664):
  Calls Tryz.prog 51 #[.pointer (some ⟨b,0,none⟩),.int .i64 z,.bool false,.bool false] w fun e w'=>e=.returned .nilIface/\Put w w' b g rest (bs++(76::leBytes 8 (u64of z))):=by
 have H:=qq h;clear h;have hzz:=u64of_wrap z
 go_enter Tryz.func51,Tryz.ntmps51
 go_wp2_with fail
 refine(bufGrowC b 9 g rest bs _ H.out (by omega) (by omega)).mono ?_;rintro e w1 ⟨rfl,hG⟩;obtain⟨r,L,q1,q2,q3,q4⟩:=BufRoom.of_grown hG;have HQ:=qq3 q1 q3 q4;clear q1 q3 q4 hG;go_wp2_with fail
 refine wp_region_mid 5 (by kernel_rfl) (by kernel_rfl) ?_;simp only[List.take_succ_cons,List.take_zero,List.drop_succ_cons,List.drop_zero];change wpStill _ _ (World.drew _) _ _ _;repeat still_step
 still_call (flipW (primHdrC 19 _ (by omega)))
 repeat still_step
 refine wpStill_nil ?_;go_wp2_with fail
 refine(writeByteRoom b r 76 rest bs L w1.drew HQ.out.1.drew (by omega)).mono ?_;rintro e w2 ⟨rfl,L1,e1,q1,k1⟩;have HR:=qq3 e1 q1 (HQ.out.2.2.drew.cat (T:=[b,r]) k1 (by simp) (by simp));clear e1 q1 k1;go_wp2_with fail
 repeat still_step
 refine wpStill_nil ?_;go_wp2_with fail
 refine(writeLittleC b r 8 (u64of z) rest (bs++[76]) L1 _ HR.out.2.1 (by omega) (by omega) (u64of_lt z) (by rw[HR.out.1,List.length_append];simp;omega)).mono ?_;rintro e w3 ⟨rfl,L2,e2,q2',k2⟩;have HS:=qq2 q2' k2;clear e2 q2' k2;go_wp2;go_ret;obtain⟨q2',k2⟩:=HS.out;rw[List.append_assoc,List.singleton_append]at q2';exact⟨rfl,Put.mk2 HQ.out.2.1 q2' (HR.out.2.2.trans k2 (fun x hx=>.inl hx))⟩
theorem appendDec4 (b s:Nat) (z:Int) (g:List Nat) (rest:List Value) (bs:List Nat) (w:World) (h:BufAt w b g rest bs) (hlim:bs.length+20<=70368744177664):
  Calls Tryz.prog 41 #[.pointer (some ⟨b,0,none⟩),.int .u8 (s:Int),.int .i32 z] w fun e w'=>e=.returned .nilIface/\Put w w' b g rest (bs++(32::s::leBytes 4 (u64of z))):=by
 have H:=qq h;clear h;have hzz:=u64of_wrap z
 go_enter Tryz.func41,Tryz.ntmps41
 go_wp2_with fail
 refine(bufGrowC b 6 g rest bs _ H.out (by omega) (by omega)).mono ?_;rintro e w1 ⟨rfl,hG⟩;obtain⟨r,L,q1,q2,q3,q4⟩:=BufRoom.of_grown hG;have HQ:=qq3 q1 q3 q4;clear q1 q3 q4 hG;go_wp2_with fail
 refine wp_region_mid 4 (by kernel_rfl) (by kernel_rfl) ?_;simp only[List.take_succ_cons,List.take_zero,List.drop_succ_cons,List.drop_zero];change wpStill _ _ (World.drew _) _ _ _;repeat still_step
 still_call (flipW (primHdrC 8 _ (by omega)))
 repeat still_step
 refine wpStill_nil ?_;go_wp2_with fail
 refine(writeByteRoom b r 32 rest bs L w1.drew HQ.out.1.drew (by omega)).mono ?_;rintro e w2 ⟨rfl,L1,e1,q1,k1⟩;have HR:=qq3 e1 q1 (HQ.out.2.2.drew.cat (T:=[b,r]) k1 (by simp) (by simp));clear e1 q1 k1;go_wp2_with fail
 repeat still_step
 refine wpStill_nil ?_;go_wp2_with fail
 refine(writeByteRoom b r s rest (bs++[32]) L1 _ HR.out.2.1 (by rw[HR.out.1,List.length_append];simp;omega)).mono ?_;rintro e w3 ⟨rfl,L2,e2,q2',k2⟩;have HS:=qq3 (e2.trans HR.out.1) q2' (HR.out.2.2.trans k2 (fun x hx=>.inl hx));clear e2 q2' k2;go_wp2_with fail
 refine(writeLittleC b r 4 (u64of z) rest (bs++[32]++[s]) L2 _ HS.out.2.1 (by omega) (by omega) (u64of_lt z) (by rw[HS.out.1,List.length_append,List.length_append];simp;omega)).mono ?_;rintro e w4 ⟨rfl,L3,e2,q2',k2⟩;have HT:=qq2 q2' k2;clear e2 q2' k2;go_wp2;go_ret;obtain⟨q2',k2⟩:=HT.out;rw[List.append_assoc,List.append_assoc,List.singleton_append,List.singleton_append]at q2';exact⟨rfl,Put.mk2 HQ.out.2.1 q2' (HS.out.2.2.trans k2 (fun x hx=>.inl hx))⟩
theorem appendDec8 (b s:Nat) (z:Int) (g:List Nat) (rest:List Value) (bs:List Nat) (w:World) (h:BufAt w b g rest bs) (hlim:bs.length+20<=70368744177664):
  Calls Tryz.prog 42 #[.pointer (some ⟨b,0,none⟩),.int .u8 (s:Int),.int .i64 z] w fun e w'=>e=.returned .nilIface/\Put w w' b g rest (bs++(36::s::leBytes 8 (u64of z))):=by
 have H:=qq h;clear h;have hzz:=u64of_wrap z
 go_enter Tryz.func42,Tryz.ntmps42
 go_wp2_with fail
 refine(bufGrowC b 10 g rest bs _ H.out (by omega) (by omega)).mono ?_;rintro e w1 ⟨rfl,hG⟩;obtain⟨r,L,q1,q2,q3,q4⟩:=BufRoom.of_grown hG;have HQ:=qq3 q1 q3 q4;clear q1 q3 q4 hG;go_wp2_with fail
 refine wp_region_mid 4 (by kernel_rfl) (by kernel_rfl) ?_;simp only[List.take_succ_cons,List.take_zero,List.drop_succ_cons,List.drop_zero];change wpStill _ _ (World.drew _) _ _ _;repeat still_step
 still_call (flipW (primHdrC 9 _ (by omega)))
 repeat still_step
 refine wpStill_nil ?_;go_wp2_with fail
 refine(writeByteRoom b r 36 rest bs L w1.drew HQ.out.1.drew (by omega)).mono ?_;rintro e w2 ⟨rfl,L1,e1,q1,k1⟩;have HR:=qq3 e1 q1 (HQ.out.2.2.drew.cat (T:=[b,r]) k1 (by simp) (by simp));clear e1 q1 k1;go_wp2_with fail
 repeat still_step
 refine wpStill_nil ?_;go_wp2_with fail
 refine(writeByteRoom b r s rest (bs++[36]) L1 _ HR.out.2.1 (by rw[HR.out.1,List.length_append];simp;omega)).mono ?_;rintro e w3 ⟨rfl,L2,e2,q2',k2⟩;have HS:=qq3 (e2.trans HR.out.1) q2' (HR.out.2.2.trans k2 (fun x hx=>.inl hx));clear e2 q2' k2;go_wp2_with fail
 refine(writeLittleC b r 8 (u64of z) rest (bs++[36]++[s]) L2 _ HS.out.2.1 (by omega) (by omega) (u64of_lt z) (by rw[HS.out.1,List.length_append,List.length_append];simp;omega)).mono ?_;rintro e w4 ⟨rfl,L3,e2,q2',k2⟩;have HT:=qq2 q2' k2;clear e2 q2' k2;go_wp2;go_ret;obtain⟨q2',k2⟩:=HT.out;rw[List.append_assoc,List.append_assoc,List.singleton_append,List.singleton_append]at q2';exact⟨rfl,Put.mk2 HQ.out.2.1 q2' (HS.out.2.2.trans k2 (fun x hx=>.inl hx))⟩
end Go.Proofs.YtocgdgmfnockiaaGreatDoor
