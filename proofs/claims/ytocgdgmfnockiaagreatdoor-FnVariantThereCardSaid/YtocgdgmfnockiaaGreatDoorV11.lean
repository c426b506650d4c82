/- Variants: appendVariant of what holds no others (printed by gen_pr.py). -/
import Derived.Test.YtocgdgmfnockiaaGreatDoorV10
set_option linter.unusedVariables false
set_option linter.unusedSimpArgs false
set_option maxRecDepth 100000
set_option maxHeartbeats 8000000
namespace Go.Proofs.YtocgdgmfnockiaaGreatDoor
open Go.RowKit
theorem run_frombits32 (x:Nat) (w:World):(callFunc 48 #[.int .u32 (x:Int)]).run Tryz.prog w=.ok (.value (.float .f32 x)) w:=by
 rw[run_callFunc_extern (e:=Extern.MathFloatBits.float32frombits) Tryz.func48 (by kernel_rfl) (by kernel_rfl) (by kernel_rfl) (by kernel_rfl)];rfl
theorem run_frombits64 (x:Nat) (w:World):(callFunc 40 #[.int .u64 (x:Int)]).run Tryz.prog w=.ok (.value (.float .f64 x)) w:=by
 rw[run_callFunc_extern (e:=Extern.MathFloatBits.float64frombits) Tryz.func40 (by kernel_rfl) (by kernel_rfl) (by kernel_rfl) (by kernel_rfl)];rfl
theorem appendV2 (b:Nat) (num:Nat) (scale:Int) (text:ByteArray) (kv cv:Value) (g:List Nat) (rest:List Value) (bs:List Nat) (w:World) (h:BufAt w b g rest bs) (hlim:bs.length+5000<=70368744177664):
  Calls Tryz.prog 17 #[.pointer (some ⟨b,0,none⟩),.agg #[.int .i64 2,.int .u64 (num:Int),.int .i64 scale,.string text,kv,cv]] w fun e w'=>e=.returned .nilIface/\Put w w' b g rest (bs++[0]):=by
 have H:=qq (h.keep (w':=w.alloc (.cells #[.int .i64 2,.int .u64 (num:Int),.int .i64 scale,.string text,kv,cv] 26)) ((Keep.refl [] w).alloc _) (by simp) (by simp));clear h
 go_enter Tryz.func17,Tryz.ntmps17
 go_wp2_with fail
 refine(appendNullC b g rest bs _ H.out (by omega)).mono ?_;rintro e w1 ⟨rfl,hP⟩;have HP:=qq (hP.lift ((Keep.refl [] w).alloc _));clear hP;go_wp2;go_ret;exact⟨rfl,HP.out⟩
theorem appendV3f (b:Nat) (num:Nat) (scale:Int) (text:ByteArray) (kv cv:Value) (g:List Nat) (rest:List Value) (bs:List Nat) (w:World) (h:BufAt w b g rest bs) (hlim:bs.length+5000<=70368744177664) (hn:num=0):
  Calls Tryz.prog 17 #[.pointer (some ⟨b,0,none⟩),.agg #[.int .i64 3,.int .u64 (num:Int),.int .i64 scale,.string text,kv,cv]] w fun e w'=>e=.returned .nilIface/\Put w w' b g rest (bs++[8]):=by
 have H:=qq (h.keep (w':=w.alloc (.cells #[.int .i64 3,.int .u64 (num:Int),.int .i64 scale,.string text,kv,cv] 26)) ((Keep.refl [] w).alloc _) (by simp) (by simp));clear h;subst hn
 go_enter Tryz.func17,Tryz.ntmps17
 go_wp2_with fail
 refine(appendBool_false b g rest bs _ H.out (by omega)).mono ?_;rintro e w1 ⟨rfl,hP⟩;have HP:=qq (hP.lift ((Keep.refl [] w).alloc _));clear hP;go_wp2;go_ret;exact⟨rfl,HP.out⟩
theorem appendV3t (b:Nat) (num:Nat) (scale:Int) (text:ByteArray) (kv cv:Value) (g:List Nat) (rest:List Value) (bs:List Nat) (w:World) (h:BufAt w b g rest bs) (hlim:bs.length+5000<=70368744177664) (hn:num≠0):
  Calls Tryz.prog 17 #[.pointer (some ⟨b,0,none⟩),.agg #[.int .i64 3,.int .u64 (num:Int),.int .i64 scale,.string text,kv,cv]] w fun e w'=>e=.returned .nilIface/\Put w w' b g rest (bs++[4]):=by
 have H:=qq (h.keep (w':=w.alloc (.cells #[.int .i64 3,.int .u64 (num:Int),.int .i64 scale,.string text,kv,cv] 26)) ((Keep.refl [] w).alloc _) (by simp) (by simp));clear h;have hni:((num:Int) != 0)=true:=by simpa using hn
 go_enter Tryz.func17,Tryz.ntmps17
 go_wp2_with fail
 refine(appendBool_true b g rest bs _ H.out (by omega)).mono ?_;rintro e w1 ⟨rfl,hP⟩;have HP:=qq (hP.lift ((Keep.refl [] w).alloc _));clear hP;go_wp2;go_ret;exact⟨rfl,HP.out⟩
theorem appendV4a (b:Nat) (num:Nat) (scale:Int) (text:ByteArray) (kv cv:Value) (g:List Nat) (rest:List Value) (bs:List Nat) (w:World) (h:BufAt w b g rest bs) (hlim:bs.length+5000<=70368744177664) (hn:num<18446744073709551616) (h1:-128<=sgn num/\sgn num<=127):
  Calls Tryz.prog 17 #[.pointer (some ⟨b,0,none⟩),.agg #[.int .i64 4,.int .u64 (num:Int),.int .i64 scale,.string text,kv,cv]] w fun e w'=>e=.returned .nilIface/\Put w w' b g rest (bs++(12::leBytes 1 num)):=by
 have H:=qq (h.keep (w':=w.alloc (.cells #[.int .i64 4,.int .u64 (num:Int),.int .i64 scale,.string text,kv,cv] 26)) ((Keep.refl [] w).alloc _) (by simp) (by simp));clear h;obtain⟨z,hz⟩:∃z,z=sgn num:=⟨_,rfl⟩;have hzw:IntKind.i64.wrap (num:Int)=z:=by rw[hz,IntKind.wrap_i64];unfold sgn;split<;>omega
 have Hz:=qq hz;have hu:u64of z=num:=by rw[hz];exact u64of_sgn num hn
 have Hu:=qq hu;rw[<-hz]at h1;clear hz hu
 go_enter Tryz.func17,Tryz.ntmps17
 go_wp2_with fail
 refine(appendInt8 b z g rest bs _ H.out (by omega) h1.1 h1.2).mono ?_;rintro e w1 ⟨rfl,hP⟩;have HP:=qq (hP.lift ((Keep.refl [] w).alloc _));clear hP;go_wp2;go_ret;rw[<-Hu.out];exact⟨rfl,HP.out⟩
theorem appendV4b (b:Nat) (num:Nat) (scale:Int) (text:ByteArray) (kv cv:Value) (g:List Nat) (rest:List Value) (bs:List Nat) (w:World) (h:BufAt w b g rest bs) (hlim:bs.length+5000<=70368744177664) (hn:num<18446744073709551616) (h0:¬(-128<=sgn num/\sgn num<=127)) (h1:-32768<=sgn num/\sgn num<=32767):
  Calls Tryz.prog 17 #[.pointer (some ⟨b,0,none⟩),.agg #[.int .i64 4,.int .u64 (num:Int),.int .i64 scale,.string text,kv,cv]] w fun e w'=>e=.returned .nilIface/\Put w w' b g rest (bs++(16::leBytes 2 num)):=by
 have H:=qq (h.keep (w':=w.alloc (.cells #[.int .i64 4,.int .u64 (num:Int),.int .i64 scale,.string text,kv,cv] 26)) ((Keep.refl [] w).alloc _) (by simp) (by simp));clear h;obtain⟨z,hz⟩:∃z,z=sgn num:=⟨_,rfl⟩;have hzw:IntKind.i64.wrap (num:Int)=z:=by rw[hz,IntKind.wrap_i64];unfold sgn;split<;>omega
 have Hz:=qq hz;have hu:u64of z=num:=by rw[hz];exact u64of_sgn num hn
 have Hu:=qq hu;rw[<-hz]at h0 h1;clear hz hu
 go_enter Tryz.func17,Tryz.ntmps17
 go_wp2_with fail
 refine(appendInt16 b z g rest bs _ H.out (by omega) (by omega) h1.1 h1.2).mono ?_;rintro e w1 ⟨rfl,hP⟩;have HP:=qq (hP.lift ((Keep.refl [] w).alloc _));clear hP;go_wp2;go_ret;rw[<-Hu.out];exact⟨rfl,HP.out⟩
theorem appendV4c (b:Nat) (num:Nat) (scale:Int) (text:ByteArray) (kv cv:Value) (g:List Nat) (rest:List Value) (bs:List Nat) (w:World) (h:BufAt w b g rest bs) (hlim:bs.length+5000<=70368744177664) (hn:num<18446744073709551616) (h0:¬(-32768<=sgn num/\sgn num<=32767)) (h1:-2147483648<=sgn num/\sgn num<=2147483647):
  Calls Tryz.prog 17 #[.pointer (some ⟨b,0,none⟩),.agg #[.int .i64 4,.int .u64 (num:Int),.int .i64 scale,.string text,kv,cv]] w fun e w'=>e=.returned .nilIface/\Put w w' b g rest (bs++(20::leBytes 4 num)):=by
 have H:=qq (h.keep (w':=w.alloc (.cells #[.int .i64 4,.int .u64 (num:Int),.int .i64 scale,.string text,kv,cv] 26)) ((Keep.refl [] w).alloc _) (by simp) (by simp));clear h;obtain⟨z,hz⟩:∃z,z=sgn num:=⟨_,rfl⟩;have hzw:IntKind.i64.wrap (num:Int)=z:=by rw[hz,IntKind.wrap_i64];unfold sgn;split<;>omega
 have Hz:=qq hz;have hu:u64of z=num:=by rw[hz];exact u64of_sgn num hn
 have Hu:=qq hu;rw[<-hz]at h0 h1;clear hz hu
 go_enter Tryz.func17,Tryz.ntmps17
 go_wp2_with fail
 refine(appendInt32 b z g rest bs _ H.out (by omega) (by omega) h1.1 h1.2).mono ?_;rintro e w1 ⟨rfl,hP⟩;have HP:=qq (hP.lift ((Keep.refl [] w).alloc _));clear hP;go_wp2;go_ret;rw[<-Hu.out];exact⟨rfl,HP.out⟩
theorem appendV4d (b:Nat) (num:Nat) (scale:Int) (text:ByteArray) (kv cv:Value) (g:List Nat) (rest:List Value) (bs:List Nat) (w:World) (h:BufAt w b g rest bs) (hlim:bs.length+5000<=70368744177664) (hn:num<18446744073709551616) (h0:¬(-2147483648<=sgn num/\sgn num<=2147483647)):
  Calls Tryz.prog 17 #[.pointer (some ⟨b,0,none⟩),.agg #[.int .i64 4,.int .u64 (num:Int),.int .i64 scale,.string text,kv,cv]] w fun e w'=>e=.returned .nilIface/\Put w w' b g rest (bs++(24::leBytes 8 num)):=by
 have H:=qq (h.keep (w':=w.alloc (.cells #[.int .i64 4,.int .u64 (num:Int),.int .i64 scale,.string text,kv,cv] 26)) ((Keep.refl [] w).alloc _) (by simp) (by simp));clear h;obtain⟨z,hz⟩:∃z,z=sgn num:=⟨_,rfl⟩;have hzw:IntKind.i64.wrap (num:Int)=z:=by rw[hz,IntKind.wrap_i64];unfold sgn;split<;>omega
 have Hz:=qq hz;have hu:u64of z=num:=by rw[hz];exact u64of_sgn num hn
 have Hu:=qq hu;have hl:=sgn_lo num hn;rw[<-hz]at h0 hl;clear hz hu
 go_enter Tryz.func17,Tryz.ntmps17
 go_wp2_with fail
 refine(appendInt64 b z g rest bs _ H.out (by omega) (by omega) hl.1 hl.2).mono ?_;rintro e w1 ⟨rfl,hP⟩;have HP:=qq (hP.lift ((Keep.refl [] w).alloc _));clear hP;go_wp2;go_ret;rw[<-Hu.out];exact⟨rfl,HP.out⟩
theorem appendV5a (b:Nat) (num:Nat) (scale:Int) (text:ByteArray) (kv cv:Value) (g:List Nat) (rest:List Value) (bs:List Nat) (w:World) (h:BufAt w b g rest bs) (hlim:bs.length+5000<=70368744177664) (hn:num<18446744073709551616) (h1:-128<=sgn num/\sgn num<=127):
  Calls Tryz.prog 17 #[.pointer (some ⟨b,0,none⟩),.agg #[.int .i64 5,.int .u64 (num:Int),.int .i64 scale,.string text,kv,cv]] w fun e w'=>e=.returned .nilIface/\Put w w' b g rest (bs++(12::leBytes 1 num)):=by
 have H:=qq (h.keep (w':=w.alloc (.cells #[.int .i64 5,.int .u64 (num:Int),.int .i64 scale,.string text,kv,cv] 26)) ((Keep.refl [] w).alloc _) (by simp) (by simp));clear h;obtain⟨z,hz⟩:∃z,z=sgn num:=⟨_,rfl⟩;have hzw:IntKind.i64.wrap (num:Int)=z:=by rw[hz,IntKind.wrap_i64];unfold sgn;split<;>omega
 have Hz:=qq hz;have hu:u64of z=num:=by rw[hz];exact u64of_sgn num hn
 have Hu:=qq hu;rw[<-hz]at h1;clear hz hu
 go_enter Tryz.func17,Tryz.ntmps17
 go_wp2_with fail
 refine(appendInt8 b z g rest bs _ H.out (by omega) h1.1 h1.2).mono ?_;rintro e w1 ⟨rfl,hP⟩;have HP:=qq (hP.lift ((Keep.refl [] w).alloc _));clear hP;go_wp2;go_ret;rw[<-Hu.out];exact⟨rfl,HP.out⟩
theorem appendV5b (b:Nat) (num:Nat) (scale:Int) (text:ByteArray) (kv cv:Value) (g:List Nat) (rest:List Value) (bs:List Nat) (w:World) (h:BufAt w b g rest bs) (hlim:bs.length+5000<=70368744177664) (hn:num<18446744073709551616) (h0:¬(-128<=sgn num/\sgn num<=127)) (h1:-32768<=sgn num/\sgn num<=32767):
  Calls Tryz.prog 17 #[.pointer (some ⟨b,0,none⟩),.agg #[.int .i64 5,.int .u64 (num:Int),.int .i64 scale,.string text,kv,cv]] w fun e w'=>e=.returned .nilIface/\Put w w' b g rest (bs++(16::leBytes 2 num)):=by
 have H:=qq (h.keep (w':=w.alloc (.cells #[.int .i64 5,.int .u64 (num:Int),.int .i64 scale,.string text,kv,cv] 26)) ((Keep.refl [] w).alloc _) (by simp) (by simp));clear h;obtain⟨z,hz⟩:∃z,z=sgn num:=⟨_,rfl⟩;have hzw:IntKind.i64.wrap (num:Int)=z:=by rw[hz,IntKind.wrap_i64];unfold sgn;split<;>omega
 have Hz:=qq hz;have hu:u64of z=num:=by rw[hz];exact u64of_sgn num hn
 have Hu:=qq hu;rw[<-hz]at h0 h1;clear hz hu
 go_enter Tryz.func17,Tryz.ntmps17
 go_wp2_with fail
 refine(appendInt16 b z g rest bs _ H.out (by omega) (by omega) h1.1 h1.2).mono ?_;rintro e w1 ⟨rfl,hP⟩;have HP:=qq (hP.lift ((Keep.refl [] w).alloc _));clear hP;go_wp2;go_ret;rw[<-Hu.out];exact⟨rfl,HP.out⟩
theorem appendV5c (b:Nat) (num:Nat) (scale:Int) (text:ByteArray) (kv cv:Value) (g:List Nat) (rest:List Value) (bs:List Nat) (w:World) (h:BufAt w b g rest bs) (hlim:bs.length+5000<=70368744177664) (hn:num<18446744073709551616) (h0:¬(-32768<=sgn num/\sgn num<=32767)) (h1:-2147483648<=sgn num/\sgn num<=2147483647):
  Calls Tryz.prog 17 #[.pointer (some ⟨b,0,none⟩),.agg #[.int .i64 5,.int .u64 (num:Int),.int .i64 scale,.string text,kv,cv]] w fun e w'=>e=.returned .nilIface/\Put w w' b g rest (bs++(20::leBytes 4 num)):=by
 have H:=qq (h.keep (w':=w.alloc (.cells #[.int .i64 5,.int .u64 (num:Int),.int .i64 scale,.string text,kv,cv] 26)) ((Keep.refl [] w).alloc _) (by simp) (by simp));clear h;obtain⟨z,hz⟩:∃z,z=sgn num:=⟨_,rfl⟩;have hzw:IntKind.i64.wrap (num:Int)=z:=by rw[hz,IntKind.wrap_i64];unfold sgn;split<;>omega
 have Hz:=qq hz;have hu:u64of z=num:=by rw[hz];exact u64of_sgn num hn
 have Hu:=qq hu;rw[<-hz]at h0 h1;clear hz hu
 go_enter Tryz.func17,Tryz.ntmps17
 go_wp2_with fail
 refine(appendInt32 b z g rest bs _ H.out (by omega) (by omega) h1.1 h1.2).mono ?_;rintro e w1 ⟨rfl,hP⟩;have HP:=qq (hP.lift ((Keep.refl [] w).alloc _));clear hP;go_wp2;go_ret;rw[<-Hu.out];exact⟨rfl,HP.out⟩
theorem appendV5d (b:Nat) (num:Nat) (scale:Int) (text:ByteArray) (kv cv:Value) (g:List Nat) (rest:List Value) (bs:List Nat) (w:World) (h:BufAt w b g rest bs) (hlim:bs.length+5000<=70368744177664) (hn:num<18446744073709551616) (h0:¬(-2147483648<=sgn num/\sgn num<=2147483647)):
  Calls Tryz.prog 17 #[.pointer (some ⟨b,0,none⟩),.agg #[.int .i64 5,.int .u64 (num:Int),.int .i64 scale,.string text,kv,cv]] w fun e w'=>e=.returned .nilIface/\Put w w' b g rest (bs++(24::leBytes 8 num)):=by
 have H:=qq (h.keep (w':=w.alloc (.cells #[.int .i64 5,.int .u64 (num:Int),.int .i64 scale,.string text,kv,cv] 26)) ((Keep.refl [] w).alloc _) (by simp) (by simp));clear h;obtain⟨z,hz⟩:∃z,z=sgn num:=⟨_,rfl⟩;have hzw:IntKind.i64.wrap (num:Int)=z:=by rw[hz,IntKind.wrap_i64];unfold sgn;split<;>omega
 have Hz:=qq hz;have hu:u64of z=num:=by rw[hz];exact u64of_sgn num hn
 have Hu:=qq hu;have hl:=sgn_lo num hn;rw[<-hz]at h0 hl;clear hz hu
 go_enter Tryz.func17,Tryz.ntmps17
 go_wp2_with fail
 refine(appendInt64 b z g rest bs _ H.out (by omega) (by omega) hl.1 hl.2).mono ?_;rintro e w1 ⟨rfl,hP⟩;have HP:=qq (hP.lift ((Keep.refl [] w).alloc _));clear hP;go_wp2;go_ret;rw[<-Hu.out];exact⟨rfl,HP.out⟩
theorem appendV6a (b:Nat) (num:Nat) (scale:Int) (text:ByteArray) (kv cv:Value) (g:List Nat) (rest:List Value) (bs:List Nat) (w:World) (h:BufAt w b g rest bs) (hlim:bs.length+5000<=70368744177664) (hn:num<18446744073709551616) (h1:-128<=sgn num/\sgn num<=127):
  Calls Tryz.prog 17 #[.pointer (some ⟨b,0,none⟩),.agg #[.int .i64 6,.int .u64 (num:Int),.int .i64 scale,.string text,kv,cv]] w fun e w'=>e=.returned .nilIface/\Put w w' b g rest (bs++(12::leBytes 1 num)):=by
 have H:=qq (h.keep (w':=w.alloc (.cells #[.int .i64 6,.int .u64 (num:Int),.int .i64 scale,.string text,kv,cv] 26)) ((Keep.refl [] w).alloc _) (by simp) (by simp));clear h;obtain⟨z,hz⟩:∃z,z=sgn num:=⟨_,rfl⟩;have hzw:IntKind.i64.wrap (num:Int)=z:=by rw[hz,IntKind.wrap_i64];unfold sgn;split<;>omega
 have Hz:=qq hz;have hu:u64of z=num:=by rw[hz];exact u64of_sgn num hn
 have Hu:=qq hu;rw[<-hz]at h1;clear hz hu
 go_enter Tryz.func17,Tryz.ntmps17
 go_wp2_with fail
 refine(appendInt8 b z g rest bs _ H.out (by omega) h1.1 h1.2).mono ?_;rintro e w1 ⟨rfl,hP⟩;have HP:=qq (hP.lift ((Keep.refl [] w).alloc _));clear hP;go_wp2;go_ret;rw[<-Hu.out];exact⟨rfl,HP.out⟩
theorem appendV6b (b:Nat) (num:Nat) (scale:Int) (text:ByteArray) (kv cv:Value) (g:List Nat) (rest:List Value) (bs:List Nat) (w:World) (h:BufAt w b g rest bs) (hlim:bs.length+5000<=70368744177664) (hn:num<18446744073709551616) (h0:¬(-128<=sgn num/\sgn num<=127)) (h1:-32768<=sgn num/\sgn num<=32767):
  Calls Tryz.prog 17 #[.pointer (some ⟨b,0,none⟩),.agg #[.int .i64 6,.int .u64 (num:Int),.int .i64 scale,.string text,kv,cv]] w fun e w'=>e=.returned .nilIface/\Put w w' b g rest (bs++(16::leBytes 2 num)):=by
 have H:=qq (h.keep (w':=w.alloc (.cells #[.int .i64 6,.int .u64 (num:Int),.int .i64 scale,.string text,kv,cv] 26)) ((Keep.refl [] w).alloc _) (by simp) (by simp));clear h;obtain⟨z,hz⟩:∃z,z=sgn num:=⟨_,rfl⟩;have hzw:IntKind.i64.wrap (num:Int)=z:=by rw[hz,IntKind.wrap_i64];unfold sgn;split<;>omega
 have Hz:=qq hz;have hu:u64of z=num:=by rw[hz];exact u64of_sgn num hn
 have Hu:=qq hu;rw[<-hz]at h0 h1;clear hz hu
 go_enter Tryz.func17,Tryz.ntmps17
 go_wp2_with fail
 refine(appendInt16 b z g rest bs _ H.out (by omega) (by omega) h1.1 h1.2).mono ?_;rintro e w1 ⟨rfl,hP⟩;have HP:=qq (hP.lift ((Keep.refl [] w).alloc _));clear hP;go_wp2;go_ret;rw[<-Hu.out];exact⟨rfl,HP.out⟩
theorem appendV6c (b:Nat) (num:Nat) (scale:Int) (text:ByteArray) (kv cv:Value) (g:List Nat) (rest:List Value) (bs:List Nat) (w:World) (h:BufAt w b g rest bs) (hlim:bs.length+5000<=70368744177664) (hn:num<18446744073709551616) (h0:¬(-32768<=sgn num/\sgn num<=32767)) (h1:-2147483648<=sgn num/\sgn num<=2147483647):
  Calls Tryz.prog 17 #[.pointer (some ⟨b,0,none⟩),.agg #[.int .i64 6,.int .u64 (num:Int),.int .i64 scale,.string text,kv,cv]] w fun e w'=>e=.returned .nilIface/\Put w w' b g rest (bs++(20::leBytes 4 num)):=by
 have H:=qq (h.keep (w':=w.alloc (.cells #[.int .i64 6,.int .u64 (num:Int),.int .i64 scale,.string text,kv,cv] 26)) ((Keep.refl [] w).alloc _) (by simp) (by simp));clear h;obtain⟨z,hz⟩:∃z,z=sgn num:=⟨_,rfl⟩;have hzw:IntKind.i64.wrap (num:Int)=z:=by rw[hz,IntKind.wrap_i64];unfold sgn;split<;>omega
 have Hz:=qq hz;have hu:u64of z=num:=by rw[hz];exact u64of_sgn num hn
 have Hu:=qq hu;rw[<-hz]at h0 h1;clear hz hu
 go_enter Tryz.func17,Tryz.ntmps17
 go_wp2_with fail
 refine(appendInt32 b z g rest bs _ H.out (by omega) (by omega) h1.1 h1.2).mono ?_;rintro e w1 ⟨rfl,hP⟩;have HP:=qq (hP.lift ((Keep.refl [] w).alloc _));clear hP;go_wp2;go_ret;rw[<-Hu.out];exact⟨rfl,HP.out⟩
theorem appendV6d (b:Nat) (num:Nat) (scale:Int) (text:ByteArray) (kv cv:Value) (g:List Nat) (rest:List Value) (bs:List Nat) (w:World) (h:BufAt w b g rest bs) (hlim:bs.length+5000<=70368744177664) (hn:num<18446744073709551616) (h0:¬(-2147483648<=sgn num/\sgn num<=2147483647)):
  Calls Tryz.prog 17 #[.pointer (some ⟨b,0,none⟩),.agg #[.int .i64 6,.int .u64 (num:Int),.int .i64 scale,.string text,kv,cv]] w fun e w'=>e=.returned .nilIface/\Put w w' b g rest (bs++(24::leBytes 8 num)):=by
 have H:=qq (h.keep (w':=w.alloc (.cells #[.int .i64 6,.int .u64 (num:Int),.int .i64 scale,.string text,kv,cv] 26)) ((Keep.refl [] w).alloc _) (by simp) (by simp));clear h;obtain⟨z,hz⟩:∃z,z=sgn num:=⟨_,rfl⟩;have hzw:IntKind.i64.wrap (num:Int)=z:=by rw[hz,IntKind.wrap_i64];unfold sgn;split<;>omega
 have Hz:=qq hz;have hu:u64of z=num:=by rw[hz];exact u64of_sgn num hn
 have Hu:=qq hu;have hl:=sgn_lo num hn;rw[<-hz]at h0 hl;clear hz hu
 go_enter Tryz.func17,Tryz.ntmps17
 go_wp2_with fail
 refine(appendInt64 b z g rest bs _ H.out (by omega) (by omega) hl.1 hl.2).mono ?_;rintro e w1 ⟨rfl,hP⟩;have HP:=qq (hP.lift ((Keep.refl [] w).alloc _));clear hP;go_wp2;go_ret;rw[<-Hu.out];exact⟨rfl,HP.out⟩
theorem appendV7a (b:Nat) (num:Nat) (scale:Int) (text:ByteArray) (kv cv:Value) (g:List Nat) (rest:List Value) (bs:List Nat) (w:World) (h:BufAt w b g rest bs) (hlim:bs.length+5000<=70368744177664) (hn:num<18446744073709551616) (h1:-128<=sgn num/\sgn num<=127):
  Calls Tryz.prog 17 #[.pointer (some ⟨b,0,none⟩),.agg #[.int .i64 7,.int .u64 (num:Int),.int .i64 scale,.string text,kv,cv]] w fun e w'=>e=.returned .nilIface/\Put w w' b g rest (bs++(12::leBytes 1 num)):=by
 have H:=qq (h.keep (w':=w.alloc (.cells #[.int .i64 7,.int .u64 (num:Int),.int .i64 scale,.string text,kv,cv] 26)) ((Keep.refl [] w).alloc _) (by simp) (by simp));clear h;obtain⟨z,hz⟩:∃z,z=sgn num:=⟨_,rfl⟩;have hzw:IntKind.i64.wrap (num:Int)=z:=by rw[hz,IntKind.wrap_i64];unfold sgn;split<;>omega
 have Hz:=qq hz;have hu:u64of z=num:=by rw[hz];exact u64of_sgn num hn
 have Hu:=qq hu;rw[<-hz]at h1;clear hz hu
 go_enter Tryz.func17,Tryz.ntmps17
 go_wp2_with fail
 refine(appendInt8 b z g rest bs _ H.out (by omega) h1.1 h1.2).mono ?_;rintro e w1 ⟨rfl,hP⟩;have HP:=qq (hP.lift ((Keep.refl [] w).alloc _));clear hP;go_wp2;go_ret;rw[<-Hu.out];exact⟨rfl,HP.out⟩
theorem appendV7b (b:Nat) (num:Nat) (scale:Int) (text:ByteArray) (kv cv:Value) (g:List Nat) (rest:List Value) (bs:List Nat) (w:World) (h:BufAt w b g rest bs) (hlim:bs.length+5000<=70368744177664) (hn:num<18446744073709551616) (h0:¬(-128<=sgn num/\sgn num<=127)) (h1:-32768<=sgn num/\sgn num<=32767):
  Calls Tryz.prog 17 #[.pointer (some ⟨b,0,none⟩),.agg #[.int .i64 7,.int .u64 (num:Int),.int .i64 scale,.string text,kv,cv]] w fun e w'=>e=.returned .nilIface/\Put w w' b g rest (bs++(16::leBytes 2 num)):=by
 have H:=qq (h.keep (w':=w.alloc (.cells #[.int .i64 7,.int .u64 (num:Int),.int .i64 scale,.string text,kv,cv] 26)) ((Keep.refl [] w).alloc _) (by simp) (by simp));clear h;obtain⟨z,hz⟩:∃z,z=sgn num:=⟨_,rfl⟩;have hzw:IntKind.i64.wrap (num:Int)=z:=by rw[hz,IntKind.wrap_i64];unfold sgn;split<;>omega
 have Hz:=qq hz;have hu:u64of z=num:=by rw[hz];exact u64of_sgn num hn
 have Hu:=qq hu;rw[<-hz]at h0 h1;clear hz hu
 go_enter Tryz.func17,Tryz.ntmps17
 go_wp2_with fail
 refine(appendInt16 b z g rest bs _ H.out (by omega) (by omega) h1.1 h1.2).mono ?_;rintro e w1 ⟨rfl,hP⟩;have HP:=qq (hP.lift ((Keep.refl [] w).alloc _));clear hP;go_wp2;go_ret;rw[<-Hu.out];exact⟨rfl,HP.out⟩
theorem appendV7c (b:Nat) (num:Nat) (scale:Int) (text:ByteArray) (kv cv:Value) (g:List Nat) (rest:List Value) (bs:List Nat) (w:World) (h:BufAt w b g rest bs) (hlim:bs.length+5000<=70368744177664) (hn:num<18446744073709551616) (h0:¬(-32768<=sgn num/\sgn num<=32767)) (h1:-2147483648<=sgn num/\sgn num<=2147483647):
  Calls Tryz.prog 17 #[.pointer (some ⟨b,0,none⟩),.agg #[.int .i64 7,.int .u64 (num:Int),.int .i64 scale,.string text,kv,cv]] w fun e w'=>e=.returned .nilIface/\Put w w' b g rest (bs++(20::leBytes 4 num)):=by
 have H:=qq (h.keep (w':=w.alloc (.cells #[.int .i64 7,.int .u64 (num:Int),.int .i64 scale,.string text,kv,cv] 26)) ((Keep.refl [] w).alloc _) (by simp) (by simp));clear h;obtain⟨z,hz⟩:∃z,z=sgn num:=⟨_,rfl⟩;have hzw:IntKind.i64.wrap (num:Int)=z:=by rw[hz,IntKind.wrap_i64];unfold sgn;split<;>omega
 have Hz:=qq hz;have hu:u64of z=num:=by rw[hz];exact u64of_sgn num hn
 have Hu:=qq hu;rw[<-hz]at h0 h1;clear hz hu
 go_enter Tryz.func17,Tryz.ntmps17
 go_wp2_with fail
 refine(appendInt32 b z g rest bs _ H.out (by omega) (by omega) h1.1 h1.2).mono ?_;rintro e w1 ⟨rfl,hP⟩;have HP:=qq (hP.lift ((Keep.refl [] w).alloc _));clear hP;go_wp2;go_ret;rw[<-Hu.out];exact⟨rfl,HP.out⟩
theorem appendV7d (b:Nat) (num:Nat) (scale:Int) (text:ByteArray) (kv cv:Value) (g:List Nat) (rest:List Value) (bs:List Nat) (w:World) (h:BufAt w b g rest bs) (hlim:bs.length+5000<=70368744177664) (hn:num<18446744073709551616) (h0:¬(-2147483648<=sgn num/\sgn num<=2147483647)):
  Calls Tryz.prog 17 #[.pointer (some ⟨b,0,none⟩),.agg #[.int .i64 7,.int .u64 (num:Int),.int .i64 scale,.string text,kv,cv]] w fun e w'=>e=.returned .nilIface/\Put w w' b g rest (bs++(24::leBytes 8 num)):=by
 have H:=qq (h.keep (w':=w.alloc (.cells #[.int .i64 7,.int .u64 (num:Int),.int .i64 scale,.string text,kv,cv] 26)) ((Keep.refl [] w).alloc _) (by simp) (by simp));clear h;obtain⟨z,hz⟩:∃z,z=sgn num:=⟨_,rfl⟩;have hzw:IntKind.i64.wrap (num:Int)=z:=by rw[hz,IntKind.wrap_i64];unfold sgn;split<;>omega
 have Hz:=qq hz;have hu:u64of z=num:=by rw[hz];exact u64of_sgn num hn
 have Hu:=qq hu;have hl:=sgn_lo num hn;rw[<-hz]at h0 hl;clear hz hu
 go_enter Tryz.func17,Tryz.ntmps17
 go_wp2_with fail
 refine(appendInt64 b z g rest bs _ H.out (by omega) (by omega) hl.1 hl.2).mono ?_;rintro e w1 ⟨rfl,hP⟩;have HP:=qq (hP.lift ((Keep.refl [] w).alloc _));clear hP;go_wp2;go_ret;rw[<-Hu.out];exact⟨rfl,HP.out⟩
theorem appendV8 (b:Nat) (num:Nat) (scale:Int) (text:ByteArray) (kv cv:Value) (g:List Nat) (rest:List Value) (bs:List Nat) (w:World) (h:BufAt w b g rest bs) (hlim:bs.length+5000<=70368744177664) (ht:text.size<=4096):
  Calls Tryz.prog 17 #[.pointer (some ⟨b,0,none⟩),.agg #[.int .i64 8,.int .u64 (num:Int),.int .i64 scale,.string text,kv,cv]] w fun e w'=>e=.returned .nilIface/\Put w w' b g rest (bs++encStr text):=by
 have H:=qq (h.keep (w':=w.alloc (.cells #[.int .i64 8,.int .u64 (num:Int),.int .i64 scale,.string text,kv,cv] 26)) ((Keep.refl [] w).alloc _) (by simp) (by simp));clear h
 go_enter Tryz.func17,Tryz.ntmps17
 go_wp2_with fail
 refine(appendStrC b text g rest bs _ H.out (by omega) (by omega)).mono ?_;rintro e w1 ⟨rfl,hP⟩;have HP:=qq (hP.lift ((Keep.refl [] w).alloc _));clear hP;go_wp2;go_ret;exact⟨rfl,HP.out⟩
theorem appendV9 (b:Nat) (num:Nat) (scale:Int) (text:ByteArray) (kv cv:Value) (g:List Nat) (rest:List Value) (bs:List Nat) (w:World) (h:BufAt w b g rest bs) (hlim:bs.length+5000<=70368744177664) (hn:num<18446744073709551616):
  Calls Tryz.prog 17 #[.pointer (some ⟨b,0,none⟩),.agg #[.int .i64 9,.int .u64 (num:Int),.int .i64 scale,.string text,kv,cv]] w fun e w'=>e=.returned .nilIface/\Put w w' b g rest (bs++(28::leBytes 8 num)):=by
 have H:=qq (h.keep (w':=w.alloc (.cells #[.int .i64 9,.int .u64 (num:Int),.int .i64 scale,.string text,kv,cv] 26)) ((Keep.refl [] w).alloc _) (by simp) (by simp));clear h;have hfb:=run_frombits64 num
 go_enter Tryz.func17,Tryz.ntmps17
 go_wp2_with fail
 refine(appendF64C b num g rest bs _ H.out (by omega) hn).mono ?_;rintro e w1 ⟨rfl,hP⟩;have HP:=qq (hP.lift ((Keep.refl [] w).alloc _));clear hP;go_wp2;go_ret;exact⟨rfl,HP.out⟩
theorem appendV16 (b:Nat) (num:Nat) (scale:Int) (text:ByteArray) (kv cv:Value) (g:List Nat) (rest:List Value) (bs:List Nat) (w:World) (h:BufAt w b g rest bs) (hlim:bs.length+5000<=70368744177664) (hn:num<4294967296):
  Calls Tryz.prog 17 #[.pointer (some ⟨b,0,none⟩),.agg #[.int .i64 16,.int .u64 (num:Int),.int .i64 scale,.string text,kv,cv]] w fun e w'=>e=.returned .nilIface/\Put w w' b g rest (bs++(56::leBytes 4 num)):=by
 have H:=qq (h.keep (w':=w.alloc (.cells #[.int .i64 16,.int .u64 (num:Int),.int .i64 scale,.string text,kv,cv] 26)) ((Keep.refl [] w).alloc _) (by simp) (by simp));clear h;have hfb:=run_frombits32 num
 go_enter Tryz.func17,Tryz.ntmps17
 go_wp2_with fail
 refine(appendF32C b num g rest bs _ H.out (by omega) hn).mono ?_;rintro e w1 ⟨rfl,hP⟩;have HP:=qq (hP.lift ((Keep.refl [] w).alloc _));clear hP;go_wp2;go_ret;exact⟨rfl,HP.out⟩
theorem appendV18 (b:Nat) (num:Nat) (scale:Int) (text:ByteArray) (kv cv:Value) (g:List Nat) (rest:List Value) (bs:List Nat) (w:World) (h:BufAt w b g rest bs) (hlim:bs.length+5000<=70368744177664) (hn:num<18446744073709551616):
  Calls Tryz.prog 17 #[.pointer (some ⟨b,0,none⟩),.agg #[.int .i64 18,.int .u64 (num:Int),.int .i64 scale,.string text,kv,cv]] w fun e w'=>e=.returned .nilIface/\Put w w' b g rest (bs++(68::leBytes 8 num)):=by
 have H:=qq (h.keep (w':=w.alloc (.cells #[.int .i64 18,.int .u64 (num:Int),.int .i64 scale,.string text,kv,cv] 26)) ((Keep.refl [] w).alloc _) (by simp) (by simp));clear h;obtain⟨z,hz⟩:∃z,z=sgn num:=⟨_,rfl⟩;have hzw:IntKind.i64.wrap (num:Int)=z:=by rw[hz,IntKind.wrap_i64];unfold sgn;split<;>omega
 have Hz:=qq hz;have hu:u64of z=num:=by rw[hz];exact u64of_sgn num hn
 have Hu:=qq hu;clear hz hu
 go_enter Tryz.func17,Tryz.ntmps17
 go_wp2_with fail
 refine(appendTimeC b z g rest bs _ H.out (by omega)).mono ?_;rintro e w1 ⟨rfl,hP⟩;have HP:=qq (hP.lift ((Keep.refl [] w).alloc _));clear hP;go_wp2;go_ret;rw[<-Hu.out];exact⟨rfl,HP.out⟩
theorem appendV14 (b:Nat) (num:Nat) (scale:Int) (text:ByteArray) (kv cv:Value) (g:List Nat) (rest:List Value) (bs:List Nat) (w:World) (h:BufAt w b g rest bs) (hlim:bs.length+5000<=70368744177664) (hn:num<18446744073709551616):
  Calls Tryz.prog 17 #[.pointer (some ⟨b,0,none⟩),.agg #[.int .i64 14,.int .u64 (num:Int),.int .i64 scale,.string text,kv,cv]] w fun e w'=>e=.returned .nilIface/\Put w w' b g rest (bs++(48::leBytes 8 num)):=by
 have H:=qq (h.keep (w':=w.alloc (.cells #[.int .i64 14,.int .u64 (num:Int),.int .i64 scale,.string text,kv,cv] 26)) ((Keep.refl [] w).alloc _) (by simp) (by simp));clear h;obtain⟨z,hz⟩:∃z,z=sgn num:=⟨_,rfl⟩;have hzw:IntKind.i64.wrap (num:Int)=z:=by rw[hz,IntKind.wrap_i64];unfold sgn;split<;>omega
 have Hz:=qq hz;have hu:u64of z=num:=by rw[hz];exact u64of_sgn num hn
 have Hu:=qq hu;clear hz hu
 go_enter Tryz.func17,Tryz.ntmps17
 go_wp2_with fail
 refine(appendStamp12 b z g rest bs _ H.out (by omega)).mono ?_;rintro e w1 ⟨rfl,hP⟩;have HP:=qq (hP.lift ((Keep.refl [] w).alloc _));clear hP;go_wp2;go_ret;rw[<-Hu.out];exact⟨rfl,HP.out⟩
theorem appendV15 (b:Nat) (num:Nat) (scale:Int) (text:ByteArray) (kv cv:Value) (g:List Nat) (rest:List Value) (bs:List Nat) (w:World) (h:BufAt w b g rest bs) (hlim:bs.length+5000<=70368744177664) (hn:num<18446744073709551616):
  Calls Tryz.prog 17 #[.pointer (some ⟨b,0,none⟩),.agg #[.int .i64 15,.int .u64 (num:Int),.int .i64 scale,.string text,kv,cv]] w fun e w'=>e=.returned .nilIface/\Put w w' b g rest (bs++(52::leBytes 8 num)):=by
 have H:=qq (h.keep (w':=w.alloc (.cells #[.int .i64 15,.int .u64 (num:Int),.int .i64 scale,.string text,kv,cv] 26)) ((Keep.refl [] w).alloc _) (by simp) (by simp));clear h;obtain⟨z,hz⟩:∃z,z=sgn num:=⟨_,rfl⟩;have hzw:IntKind.i64.wrap (num:Int)=z:=by rw[hz,IntKind.wrap_i64];unfold sgn;split<;>omega
 have Hz:=qq hz;have hu:u64of z=num:=by rw[hz];exact u64of_sgn num hn
 have Hu:=qq hu;clear hz hu
 go_enter Tryz.func17,Tryz.ntmps17
 go_wp2_with fail
 refine(appendStamp13 b z g rest bs _ H.out (by omega)).mono ?_;rintro e w1 ⟨rfl,hP⟩;have HP:=qq (hP.lift ((Keep.refl [] w).alloc _));clear hP;go_wp2;go_ret;rw[<-Hu.out];exact⟨rfl,HP.out⟩
theorem appendV19 (b:Nat) (num:Nat) (scale:Int) (text:ByteArray) (kv cv:Value) (g:List Nat) (rest:List Value) (bs:List Nat) (w:World) (h:BufAt w b g rest bs) (hlim:bs.length+5000<=70368744177664) (hn:num<18446744073709551616):
  Calls Tryz.prog 17 #[.pointer (some ⟨b,0,none⟩),.agg #[.int .i64 19,.int .u64 (num:Int),.int .i64 scale,.string text,kv,cv]] w fun e w'=>e=.returned .nilIface/\Put w w' b g rest (bs++(72::leBytes 8 num)):=by
 have H:=qq (h.keep (w':=w.alloc (.cells #[.int .i64 19,.int .u64 (num:Int),.int .i64 scale,.string text,kv,cv] 26)) ((Keep.refl [] w).alloc _) (by simp) (by simp));clear h;obtain⟨z,hz⟩:∃z,z=sgn num:=⟨_,rfl⟩;have hzw:IntKind.i64.wrap (num:Int)=z:=by rw[hz,IntKind.wrap_i64];unfold sgn;split<;>omega
 have Hz:=qq hz;have hu:u64of z=num:=by rw[hz];exact u64of_sgn num hn
 have Hu:=qq hu;clear hz hu
 go_enter Tryz.func17,Tryz.ntmps17
 go_wp2_with fail
 refine(appendStamp18 b z g rest bs _ H.out (by omega)).mono ?_;rintro e w1 ⟨rfl,hP⟩;have HP:=qq (hP.lift ((Keep.refl [] w).alloc _));clear hP;go_wp2;go_ret;rw[<-Hu.out];exact⟨rfl,HP.out⟩
theorem appendV20 (b:Nat) (num:Nat) (scale:Int) (text:ByteArray) (kv cv:Value) (g:List Nat) (rest:List Value) (bs:List Nat) (w:World) (h:BufAt w b g rest bs) (hlim:bs.length+5000<=70368744177664) (hn:num<18446744073709551616):
  Calls Tryz.prog 17 #[.pointer (some ⟨b,0,none⟩),.agg #[.int .i64 20,.int .u64 (num:Int),.int .i64 scale,.string text,kv,cv]] w fun e w'=>e=.returned .nilIface/\Put w w' b g rest (bs++(76::leBytes 8 num)):=by
 have H:=qq (h.keep (w':=w.alloc (.cells #[.int .i64 20,.int .u64 (num:Int),.int .i64 scale,.string text,kv,cv] 26)) ((Keep.refl [] w).alloc _) (by simp) (by simp));clear h;obtain⟨z,hz⟩:∃z,z=sgn num:=⟨_,rfl⟩;have hzw:IntKind.i64.wrap (num:Int)=z:=by rw[hz,IntKind.wrap_i64];unfold sgn;split<;>omega
 have Hz:=qq hz;have hu:u64of z=num:=by rw[hz];exact u64of_sgn num hn
 have Hu:=qq hu;clear hz hu
 go_enter Tryz.func17,Tryz.ntmps17
 go_wp2_with fail
 refine(appendStamp19 b z g rest bs _ H.out (by omega)).mono ?_;rintro e w1 ⟨rfl,hP⟩;have HP:=qq (hP.lift ((Keep.refl [] w).alloc _));clear hP;go_wp2;go_ret;rw[<-Hu.out];exact⟨rfl,HP.out⟩
theorem leBytes_congr:∀(k a b:Nat),a%256^k=b%256^k->leBytes k a=leBytes k b
 |0,_,_,_=>rfl
 |k+1,a,b,h=>by
  have e1:a%256=b%256:=by
   have:=congrArg (·%256) h;simp only[Nat.pow_succ,Nat.mod_mul_left_mod]at this;exact this
  have e2:a / 256%256^k=b / 256%256^k:=by
   rw[Nat.pow_succ,Nat.mul_comm]at h;rw[<-Nat.mod_mul_right_div_self,<-Nat.mod_mul_right_div_self,h]
  rw[leBytes,leBytes,e1,leBytes_congr k _ _ e2]
theorem leBytes4_wrap (num:Nat):leBytes 4 (u64of (IntKind.i32.wrap (num:Int)))=leBytes 4 num:=by
 apply leBytes_congr;rw[IntKind.wrap_i32];unfold u64of;omega
theorem appendV13 (b:Nat) (num:Nat) (scale:Int) (text:ByteArray) (kv cv:Value) (g:List Nat) (rest:List Value) (bs:List Nat) (w:World) (h:BufAt w b g rest bs) (hlim:bs.length+5000<=70368744177664):
  Calls Tryz.prog 17 #[.pointer (some ⟨b,0,none⟩),.agg #[.int .i64 13,.int .u64 (num:Int),.int .i64 scale,.string text,kv,cv]] w fun e w'=>e=.returned .nilIface/\Put w w' b g rest (bs++(44::leBytes 4 num)):=by
 have H:=qq (h.keep (w':=w.alloc (.cells #[.int .i64 13,.int .u64 (num:Int),.int .i64 scale,.string text,kv,cv] 26)) ((Keep.refl [] w).alloc _) (by simp) (by simp));clear h;obtain⟨z,hz⟩:∃z,z=IntKind.i32.wrap (num:Int):=⟨_,rfl⟩;have Hz:=qq hz;have hu:leBytes 4 (u64of z)=leBytes 4 num:=by rw[hz];exact leBytes4_wrap num
 have Hu:=qq hu;have hz2:=hz.symm;clear hz hu
 go_enter Tryz.func17,Tryz.ntmps17
 go_wp2_with fail
 refine(appendDateC b z g rest bs _ H.out (by omega)).mono ?_;rintro e w1 ⟨rfl,hP⟩;have HP:=qq (hP.lift ((Keep.refl [] w).alloc _));clear hP;go_wp2;go_ret;rw[<-Hu.out];exact⟨rfl,HP.out⟩
theorem appendV10 (b:Nat) (num:Nat) (scale:Int) (text:ByteArray) (kv cv:Value) (g:List Nat) (rest:List Value) (bs:List Nat) (w:World) (h:BufAt w b g rest bs) (hlim:bs.length+5000<=70368744177664) (h0:0<=scale/\scale<=38):
  Calls Tryz.prog 17 #[.pointer (some ⟨b,0,none⟩),.agg #[.int .i64 10,.int .u64 (num:Int),.int .i64 scale,.string text,kv,cv]] w fun e w'=>e=.returned .nilIface/\Put w w' b g rest (bs++(32::scale.toNat::leBytes 4 num)):=by
 have H:=qq (h.keep (w':=w.alloc (.cells #[.int .i64 10,.int .u64 (num:Int),.int .i64 scale,.string text,kv,cv] 26)) ((Keep.refl [] w).alloc _) (by simp) (by simp));clear h;obtain⟨z,hz⟩:∃z,z=IntKind.i32.wrap (num:Int):=⟨_,rfl⟩;have Hz:=qq hz;have hu:leBytes 4 (u64of z)=leBytes 4 num:=by rw[hz];exact leBytes4_wrap num
 have Hu:=qq hu;have hz2:=hz.symm;clear hz hu;obtain⟨s,hs⟩:∃s,s=scale.toNat:=⟨_,rfl⟩;have hsc:IntKind.u8.wrap scale=(s:Int):=by rw[hs,IntKind.wrap_u8];omega
 have Hs:=qq hs;clear hs
 go_enter Tryz.func17,Tryz.ntmps17
 go_wp2_with fail
 refine(appendDec4 b s z g rest bs _ H.out (by omega)).mono ?_;rintro e w1 ⟨rfl,hP⟩;have HP:=qq (hP.lift ((Keep.refl [] w).alloc _));clear hP;go_wp2;go_ret;rw[<-Hu.out,<-Hs.out];exact⟨rfl,HP.out⟩
theorem appendV11 (b:Nat) (num:Nat) (scale:Int) (text:ByteArray) (kv cv:Value) (g:List Nat) (rest:List Value) (bs:List Nat) (w:World) (h:BufAt w b g rest bs) (hlim:bs.length+5000<=70368744177664) (hn:num<18446744073709551616) (h0:0<=scale/\scale<=38):
  Calls Tryz.prog 17 #[.pointer (some ⟨b,0,none⟩),.agg #[.int .i64 11,.int .u64 (num:Int),.int .i64 scale,.string text,kv,cv]] w fun e w'=>e=.returned .nilIface/\Put w w' b g rest (bs++(36::scale.toNat::leBytes 8 num)):=by
 have H:=qq (h.keep (w':=w.alloc (.cells #[.int .i64 11,.int .u64 (num:Int),.int .i64 scale,.string text,kv,cv] 26)) ((Keep.refl [] w).alloc _) (by simp) (by simp));clear h;obtain⟨z,hz⟩:∃z,z=sgn num:=⟨_,rfl⟩;have hzw:IntKind.i64.wrap (num:Int)=z:=by rw[hz,IntKind.wrap_i64];unfold sgn;split<;>omega
 have Hz:=qq hz;have hu:u64of z=num:=by rw[hz];exact u64of_sgn num hn
 have Hu:=qq hu;clear hz hu;obtain⟨s,hs⟩:∃s,s=scale.toNat:=⟨_,rfl⟩;have hsc:IntKind.u8.wrap scale=(s:Int):=by rw[hs,IntKind.wrap_u8];omega
 have Hs:=qq hs;clear hs
 go_enter Tryz.func17,Tryz.ntmps17
 go_wp2_with fail
 refine(appendDec8 b s z g rest bs _ H.out (by omega)).mono ?_;rintro e w1 ⟨rfl,hP⟩;have HP:=qq (hP.lift ((Keep.refl [] w).alloc _));clear hP;go_wp2;go_ret;rw[<-Hs.out,<-Hu.out];exact⟨rfl,HP.out⟩
end Go.Proofs.YtocgdgmfnockiaaGreatDoor
