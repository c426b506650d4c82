/- unpack32. -/
import Derived.Test.YtlolcgklcnechaaGreatDoorXU7
import Derived.Deep.CutBlock
import Derived.Deep.DeepCutAuto
set_option linter.unusedVariables false
set_option linter.unusedSimpArgs false
namespace Go.Proofs.YtlolcgklcnechaaGreatDoor
open Go.RowKit

theorem unpacks2 : Unpacks 187 2 := unpacks_straight _ 2 _ Tryz.func187 straight2 (by omega) (by omega)
theorem unpacks3 : Unpacks 188 3 := unpacks_straight _ 3 _ Tryz.func188 straight3 (by omega) (by omega)
theorem unpacks5 : Unpacks 190 5 := unpacks_straight _ 5 _ Tryz.func190 straight5 (by omega) (by omega)
theorem unpacks6 : Unpacks 191 6 := unpacks_straight _ 6 _ Tryz.func191 straight6 (by omega) (by omega)
theorem unpacks7 : Unpacks 192 7 := unpacks_straight _ 7 _ Tryz.func192 straight7 (by omega) (by omega)
theorem unpacks9 : Unpacks 194 9 := unpacks_straight _ 9 _ Tryz.func194 straight9 (by omega) (by omega)
theorem unpacks10 : Unpacks 195 10 := unpacks_straight _ 10 _ Tryz.func195 straight10 (by omega) (by omega)
theorem unpacks11 : Unpacks 196 11 := unpacks_straight _ 11 _ Tryz.func196 straight11 (by omega) (by omega)
theorem unpacks12 : Unpacks 197 12 := unpacks_straight _ 12 _ Tryz.func197 straight12 (by omega) (by omega)
theorem unpacks13 : Unpacks 198 13 := unpacks_straight _ 13 _ Tryz.func198 straight13 (by omega) (by omega)
theorem unpacks14 : Unpacks 199 14 := unpacks_straight _ 14 _ Tryz.func199 straight14 (by omega) (by omega)
theorem unpacks15 : Unpacks 200 15 := unpacks_straight _ 15 _ Tryz.func200 straight15 (by omega) (by omega)
theorem unpacks17 : Unpacks 202 17 := unpacks_straight _ 17 _ Tryz.func202 straight17 (by omega) (by omega)
theorem unpacks18 : Unpacks 203 18 := unpacks_straight _ 18 _ Tryz.func203 straight18 (by omega) (by omega)
theorem unpacks19 : Unpacks 204 19 := unpacks_straight _ 19 _ Tryz.func204 straight19 (by omega) (by omega)
theorem unpacks20 : Unpacks 205 20 := unpacks_straight _ 20 _ Tryz.func205 straight20 (by omega) (by omega)
theorem unpacks21 : Unpacks 206 21 := unpacks_straight _ 21 _ Tryz.func206 straight21 (by omega) (by omega)
theorem unpacks22 : Unpacks 207 22 := unpacks_straight _ 22 _ Tryz.func207 straight22 (by omega) (by omega)
theorem unpacks23 : Unpacks 208 23 := unpacks_straight _ 23 _ Tryz.func208 straight23 (by omega) (by omega)
theorem unpacks25 : Unpacks 210 25 := unpacks_straight _ 25 _ Tryz.func210 straight25 (by omega) (by omega)
theorem unpacks26 : Unpacks 211 26 := unpacks_straight _ 26 _ Tryz.func211 straight26 (by omega) (by omega)
theorem unpacks27 : Unpacks 212 27 := unpacks_straight _ 27 _ Tryz.func212 straight27 (by omega) (by omega)
theorem unpacks29 : Unpacks 214 29 := unpacks_straight _ 29 _ Tryz.func214 straight29 (by omega) (by omega)
theorem unpacks30 : Unpacks 215 30 := unpacks_straight _ 30 _ Tryz.func215 straight30 (by omega) (by omega)
theorem unpacks31 : Unpacks 216 31 := unpacks_straight _ 31 _ Tryz.func216 straight31 (by omega) (by omega)

theorem run_unpack1 : ∀ (u v : Value) (w : World), (callFunc 186 #[u, v]).run Tryz.prog w = .ok (.enter 186 #[u, v]) w := fun _ _ _ => by kernel_rfl
theorem run_unpack2 : ∀ (u v : Value) (w : World), (callFunc 187 #[u, v]).run Tryz.prog w = .ok (.enter 187 #[u, v]) w := fun _ _ _ => by kernel_rfl
theorem run_unpack3 : ∀ (u v : Value) (w : World), (callFunc 188 #[u, v]).run Tryz.prog w = .ok (.enter 188 #[u, v]) w := fun _ _ _ => by kernel_rfl
theorem run_unpack4 : ∀ (u v : Value) (w : World), (callFunc 189 #[u, v]).run Tryz.prog w = .ok (.enter 189 #[u, v]) w := fun _ _ _ => by kernel_rfl
theorem run_unpack5 : ∀ (u v : Value) (w : World), (callFunc 190 #[u, v]).run Tryz.prog w = .ok (.enter 190 #[u, v]) w := fun _ _ _ => by kernel_rfl
theorem run_unpack6 : ∀ (u v : Value) (w : World), (callFunc 191 #[u, v]).run Tryz.prog w = .ok (.enter 191 #[u, v]) w := fun _ _ _ => by kernel_rfl
theorem run_unpack7 : ∀ (u v : Value) (w : World), (callFunc 192 #[u, v]).run Tryz.prog w = .ok (.enter 192 #[u, v]) w := fun _ _ _ => by kernel_rfl
theorem run_unpack8 : ∀ (u v : Value) (w : World), (callFunc 193 #[u, v]).run Tryz.prog w = .ok (.enter 193 #[u, v]) w := fun _ _ _ => by kernel_rfl
theorem run_unpack9 : ∀ (u v : Value) (w : World), (callFunc 194 #[u, v]).run Tryz.prog w = .ok (.enter 194 #[u, v]) w := fun _ _ _ => by kernel_rfl
theorem run_unpack10 : ∀ (u v : Value) (w : World), (callFunc 195 #[u, v]).run Tryz.prog w = .ok (.enter 195 #[u, v]) w := fun _ _ _ => by kernel_rfl
theorem run_unpack11 : ∀ (u v : Value) (w : World), (callFunc 196 #[u, v]).run Tryz.prog w = .ok (.enter 196 #[u, v]) w := fun _ _ _ => by kernel_rfl
theorem run_unpack12 : ∀ (u v : Value) (w : World), (callFunc 197 #[u, v]).run Tryz.prog w = .ok (.enter 197 #[u, v]) w := fun _ _ _ => by kernel_rfl
theorem run_unpack13 : ∀ (u v : Value) (w : World), (callFunc 198 #[u, v]).run Tryz.prog w = .ok (.enter 198 #[u, v]) w := fun _ _ _ => by kernel_rfl
theorem run_unpack14 : ∀ (u v : Value) (w : World), (callFunc 199 #[u, v]).run Tryz.prog w = .ok (.enter 199 #[u, v]) w := fun _ _ _ => by kernel_rfl
theorem run_unpack15 : ∀ (u v : Value) (w : World), (callFunc 200 #[u, v]).run Tryz.prog w = .ok (.enter 200 #[u, v]) w := fun _ _ _ => by kernel_rfl
theorem run_unpack16 : ∀ (u v : Value) (w : World), (callFunc 201 #[u, v]).run Tryz.prog w = .ok (.enter 201 #[u, v]) w := fun _ _ _ => by kernel_rfl
theorem run_unpack17 : ∀ (u v : Value) (w : World), (callFunc 202 #[u, v]).run Tryz.prog w = .ok (.enter 202 #[u, v]) w := fun _ _ _ => by kernel_rfl
theorem run_unpack18 : ∀ (u v : Value) (w : World), (callFunc 203 #[u, v]).run Tryz.prog w = .ok (.enter 203 #[u, v]) w := fun _ _ _ => by kernel_rfl
theorem run_unpack19 : ∀ (u v : Value) (w : World), (callFunc 204 #[u, v]).run Tryz.prog w = .ok (.enter 204 #[u, v]) w := fun _ _ _ => by kernel_rfl
theorem run_unpack20 : ∀ (u v : Value) (w : World), (callFunc 205 #[u, v]).run Tryz.prog w = .ok (.enter 205 #[u, v]) w := fun _ _ _ => by kernel_rfl
theorem run_unpack21 : ∀ (u v : Value) (w : World), (callFunc 206 #[u, v]).run Tryz.prog w = .ok (.enter 206 #[u, v]) w := fun _ _ _ => by kernel_rfl
theorem run_unpack22 : ∀ (u v : Value) (w : World), (callFunc 207 #[u, v]).run Tryz.prog w = .ok (.enter 207 #[u, v]) w := fun _ _ _ => by kernel_rfl
theorem run_unpack23 : ∀ (u v : Value) (w : World), (callFunc 208 #[u, v]).run Tryz.prog w = .ok (.enter 208 #[u, v]) w := fun _ _ _ => by kernel_rfl
theorem run_unpack24 : ∀ (u v : Value) (w : World), (callFunc 209 #[u, v]).run Tryz.prog w = .ok (.enter 209 #[u, v]) w := fun _ _ _ => by kernel_rfl
theorem run_unpack25 : ∀ (u v : Value) (w : World), (callFunc 210 #[u, v]).run Tryz.prog w = .ok (.enter 210 #[u, v]) w := fun _ _ _ => by kernel_rfl
theorem run_unpack26 : ∀ (u v : Value) (w : World), (callFunc 211 #[u, v]).run Tryz.prog w = .ok (.enter 211 #[u, v]) w := fun _ _ _ => by kernel_rfl
theorem run_unpack27 : ∀ (u v : Value) (w : World), (callFunc 212 #[u, v]).run Tryz.prog w = .ok (.enter 212 #[u, v]) w := fun _ _ _ => by kernel_rfl
theorem run_unpack28 : ∀ (u v : Value) (w : World), (callFunc 213 #[u, v]).run Tryz.prog w = .ok (.enter 213 #[u, v]) w := fun _ _ _ => by kernel_rfl
theorem run_unpack29 : ∀ (u v : Value) (w : World), (callFunc 214 #[u, v]).run Tryz.prog w = .ok (.enter 214 #[u, v]) w := fun _ _ _ => by kernel_rfl
theorem run_unpack30 : ∀ (u v : Value) (w : World), (callFunc 215 #[u, v]).run Tryz.prog w = .ok (.enter 215 #[u, v]) w := fun _ _ _ => by kernel_rfl
theorem run_unpack31 : ∀ (u v : Value) (w : World), (callFunc 216 #[u, v]).run Tryz.prog w = .ok (.enter 216 #[u, v]) w := fun _ _ _ => by kernel_rfl
theorem run_unpack32 : ∀ (u v : Value) (w : World), (callFunc 217 #[u, v]).run Tryz.prog w = .ok (.enter 217 #[u, v]) w := fun _ _ _ => by kernel_rfl

theorem info_a335 : (Tryz.prog.info? 335).map (fun i => (i.zero, i.size, i.bytes)) = some (some (.agg (rowV .u8 (List.replicate 128 0)).toArray), 128, 128) := by kernel_rfl
theorem run_alloc128 (w : World) : (Instr.alloc 335 true (.tuple #[])).run Tryz.prog w = .ok (.pointer (some ⟨w.heap.size, 0, none⟩)) (w.alloc (.cells (rowV .u8 (List.replicate 128 0)).toArray 335)) := by kernel_rfl

theorem newReaderC (v : Value) (a : Option Addr) (n cap : Nat) (w : World) (hv : v = .slice a n cap) :
    Calls Tryz.prog 43 #[v] w fun e w' =>
      e = .returned (.pointer (some ⟨w.heap.size, 0, none⟩)) ∧ w' = w.alloc (.cells #[v, .int .i64 0, .int .i64 (-1)] 120) := by
  subst hv
  go_enter Tryz.func43, Tryz.ntmps43
  go_wp2
  go_ret
  exact ⟨rfl, rfl⟩

theorem splice_in {α : Type} (A X Y : List α) (go j : Nat) (h1 : go + X.length ≤ A.length) (h2 : j + Y.length ≤ X.length) : splice (splice A go X) (go + j) Y = splice A go (splice X j Y) := by
  have e1 : (A.take go).length = go := by simp; omega
  unfold splice
  have t1 : (A.take go ++ (X ++ A.drop (go + X.length))).take (go + j) = A.take go ++ X.take j := by
    rw [List.take_append, e1, show go + j - go = j by omega, List.take_of_length_le (by rw [e1]; omega), List.take_append_of_le_length (by omega)]
  have d1 : (A.take go ++ (X ++ A.drop (go + X.length))).drop (go + j + Y.length) = X.drop (j + Y.length) ++ A.drop (go + X.length) := by
    rw [List.drop_append, e1, show go + j + Y.length - go = j + Y.length by omega, List.drop_eq_nil_of_le (by rw [e1]; omega), List.nil_append, List.drop_append_of_le_length h2]
  rw [t1, d1]
  have l2 : (X.take j ++ (Y ++ X.drop (j + Y.length))).length = X.length := by simp; omega
  rw [l2]
  simp

theorem splice_self {α : Type} (L : List α) (j k : Nat) (h : j + k ≤ L.length) : splice L j ((L.drop j).take k) = L := by
  unfold splice
  rw [show ((L.drop j).take k).length = k by simp; omega, ← List.drop_drop, List.take_append_drop, List.take_append_drop]

set_option maxRecDepth 100000 in
set_option maxHeartbeats 3000000 in
theorem unpackDefaultC (g go : Nat) (x : XP) (d o n cap len caps P W : Nat) (pr : Int) (D : List Nat) (cs0 : List Value) (outs : List Nat) (w : World) (hW0 : 0 < W) (hW : W ≤ 32) (hlc : len ≤ caps) (hcc : caps ≤ 1099511627776)
    (hg : Blk w g (splice cs0 go (rowV .u32 outs))) (hx : Rd w x [.slice (some ⟨d, o, none⟩) n cap, .int .i64 (P : Int), .int .i64 pr]) (hD : BytesAt w d o n cap D)
    (gx : g ≠ x.b) (gd : g ≠ d) (xd : x.b ≠ d) (room : go + len ≤ cs0.length) (ol : outs.length = len) (ob : ∀ v ∈ outs, v < 4294967296) (hfit : P + 4 * W * (len / 32) ≤ n) :
    Calls Tryz.prog 167 #[.iface 91 (.pointer (some ⟨x.b, x.o, none⟩)), .slice (some ⟨g, go, none⟩) len caps, .int .i64 (W : Int)] w fun e w' =>
      e = .returned (.tuple #[.int .i64 ((len / 32 * 32 : Nat) : Int), .nilIface]) ∧ Keep [x, g] w w' ∧ ∃ outs' pr', Blk w' g (splice cs0 go (rowV .u32 outs')) ∧ outs'.length = len ∧ (∀ v ∈ outs', v < 4294967296) ∧
        (∀ i, i < len / 32 * 32 → outs'[i]? = some (leVal (D.drop P) / 2 ^ (W * i) % 2 ^ W)) ∧ Rd w' x [.slice (some ⟨d, o, none⟩) n cap, .int .i64 ((P + 4 * W * (len / 32) : Nat) : Int), .int .i64 pr'] := by
  have Hg := Lib.hid hg
  have Hx := Lib.hid hx
  have HD := Lib.hid hD
  have Hob := Lib.hid ob
  have Hfit := Lib.hid hfit
  have gl := hg.lt
  have xl := hx.lt
  have dl : d < w.heap.size := by obtain ⟨_, h, _⟩ := hD.hd; exact h.lt
  obtain ⟨B, hB⟩ : ∃ B, B = len / 32 := ⟨_, rfl⟩
  have hBi : (len : Int) / 32 = (B : Int) := by omega
  have hBt : (len : Int).tdiv 32 = (B : Int) := by rw [Int.tdiv_eq_ediv_of_nonneg (by omega)]; exact hBi
  have hB2 : ((B : Int) * 32).tdiv 32 = (B : Int) := by rw [Int.tdiv_eq_ediv_of_nonneg (by omega)]; omega
  have hB3 : (B : Int) * 32 / 32 = (B : Int) := by omega
  have HB := Lib.hid hB
  clear hg hx hD ob hB hfit
  go_enter Tryz.func167, Tryz.ntmps167
  go_upto_block 0 with fail
  go_cut [10] (fun s10 wx => w = wx ∧ ∃ f, s10 = .func (.func f) #[] #[] ∧ Unpacks f W ∧ ∀ (u v : Value) (w : World), (callFunc f #[u, v]).run Tryz.prog w = .ok (.enter f #[u, v]) w)
  case first =>
    have hWs : W = 1 ∨ W = 2 ∨ W = 3 ∨ W = 4 ∨ W = 5 ∨ W = 6 ∨ W = 7 ∨ W = 8 ∨ W = 9 ∨ W = 10 ∨ W = 11 ∨ W = 12 ∨ W = 13 ∨ W = 14 ∨ W = 15 ∨ W = 16 ∨ W = 17 ∨ W = 18 ∨ W = 19 ∨ W = 20 ∨ W = 21 ∨ W = 22 ∨ W = 23 ∨ W = 24 ∨ W = 25 ∨ W = 26 ∨ W = 27 ∨ W = 28 ∨ W = 29 ∨ W = 30 ∨ W = 31 ∨ W = 32 := by omega
    rcases hWs with rfl | rfl | rfl | rfl | rfl | rfl | rfl | rfl | rfl | rfl | rfl | rfl | rfl | rfl | rfl | rfl | rfl | rfl | rfl | rfl | rfl | rfl | rfl | rfl | rfl | rfl | rfl | rfl | rfl | rfl | rfl | rfl
    · go_wp2_with fail
      go_meet
      exact ⟨rfl, _, rfl, unpacks1, run_unpack1⟩
    · go_wp2_with fail
      go_meet
      exact ⟨rfl, _, rfl, unpacks2, run_unpack2⟩
    · go_wp2_with fail
      go_meet
      exact ⟨rfl, _, rfl, unpacks3, run_unpack3⟩
    · go_wp2_with fail
      go_meet
      exact ⟨rfl, _, rfl, unpacks4, run_unpack4⟩
    · go_wp2_with fail
      go_meet
      exact ⟨rfl, _, rfl, unpacks5, run_unpack5⟩
    · go_wp2_with fail
      go_meet
      exact ⟨rfl, _, rfl, unpacks6, run_unpack6⟩
    · go_wp2_with fail
      go_meet
      exact ⟨rfl, _, rfl, unpacks7, run_unpack7⟩
    · go_wp2_with fail
      go_meet
      exact ⟨rfl, _, rfl, unpacks8, run_unpack8⟩
    · go_wp2_with fail
      go_meet
      exact ⟨rfl, _, rfl, unpacks9, run_unpack9⟩
    · go_wp2_with fail
      go_meet
      exact ⟨rfl, _, rfl, unpacks10, run_unpack10⟩
    · go_wp2_with fail
      go_meet
      exact ⟨rfl, _, rfl, unpacks11, run_unpack11⟩
    · go_wp2_with fail
      go_meet
      exact ⟨rfl, _, rfl, unpacks12, run_unpack12⟩
    · go_wp2_with fail
      go_meet
      exact ⟨rfl, _, rfl, unpacks13, run_unpack13⟩
    · go_wp2_with fail
      go_meet
      exact ⟨rfl, _, rfl, unpacks14, run_unpack14⟩
    · go_wp2_with fail
      go_meet
      exact ⟨rfl, _, rfl, unpacks15, run_unpack15⟩
    · go_wp2_with fail
      go_meet
      exact ⟨rfl, _, rfl, unpacks16, run_unpack16⟩
    · go_wp2_with fail
      go_meet
      exact ⟨rfl, _, rfl, unpacks17, run_unpack17⟩
    · go_wp2_with fail
      go_meet
      exact ⟨rfl, _, rfl, unpacks18, run_unpack18⟩
    · go_wp2_with fail
      go_meet
      exact ⟨rfl, _, rfl, unpacks19, run_unpack19⟩
    · go_wp2_with fail
      go_meet
      exact ⟨rfl, _, rfl, unpacks20, run_unpack20⟩
    · go_wp2_with fail
      go_meet
      exact ⟨rfl, _, rfl, unpacks21, run_unpack21⟩
    · go_wp2_with fail
      go_meet
      exact ⟨rfl, _, rfl, unpacks22, run_unpack22⟩
    · go_wp2_with fail
      go_meet
      exact ⟨rfl, _, rfl, unpacks23, run_unpack23⟩
    · go_wp2_with fail
      go_meet
      exact ⟨rfl, _, rfl, unpacks24, run_unpack24⟩
    · go_wp2_with fail
      go_meet
      exact ⟨rfl, _, rfl, unpacks25, run_unpack25⟩
    · go_wp2_with fail
      go_meet
      exact ⟨rfl, _, rfl, unpacks26, run_unpack26⟩
    · go_wp2_with fail
      go_meet
      exact ⟨rfl, _, rfl, unpacks27, run_unpack27⟩
    · go_wp2_with fail
      go_meet
      exact ⟨rfl, _, rfl, unpacks28, run_unpack28⟩
    · go_wp2_with fail
      go_meet
      exact ⟨rfl, _, rfl, unpacks29, run_unpack29⟩
    · go_wp2_with fail
      go_meet
      exact ⟨rfl, _, rfl, unpacks30, run_unpack30⟩
    · go_wp2_with fail
      go_meet
      exact ⟨rfl, _, rfl, unpacks31, run_unpack31⟩
    · go_wp2_with fail
      go_meet
      exact ⟨rfl, _, rfl, unpacks32, run_unpack32⟩
  case rest =>
    obtain ⟨rfl, f, rfl, hU, hrf⟩ := hcut
    have HU := Lib.hid hU
    clear hU
    obtain ⟨M, hM⟩ : ∃ M, M = 4 * W := ⟨_, rfl⟩
    have hMi : (W : Int) * 4 = (M : Int) := by omega
    have hM8 : (M : Int) ≤ 128 := by omega
    have hM9 : M ≤ 128 := by omega
    have hM0 : 0 < M := by omega
    have HM := Lib.hid hM
    have hBl : 32 * B ≤ len := by have := HB.out; omega
    clear hM
    have hra := run_alloc128
    go_wp2_with fail
    have hlb : len ≤ 1099511627776 := by omega
    go_loopw [13] (fun i wr => ∃ (k : Nat) (out : List Nat) (p' : Int) (pc : List Value), k ≤ B ∧ i = .int .i64 (k : Int) ∧ Keep [x, g] w wr ∧ Blk wr g (splice cs0 go (rowV .u32 out)) ∧ out.length = len ∧ (∀ v ∈ out, v < 4294967296) ∧
      Rd wr x [.slice (some ⟨d, o, none⟩) n cap, .int .i64 ((P + M * k : Nat) : Int), .int .i64 p'] ∧ Blk wr w.heap.size pc ∧ pc.length = 128 ∧ Hid (∀ v ∈ pc, v.oneCell' = true) ∧
      Hid (∀ i, i < 32 * k → out[i]? = some (leVal (D.drop P) / 2 ^ (W * i) % 2 ^ W))) (fun i _ => B - (intOf i).toNat)
    case atStart =>
      exact ⟨0, outs, pr, rowV .u8 (List.replicate 128 0), by omega, rfl, (Keep.refl _ w).alloc _, Hg.out.alloc _, ol, Hob.out, Hx.out.alloc _, Blk.new w _ _, by simp, Lib.hid (one_rowV _ _), Lib.hid (fun i hi => absurd hi (by omega))⟩
    case round =>
      obtain ⟨k, out, p', pc, hk, rfl, kk, hgk, hol, hob, hxk, hpk, hpl, Hp1, HV⟩ := hrel
      by_cases hk2 : k < B
      · go_wp2_with fail
        have hfitk : P + M * k + M ≤ n := by
          have h1 := Hfit.out
          rw [← HB.out, ← HM.out] at h1
          have h2 : M * k + M ≤ M * B := by rw [← Nat.mul_succ]; exact Nat.mul_le_mul_left _ hk2
          omega
        refine (readFullC x d o n cap w.heap.size 0 M 128 (P + M * k) p' D pc wr hxk (HD.out.keep kk (by simp; exact ⟨Ne.symm xd, Ne.symm gd⟩)) hpk (by omega) (by omega) xd (by omega) hM9 (by omega) hM0 hfitk).mono ?_
        rintro e w2 ⟨rfl, k2, hp2, hx2⟩
        obtain ⟨R, hR⟩ : ∃ R, R = (D.drop (P + M * k)).take M := ⟨_, rfl⟩
        rw [← hR] at hp2
        have hRl : R.length = M := by rw [hR]; simp [HD.out.dl]; omega
        obtain ⟨pc2, hpc2⟩ : ∃ pc2, pc2 = splice pc 0 (rowV .u8 R) := ⟨_, rfl⟩
        rw [← hpc2] at hp2
        have hpl2 : pc2.length = 128 := by rw [hpc2, length_splice _ _ _ (by simp; omega)]; exact hpl
        have hpt2 : (pc2.drop 0).take M = rowV .u8 R := by
          have := take_splice_end pc 0 (rowV .u8 R) (by omega)
          rw [hpc2, List.drop_zero]
          simpa [hRl] using this
        have hp12 : ∀ v ∈ pc2, v.oneCell' = true := by
          rw [hpc2]
          intro v hv
          unfold splice at hv
          simp only [List.mem_append] at hv
          rcases hv with hv | hv | hv
          · exact Hp1.out v (List.mem_of_mem_take hv)
          · exact one_rowV _ _ v hv
          · exact Hp1.out v (List.mem_of_mem_drop hv)
        have hg2 := hgk.keep k2 (by simp; exact ⟨by omega, gx⟩)
        have K2 : Keep [x, g] w w2 := kk.trans k2 (by simp)
        have hDR : BytesAt w2 w.heap.size 0 M 128 R := ⟨⟨pc2, hp2, by omega, hpt2, hp12⟩, hM9, by omega, hRl, by rw [hR]; intro y hy; exact HD.out.bytes y (List.mem_of_mem_drop (List.mem_of_mem_take hy))⟩
        have HR := Lib.hid hR
        have Hpc2 := Lib.hid (And.intro hpl2 hp12)
        have Hp2 := Lib.hid hp2
        have Hx2 := Lib.hid hx2
        have Hg2 := Lib.hid hg2
        have HDR := Lib.hid hDR
        have hgl2 := hg2.lt
        have hpl3 := hp2.lt
        have hxl2 := hx2.lt
        clear hR hpc2 hpt2 hp12 hp2 hx2 hgk hxk hpk hg2 hDR
        go_wp2_with fail
        have ix := IntWalk.i64_in ((k : Int) * 32) (by omega)
        have iy : ((k : Int) * 32).toNat = k * 32 := by omega
        have iz : 0 ≤ (k : Int) * 32 := by omega
        have il : (k : Int) * 32 ≤ (len : Int) := by omega
        have hne : ¬ caps = k * 32 := by omega
        have hself : splice (splice cs0 go (rowV .u32 out)) (go + k * 32) (rowV .u32 ((out.drop (k * 32)).take 32)) = splice cs0 go (rowV .u32 out) := by
          rw [splice_in _ _ _ _ _ (by simp; omega) (by simp; omega), ← rowV_splice, splice_self _ _ _ (by omega)]
        have hcall := HU.out g (go + k * 32) ⟨w2.heap.size, [], []⟩ w.heap.size 0 M 128 (len - k * 32) (caps - k * 32) 0 (-1) R (splice cs0 go (rowV .u32 out)) ((out.drop (k * 32)).take 32)
          (w2.alloc (.cells #[.slice (some ⟨w.heap.size, 0, none⟩) M 128, .int .i64 0, .int .i64 (-1)] 120)).drew (by omega) (by omega) (by omega)
          (by rw [hself]; exact (Hg2.out.alloc _).drew) (Rd.of_blk (Blk.new w2 [.slice (some ⟨w.heap.size, 0, none⟩) M 128, .int .i64 0, .int .i64 (-1)] _).drew) (HDR.out.keep (S := []) ((Keep.refl [] w2).alloc _).drew (by simp))
          (by show g ≠ w2.heap.size; omega) (by omega) (by show w2.heap.size ≠ w.heap.size; omega) (by rw [length_splice _ _ _ (by simp; omega)]; omega) (by simp; omega) (fun v hv => hob v (List.mem_of_mem_drop (List.mem_of_mem_take hv))) (by have := HM.out; omega)
        dsimp only [XP.o, List.length_nil] at hcall
        clear hself
        go_region_with (first
          | (go_at_call 43;
             refine (newReaderC _ _ _ _ _ rfl).mono ?_;
             rintro e w' ⟨rfl, rfl⟩)
          | (with_reducible refine Calls.mono hcall ?_;
             rintro e w5 ⟨rfl, k5, out5, hg5, hl5, hv5⟩))
        all_goals
          have Hg5 := Lib.hid hg5
          have Hv5 := Lib.hid hv5
          clear hg5 hv5 hcall
          go_wp2
          go_roundw
          case rel =>
            have K5 : Keep [x, g] w w5 := ((K2.alloc _).drew).trans k5 (by have := K2.size; simp; omega)
            refine ⟨k + 1, splice out (k * 32) out5, -1, pc2, hk2, by go_num, K5, ?_, by rw [length_splice _ _ _ (by omega)]; exact hol, ?_, ?_, (((Hp2.out.alloc _).drew).keep k5 (by simp; omega)), Hpc2.out.1, Lib.hid Hpc2.out.2, ?_⟩
            · have := Hg5.out
              rw [splice_in _ _ _ _ _ (by simp; omega) (by simp; omega), ← rowV_splice] at this
              exact this
            · intro v hv
              unfold splice at hv
              simp only [List.mem_append] at hv
              rcases hv with hv | hv | hv
              · exact hob v (List.mem_of_mem_take hv)
              · obtain ⟨i, hi, rfl⟩ := List.getElem_of_mem hv
                have h1 := Hv5.out i (by omega)
                rw [List.getElem?_eq_getElem hi, Option.some.injEq] at h1
                rw [h1]
                exact Nat.lt_of_lt_of_le (Nat.mod_lt _ (Nat.two_pow_pos W)) (Nat.le_trans (Nat.pow_le_pow_right (by omega) hW) (by decide))
              · exact hob v (List.mem_of_mem_drop hv)
            · have := ((Hx2.out.alloc (.cells #[.slice (some ⟨w.heap.size, 0, none⟩) M 128, .int .i64 0, .int .i64 (-1)] 120)).drew).keep k5 (by simp; exact ⟨by omega, Ne.symm gx⟩)
              rw [show P + M * (k + 1) = P + M * k + M by rw [Nat.mul_succ]; omega]
              exact this
            · refine Lib.hid fun i hi => ?_
              have hR2 : leVal R = leVal (D.drop P) / 2 ^ (32 * W * k) % 2 ^ (32 * W) := by
                rw [HR.out, ← List.drop_drop, leVal_take _ _ (fun y hy => HD.out.bytes y (List.mem_of_mem_drop (List.mem_of_mem_drop hy))), leVal_drop _ _ (fun y hy => HD.out.bytes y (List.mem_of_mem_drop hy)), show (256 : Nat) = 2 ^ 8 from rfl, ← Nat.pow_mul, ← Nat.pow_mul, HM.out]
                rw [show 8 * (4 * W * k) = 32 * W * k by rw [← Nat.mul_assoc, ← Nat.mul_assoc], show 8 * (4 * W) = 32 * W by omega]
              by_cases hik : i < 32 * k
              · unfold splice
                rw [List.getElem?_append_left (by simp; omega), List.getElem?_take, if_pos (by omega)]
                exact HV.out i hik
              · unfold splice
                rw [List.getElem?_append_right (by simp; omega), List.getElem?_append_left (by simp; omega)]
                have hl : (out.take (k * 32)).length = 32 * k := by simp; omega
                rw [hl]
                have h1 := Hv5.out (i - 32 * k) (by omega)
                rw [h1, List.drop_zero, hR2]
                congr 1
                rw [win_in (32 * W) _ _ _ W (by have : W * (i - 32 * k) ≤ W * 31 := Nat.mul_le_mul_left _ (by omega); omega)]
                congr 2
                have e1 : W * i = W * (32 * k) + W * (i - 32 * k) := by rw [← Nat.mul_add]; congr 1; omega
                rw [e1]
                congr 1
                rw [Nat.mul_comm 32 W, Nat.mul_assoc]
          case measure => simp [intOf]; omega
      · have hkB : k = B := by omega
        subst hkB
        have Hgk := Lib.hid hgk
        have Hxk := Lib.hid hxk
        clear hgk hxk hpk
        go_wp2
        go_ret2
        refine ⟨by rw [← HB.out]; simp, kk, out, p', Hgk.out, hol, hob, ?_, ?_⟩
        · intro i hi
          rw [← HB.out] at hi
          exact HV.out i (by omega)
        · have := Hxk.out
          rw [← HB.out, ← HM.out]
          exact this
end Go.Proofs.YtlolcgklcnechaaGreatDoor
