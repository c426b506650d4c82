/- The bit reader: next. -/
import Derived.Test.YtlolcgklcnechaaGreatDoorXD4
set_option linter.unusedVariables false
namespace Go.Proofs.YtlolcgklcnechaaGreatDoor
open Go.RowKit

theorem leVal_drop : ∀ (D : List Nat) (k : Nat), (∀ y ∈ D, y < 256) → leVal (D.drop k) = leVal D / 256 ^ k
  | D, 0, _ => by simp
  | [], k + 1, _ => by simp [leVal]
  | b :: D, k + 1, h => by
    have hb := h b (by simp)
    rw [List.drop_succ_cons, leVal_drop D k (fun y hy => h y (by simp [hy])), leVal, Nat.pow_succ, Nat.mul_comm (256 ^ k), ← Nat.div_div_eq_div_mul]
    congr 1
    omega

theorem leVal_take : ∀ (D : List Nat) (k : Nat), (∀ y ∈ D, y < 256) → leVal (D.take k) = leVal D % 256 ^ k
  | D, 0, _ => by simp [leVal, Nat.mod_one]
  | [], k + 1, _ => by simp [leVal]
  | b :: D, k + 1, h => by
    have hb := h b (by simp)
    rw [List.take_succ_cons, leVal, leVal_take D k (fun y hy => h y (by simp [hy])), leVal, Nat.pow_succ, Nat.mul_comm (256 ^ k), Nat.mod_mul]
    rw [show (b + 256 * leVal D) % 256 = b by omega, show (b + 256 * leVal D) / 256 = leVal D by omega]

/-- What the buffer holds at byte bo. -/
theorem window (D : List Nat) (bo : Nat) (h : ∀ y ∈ D, y < 256) : leVal ((D.drop bo).take 8) = leVal D / 2 ^ (8 * bo) % 2 ^ 64 := by
  rw [leVal_take _ _ (fun y hy => h y (List.mem_of_mem_drop hy)), leVal_drop D bo h, show (256 : Nat) = 2 ^ 8 from rfl, ← Nat.pow_mul, ← Nat.pow_mul]

theorem bits_in (N P i b : Nat) (h : i + b ≤ 64) : N / 2 ^ P % 2 ^ 64 % 2 ^ (i + b) / 2 ^ i = N / 2 ^ (P + i) % 2 ^ b := by
  rw [Nat.mod_mod_of_dvd _ (Nat.pow_dvd_pow 2 h), Nat.pow_add, Nat.mod_mul_right_div_self, Nat.div_div_eq_div_mul, ← Nat.pow_add]

theorem bits_cross (N P i b : Nat) (hi : i ≤ 64) (hb : b ≤ 64) (h : 64 ≤ i + b) :
    N / 2 ^ P % 2 ^ 64 / 2 ^ i + N / 2 ^ (P + 64) % 2 ^ 64 % 2 ^ (b - (64 - i)) * 2 ^ (64 - i) = N / 2 ^ (P + i) % 2 ^ b := by
  rw [Nat.mod_mod_of_dvd _ (Nat.pow_dvd_pow 2 (by omega : b - (64 - i) ≤ 64))]
  rw [show (2 : Nat) ^ 64 = 2 ^ i * 2 ^ (64 - i) by rw [← Nat.pow_add, show i + (64 - i) = 64 by omega], Nat.mod_mul_right_div_self, Nat.div_div_eq_div_mul, ← Nat.pow_add]
  conv => rhs; rw [show (2 : Nat) ^ b = 2 ^ (64 - i) * 2 ^ (b - (64 - i)) by rw [← Nat.pow_add, show 64 - i + (b - (64 - i)) = b by omega], Nat.mod_mul, Nat.div_div_eq_div_mul, ← Nat.pow_add, show P + i + (64 - i) = P + 64 by omega]
  rw [Nat.mul_comm (2 ^ (64 - i))]

/-- The reader stands at (bo, bi), and its buffer holds what lies there. -/
def BRF (w : World) (q : Nat) (x : XP) (d o n cap : Nat) (ea : Addr) (D : List Nat) (bo bi : Nat) : Prop := BR w q x d o n cap ea D (leVal ((D.drop bo).take 8)) bo bi (8 * min 8 (n - bo))

theorem BR.setBi {w : World} {q : Nat} {x : XP} {d o n cap : Nat} {ea : Addr} {D : List Nat} {buf bo bi vb : Nat} (h : BR w q x d o n cap ea D buf bo bi vb) (bi' : Nat) :
    BR (w.setCell ⟨q, 3, none⟩ (.int .u64 (bi' : Int))) q x d o n cap ea D buf bo bi' vb := by
  obtain ⟨⟨raw, unp, h1, h2, h3⟩, ⟨pos, pr, h4⟩, h5, h6, h7, h8, h9, h10, h11⟩ := h
  have k : Keep [q] w (w.setCell ⟨q, 3, none⟩ (.int .u64 (bi' : Int))) := (Keep.refl _ _).set (by simp) _ _ _
  exact ⟨⟨raw, unp, h1, h2, h3.set 3 (.int .u64 (bi' : Int))⟩, ⟨pos, pr, h4.keep k (by simp; exact Ne.symm h7)⟩, h5.keep k (by simp; exact Ne.symm h8), h6.keep k (by simp; exact Ne.symm h10), h7, h8, h9, h10, h11⟩

theorem BR.setBo {w : World} {q : Nat} {x : XP} {d o n cap : Nat} {ea : Addr} {D : List Nat} {buf bo bi vb : Nat} (h : BR w q x d o n cap ea D buf bo bi vb) (bo' : Nat) :
    BR (w.setCell ⟨q, 2, none⟩ (.int .i64 (bo' : Int))) q x d o n cap ea D buf bo' bi vb := by
  obtain ⟨⟨raw, unp, h1, h2, h3⟩, ⟨pos, pr, h4⟩, h5, h6, h7, h8, h9, h10, h11⟩ := h
  have k : Keep [q] w (w.setCell ⟨q, 2, none⟩ (.int .i64 (bo' : Int))) := (Keep.refl _ _).set (by simp) _ _ _
  exact ⟨⟨raw, unp, h1, h2, h3.set 2 (.int .i64 (bo' : Int))⟩, ⟨pos, pr, h4.keep k (by simp; exact Ne.symm h7)⟩, h5.keep k (by simp; exact Ne.symm h8), h6.keep k (by simp; exact Ne.symm h10), h7, h8, h9, h10, h11⟩

theorem BR.cells {w : World} {q : Nat} {x : XP} {d o n cap : Nat} {ea : Addr} {D : List Nat} {buf bo bi vb : Nat} (h : BR w q x d o n cap ea D buf bo bi vb) :
    w.cell? ⟨q, 0, none⟩ = some (.iface 91 (.pointer (some ⟨x.b, x.o, none⟩))) ∧ w.cell? ⟨q, 1, none⟩ = some (.int .u64 (buf : Int)) ∧ w.cell? ⟨q, 2, none⟩ = some (.int .i64 (bo : Int)) ∧
      w.cell? ⟨q, 3, none⟩ = some (.int .u64 (bi : Int)) ∧ w.cell? ⟨q, 4, none⟩ = some (.int .u64 (vb : Int)) ∧ ∀ i, w.frozen? ⟨q, i, none⟩ = false := by
  obtain ⟨⟨raw, unp, h1, h2, h3⟩, -⟩ := h
  exact ⟨h3.cell (i := 0) rfl, h3.cell (i := 1) rfl, h3.cell (i := 2) rfl, h3.cell (i := 3) rfl, h3.cell (i := 4) rfl, h3.unfrozen⟩

set_option maxRecDepth 100000 in
set_option maxHeartbeats 1000000 in
/-- next, within the buffer. -/
theorem next_in (q : Nat) (x : XP) (d o n cap : Nat) (ea : Addr) (D : List Nat) (bo bi b : Nat) (w : World) (h : BRF w q x d o n cap ea D bo bi) (hb0 : 0 < b) (hbi : bi < 64) (hin : bi + b ≤ 64) (hfit : 8 * bo + bi + b ≤ 8 * n) :
    Calls Tryz.prog 129 #[.pointer (some ⟨q, 0, none⟩), .int .u64 (b : Int)] w fun e w' =>
      e = .returned (.tuple #[.int .u64 ((leVal D / 2 ^ (8 * bo + bi) % 2 ^ b : Nat) : Int), .nilIface]) ∧ Keep [q] w w' ∧ BRF w' q x d o n cap ea D bo (bi + b) := by
  have hby := h.hD.bytes
  have hwin := window D bo hby
  obtain ⟨B, hB⟩ : ∃ B, B = leVal ((D.drop bo).take 8) := ⟨_, rfl⟩
  have hB64 : B < 18446744073709551616 := by rw [hB, hwin]; exact Nat.mod_lt _ (by omega)
  have hv := bits_in (leVal D) (8 * bo) bi b hin
  rw [← hwin, ← hB] at hv
  rw [← hv]
  unfold BRF at h ⊢
  rw [← hB] at h ⊢
  obtain ⟨c0, c1, c2, c3, c4, hf⟩ := h.cells
  obtain ⟨Y, hY⟩ : ∃ Y, Y = B % 2 ^ (bi + b) := ⟨_, rfl⟩
  obtain ⟨V, hV⟩ : ∃ V, V = Y / 2 ^ bi := ⟨_, rfl⟩
  rw [← hY, ← hV]
  have hVi : (Y : Int) / 2 ^ bi = (V : Int) := by rw [hV]; simp
  have h1 : ((b : Int) == 0) = false := by simp; omega
  have h2 : ((bi : Int) == 64) = false := by simp; omega
  obtain ⟨E, hE⟩ : ∃ E, E = bi + b := ⟨_, rfl⟩
  have hEi : (bi : Int) + (b : Int) = (E : Int) := by omega
  have h3 : (E : Int) ≤ 64 := by omega
  have h4 : ¬ ((8 * min 8 (n - bo) : Nat) : Int) < (E : Int) := by omega
  have hw : IntKind.u64.wrap ((bi : Int) + (b : Int)) = (E : Int) := by rw [IntWalk.u64_in ((bi : Int) + (b : Int)) (by omega), hEi]
  rw [← hE] at hY ⊢
  have hT : ∀ w, Calls Tryz.prog 150 #[.int .u64 (B : Int), .int .u64 (E : Int)] w fun e w' => e = .returned (.int .u64 (Y : Int)) ∧ w' = w := fun w => by
    rw [hY]; exact flipW (trailingC B E w (by omega) hB64)
  obtain ⟨VB, hVB⟩ : ∃ VB, VB = 8 * min 8 (n - bo) := ⟨_, rfl⟩
  rw [← hVB] at h4 c4 h ⊢
  have H := Lib.hid h
  clear hVB hV hY hv hB hwin hby h hfit hE
  go_enter Tryz.func129, Tryz.ntmps129
  go_wp2_with fail
  go_quiet (exact Calls.quiet_of_same (hT _))
  go_wp2
  go_ret2
  exact ⟨rfl, ((Keep.refl _ _).drewN nq).set (by simp) _ _ _, (H.out.drewN nq).setBi E⟩

set_option maxRecDepth 100000 in
set_option maxHeartbeats 1000000 in
/-- next, from a buffer that is used up. -/
theorem next_64 (q : Nat) (x : XP) (d o n cap : Nat) (ea : Addr) (D : List Nat) (bo b : Nat) (w : World) (h : BRF w q x d o n cap ea D bo 64) (hb0 : 0 < b) (hb : b ≤ 64) (hbo : bo + 8 ≤ 1099511627776) (hfit : 8 * (bo + 8) + b ≤ 8 * n) :
    Calls Tryz.prog 129 #[.pointer (some ⟨q, 0, none⟩), .int .u64 (b : Int)] w fun e w' =>
      e = .returned (.tuple #[.int .u64 ((leVal D / 2 ^ (8 * bo + 64) % 2 ^ b : Nat) : Int), .nilIface]) ∧ Keep [q] w w' ∧ BRF w' q x d o n cap ea D (bo + 8) b := by
  have hby := h.hD.bytes
  have hwin := window D (bo + 8) hby
  obtain ⟨B, hB⟩ : ∃ B, B = leVal ((D.drop (bo + 8)).take 8) := ⟨_, rfl⟩
  have hB64 : B < 18446744073709551616 := by rw [hB, hwin]; exact Nat.mod_lt _ (by omega)
  have hv := bits_in (leVal D) (8 * (bo + 8)) 0 b (by omega)
  rw [← hwin, ← hB, show 8 * (bo + 8) + 0 = 8 * bo + 64 by omega, Nat.zero_add, Nat.pow_zero, Nat.div_one] at hv
  rw [← hv]
  unfold BRF at h ⊢
  rw [← hB]
  obtain ⟨c0, c1, c2, c3, c4, hf⟩ := h.cells
  have c3 : w.cell? ⟨q, 3, none⟩ = some (.int .u64 64) := c3
  obtain ⟨Y, hY⟩ : ∃ Y, Y = B % 2 ^ b := ⟨_, rfl⟩
  rw [← hY]
  have h1 : ((b : Int) == 0) = false := by simp; omega
  have h3 : (b : Int) ≤ 64 := by omega
  obtain ⟨VB, hVB⟩ : ∃ VB, VB = 8 * min 8 (n - (bo + 8)) := ⟨_, rfl⟩
  have h4 : ¬ (VB : Int) < (b : Int) := by omega
  rw [← hVB]
  have hT : ∀ w, Calls Tryz.prog 150 #[.int .u64 (B : Int), .int .u64 (b : Int)] w fun e w' => e = .returned (.int .u64 (Y : Int)) ∧ w' = w := fun w => by
    rw [hY]; exact flipW (trailingC B b w (by omega) hB64)
  have HB := Lib.hid hB
  have HVB := Lib.hid hVB
  have hr := (h.setBo (bo + 8)).setBi 0
  rw [show ((bo + 8 : Nat) : Int) = (bo : Int) + 8 by omega] at hr
  clear hVB hY hv hB hwin hby h hfit c1 c4
  go_enter Tryz.func129, Tryz.ntmps129
  go_wp2_with fail
  refine (fillC q x d o n cap ea D _ (bo + 8) 0 _ _ hr (by omega) hbo).mono ?_
  rw [← HB.out, ← HVB.out]
  rintro e w2 ⟨rfl, k2, h2⟩
  have K2 : Keep [q] w w2 := (((Keep.refl [q] w).set (by simp) _ _ _).set (by simp) _ _ _).trans k2 (by simp)
  clear c0 c2 c3 hf hr
  obtain ⟨c0, c1, c2, c3, c4, hf⟩ := h2.cells
  have c3 : w2.cell? ⟨q, 3, none⟩ = some (.int .u64 0) := c3
  go_wp2_with fail
  go_quiet (exact Calls.quiet_of_same (hT _))
  go_wp2
  go_ret2
  exact ⟨rfl, (K2.drewN nq).set (by simp) _ _ _, (h2.drewN nq).setBi b⟩

set_option maxRecDepth 100000 in
set_option maxHeartbeats 1000000 in
/-- next, across the buffer's end. -/
theorem next_cross (q : Nat) (x : XP) (d o n cap : Nat) (ea : Addr) (D : List Nat) (bo bi b : Nat) (w : World) (h : BRF w q x d o n cap ea D bo bi) (hb : b ≤ 64) (hbi : bi < 64) (hin : 64 < bi + b) (hbo : bo + 8 ≤ 1099511627776) (hfit : 8 * bo + bi + b ≤ 8 * n) :
    Calls Tryz.prog 129 #[.pointer (some ⟨q, 0, none⟩), .int .u64 (b : Int)] w fun e w' =>
      e = .returned (.tuple #[.int .u64 ((leVal D / 2 ^ (8 * bo + bi) % 2 ^ b : Nat) : Int), .nilIface]) ∧ Keep [q] w w' ∧ BRF w' q x d o n cap ea D (bo + 8) (bi + b - 64) := by
  have hby := h.hD.bytes
  have hwin := window D bo hby
  have hwin2 := window D (bo + 8) hby
  obtain ⟨B, hB⟩ : ∃ B, B = leVal ((D.drop bo).take 8) := ⟨_, rfl⟩
  obtain ⟨C, hC⟩ : ∃ C, C = leVal ((D.drop (bo + 8)).take 8) := ⟨_, rfl⟩
  have hB64 : B < 18446744073709551616 := by rw [hB, hwin]; exact Nat.mod_lt _ (by omega)
  have hC64 : C < 18446744073709551616 := by rw [hC, hwin2]; exact Nat.mod_lt _ (by omega)
  have hv := bits_cross (leVal D) (8 * bo) bi b (by omega) hb (by omega)
  rw [← hwin, ← hB, show 8 * bo + 64 = 8 * (bo + 8) by omega, ← hwin2, ← hC] at hv
  unfold BRF at h ⊢
  rw [← hB] at h
  rw [← hC]
  obtain ⟨c0, c1, c2, c3, c4, hf⟩ := h.cells
  obtain ⟨E, hE⟩ : ∃ E, E = b - (64 - bi) := ⟨_, rfl⟩
  obtain ⟨F, hF⟩ : ∃ F, F = 64 - bi := ⟨_, rfl⟩
  rw [show bi + b - 64 = E by omega]
  rw [← hE, ← hF] at hv
  obtain ⟨Lo, hLo⟩ : ∃ Lo, Lo = B / 2 ^ bi := ⟨_, rfl⟩
  obtain ⟨Hi, hHi⟩ : ∃ Hi, Hi = C % 2 ^ E := ⟨_, rfl⟩
  rw [← hLo, ← hHi] at hv
  obtain ⟨V, hV⟩ : ∃ V, V = leVal D / 2 ^ (8 * bo + bi) % 2 ^ b := ⟨_, rfl⟩
  rw [← hV] at hv ⊢
  have hVlt : V < 18446744073709551616 := by
    rw [hV]
    exact Nat.lt_of_lt_of_le (Nat.mod_lt _ (Nat.two_pow_pos b)) (Nat.pow_le_pow_right (by omega) hb)
  have hLoF : Lo < 2 ^ F := by
    rw [hLo, Nat.div_lt_iff_lt_mul (Nat.two_pow_pos bi), ← Nat.pow_add, show F + bi = 64 by omega]
    exact hB64
  have hor := or_acc Lo Hi F hLoF (by omega)
  rw [hv, Nat.mod_eq_of_lt hVlt] at hor
  have hLoi : (B : Int) / 2 ^ bi = (Lo : Int) := by rw [hLo]; simp
  have h1 : ((b : Int) == 0) = false := by simp; omega
  have h2 : ((bi : Int) == 64) = false := by simp; omega
  have h3 : ¬ (bi : Int) + (b : Int) ≤ 64 := by omega
  have hw := IntWalk.u64_in ((bi : Int) + (b : Int)) (by omega)
  have hFi : 64 - (bi : Int) = (F : Int) := by omega
  have hEi : (b : Int) - (F : Int) = (E : Int) := by omega
  have hF64 : (F : Int) ≤ 64 := by omega
  have hE64 : (E : Int) ≤ 64 := by omega
  have hv8 : 8 * min 8 (n - bo) = 64 := by omega
  rw [hv8] at h c4
  have c4 : w.cell? ⟨q, 4, none⟩ = some (.int .u64 64) := c4
  obtain ⟨VB, hVB⟩ : ∃ VB, VB = 8 * min 8 (n - (bo + 8)) := ⟨_, rfl⟩
  have h4 : ¬ (VB : Int) < (E : Int) := by omega
  rw [← hVB]
  have hT : ∀ w, Calls Tryz.prog 150 #[.int .u64 (C : Int), .int .u64 (E : Int)] w fun e w' => e = .returned (.int .u64 (Hi : Int)) ∧ w' = w := fun w => by
    rw [hHi]; exact flipW (trailingC C E w (by omega) hC64)
  have HC := Lib.hid hC
  have HVB := Lib.hid hVB
  have hr : ∀ k, BR (((w.drewN k).setCell ⟨q, 2, none⟩ (.int .i64 ((bo : Int) + 8))).setCell ⟨q, 3, none⟩ (.int .u64 0)) q x d o n cap ea D B (bo + 8) 0 64 := fun k => by
    have := ((h.drewN k).setBo (bo + 8)).setBi 0
    rw [show ((bo + 8 : Nat) : Int) = (bo : Int) + 8 by omega] at this
    exact this
  clear hVB hV hv hB hC hwin hwin2 hby h hfit hE hF hLo hHi hLoF hVlt
  go_enter Tryz.func129, Tryz.ntmps129
  go_wp2_with fail
  go_quiet (fail)
  go_wp2_with fail
  refine (fillC q x d o n cap ea D _ (bo + 8) 0 _ _ (hr nq) (by omega) hbo).mono ?_
  rw [← HC.out, ← HVB.out]
  rintro e w2 ⟨rfl, k2, h2⟩
  have K2 : Keep [q] w w2 := ((((Keep.refl [q] w).drewN nq).set (by simp) _ _ _).set (by simp) _ _ _).trans k2 (by simp)
  clear c0 c1 c2 c3 c4 hf hr
  obtain ⟨c0, c1, c2, c3, c4, hf⟩ := h2.cells
  have c3 : w2.cell? ⟨q, 3, none⟩ = some (.int .u64 0) := c3
  go_wp2_with (go_at_call 150; refine (hT _).mono ?_; rintro e w3 ⟨rfl, rfl⟩)
  go_ret2
  exact ⟨rfl, K2.set (by simp) _ _ _, h2.setBi E⟩
end Go.Proofs.YtlolcgklcnechaaGreatDoor
