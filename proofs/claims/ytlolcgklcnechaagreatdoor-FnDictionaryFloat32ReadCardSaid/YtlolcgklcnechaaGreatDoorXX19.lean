/- dictConverter[float32].ensure. dictConverter[float32].IsValidSingle, IsValid. dictConverter[float32].Copy. dictConverter[float32].Fill. -/
import Derived.Test.YtlolcgklcnechaaGreatDoorXX16
import Derived.Test.YtlolcgklcnechaaGreatDoorXX7
import Derived.Test.YtlolcgklcnechaaGreatDoorXU13
set_option linter.unusedVariables false
set_option linter.unusedSimpArgs false
namespace Go.Proofs.YtlolcgklcnechaaGreatDoor
open Go.RowKit

def cfF (x : Nat) : List Value := [.float .f32 x]
theorem cfF_len (x : Nat) : (cfF x).length = 1 := rfl
theorem flatMap_cfF : ∀ l : List Nat, l.flatMap cfF = rowF l
  | [] => rfl
  | x :: l => by rw [List.flatMap_cons, flatMap_cfF l]; rfl

theorem info_f32_parts : ∃ i, Tryz.prog.info? 102 = some i ∧ (∃ z, i.zero = some z ∧ z.cells.size = 1) ∧ i.size = 1 ∧ i.bytes = 4 := by
  have h := info_f32
  cases hi : Tryz.prog.info? 102 with
  | none => rw [hi] at h; cases h
  | some i =>
    rw [hi] at h
    simp only [Option.map_some, Option.some.injEq, Prod.mk.injEq] at h
    exact ⟨i, rfl, ⟨_, h.1, rfl⟩, h.2.1, h.2.2⟩

theorem Src.rowF {w : World} {b n c : Nat} {l : List Nat} (h : Blk w b (rowF l)) (hn : l.length = n) : Src Tryz.prog 1 125 (.slice (some ⟨b, 0, none⟩) n c) l.length (l.flatMap cfF) w := by
  subst hn
  rw [flatMap_cfF]
  refine Src.ofSlice w Tryz.underlying125 _ _ _ _ (by simp) (fun j u hu => ?_) (one_rowF l)
  rw [add_at, Nat.zero_add]
  exact h.cell hu

/-- An append as an operation of a drawn region. -/
theorem wp_append_growC {α : Type} {cf : α → List Value} {sz lo : Nat} {av : List Nat} (hcf : ∀ x, (cf x).length = sz) (hsz0 : 0 < sz) {P : Program} {w : World} {v : Value} {l : List α} {o : Oper} {a : Act} {K : Act → World → Prop} {Q : Exit → Act → World → Prop} (s x : Operand) (t e : TypeId)
    (ho : o.op = .call { callee := .builtin .append, args := #[s, x], argTypes := #[t, t] }) (i : TypeInfo) (bytes : Nat) (ht : P.underlying t = some (.slice e)) (hi : P.info? e = some i)
    (hz : ∃ z, i.zero = some z ∧ z.cells.size = sz) (hsize : i.size = sz) (hby : i.bytes = bytes) (hv : a.eval s = v) (h : GrowC cf sz lo av w v l) (hlo : lo ≤ w.heap.size) (hav : ∀ b ∈ av, b < w.heap.size) (xv : Value) (news : List α)
    (hx : a.eval x = xv) (hs : Src P sz t xv news.length (news.flatMap cf) w) (hb : (l.length + news.length) * bytes ≤ 140737488355328) (h63 : l.length + news.length ≤ 1000000000000)
    (hK : ∀ v' w' S, GrowC cf sz lo av w' v' (l ++ news) → Keep S w w' → (∀ b ∈ S, lo ≤ b ∧ b ∉ av) → K (a.put o.dst v') w') : Oper.wp P o a w K Q := by
  obtain ⟨v', w', S, hrun, r1, r2, r3⟩ := h.append hcf hsz0 (P := P) t o.type e i bytes ht hi hz hsize hby hlo hav xv news hs hb h63
  unfold Oper.wp
  simp [execOp, ho, resolve, invoke, builtin, hv, hx, hrun, Result.andThen]
  exact hK v' w' S r1 r2 r3

/-- The first k numbers. -/
def f32s (D : List Nat) (k : Nat) : List Nat := (List.range k).map (f32At D)
@[simp] theorem length_f32s (D : List Nat) (k : Nat) : (f32s D k).length = k := by simp [f32s]
theorem f32At_drop (D : List Nat) (k i : Nat) : f32At (D.drop (4 * k)) i = f32At D (k + i) := by
  unfold f32At
  rw [List.drop_drop, Nat.mul_add]
theorem f32s_add (D : List Nat) (k n : Nat) : f32s D (k + n) = f32s D k ++ (List.range n).map (f32At (D.drop (4 * k))) := by
  unfold f32s
  rw [List.range_add, List.map_append, List.map_map]
  congr 1
  apply List.map_congr_left
  intro i _
  exact (f32At_drop D k i).symm

/-- The converter at cb over the plain decoder at pd: k of the dictionary's numbers are decoded. -/
structure ConvAt (lo : Nat) (av : List Nat) (w : World) (cb pd d num len cap : Nat) (D : List Nat) (k : Nat) : Prop where
  kn : k ≤ num
  vals : ∃ v, Blk w cb [.iface 100 (.pointer (some ⟨pd, 0, none⟩)), .int .i64 (num : Int), v, .float .f32 0] ∧ GrowC cfF 1 lo av w v (f32s D k)
  plain : ∃ o2, Blk w pd [.int .i64 ((num - k : Nat) : Int), .slice (some ⟨d, o2, none⟩) (len - 4 * k) (cap - 4 * k), .int .i64 0, .nilIface] ∧ BytesAt w d o2 (len - 4 * k) (cap - 4 * k) (D.drop (4 * k))
  cl : cb < lo
  pl : pd < lo
  dl : d < lo
  cp : cb ≠ pd
  cd : cb ≠ d
  pD : pd ≠ d
  fit : 4 * num ≤ len
  numb : num ≤ 100000000

theorem method_Decode (a : Addr) (w : World) : (method 521 100 (.pointer (some a)) "Decode").run Tryz.prog w = .ok (310, .pointer (some a)) w := by kernel_rfl

def EnsurePost (lo : Nat) (av : List Nat) (cb pd d num len cap : Nat) (D : List Nat) (k idx : Nat) (w : World) (e : Ending) (w' : World) : Prop :=
  e = .returned .nilIface ∧ (∃ S, Keep S w w' ∧ ∀ b ∈ S, b = cb ∨ b = pd ∨ (lo ≤ b ∧ b ∉ av)) ∧ ConvAt lo av w' cb pd d num len cap D (max k (idx + 1))

set_option maxRecDepth 100000 in
set_option maxHeartbeats 2000000 in
theorem ensureC (lo : Nat) (av : List Nat) (cb pd d num len cap : Nat) (D : List Nat) (k idx : Nat) (w : World) (h : ConvAt lo av w cb pd d num len cap D k) (hlo : lo ≤ w.heap.size) (hav : ∀ b ∈ av, b < w.heap.size) (hi : idx < num) :
    Calls Tryz.prog 290 #[.pointer (some ⟨cb, 0, none⟩), .int .i32 (idx : Int)] w fun e w' => EnsurePost lo av cb pd d num len cap D k idx w e w' := by
  have hnb := h.numb
  obtain ⟨v, hcb, hG⟩ := h.vals
  obtain ⟨ao, c, hv, hc⟩ := hG.shape
  subst hv
  rw [length_f32s] at hcb hG hc
  have i0 : ¬ (idx : Int) < 0 := by omega
  have i1 : ¬ (num : Int) ≤ (idx : Int) := by omega
  have c0 := hcb.cell (i := 0) rfl
  have c1 := hcb.cell (i := 1) rfl
  have c2 := hcb.cell (i := 2) rfl
  have cf := hcb.unfrozen
  have hm := method_Decode ⟨pd, 0, none⟩
  by_cases hk : k ≤ idx
  · obtain ⟨n, hn⟩ : ∃ n, n = idx + 1 - k := ⟨_, rfl⟩
    have hkn := h.kn
    have hki : (k : Int) ≤ (idx : Int) := by omega
    have hni : (idx : Int) + 1 - (k : Int) = (n : Int) := by omega
    have hmk := make_f32 (n : Int) n rfl (by omega)
    obtain ⟨o2, hp, hD⟩ := h.plain
    have hnk : k + n ≤ num := by omega
    have hn0 : 0 < n := by omega
    have hn00 : ¬ n = 0 := by omega
    have hmx : max k (idx + 1) = k + n := by omega
    have HN := Lib.hid (And.intro hn hmx)
    clear hn hmx hi
    have K1 : Keep [] w (w.alloc (.cells (rowF (List.replicate n 0)).toArray 102)) := (Keep.refl [] w).alloc _
    have hcb1 := hcb.keep K1 (by simp)
    have a0 := hcb1.cell (i := 0) rfl
    have a1 := hcb1.cell (i := 1) rfl
    have a2 := hcb1.cell (i := 2) rfl
    have hplain := plainDecodeC pd (num - k) n w.heap.size 0 n d o2 (len - 4 * k) (cap - 4 * k) (D.drop (4 * k)) (rowF (List.replicate n 0)) (w.alloc (.cells (rowF (List.replicate n 0)).toArray 102)) (hp.keep K1 (by simp)) (hD.keep K1 (by simp)) (Blk.new w _ _)
      (by have := h.pl; omega) (by have := h.dl; omega) h.pD hn0 (by omega) (by have := h.fit; omega) (by omega) (by omega) (by simp) (Nat.le_refl _) (by simp) (by have := h.dl; simp; omega)
    have H := Lib.hid (And.intro h (And.intro hG hcb))
    have HP := Lib.hid hplain
    have HK1 := Lib.hid K1
    clear h hG hcb hp hD hplain hcb1 K1
    go_enter Tryz.func290, Tryz.ntmps290
    go_wp2_with fail
    refine HP.out.mono ?_
    rintro e w3 ⟨rfl, k3, hv3, o3, hp3, hD3⟩
    obtain ⟨g, hg⟩ : ∃ g, g = w.heap.size := ⟨_, rfl⟩
    have hs3 : g < w3.heap.size := by have := k3.size; simp at this; omega
    have hcl := H.out.1.cl
    have hpl := H.out.1.pl
    have hdl := H.out.1.dl
    have hcb3 := (H.out.2.2.keep HK1.out (by simp)).keep k3 (by simp; exact ⟨H.out.1.cp, by omega⟩)
    have hG3 := ((H.out.2.1.avoid (avoid' := g :: av) (fun b hb => by
      rcases List.mem_cons.1 hb with rfl | hb
      · exact .inr (by omega)
      · exact .inl hb)).keep HK1.out (by simp)).keep k3 (fun b hb => by
      simp at hb
      rcases hb with rfl | rfl
      · exact .inr hpl
      · exact .inl (by simp [hg]))
    have hG3d := hG3.keep (S := []) (Keep.refl [] w3).drew (by simp)
    have hnl : ((List.range n).map (f32At (D.drop (4 * k)))).length = n := by simp
    have hv3' : Blk w3 g (rowF ((List.range n).map (f32At (D.drop (4 * k))))) := by
      obtain ⟨L, hL⟩ : ∃ L, L = (List.range n).map (f32At (D.drop (4 * k))) := ⟨_, rfl⟩
      have hLl : L.length = n := by rw [hL]; simp
      rw [← hL, ← hg] at hv3
      rw [← hL]
      have e1 : splice (rowF (List.replicate n 0)) 0 (rowF L) = rowF L := by
        unfold splice
        rw [List.take_zero, List.nil_append, List.drop_of_length_le (by simp [hLl]), List.append_nil]
      rw [e1] at hv3
      exact hv3
    obtain ⟨i, hi, hz, hsz, hby⟩ := info_f32_parts
    have hlo3 : lo ≤ w3.drew.heap.size := by simp; omega
    have hav3 : ∀ b ∈ g :: av, b < w3.drew.heap.size := fun b hb => by
      rcases List.mem_cons.1 hb with rfl | hb
      · simpa using hs3
      · have := hav b hb; simp; omega
    have hsrc := Src.rowF (c := n) hv3'.drew hnl
    have b0 := hcb3.cell (i := 0) rfl
    have b1 := hcb3.cell (i := 1) rfl
    have b2 := hcb3.cell (i := 2) rfl
    have bf := hcb3.unfrozen
    rw [← hg]
    have HA := Lib.hid (And.intro hG3d (And.intro hlo3 (And.intro hav3 hsrc)))
    have HI := Lib.hid (And.intro hi (And.intro hz (And.intro hsz hby)))
    have H4 := Lib.hid (And.intro hcb3 (And.intro k3 (And.intro hp3 (And.intro hD3 hg))))
    have hsz4 : k + n ≤ 100000000 := by omega
    have Hnl := Lib.hid hnl
    clear hG3 hG3d hv3 hv3' hcb3 k3 hp3 hD3 hg hi hz hsz hby hnl hmk a0 a1 a2 c0 c1 c2 cf hm hsrc hlo3 hav3
    go_wp2_with fail
    refine wp_region_any (by kernel_rfl) ?_
    change wpAny _ _ _ _ _ _ _ (World.drew _)
    refine wpAny_take (i := 0) (v := ?_) rfl (by kernel_rfl) (by kernel_rfl) (by kernel_rfl) (fun _ _ _ h => h) (Or.inl ⟨by rfl, ?_⟩) ?_
    rotate_left 1
    · (intro w; go_simp; try with_reducible rfl)
    refine wpAny_take (i := 1) (v := ?_) rfl (by kernel_rfl) (by kernel_rfl) (by kernel_rfl) (fun _ _ _ h => h) (Or.inl ⟨by rfl, ?_⟩) ?_
    rotate_left 1
    · (intro w; go_simp; try with_reducible rfl)
    refine wpAny_take (i := 2) (v := ?_) rfl (by kernel_rfl) (by kernel_rfl) (by kernel_rfl) (fun _ _ _ h => h) (Or.inl ⟨by rfl, ?_⟩) ?_
    rotate_left 1
    · (intro w; go_simp; try with_reducible rfl)
    refine wpAny_take (i := 3) (v := ?_) rfl (by kernel_rfl) (by kernel_rfl) (by kernel_rfl) (fun _ _ _ h => h) (Or.inl ⟨by rfl, ?_⟩) ?_
    rotate_left 1
    · (intro w; go_simp; try with_reducible rfl)
    go_simp
    refine wpAny_take (i := 5) (v := ?_) rfl (by kernel_rfl) (by kernel_rfl) (by kernel_rfl) (fun _ _ _ h => h) (Or.inl ⟨by rfl, ?_⟩) ?_
    rotate_left 1
    · (intro w; go_simp; try with_reducible rfl)
    refine wpAny_take (i := 6) (v := ?_) rfl (by kernel_rfl) (by kernel_rfl) (by kernel_rfl) (fun _ _ _ h => h) (Or.inl ⟨by rfl, ?_⟩) ?_
    rotate_left 1
    · (intro w; go_simp; try with_reducible rfl)
    refine wpAny_take (i := 7) (v := ?_) rfl (by kernel_rfl) (by kernel_rfl) (by kernel_rfl) (fun _ _ _ h => h) (Or.inl ⟨by rfl, ?_⟩) ?_
    rotate_left 1
    · (intro w; go_simp; try with_reducible rfl)
    go_simp
    refine wpAny_ready (rs := [4]) (by kernel_rfl) (by simp) ?_
    refine (AllReady.cons rfl (fun K hK => ?_) AllReady.nil)
    go_simp
    refine hK _ _ ?_
    clear hK K
    go_simp
    refine wpAny_ready (rs := [8]) (by kernel_rfl) (by simp) ?_
    refine (AllReady.cons rfl (fun K hK => ?_) AllReady.nil)
    rw [if_pos (by kernel_rfl)]
    refine wp_append_growC cfF_len (by omega) (.tmp 59) (.tmp 62) 125 102 rfl i 4 Tryz.underlying125 HI.out.1 HI.out.2.1 HI.out.2.2.1 HI.out.2.2.2 rfl HA.out.1 HA.out.2.1 HA.out.2.2.1 _ _ rfl HA.out.2.2.2 (by rw [length_f32s, Hnl.out]; omega) (by rw [length_f32s, Hnl.out]; omega) ?_
    intro v' w4 S4 hG4 k4 hS4
    obtain ⟨ao', c', hv', hc'⟩ := hG4.shape
    obtain ⟨m', hm'⟩ : ∃ m', m' = (f32s D k ++ (List.range n).map (f32At (D.drop (4 * k)))).length := ⟨_, rfl⟩
    rw [← hm'] at hv'
    subst hv'
    clear hm' hc'
    refine hK _ _ ?_
    clear hK K
    have hcb4 := H4.out.1.drew.keep k4 (fun hm => absurd (hS4 _ hm).1 (by omega))
    have e2 := hcb4.cell (i := 2) rfl
    have ef := hcb4.unfrozen
    have H5 := Lib.hid (And.intro hcb4 (And.intro hG4 (And.intro k4 hS4)))
    clear hcb4 hG4 k4 hS4 b0 b1 b2 bf
    go_simp
    refine wpAny_take (i := 9) (v := ?_) rfl (by kernel_rfl) (by kernel_rfl) (by kernel_rfl) (fun _ _ _ h => h) (Or.inl ⟨by rfl, ?_⟩) ?_
    rotate_left 1
    · (intro w; go_simp; try with_reducible rfl)
    refine wpAny_take (i := 10) (v := ?_) rfl (by kernel_rfl) (by kernel_rfl) (by kernel_rfl) (fun _ _ _ h => h) (Or.inl ⟨by rfl, ?_⟩) ?_
    rotate_left 1
    · (intro w; go_simp; try with_reducible rfl)
    refine wpAny_ready (rs := [11]) (by kernel_rfl) (by simp) ?_
    refine (AllReady.cons rfl (fun K hK => ?_) AllReady.nil)
    go_simp
    refine hK _ _ ?_
    clear hK K
    refine wpAny_done (by kernel_rfl) ?_ _
    go_wp2
    go_ret
    obtain ⟨hcb4, hG4, k4, hS4⟩ := H5.out
    obtain ⟨-, k3, hp3, hD3, hg⟩ := H4.out
    have KA : Keep (cb :: pd :: g :: S4) w w4 := (((HK1.out.weaken (S' := cb :: pd :: g :: S4) (by simp)).trans k3 (by rw [← hg]; simp)).drew).trans k4 (fun b hb => .inl (by simp [hb]))
    have KF := KA.set (b := cb) (by simp) 2 none (.slice ao' m' c')
    have ho3 : (4 * k + 4 * n) = 4 * (k + n) := by omega
    unfold EnsurePost
    rw [HN.out.2]
    refine ⟨rfl, ⟨_, KF, fun b hb => ?_⟩, ⟨hnk, ⟨.slice ao' m' c', hcb4.set 2 (.slice ao' m' c'), ?_⟩, ⟨o3, ?_, ?_⟩, hcl, hpl, hdl, H.out.1.cp, H.out.1.cd, H.out.1.pD, H.out.1.fit, H.out.1.numb⟩⟩
    · simp at hb
      rcases hb with rfl | rfl | rfl | hb
      · exact .inl rfl
      · exact .inr (.inl rfl)
      · exact .inr (.inr ⟨by omega, fun hm => absurd (hav _ hm) (by omega)⟩)
      · exact .inr (.inr ⟨(hS4 b hb).1, fun hm => (hS4 b hb).2 (by simp [hm])⟩)
    · rw [f32s_add]
      exact (hG4.keep ((Keep.refl [cb] w4).set (b := cb) (by simp) 2 none (.slice ao' m' c')) (fun b hb => by simp at hb; subst hb; exact .inr hcl)).avoid (fun b hb => .inl (by simp [hb]))
    · have := ((hp3.drew.keep k4 (fun hm => absurd (hS4 _ hm).1 (by omega))).set_other (c := cb) (Ne.symm H.out.1.cp) 2 none (.slice ao' m' c'))
      rw [Nat.sub_sub, Nat.sub_sub, Nat.sub_sub, ho3] at this
      exact this
    · have := (((hD3.keep (S := []) (Keep.refl [] w3).drew (by simp)).keep k4 (fun hm => absurd (hS4 _ hm).1 (by omega))).keep ((Keep.refl [cb] w4).set (b := cb) (by simp) 2 none (.slice ao' m' c')) (by simp; exact Ne.symm H.out.1.cd))
      rw [Nat.sub_sub, Nat.sub_sub, List.drop_drop, ho3] at this
      exact this
  · have hki : ¬ (k : Int) ≤ (idx : Int) := by omega
    have hmx : max k (idx + 1) = k := by omega
    have H := Lib.hid (And.intro h hmx)
    clear h hG hcb
    go_enter Tryz.func290, Tryz.ntmps290
    go_wp2
    go_ret
    refine ⟨rfl, ⟨[], Keep.refl _ _, by simp⟩, ?_⟩
    rw [H.out.2]
    exact H.out.1
end Go.Proofs.YtlolcgklcnechaaGreatDoor
set_option linter.unusedVariables false
set_option linter.unusedSimpArgs false
namespace Go.Proofs.YtlolcgklcnechaaGreatDoor
open Go.RowKit

def ValidPost (lo : Nat) (av : List Nat) (cb pd d num len cap : Nat) (D : List Nat) (k idx : Nat) (w : World) (e : Ending) (w' : World) : Prop :=
  e = .returned (.bool true) ∧ (∃ S, Keep S w w' ∧ ∀ b ∈ S, b = cb ∨ b = pd ∨ (lo ≤ b ∧ b ∉ av)) ∧ ConvAt lo av w' cb pd d num len cap D (max k (idx + 1))

set_option maxRecDepth 100000 in
set_option maxHeartbeats 1000000 in
theorem isValidSingleC (lo : Nat) (av : List Nat) (cb pd d num len cap : Nat) (D : List Nat) (k idx : Nat) (w : World) (h : ConvAt lo av w cb pd d num len cap D k) (hlo : lo ≤ w.heap.size) (hav : ∀ b ∈ av, b < w.heap.size) (hi : idx < num) :
    Calls Tryz.prog 289 #[.pointer (some ⟨cb, 0, none⟩), .int .i32 (idx : Int)] w fun e w' => ValidPost lo av cb pd d num len cap D k idx w e w' := by
  have hnb := h.numb
  have H := Lib.hid h
  clear h
  go_enter Tryz.func289, Tryz.ntmps289
  go_wp2_with fail
  refine (ensureC lo av cb pd d num len cap D k idx _ H.out hlo hav hi).mono ?_
  rintro e w2 ⟨rfl, hS, h2⟩
  obtain ⟨v, hcb, hG⟩ := h2.vals
  obtain ⟨ao, c, hv, hc⟩ := hG.shape
  subst hv
  obtain ⟨k2, hk2⟩ : ∃ k2, k2 = max k (idx + 1) := ⟨_, rfl⟩
  rw [length_f32s, ← hk2] at hcb
  have c2 := hcb.cell (i := 2) rfl
  have hk : idx < k2 := by omega
  have hki : (idx : Int) < (k2 : Int) := by omega
  have hk2b : k2 ≤ 200000000 := by have := h2.kn; omega
  have hi0 : (0 : Int) ≤ (idx : Int) := by omega
  have H2 := Lib.hid (And.intro hS h2)
  clear hS h2 hcb hG hc hk2
  go_wp2
  go_ret
  exact ⟨rfl, H2.out.1, H2.out.2⟩

set_option maxRecDepth 100000 in
set_option maxHeartbeats 1000000 in
theorem isValidC (lo : Nat) (av : List Nat) (cb pd d num len cap : Nat) (D : List Nat) (k v vo n vc : Nat) (A' : List Nat) (w : World) (h : ConvAt lo av w cb pd d num len cap D k) (hlo : lo ≤ w.heap.size) (hav : ∀ b ∈ av, b < w.heap.size)
    (hc : ∀ (i a : Nat), A'[i]? = some a → w.cell? ⟨v, vo + i, none⟩ = some (.int .i32 (a : Int))) (hl : A'.length = n) (hn0 : 0 < n) (hn : n ≤ 1099511627776) (hA : ∀ a ∈ A', a < num) :
    Calls Tryz.prog 288 #[.pointer (some ⟨cb, 0, none⟩), .slice (some ⟨v, vo, none⟩) n vc] w fun e w' => ∃ m ∈ A', (∀ a ∈ A', a ≤ m) ∧ ValidPost lo av cb pd d num len cap D k m w e w' := by
  have hnb := h.numb
  have H := Lib.hid (And.intro h hA)
  have hM := minMaxC v vo n vc A' w hc hl hn0 hn (fun a ha => by have := hA a ha; omega)
  have HM := Lib.hid hM
  clear h hc hl hA hM
  go_enter Tryz.func288, Tryz.ntmps288
  go_wp2_with fail
  refine HM.out.mono ?_
  rintro e w1 ⟨l, m, rfl, rfl, hm, hlm, hall⟩
  have hmn := H.out.2 m hm
  have HX := Lib.hid (And.intro hm hall)
  clear hm hall
  go_wp2_with fail
  refine (ensureC lo av cb pd d num len cap D k m _ H.out.1 hlo hav hmn).mono ?_
  rintro e w2 ⟨rfl, hS, h2⟩
  obtain ⟨v2, hcb, hG⟩ := h2.vals
  obtain ⟨ao, c, hv, hc⟩ := hG.shape
  subst hv
  obtain ⟨k2, hk2⟩ : ∃ k2, k2 = max k (m + 1) := ⟨_, rfl⟩
  rw [length_f32s, ← hk2] at hcb
  have c2 := hcb.cell (i := 2) rfl
  have hk : m < k2 := by omega
  have hkl : l < k2 := by omega
  have hki : (m : Int) < (k2 : Int) := by omega
  have hkli : (l : Int) < (k2 : Int) := by omega
  have hk2b : k2 ≤ 200000000 := by have := h2.kn; omega
  have hi0 : (0 : Int) ≤ (m : Int) := by omega
  have hi1 : (0 : Int) ≤ (l : Int) := by omega
  have H2 := Lib.hid (And.intro hS h2)
  clear hS h2 hcb hG hc hk2
  go_wp2
  go_ret
  exact ⟨m, HX.out.1, HX.out.2, rfl, H2.out.1, H2.out.2⟩
end Go.Proofs.YtlolcgklcnechaaGreatDoor
set_option linter.unusedVariables false
set_option linter.unusedSimpArgs false
namespace Go.Proofs.YtlolcgklcnechaaGreatDoor
open Go.RowKit

theorem ConvAt.keep {S : List Nat} {lo : Nat} {av : List Nat} {w w' : World} {cb pd d num len cap : Nat} {D : List Nat} {k : Nat} (h : ConvAt lo av w cb pd d num len cap D k) (kk : Keep S w w')
    (hS : ∀ b ∈ S, (b ∈ av ∨ b < lo) ∧ b ≠ cb ∧ b ≠ pd ∧ b ≠ d) : ConvAt lo av w' cb pd d num len cap D k := by
  obtain ⟨h1, ⟨v, h2, h3⟩, ⟨o2, h4, h5⟩, r1, r2, r3, r4, r5, r6, r7, r8⟩ := h
  exact ⟨h1, ⟨v, h2.keep kk (fun hm => (hS _ hm).2.1 rfl), h3.keep kk (fun b hb => (hS b hb).1)⟩, ⟨o2, h4.keep kk (fun hm => (hS _ hm).2.2.1 rfl), h5.keep kk (fun hm => (hS _ hm).2.2.2 rfl)⟩, r1, r2, r3, r4, r5, r6, r7, r8⟩

set_option maxRecDepth 100000 in
set_option maxHeartbeats 1000000 in
theorem convCopyC (lo : Nat) (av : List Nat) (cb pd d num len cap : Nat) (D : List Nat) (k ob oo on oc v vo n vc : Nat) (A' : List Nat) (ocs : List Value) (w : World) (h : ConvAt lo av w cb pd d num len cap D k) (ho : Blk w ob ocs)
    (hob : ob ∈ av ∨ ob < lo) (oc1 : ob ≠ cb) (oc2 : ob ≠ pd) (oc3 : ob ≠ d) (ov : ob ≠ v)
    (hc : ∀ (i a : Nat), A'[i]? = some a → w.cell? ⟨v, vo + i, none⟩ = some (.int .i32 (a : Int))) (hl : A'.length = n) (hn : n ≤ 1099511627776) (hA : ∀ a ∈ A', a < k) (hon : n ≤ on) (hoo : oo + n ≤ ocs.length) :
    Calls Tryz.prog 285 #[.pointer (some ⟨cb, 0, none⟩), .slice (some ⟨ob, oo, none⟩) on oc, .slice (some ⟨v, vo, none⟩) n vc] w fun e w' =>
      e = .returned .nilIface ∧ Keep [ob] w w' ∧ Blk w' ob (splice ocs oo (rowF (A'.map (f32At D)))) := by
  have H := Lib.hid (And.intro h (And.intro hc (And.intro hA hl)))
  have hk1 := h.kn
  have hk2 := h.numb
  have ho0 : Blk w ob (splice ocs oo (rowF ((A'.take 0).map (f32At D)))) := by simpa [splice, rowF] using ho
  clear h hc hA hl ho
  go_enter Tryz.func285, Tryz.ntmps285
  go_wp2_with fail
  go_loopw [11] (fun iv wr => ∃ j : Nat, j ≤ n ∧ iv = .int .i64 (j : Int) ∧ Keep [ob] w wr ∧ Blk wr ob (splice ocs oo (rowF ((A'.take j).map (f32At D))))) (fun iv _ => n - (intOf iv).toNat)
  case atStart => exact ⟨0, Nat.zero_le _, rfl, Keep.refl _ _, ho0⟩
  case round =>
    obtain ⟨j, hj, rfl, kj, hV⟩ := hrel
    by_cases hj2 : j < n
    · obtain ⟨x, hx⟩ : ∃ x, A'[j]? = some x := ⟨A'[j]'(by rw [H.out.2.2.2]; exact hj2), by simp⟩
      have hxk := H.out.2.2.1 x (List.mem_of_getElem? hx)
      have hcx := kj.cell_some (H.out.2.1 j x hx) (by simp; exact Ne.symm ov)
      have hC := H.out.1.keep kj (fun b hb => by simp at hb; subst hb; exact ⟨hob, oc1, oc2, oc3⟩)
      obtain ⟨vv, hcb, hG⟩ := hC.vals
      obtain ⟨g, c, hv, hcell⟩ := hG.cell cfF_len (i := x) (x := f32At D x) (by simp [f32s, hxk]) (j := 0) (u := .float .f32 (f32At D x)) rfl
      rw [Nat.mul_one, Nat.add_zero] at hcell
      rw [length_f32s] at hv
      subst hv
      have c2 := hcb.cell (i := 2) rfl
      have hxi : (x : Int) < (k : Int) := by omega
      have hjo : (j : Int) < (on : Int) := by omega
      have hjo2 : j < on := by omega
      have hlen : ((A'.take j).map (f32At D)).length = j := by simp; have := H.out.2.2.2; omega
      obtain ⟨u, hcu⟩ : ∃ u, wr.cell? ⟨ob, oo + j, none⟩ = some u := by
        have hl : oo + j < (splice ocs oo (rowF ((A'.take j).map (f32At D)))).length := by rw [length_splice _ _ _ (by rw [length_rowF, hlen]; omega)]; omega
        exact ⟨_, hV.cell (List.getElem?_eq_getElem hl)⟩
      have hfu := hV.unfrozen
      have hst := run_store_f32 (f32At D x) hcu (hfu (oo + j))
      have HV := Lib.hid (And.intro hV (And.intro hx hlen))
      clear hV hC hG hcb hx hlen ho0
      go_wp2
      go_roundw
      case rel =>
        refine ⟨j + 1, hj2, by go_num, kj.set (by simp) _ _ _, ?_⟩
        have h := HV.out.1.set (oo + j) (.float .f32 (f32At D x))
        have e := splice_next ocs (rowF ((A'.take j).map (f32At D))) oo (.float .f32 (f32At D x)) (by rw [length_rowF, HV.out.2.2]; omega)
        rw [length_rowF, HV.out.2.2] at e
        rw [e] at h
        rw [List.take_add_one, HV.out.2.1, List.map_append, rowF_append]
        exact h
      case measure => simp [intOf]; omega
    · have hjn : j = n := by omega
      subst hjn
      rw [List.take_of_length_le (by rw [H.out.2.2.2]; omega)] at hV
      have HV := Lib.hid hV
      clear hV ho0
      go_wp2
      go_ret
      exact ⟨rfl, kj, HV.out⟩
end Go.Proofs.YtlolcgklcnechaaGreatDoor
set_option linter.unusedVariables false
set_option linter.unusedSimpArgs false
namespace Go.Proofs.YtlolcgklcnechaaGreatDoor
open Go.RowKit

theorem one_splice {cs X : List Value} {o : Nat} (h : ∀ v ∈ cs, v.oneCell' = true) (hx : ∀ v ∈ X, v.oneCell' = true) : ∀ v ∈ splice cs o X, v.oneCell' = true := by
  intro v hv
  unfold splice at hv
  simp at hv
  rcases hv with hv | hv | hv
  · exact h v (List.mem_of_mem_take hv)
  · exact hx v hv
  · exact h v (List.mem_of_mem_drop hv)

theorem splice_mid {cs X : List Value} {o n : Nat} (h : o ≤ cs.length) (hn : n ≤ X.length) : ((splice cs o X).drop o).take n = X.take n := by
  unfold splice
  have e : (cs.take o).length = o := by simp; omega
  rw [List.drop_left' e, List.take_append_of_le_length hn]

def FillPost (lo : Nat) (av : List Nat) (cb pd d num len cap : Nat) (D : List Nat) (k idx ob oo m : Nat) (ocs : List Value) (w : World) (e : Ending) (w' : World) : Prop :=
  e = .returned .nilIface ∧ (∃ S, Keep (ob :: S) w w' ∧ ∀ b ∈ S, b = cb ∨ b = pd ∨ (lo ≤ b ∧ b ∉ av)) ∧ ConvAt lo av w' cb pd d num len cap D (max k (idx + 1)) ∧ Blk w' ob (splice ocs oo (rowF (List.replicate m (f32At D idx))))

set_option maxRecDepth 100000 in
set_option maxHeartbeats 2000000 in
theorem convFillC (lo : Nat) (av : List Nat) (cb pd d num len cap : Nat) (D : List Nat) (k idx ob oo m oc : Nat) (ocs : List Value) (w : World) (h : ConvAt lo av w cb pd d num len cap D k) (hlo : lo ≤ w.heap.size) (hav : ∀ b ∈ av, b < w.heap.size) (hi : idx < num) (ho : Blk w ob ocs)
    (hob : ob ∈ av ∨ ob < lo) (oc1 : ob ≠ cb) (oc2 : ob ≠ pd) (oc3 : ob ≠ d) (h1 : ∀ v ∈ ocs, v.oneCell' = true) (hm0 : 0 < m) (hm : m ≤ 1000000) (hmc : m ≤ oc) (hoo : oo + m ≤ ocs.length) :
    Calls Tryz.prog 286 #[.pointer (some ⟨cb, 0, none⟩), .slice (some ⟨ob, oo, none⟩) m oc, .int .i32 (idx : Int)] w fun e w' => FillPost lo av cb pd d num len cap D k idx ob oo m ocs w e w' := by
  have hnb := h.numb
  have H := Lib.hid (And.intro h (And.intro ho h1))
  clear h ho h1
  go_enter Tryz.func286, Tryz.ntmps286
  go_wp2_with fail
  refine (ensureC lo av cb pd d num len cap D k idx _ H.out.1 hlo hav hi).mono ?_
  rintro e w2 ⟨rfl, ⟨S, kS, hS⟩, h2⟩
  have hobS : ob ∉ S := fun hm => by
    rcases hS _ hm with h | h | h
    · exact oc1 h
    · exact oc2 h
    · rcases hob with h' | h'
      · exact h.2 h'
      · omega
  have ho2 := H.out.2.1.keep kS hobS
  obtain ⟨k2, hk2⟩ : ∃ k2, k2 = max k (idx + 1) := ⟨_, rfl⟩
  have h2' := h2
  rw [← hk2] at h2'
  obtain ⟨vv, hcb, hG⟩ := h2'.vals
  have hxk : idx < k2 := by omega
  have hk2b : k2 ≤ 200000000 := by have := h2'.kn; omega
  obtain ⟨X, hX⟩ : ∃ X, X = f32At D idx := ⟨_, rfl⟩
  obtain ⟨g, c, hv, hcell⟩ := hG.cell cfF_len (i := idx) (x := X) (by simp [f32s, hxk, hX]) (j := 0) (u := .float .f32 X) rfl
  rw [Nat.mul_one, Nat.add_zero] at hcell
  rw [length_f32s] at hv
  subst hv
  have c2 := hcb.cell (i := 2) rfl
  have hxi : (idx : Int) < (k2 : Int) := by omega
  obtain ⟨u, hcu⟩ : ∃ u, w2.cell? ⟨ob, oo, none⟩ = some u := ⟨_, ho2.cell (List.getElem?_eq_getElem (show oo < ocs.length by omega))⟩
  have hfu := ho2.unfrozen
  have hst := run_store_f32 X hcu (hfu oo)
  have ho3 : Blk (w2.setCell ⟨ob, oo, none⟩ (.float .f32 X)) ob (splice ocs oo (rowF (List.replicate 1 X))) := by
    have h := ho2.set oo (.float .f32 X)
    have e := splice_next ocs [] oo (.float .f32 X) (by simp; omega)
    simp [splice] at e
    have e2 : splice ocs oo (rowF (List.replicate 1 X)) = ocs.set oo (.float .f32 X) := by
      simp [splice, rowF]; exact e.symm
    rw [e2]
    exact h
  have HS := Lib.hid (And.intro kS (And.intro hS (And.intro h2 hX)))
  have HO := Lib.hid ho3
  have hmi : (0 : Int) < (m : Int) := by omega
  clear kS hS h2 h2' hcb hG hk2 ho2 ho3 hX
  go_wp2_with fail
  obtain ⟨w3, hw3⟩ : ∃ w3, w3 = w2.setCell ⟨ob, oo, none⟩ (.float .f32 X) := ⟨_, rfl⟩
  have K3 : Keep [ob] w2 w3 := by rw [hw3]; exact (Keep.refl [ob] w2).set (by simp) _ _ _
  have hO3 := HO.out
  rw [← hw3] at hO3 ⊢
  clear hw3 hst hcu hfu c2 hcell
  go_loopw [8] (fun iv wr => ∃ p : Nat, 1 ≤ p ∧ p ≤ 2 * m ∧ iv = .int .i64 (p : Int) ∧ Keep [ob] w3 wr ∧ Blk wr ob (splice ocs oo (rowF (List.replicate (min p m) X)))) (fun iv _ => m - (intOf iv).toNat)
  case atStart => exact ⟨1, Nat.le_refl _, by omega, rfl, Keep.refl _ _, by rw [Nat.min_eq_left (by omega)]; exact hO3⟩
  case round =>
    obtain ⟨p, hp1, hp2, rfl, kp, hV⟩ := hrel
    by_cases hpm : p < m
    · rw [Nat.min_eq_left (by omega)] at hV
      obtain ⟨q, hq⟩ : ∃ q, q = min p (m - p) := ⟨_, rfl⟩
      have hocp : ¬ oc = p := by omega
      have hoc0 : ¬ oc = 0 := by omega
      have hpo : p ≤ oc := by omega
      have hpml : p ≤ m := by omega
      have hsl : (splice ocs oo (rowF (List.replicate p X))).length = ocs.length := length_splice _ _ _ (by simp; omega)
      have hcp := fun ty => run_copy_blk (P := Tryz.prog) hV.drew hV.drew 125 125 ty 102 (oo + p) oo (m - p) (oc - p) p oc Tryz.underlying125 size_f32 q hq (by rw [hsl]; omega) (by rw [hsl]; omega) (one_splice H.out.2.2 (one_rowF _))
      rw [splice_mid (by omega) (by simp; omega)] at hcp
      have e1 : (rowF (List.replicate p X)).take q = rowF (List.replicate q X) := by
        rw [rowF_replicate, rowF_replicate, List.take_replicate, Nat.min_eq_left (by omega)]
      rw [e1] at hcp
      have hV2 := hV.drew.setCells (o := oo + p) (vs := rowF (List.replicate q X)) (by rw [hsl]; simp; omega)
      have e2 := splice_then ocs (rowF (List.replicate p X)) (rowF (List.replicate q X)) oo (by simp; omega)
      rw [length_rowF, List.length_replicate] at e2
      rw [e2, ← rowF_append, List.replicate_append_replicate, show p + q = min (2 * p) m by omega] at hV2
      have HV := Lib.hid hV2
      have hp2i : (p : Int) * 2 = ((2 * p : Nat) : Int) := by omega
      clear hV hV2 e1 e2 hsl hq hO3
      go_wp2_with fail
      go_region
      all_goals
        go_wp2
        go_roundw
        case rel => exact ⟨2 * p, by omega, by omega, by go_num, Keep.setCells (by simp) kp.drew, HV.out⟩
        case measure => simp [intOf]; omega
    · rw [Nat.min_eq_right (by omega)] at hV
      have HV := Lib.hid hV
      clear hV hO3
      go_wp2
      go_ret
      obtain ⟨kS, hS, h2, hX⟩ := HS.out
      have K4 : Keep [ob] w2 _ := K3.trans kp (by simp)
      refine ⟨rfl, ⟨S, (kS.weaken (S' := ob :: S) (fun b hb => by simp [hb])).trans K4 (by simp), hS⟩, h2.keep K4 (fun b hb => by simp at hb; subst hb; exact ⟨hob, oc1, oc2, oc3⟩), ?_⟩
      rw [← hX]
      exact HV.out
end Go.Proofs.YtlolcgklcnechaaGreatDoor
