/- laws.FnRleThere: for every input the law returns true and each argument reads behind the call as it did. The row, proved; the tied card. -/
import Derived.Test.YtlolcgklcnechaaGreatDoorF1
import Derived.Test.YtlolcgklcnechaaGreatDoorTie
import Derived.Test.YtlolcgklcnechaaGreatDoorCards
import Derived.ProofKit
import Derived.LaidMore
import Derived.OpenShut
import Derived.OpenVars
import Derived.Stop.Joined
import Derived.Stop.LaidErr
import Derived.MakeChecks
import Derived.SevenTiedAt
set_option linter.unusedVariables false
set_option linter.unusedSimpArgs false
namespace Go.Proofs.YtlolcgklcnechaaGreatDoor
open Go.ChangeShapes Go.WideShapes Go.ChangeAt Go.WideElems Go.RowKit
open Go.Proofs.YtlolcgklcnechaaGreatDoor

theorem own : ownKnob Tryz.prog.godebug = none := by kernel_rfl
theorem laidOut : laidOutB Tryz.prog = true := by kernel_rfl
theorem cellsU64 : Tryz.prog.cellsOf 43 = 1 := by kernel_rfl
theorem cellsInt : Tryz.prog.cellsOf 3 = 1 := by kernel_rfl
theorem cellsErr : Tryz.prog.cellsOf 240 = 1 := by kernel_rfl
theorem cellsStr : Tryz.prog.cellsOf 9 = 1 := by kernel_rfl
theorem gEof : Tryz.prog.globalNamed "io.EOF" = some 4 := by kernel_rfl
theorem tEof : (Tryz.prog.globals[4]?).map (·.type) = some 82 := by kernel_rfl
theorem starErr : "*" ++ "errors.errorString" = "*errors.errorString" := by decide
theorem rowErr (u : TypeId) (h : Tryz.prog.typeName? 3 u = some "*errors.errorString") : u = 238 :=
  typeName_ptr_named (nm := "errors.errorString") (by rw [starErr]; kernel_rfl) (by kernel_rfl) (by decide) u (by rw [starErr]; exact h)

/-- io.EOF holds an error when the call begins. -/
theorem eof_of_laid {W : World} (h : laidMetH Tryz.prog Rows.fnRleThereRow.laid W) : ∃ ea, Eof W ea := by
  rw [MakeChecks.laidMetH_plain _ _ _ (by kernel_rfl)] at h
  have h1 := laidMet.tail (show laidMet Tryz.prog (("io.ErrShortBuffer", Rows.laid_io_ErrShortBuffer) :: ("io.EOF", Rows.laid_io_EOF) :: _) W from h)
  obtain ⟨a, s, hv, -⟩ := laid_sentinel (show laidMet Tryz.prog (("io.EOF", .iface "*errors.errorString" (.ptr (.agg [.lit (.string [69, 79, 70])]))) :: _) W from h1) gEof tEof Tryz.underlying82 rowErr Tryz.underlying238 Tryz.underlying240 rfl rfl Tryz.underlying9 cellsErr cellsStr
  refine ⟨a, ?_⟩
  have := World.var?_cell gEof hv 0
  unfold Eof
  simpa using this

theorem door_met (os : Os) (args : Array Value) : laidMetH Tryz.prog Rows.fnRleThereRow.laid ((World.doorLaid Tryz.prog 110 os).forCall (fun _ _ => 0) ⟨#[], args, []⟩).memory :=
  laidMetH_of_parts3 (fuel := 8) (laidMet_of_run' 8 (by kernel_rfl) (by kernel_rfl)) (by kernel_rfl) (by kernel_rfl)

section
variable {H : Type} {enc : TypeId × Value → H} {W : World}

/-- A slice of uint64 among the arguments. -/
theorem open_row64 {v : Value} {d : DataW H} {ps : List MemPlace} (hs : ∃ a len cap, v = .slice a len cap) (h : DataW.Trod enc Tryz.prog W 0 (fun _ => true) true 22 v d ps) :
    ∃ vs : List Nat, RowAt W v .u64 vs ∧ ∀ x ∈ vs, x < 18446744073709551616 := by
  obtain ⟨a0, len, cap, rfl⟩ := hs
  obtain ⟨fuel, hf⟩ := h
  rcases open_ints Tryz.underlying22 Tryz.underlying43 cellsU64 hf with ⟨hcs, hx⟩ | ⟨a, len', cap', zs, hcs, _, hl, hm, hz, hx, hcell, hwz⟩
  · simp [Value.cells] at hcs
    obtain ⟨rfl, rfl, rfl⟩ := hcs
    exact ⟨[], .inl ⟨rfl, rfl⟩, by simp⟩
  · simp [Value.cells] at hcs
    obtain ⟨rfl, rfl, rfl⟩ := hcs
    have hzl : zs.length = cap := by simpa using hz
    have hwf : ∀ n ∈ zs, 0 ≤ n ∧ n < 18446744073709551616 := fun n hn => by
      have := hwz n hn
      simp only [Lit.wf, Bool.and_eq_true, decide_eq_true_eq] at this
      have e1 : IntKind.u64.min = 0 := by rfl
      have e2 : IntKind.u64.max = 18446744073709551615 := by rfl
      rw [e1, e2] at this
      omega
    refine ⟨(zs.take len).map Int.toNat, .inr ⟨a, cap, by rw [List.length_map, List.length_take]; congr 1; omega, by simp; omega, fun i x hi => ?_⟩, fun x hx => ?_⟩
    · rw [List.getElem?_map, List.getElem?_take] at hi
      split at hi
      · rename_i hil
        have hiz : i < zs.length := by omega
        rw [List.getElem?_eq_getElem hiz] at hi
        simp at hi
        have h1 := hcell i hiz
        have h2 := hwf zs[i] (List.getElem_mem _)
        rw [h1, show zs.getD i 0 = zs[i] by simp [List.getD, List.getElem?_eq_getElem hiz], ← hi]
        congr 2
        omega
      · simp at hi
    · rw [List.mem_map] at hx
      obtain ⟨n, hn, rfl⟩ := hx
      have := hwf n (List.mem_of_mem_take hn)
      omega

/-- A slice of int among the arguments. -/
theorem open_rowInt {v : Value} {d : DataW H} {ps : List MemPlace} (hs : ∃ a len cap, v = .slice a len cap) (h : DataW.Trod enc Tryz.prog W 0 (fun _ => true) true 23 v d ps) :
    ∃ bs : List Int, IntsAt W v bs ∧ ∀ x ∈ bs, -9223372036854775808 ≤ x ∧ x ≤ 9223372036854775807 := by
  obtain ⟨a0, len, cap, rfl⟩ := hs
  obtain ⟨fuel, hf⟩ := h
  rcases open_ints Tryz.underlying23 Tryz.underlying3 cellsInt hf with ⟨hcs, hx⟩ | ⟨a, len', cap', zs, hcs, _, hl, hm, hz, hx, hcell, hwz⟩
  · simp [Value.cells] at hcs
    obtain ⟨rfl, rfl, rfl⟩ := hcs
    exact ⟨[], .inl ⟨rfl, rfl⟩, by simp⟩
  · simp [Value.cells] at hcs
    obtain ⟨rfl, rfl, rfl⟩ := hcs
    have hzl : zs.length = cap := by simpa using hz
    have hwf : ∀ n ∈ zs, -9223372036854775808 ≤ n ∧ n ≤ 9223372036854775807 := fun n hn => by
      have := hwz n hn
      simp only [Lit.wf, Bool.and_eq_true, decide_eq_true_eq] at this
      have e1 : IntKind.i64.min = -9223372036854775808 := by rfl
      have e2 : IntKind.i64.max = 9223372036854775807 := by rfl
      rw [e1, e2] at this
      omega
    refine ⟨zs.take len, .inr ⟨a, cap, by rw [List.length_take]; congr 1; omega, by simp; omega, fun i x hi => ?_⟩, fun x hx => hwf x (List.mem_of_mem_take hx)⟩
    rw [List.getElem?_take] at hi
    split at hi
    · rename_i hil
      have hiz : i < zs.length := by omega
      have h1 := hcell i hiz
      rw [h1, show zs.getD i 0 = x by simp [List.getD, hi]]
    · cases hi
end

theorem trodVars_cons {H : Type} {enc : TypeId × Value → H} {P : Program} {W : World} {sp : Nat → Bool} {n : String} {ns : List String} : ∀ {gs : List (DataW H)} {ps : List MemPlace}, DataW.TrodVars enc P W sp (n :: ns) gs ps →
    ∃ g gs' q, gs = g :: gs' ∧ DataW.TrodVars enc P W sp ns gs' q
  | [], _, h => h.elim
  | g :: gs', _, ⟨_, _, _, _, _, q, _, _, _, _, hs, _⟩ => ⟨g, gs', q, rfl, hs⟩

set_option maxRecDepth 100000 in
theorem lifted (os : Os) (started : os.Started) (H : Type) (enc : TypeId × Value → H) :
    ReturnsInHanded {} Tryz.checked os 3 .any (fun w args => (Rows.fnRleThereSpec.pre enc Tryz.prog Tryz.f3 [] false w args ∧ laidMetH Tryz.prog Rows.fnRleThereRow.laid w) ∧ sizedMet enc Tryz.prog Tryz.f3 (OpenSpec.ofChange Rows.fnRleThereSpec) false w args)
      (Rows.fnRleThereSpec.post enc Tryz.prog Tryz.f3 false true false false) := by
  refine returnsInHanded_of_change_and (C := Tryz.checked) (X := fun w _ => laidMetH Tryz.prog Rows.fnRleThereRow.laid w) (fun _ _ _ hh h => h.of_heap hh) own started (by kernel_rfl) Tryz.func3
    (ChangeSpec.witness_shaped (enc := enc) (C := Tryz.checked) (os := os) (X := fun w _ => laidMetH Tryz.prog Rows.fnRleThereRow.laid w) false (World.doorLaid Tryz.prog 110 os) #[.slice none 0 0, .int .i64 0, .slice none 0 0] 8 rfl (World.shaped_of_RefB (by kernel_rfl) (by kernel_rfl)) (by kernel_rfl) (by kernel_rfl) (by kernel_rfl) (door_met os _)) ?_
  intro W base args ds gs before hval0 hW _ _ hL _
  have hval : ∀ (j : Nat) t v, Tryz.f3.params[j]? = some t → args[j]? = some v → Value.okWide Tryz.prog W .any base t v := hval0
  have hW' := hW
  obtain ⟨p, q, hA0, hV, rfl, hfz, hnd⟩ := hW
  have hA : DataW.TrodAll enc Tryz.prog W 0 (fun _ => true) true Tryz.f3.params.toList args.toList ds p := hA0
  rw [Tryz.params3] at hA hval
  obtain ⟨v0, v1, v2, d0, d1, d2, p0, p1, p2, rfl, rfl, rfl, h0, h1, h2⟩ := trodAll_three hA
  obtain ⟨ea, hE⟩ := eof_of_laid hL
  obtain ⟨vs, hvs, hvb⟩ := open_row64 (okWide_slice Tryz.underlying22 (hval 0 22 v0 rfl rfl)) h0
  obtain ⟨bs, hbs, hbb⟩ := open_rowInt (okWide_slice Tryz.underlying23 (hval 2 23 v2 rfl rfl)) h2
  obtain ⟨n, rfl, rfl, rfl, hn⟩ := open_int Tryz.underlying3 (hval 1 3 v1 rfl rfl) h1
  have hlt : ∀ x ∈ p0 ++ [] ++ p2 ++ q, x.block < W.heap.size := fun x hx => by simpa using hW'.lt x hx
  refine (fnRleThereC v0 v2 n vs bs ea W hvs hbs hE hvb hbb).mono fun e W' ⟨he, hk⟩ => ?_
  subst he
  have hB := hk.below
  have e0 := Below.trod laidOut (by kernel_rfl) (of_decide_eq_true (by kernel_rfl)) h0 hB (fun x hx => hlt x (by simp [hx]))
  have e2 := Below.trod laidOut (by kernel_rfl) (of_decide_eq_true (by kernel_rfl)) h2 hB (fun x hx => hlt x (by simp [hx]))
  have ev := Below.trodVars laidOut hB (by kernel_rfl) hV
  obtain ⟨g1, gs1, q1, rfl, hV1⟩ := trodVars_cons hV
  obtain ⟨g2, gs2, q2, rfl, hV2⟩ := trodVars_cons hV1
  obtain ⟨g3, gs3, q3, rfl, hV3⟩ := trodVars_cons hV2
  obtain ⟨g4, gs4, q4, rfl, hV4⟩ := trodVars_cons hV3
  obtain ⟨rfl, -⟩ := trodVars_none hV4
  exact ⟨_, rfl, _, _, _, [], p0 ++ ([] ++ p2), q, hW', trodAll_mk1 (shut_bool Tryz.underlying4 _), trodAll_mk3 e0 (shut_int Tryz.underlying3 hn) e2, ev, hB.frame _, fun h => by cases h⟩

end Go.Proofs.YtlolcgklcnechaaGreatDoor
