/- BitReader.GetBatch. -/
import Derived.Test.YtlolcgklcnechaaGreatDoorXU8
set_option linter.unusedVariables false
set_option linter.unusedSimpArgs false
namespace Go.Proofs.YtlolcgklcnechaaGreatDoor
open Go.RowKit

theorem minC (a b : Nat) (w : World) :
    Calls Tryz.prog 147 #[.int .i64 (a : Int), .int .i64 (b : Int)] w fun e w' => e = .returned (.int .i64 ((min a b : Nat) : Int)) ∧ w' = w := by
  by_cases h : a < b
  · have h1 : (a : Int) < (b : Int) := by omega
    rw [Nat.min_eq_left (by omega)]
    go_enter Tryz.func147, Tryz.ntmps147
    go_wp2
    go_ret
    exact ⟨rfl, rfl⟩
  · have h1 : ¬ (a : Int) < (b : Int) := by omega
    rw [Nat.min_eq_right (by omega)]
    go_enter Tryz.func147, Tryz.ntmps147
    go_wp2
    go_ret
    exact ⟨rfl, rfl⟩

theorem unpack32C (g go : Nat) (x : XP) (d o n cap len caps P W : Nat) (pr : Int) (D : List Nat) (cs0 : List Value) (outs : List Nat) (w : World) (hW0 : 0 < W) (hW : W ≤ 32) (hlc : len ≤ caps) (hcc : caps ≤ 1099511627776)
    (hg : Blk w g (splice cs0 go (rowV .u32 outs))) (hx : Rd w x [.slice (some ⟨d, o, none⟩) n cap, .int .i64 (P : Int), .int .i64 pr]) (hD : BytesAt w d o n cap D)
    (gx : g ≠ x.b) (gd : g ≠ d) (xd : x.b ≠ d) (room : go + len ≤ cs0.length) (ol : outs.length = len) (ob : ∀ v ∈ outs, v < 4294967296) (hfit : P + 4 * W * (len / 32) ≤ n) :
    Calls Tryz.prog 148 #[.iface 91 (.pointer (some ⟨x.b, x.o, none⟩)), .slice (some ⟨g, go, none⟩) len caps, .int .i64 (W : Int)] w fun e w' =>
      e = .returned (.tuple #[.int .i64 ((len / 32 * 32 : Nat) : Int), .nilIface]) ∧ Keep [x, g] w w' ∧ ∃ outs' pr', Blk w' g (splice cs0 go (rowV .u32 outs')) ∧ outs'.length = len ∧ (∀ v ∈ outs', v < 4294967296) ∧
        (∀ i, i < len / 32 * 32 → outs'[i]? = some (leVal (D.drop P) / 2 ^ (W * i) % 2 ^ W)) ∧ Rd w' x [.slice (some ⟨d, o, none⟩) n cap, .int .i64 ((P + 4 * W * (len / 32) : Nat) : Int), .int .i64 pr'] := by
  have Hg := Lib.hid hg
  have Hx := Lib.hid hx
  have HD := Lib.hid hD
  clear hg hx hD
  go_enter Tryz.func148, Tryz.ntmps148
  go_wp2_with fail
  refine (unpackDefaultC g go x d o n cap len caps P W pr D cs0 outs w hW0 hW hlc hcc Hg.out Hx.out HD.out gx gd xd room ol ob hfit).mono ?_
  rintro e w' ⟨rfl, k, H⟩
  have H := Lib.hid H
  go_wp2
  go_ret2
  exact ⟨rfl, k, H.out⟩
end Go.Proofs.YtlolcgklcnechaaGreatDoor
