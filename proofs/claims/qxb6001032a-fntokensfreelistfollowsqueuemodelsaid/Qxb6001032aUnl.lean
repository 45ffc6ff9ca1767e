/- unlink: the walk, four ways; then what it makes of the Tokens. -/
import Derived.Test.Qxb6001032aEnt
namespace Go.Proofs.Qxb6001032a
open Go.RowKit Go.Maps
set_option linter.unusedVariables false

/-- both neighbours are there -/
theorem unl_mid (tb b o n : Nat) (fr : Int) (w : World) (hne : tb ≠ b) (hto : tb ≠ o) (htn : tb ≠ n) (hbo : b ≠ o) (hbn : b ≠ n) (hon : o ≠ n) {p4 p5 : Option Addr}
    (ho : w.cell? ⟨b, 4, none⟩ = some (.pointer (some ⟨o, 0, none⟩))) (hn : w.cell? ⟨b, 5, none⟩ = some (.pointer (some ⟨n, 0, none⟩)))
    (ht3 : w.cell? ⟨tb, 3, none⟩ = some (.int .i64 fr)) (hf : 1 ≤ fr) (hf' : fr ≤ 4096) (v3 : w.cell? ⟨b, 3, none⟩ = some (.bool true))
    (n4 : w.cell? ⟨n, 4, none⟩ = some (.pointer p4)) (o5 : w.cell? ⟨o, 5, none⟩ = some (.pointer p5))
    (zb : ∀ i, w.frozen? ⟨b, i, none⟩ = false) (zo : ∀ i, w.frozen? ⟨o, i, none⟩ = false) (zn : ∀ i, w.frozen? ⟨n, i, none⟩ = false) (zt : ∀ i, w.frozen? ⟨tb, i, none⟩ = false) :
    Calls Try.prog 35 #[.pointer (some ⟨tb, 0, none⟩), .pointer (some ⟨b, 0, none⟩)] w fun e w' => e = .returned (.tuple #[]) ∧
      w' = ((((((w.setCell ⟨o, 5, none⟩ (.pointer (some ⟨n, 0, none⟩))).setCell ⟨n, 4, none⟩ (.pointer (some ⟨o, 0, none⟩))).setCell ⟨b, 3, none⟩ (.bool false)).setCell ⟨b, 4, none⟩ (.pointer none)).setCell ⟨b, 5, none⟩ (.pointer none)).setCell ⟨tb, 3, none⟩ (.int .i64 (fr - 1))).drew.drew := by
  go_enter Try.func35, Try.ntmps35
  go_wp2
  go_region
  go_wp2
  go_region
  go_wp2
  go_end0
  exact ⟨rfl, rfl⟩

/-- none before it -/
theorem unl_first (tb b n : Nat) (fr : Int) (w : World) (hne : tb ≠ b) (htn : tb ≠ n) (hbn : b ≠ n) {p4 p1 : Option Addr}
    (ho : w.cell? ⟨b, 4, none⟩ = some (.pointer none)) (hn : w.cell? ⟨b, 5, none⟩ = some (.pointer (some ⟨n, 0, none⟩)))
    (ht1 : w.cell? ⟨tb, 1, none⟩ = some (.pointer p1))
    (ht3 : w.cell? ⟨tb, 3, none⟩ = some (.int .i64 fr)) (hf : 1 ≤ fr) (hf' : fr ≤ 4096) (v3 : w.cell? ⟨b, 3, none⟩ = some (.bool true))
    (n4 : w.cell? ⟨n, 4, none⟩ = some (.pointer p4))
    (zb : ∀ i, w.frozen? ⟨b, i, none⟩ = false) (zn : ∀ i, w.frozen? ⟨n, i, none⟩ = false) (zt : ∀ i, w.frozen? ⟨tb, i, none⟩ = false) :
    Calls Try.prog 35 #[.pointer (some ⟨tb, 0, none⟩), .pointer (some ⟨b, 0, none⟩)] w fun e w' => e = .returned (.tuple #[]) ∧
      w' = ((((((w.setCell ⟨tb, 1, none⟩ (.pointer (some ⟨n, 0, none⟩))).setCell ⟨n, 4, none⟩ (.pointer none)).setCell ⟨b, 3, none⟩ (.bool false)).setCell ⟨b, 4, none⟩ (.pointer none)).setCell ⟨b, 5, none⟩ (.pointer none)).setCell ⟨tb, 3, none⟩ (.int .i64 (fr - 1))).drew := by
  go_enter Try.func35, Try.ntmps35
  go_wp2
  go_region
  go_wp2
  go_end0
  exact ⟨rfl, rfl⟩

/-- none behind it -/
theorem unl_last (tb b o : Nat) (fr : Int) (w : World) (hne : tb ≠ b) (hto : tb ≠ o) (hbo : b ≠ o) {p5 p2 : Option Addr}
    (ho : w.cell? ⟨b, 4, none⟩ = some (.pointer (some ⟨o, 0, none⟩))) (hn : w.cell? ⟨b, 5, none⟩ = some (.pointer none))
    (ht2 : w.cell? ⟨tb, 2, none⟩ = some (.pointer p2))
    (ht3 : w.cell? ⟨tb, 3, none⟩ = some (.int .i64 fr)) (hf : 1 ≤ fr) (hf' : fr ≤ 4096) (v3 : w.cell? ⟨b, 3, none⟩ = some (.bool true))
    (o5 : w.cell? ⟨o, 5, none⟩ = some (.pointer p5))
    (zb : ∀ i, w.frozen? ⟨b, i, none⟩ = false) (zo : ∀ i, w.frozen? ⟨o, i, none⟩ = false) (zt : ∀ i, w.frozen? ⟨tb, i, none⟩ = false) :
    Calls Try.prog 35 #[.pointer (some ⟨tb, 0, none⟩), .pointer (some ⟨b, 0, none⟩)] w fun e w' => e = .returned (.tuple #[]) ∧
      w' = ((((((w.setCell ⟨o, 5, none⟩ (.pointer none)).setCell ⟨tb, 2, none⟩ (.pointer (some ⟨o, 0, none⟩))).setCell ⟨b, 3, none⟩ (.bool false)).setCell ⟨b, 4, none⟩ (.pointer none)).setCell ⟨b, 5, none⟩ (.pointer none)).setCell ⟨tb, 3, none⟩ (.int .i64 (fr - 1))).drew := by
  go_enter Try.func35, Try.ntmps35
  go_wp2
  go_region
  go_wp2
  go_end0
  exact ⟨rfl, rfl⟩

/-- it is the only one -/
theorem unl_only (tb b : Nat) (fr : Int) (w : World) (hne : tb ≠ b) {p1 p2 : Option Addr}
    (ho : w.cell? ⟨b, 4, none⟩ = some (.pointer none)) (hn : w.cell? ⟨b, 5, none⟩ = some (.pointer none))
    (ht1 : w.cell? ⟨tb, 1, none⟩ = some (.pointer p1)) (ht2 : w.cell? ⟨tb, 2, none⟩ = some (.pointer p2))
    (ht3 : w.cell? ⟨tb, 3, none⟩ = some (.int .i64 fr)) (hf : 1 ≤ fr) (hf' : fr ≤ 4096) (v3 : w.cell? ⟨b, 3, none⟩ = some (.bool true))
    (zb : ∀ i, w.frozen? ⟨b, i, none⟩ = false) (zt : ∀ i, w.frozen? ⟨tb, i, none⟩ = false) :
    Calls Try.prog 35 #[.pointer (some ⟨tb, 0, none⟩), .pointer (some ⟨b, 0, none⟩)] w fun e w' => e = .returned (.tuple #[]) ∧
      w' = ((((((w.setCell ⟨tb, 1, none⟩ (.pointer none)).setCell ⟨tb, 2, none⟩ (.pointer none)).setCell ⟨b, 3, none⟩ (.bool false)).setCell ⟨b, 4, none⟩ (.pointer none)).setCell ⟨b, 5, none⟩ (.pointer none)).setCell ⟨tb, 3, none⟩ (.int .i64 (fr - 1))) := by
  go_enter Try.func35, Try.ntmps35
  go_wp2
  go_end0
  exact ⟨rfl, rfl⟩
end Go.Proofs.Qxb6001032a
