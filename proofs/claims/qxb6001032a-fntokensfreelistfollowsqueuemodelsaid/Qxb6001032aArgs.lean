/- FROM THE ARGUMENTS AS THE ROW READS THEM to what the walks ask. -/
import Derived.Test.Qxb6001032aLaw5
namespace Go.Proofs.Qxb6001032a
open Go.RowKit Go.Maps
set_option linter.unusedVariables false

theorem spot_none {w : World} {x : Addr} {v : Value} (h : w.cell? (x.add 0) = some v) : x = ⟨x.block, x.off, none⟩ := by
  obtain ⟨b, o, sp⟩ := x
  cases sp with
  | none => rfl
  | some k =>
    simp only [Addr.add, World.cell?, if_pos] at h
    cases hb : w.heap[b]? with
    | none => rw [hb] at h; cases h
    | some y => rw [hb] at h; cases y <;> simp at h

theorem strAt_of {w : World} {x : Addr} {ss : List ByteArray} {len : Nat} (hl : len ≤ ss.length) (h : ∀ i, i < ss.length → w.cell? (x.add i) = some (.string (ss.getD i ByteArray.empty))) : StrAt w (some x) (ss.take len) := by
  by_cases h0 : len = 0
  · left; rw [h0]; rfl
  · right
    obtain ⟨b, o, rfl⟩ : ∃ b o, x = ⟨b, o, none⟩ := ⟨_, _, spot_none (h 0 (by omega))⟩
    refine ⟨b, o, rfl, fun j hj => ?_⟩
    have hj' : j < len := by simp at hj; omega
    have := h j (by omega)
    rw [Addr.add_lit] at this
    rw [this]
    simp [List.getD, hj']

theorem wordAt_of {w : World} {x : Addr} {zs : List Int} {len : Nat} (hl : len ≤ zs.length) (h : ∀ i, i < zs.length → w.cell? (x.add i) = some (.int .u32 (zs.getD i 0))) : WordAt w (some x) (zs.take len) := by
  by_cases h0 : len = 0
  · left; rw [h0]; rfl
  · right
    obtain ⟨b, o, rfl⟩ : ∃ b o, x = ⟨b, o, none⟩ := ⟨_, _, spot_none (h 0 (by omega))⟩
    refine ⟨b, o, rfl, fun j hj => ?_⟩
    have hj' : j < len := by simp at hj; omega
    have := h j (by omega)
    rw [Addr.add_lit] at this
    rw [this]
    simp [List.getD, hj']

/-- A []string that came in. -/
def IsStrs (w : World) (a : Option Addr) (len : Nat) (rs : List ByteArray) : Prop := StrAt w a rs ∧ rs.length = len ∧ len ≤ maxLen ∧ ∀ s ∈ rs, s.size ≤ maxLen
/-- A []uint32 that came in. -/
def IsWords (w : World) (a : Option Addr) (len cap : Nat) (zs : List Int) : Prop := WordAt w a zs ∧ zs.length = len ∧ len ≤ maxLen ∧ (a = none → len = 0 ∧ cap = 0) ∧ ∀ z ∈ zs, 0 ≤ z ∧ z ≤ 4294967295

theorem u32_bounds {z : Int} (h : (Lit.int .u32 z).wf = true) : 0 ≤ z ∧ z ≤ 4294967295 := by
  simp [Lit.wf, IntKind.min, IntKind.max, IntKind.signed, IntKind.bits] at h
  omega

theorem walk5 (a0 : Option Addr) (len0 cap0 : Nat) (rs : List ByteArray) (a1 : Option Addr) (len1 cap1 : Nat) (zs : List Int) (p : Int) (w : World) (h0 : IsStrs w a0 len0 rs) (h1 : IsWords w a1 len1 cap1 zs) (hp : 0 ≤ p ∧ p ≤ 4294967295) :
    Calls Try.prog 5 #[.slice a0 len0 cap0, .slice a1 len1 cap1, .int .u32 p] w fun e w' => e = .returned (.bool true) ∧ Below w.heap.size w w' := by
  obtain ⟨hr0, rfl, hm0, hs⟩ := h0
  obtain ⟨hr1, rfl, hm1, hnil, hz⟩ := h1
  by_cases hout : 4096 < rs.length ∨ 4096 < zs.length ∨ rs.length = 0
  · refine (early5 a0 cap0 rs a1 zs.length cap1 p w hr0 hm0 hm1 hout).mono ?_
    rintro e w' ⟨rfl, rfl⟩
    exact ⟨rfl, Below.refl _ _⟩
  · exact main5 a0 _ _ cap0 rs a1 zs cap1 p w rfl rfl hr0 hr1 hnil hs hz hp (by omega) (by omega) (by omega)
end Go.Proofs.Qxb6001032a
