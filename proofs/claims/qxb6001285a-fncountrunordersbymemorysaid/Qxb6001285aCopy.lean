/- zzCopy. -/
import Derived.Test.Qxb6001285aBase
import Derived.OwnWalk
import Derived.LaidEqlPtr
namespace Go.Proofs.Qxb6001285a
open Go.RowKit
set_option linter.unusedVariables false

theorem info2 : (Try.prog.info? 2).map (fun i => (i.zero, i.size, i.bytes)) = some (some (.int .i64 0), 1, 8) := by kernel_rfl

/-- What make lays, as a row of numbers. -/
theorem row_made {w : World} {base e g n : Nat} {k : IntKind} (h : w.ownsRow base e 1 (.slice (some ⟨g, 0, none⟩) n n) n (madeCells #[Value.int k 0] n).toList) : IntRow w g e n k (fun _ => 0) := by
  rcases h.2 with ⟨h1, _⟩ | ⟨g', cap', cur, h1, hbg, hgg, hk, hm, hs, ht⟩
  · simp at h1
  · simp at h1
    obtain ⟨rfl, rfl⟩ := h1
    refine ⟨cur, hgg, by simpa using hs, ?_⟩
    intro i hi
    have e1 : cur.toList = List.replicate n (Value.int k 0) := by
      have e2 : (madeCells #[Value.int k 0] n).toList = List.replicate n (Value.int k 0) := toList_madeCells_one _ _
      rw [e2] at ht
      rw [← ht, List.take_of_length_le (by simp; omega)]
    have : cur.toList[i]? = some (Value.int k 0) := by rw [e1]; simp [hi]
    simpa using this

set_option maxHeartbeats 400000 in
theorem copy13 {w : World} {n : Nat} {f : Nat → Int} (b off cap : Nat) (hn : n ≤ 4096) (hpos : 0 < n) (hb : b < w.heap.size) (hc : ∀ j, j < n → w.cell? ⟨b, off + j, none⟩ = some (.int .i64 (f j))) :
    Calls Try.prog 13 #[.slice (some ⟨b, off, none⟩) n cap] w fun e w' => e = .returned (.slice (some ⟨w.heap.size, 0, none⟩) n n) ∧ IntRow w' w.heap.size 2 n .i64 f ∧ Below w.heap.size w w' := by
  obtain ⟨i0, hi, hz0, hz1, hz2⟩ := info_parts info2
  have q22 : ∀ (w : World) (a : Option Addr) (n c n' c' : Nat), (binOp .eql 22 (.slice a n c) (.slice none n' c')).run Try.prog w = .ok (.bool a.isNone) w := fun w a n c n' c' => Lib.run_eql_slice_nil w _ _ a n c n' c' Try.underlying22
  have Hc : Hid (∀ j, j < n → w.cell? ⟨b, off + j, none⟩ = some (.int .i64 (f j))) := hc
  clear hc
  go_enter Try.func13, Try.ntmps13
  go_wp2_with (at_make; refine wpList_make_full _ rfl _ _ 22 rfl w.heap.size 2 i0 (.int .i64 0) 1 Try.underlying22 hi hz0 hz1 _ _ _ _ n rfl rfl rfl rfl (by rw [hz2]; omega) (by unfold maxLen; omega) (Nat.le_refl _) ?_)
  intro w1 hown hg
  have HR : Hid (IntRow w1 w.heap.size 2 n .i64 (fun _ => 0)) := row_made hown
  have hnx := (Below.refl w.heap.size w).grown hg (Nat.le_refl _) (fun k hk => by cases hk)
  clear hg hi hz0 hz1 hz2 hown
  go_wp2
  go_loopw [4] (fun i wr => ∃ k : Nat, k ≤ n ∧ i = .int .i64 k ∧ Hid (∃ g, IntRow wr w.heap.size 2 n .i64 g ∧ ∀ j, j < k → g j = f j) ∧ Below w.heap.size w wr) (fun i _ => n - (intOf i).toNat)
  case atStart => exact ⟨0, Nat.zero_le _, rfl, ⟨_, HR.out, fun j hj => (by omega)⟩, hnx⟩
  case round =>
    obtain ⟨k, hk, rfl, HG, hnx'⟩ := hrel
    clear HR hnx
    by_cases hlt : k < n
    · obtain ⟨g, hg, hgf⟩ := HG.out
      obtain ⟨x, hx⟩ : ∃ x, x = f k := ⟨_, rfl⟩
      have hcell : wr.cell? ⟨b, off + k, none⟩ = some (.int .i64 x) := by rw [hx]; exact (hnx'.cell (by exact hb)).trans (Hc.out k hlt)
      have hd := hg.cell hlt
      have hz := hg.free k
      have R : Hid (∃ g, IntRow (wr.setCell ⟨w.heap.size, k, none⟩ (.int .i64 x)) w.heap.size 2 n .i64 g ∧ ∀ j, j < k + 1 → g j = f j) := by
        refine ⟨_, hg.set k x, fun j hj => ?_⟩
        unfold upd
        by_cases e : j = k
        · rw [if_pos e, e, hx]
        · rw [if_neg e]; exact hgf j (by omega)
      have R2 : Hid (Below w.heap.size w (wr.setCell ⟨w.heap.size, k, none⟩ (.int .i64 x))) := hnx'.setCell (Nat.le_refl _) _
      clear hg hgf HG hnx' hx
      generalize g k = z at hd
      go_wp2
      go_roundw
      case rel => exact ⟨k + 1, by omega, by go_num, R, R2⟩
      case measure => simp [intOf]; omega
    · have hkn : k = n := by omega
      subst hkn
      go_wp2
      go_ret
      obtain ⟨g, hg, hgf⟩ := HG.out
      exact ⟨rfl, hg.congr hgf, hnx'⟩

def IsBool (e : Ending) : Prop := ∃ x, e = .returned (.bool x)
end Go.Proofs.Qxb6001285a
