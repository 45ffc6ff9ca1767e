/-
  THE PROOF OF FnEscapeSPCDecodesExactlySaid.
-/
import Derived.Test.Qxb6600747aRows
import Derived.Test.Qxb6600747aWalk
import Derived.WalkKit
import Derived.ProofKit
import Derived.OpenShut
import Derived.ShutString
import Derived.ChangeOld
import Derived.Below
namespace Go.Proofs.Qxb6600747a.fnEscapeSPCDecodesExactly
open Go.ChangeShapes Go.WideShapes Go.ChangeAt Go.RowKit
open Go.ChangeMaps (open_string shut_string)

theorem own : ownKnob Try.prog.godebug = none := by kernel_rfl

def IsBool (e : Ending) : Prop := ∃ x, e = .returned (.bool x)
def Hid (p : Prop) : Prop := p
theorem Hid.mk {p : Prop} (h : p) : Hid p := h
theorem Hid.out {p : Prop} (h : Hid p) : p := h

set_option maxRecDepth 100000 in
theorem bytes6 (a0 : ByteArray) (_ : a0.size ≤ maxLen) (w : World) :
    Calls Try.prog 6 #[.string a0] w fun e w' => IsBool e ∧ w = w' := by
  by_cases h0 : a0.size ≤ 1048576
  all_goals
    go_enter Try.func6, Try.ntmps6
    go_wp2
    all_goals
      go_ret
      exact ⟨⟨_, rfl⟩, rfl⟩

/-- zzHexVal at a digit. -/
theorem hex8 (n : Nat) (hn : n < 16) (w : World) :
    Calls Try.prog 8 #[.int .u8 (hexD n).toNat] w fun e w' => e = .returned (.int .i64 n) ∧ w = w' := by
  have hd := hexD_toNat n hn
  obtain ⟨d, he⟩ : ∃ d, d = (hexD n).toNat := ⟨_, rfl⟩
  rw [← he] at hd ⊢
  clear he
  by_cases h : n < 10
  · rw [if_pos h] at hd
    subst hd
    go_enter Try.func8, Try.ntmps8
    go_wp2
    go_ret
    refine ⟨?_, rfl⟩
    go_num
  · rw [if_neg h] at hd
    subst hd
    go_enter Try.func8, Try.ntmps8
    go_wp2
    go_ret
    refine ⟨?_, rfl⟩
    go_num

theorem must9 (c : UInt8) (w : World) :
    Calls Try.prog 9 #[.int .u8 c.toNat] w fun e w' => e = .returned (.bool (mustB c)) ∧ w = w' := by
  have hc := UInt8.toNat_lt c
  by_cases h1 : c.toNat < 32 <;> by_cases h2 : c.toNat = 127 <;> by_cases h3 : c.toNat = 59 <;> by_cases h4 : c.toNat = 92 <;> try omega
  all_goals
    have hm : mustB c = decide (c.toNat < 32 ∨ c.toNat = 127 ∨ c.toNat = 59 ∨ c.toNat = 92) := by simp [mustB, h1, h2, h3, h4]
    rw [hm]
    go_enter Try.func9, Try.ntmps9
    go_wp2
    go_ret
    first | (simp [h1, h2, h3, h4]; done) | (simp [h1, h2, h3, h4]; omega)

/-- the text from place j on. -/
theorem out_split (l : List UInt8) (o : ByteArray) (j : Nat) (ho : o.data.toList = esc l) (hj : j < l.length) :
    o.data.toList = esc (l.take j) ++ (escB l[j] ++ esc (l.drop (j + 1))) := by
  rw [ho, ← esc_cons, ← esc_append]
  congr 1
  simp

theorem out_at (l : List UInt8) (o : ByteArray) (j : Nat) (ho : o.data.toList = esc l) (hj : j < l.length) (k : Nat) (hk : k < (escB l[j]).length) :
    ∃ h : (esc (l.take j)).length + k < o.size, o[(esc (l.take j)).length + k] = (escB l[j])[k] := by
  have hs := out_split l o j ho hj
  have hlen : o.size = (esc (l.take j)).length + ((escB l[j]).length + (esc (l.drop (j + 1))).length) := by
    have := congrArg List.length hs
    simpa using this
  refine ⟨by omega, ?_⟩
  have h1 : o[(esc (l.take j)).length + k]'(by omega) = o.data.toList[(esc (l.take j)).length + k]'(by simp; omega) := by
    simp; rfl
  rw [h1, List.getElem_of_eq hs, List.getElem_append_right (by omega), List.getElem_append_left (by omega)]
  congr 1
  omega

theorem wrap64_in (n : Int) (h : -9223372036854775808 ≤ n ∧ n ≤ 9223372036854775807) : wrap64 n = n := by unfold wrap64; omega

/-- the two digits' numbers, put together again. -/
theorem joinNib (n : Nat) (h : n < 256) : wrap64 (wrap64 ((n : Int) / 16 * 16) + (n : Int) % 16) % 256 = (n : Int) := by
  have h1 : wrap64 ((n : Int) / 16 * 16) = (n : Int) / 16 * 16 := wrap64_in _ (by omega)
  rw [h1]
  have h2 : (n : Int) / 16 * 16 + (n : Int) % 16 = (n : Int) := by omega
  rw [h2]
  have h3 : wrap64 (n : Int) = (n : Int) := wrap64_in _ (by omega)
  rw [h3]
  omega

theorem esc_lt (l : List UInt8) (j : Nat) (hj : j < l.length) : (esc (l.take (j + 1))).length = (esc (l.take j)).length + (escB l[j]).length := by
  rw [esc_take l j hj, List.length_append]

set_option maxHeartbeats 4000000 in
set_option maxRecDepth 1000000 in
theorem walk (a0 : ByteArray) (w0 : a0.size ≤ maxLen) (w : World) :
    Calls Try.prog 3 #[.string a0] w fun e w' => e = .returned (.bool true) ∧ Below w.heap.size w w' := by
  go_enter Try.func3, Try.ntmps3
  go_wp2_with fail
  refine (bytes6 a0 w0 w).mono ?_
  rintro e _ ⟨⟨x, rfl⟩, rfl⟩
  cases x
  · go_wp2_with fail
    go_ret
    exact ⟨rfl, Below.refl _ _⟩
  by_cases h0 : ¬ a0.size ≤ 1048576
  · go_wp2_with fail
    go_ret
    exact ⟨rfl, Below.refl _ _⟩
  have h0 : a0.size ≤ 1048576 := by omega
  go_wp2_with fail
  refine (esc7 a0 w h0).mono ?_
  rintro e W1 ⟨rfl, b1⟩
  obtain ⟨o, ho⟩ : ∃ o : ByteArray, o = ⟨(esc a0.data.toList).toArray⟩ := ⟨_, rfl⟩
  rw [← ho]
  have hO : Hid (o.data.toList = esc a0.data.toList) := Hid.mk (by rw [ho])
  clear ho
  have hoz : o.size ≤ 4194304 := by
    have h1 := congrArg List.length hO.out
    have h2 := esc_le a0.data.toList
    simp at h1 h2
    omega
  go_wp2_with fail
  go_loopw [4, 5] (fun i jv wr => ∃ j p : Nat, j ≤ a0.size ∧ i = .int .i64 p ∧ jv = .int .i64 j ∧ Hid (p = (esc (a0.data.toList.take j)).length) ∧ wr = W1) (fun _ jv _ => a0.size - (intOf jv).toNat)
  case atStart => exact ⟨0, 0, Nat.zero_le _, rfl, rfl, Hid.mk (by simp [esc]), rfl⟩
  case round =>
    obtain ⟨j, p, hj, rfl, rfl, hp, rfl⟩ := hrel
    by_cases hlt : j < a0.size
    · have hltl : j < a0.data.toList.length := by simpa using hlt
      obtain ⟨c, hc⟩ : ∃ c, c = a0[j] := ⟨_, rfl⟩
      have hcl : Hid (a0.data.toList[j] = c) := Hid.mk (by rw [hc]; simp; rfl)
      have hn := esc_lt a0.data.toList j hltl
      rw [← hp.out, hcl.out] at hn
      have hat := fun k hk => out_at a0.data.toList o j hO.out hltl k hk
      rw [← hp.out, hcl.out] at hat
      have hN : Hid ((esc (a0.data.toList.take (j + 1))).length = p + (escB c).length) := Hid.mk hn
      clear hn hO
      by_cases hm : mustB c = true
      · have he : escB c = [92, 120, hexD (c.toNat / 16), hexD (c.toNat % 16)] := by simp [escB, hm]
        rw [he] at hat
        obtain ⟨z0, e0⟩ := hat 0 (by simp)
        obtain ⟨z1, e1⟩ := hat 1 (by simp)
        obtain ⟨z2, e2⟩ := hat 2 (by simp)
        obtain ⟨z3, e3⟩ := hat 3 (by simp)
        simp only [List.getElem_cons_zero, List.getElem_cons_succ, Nat.add_zero] at e0 e1 e2 e3 z0
        have n0 : o[p].toNat = 92 := by rw [e0]; rfl
        have n1 : o[p + 1].toNat = 120 := by rw [e1]; rfl
        have hcb := UInt8.toNat_lt c
        have E2 := Hid.mk e2
        have E3 := Hid.mk e3
        have hN2 : Hid ((esc (a0.data.toList.take (j + 1))).length = p + 4) := Hid.mk (by have := hN.out; rw [he] at this; exact this)
        clear hat he hN e0 e1 e2 e3
        go_wp2_with fail
        rw [E2.out]
        refine (hex8 _ (by omega) wr).mono ?_
        rintro e _ ⟨rfl, rfl⟩
        go_wp2_with fail
        rw [E3.out]
        refine (hex8 _ (by omega) wr).mono ?_
        rintro e _ ⟨rfl, rfl⟩
        go_wp2_with fail
        have hv : wrap64 (wrap64 ((a0[j].toNat : Int) / 16 * 16) + (a0[j].toNat : Int) % 16) % 256 = (c.toNat : Int) := by
          rw [← hc]
          exact joinNib c.toNat (by omega)
        rw [hv]
        refine (must9 c wr).mono ?_
        rintro e _ ⟨rfl, rfl⟩
        rw [hm]
        have hA : a0[j].toNat = c.toNat := by rw [hc]
        clear hv
        go_wp2_with fail
        go_roundw
        case rel => exact ⟨j + 1, p + 4, by omega, by go_num, by go_num, Hid.mk hN2.out.symm, trivial⟩
        case measure => simp [intOf]; omega
      · have hm0 : mustB c = false := by simpa using hm
        have he : escB c = [c] := by simp [escB, hm0]
        rw [he] at hat
        obtain ⟨z0, e0⟩ := hat 0 (by simp)
        simp only [List.getElem_cons_zero, Nat.add_zero] at e0 z0
        have n0 : o[p].toNat = c.toNat := by rw [e0]
        have hc92 : ¬ c.toNat = 92 := fun h => by simp [mustB, h] at hm0
        have hcb := UInt8.toNat_lt c
        have hN2 : Hid ((esc (a0.data.toList.take (j + 1))).length = p + 1) := Hid.mk (by have := hN.out; rw [he] at this; exact this)
        have hA : a0[j].toNat = c.toNat := by rw [hc]
        clear hat he hN e0
        go_wp2_with fail
        refine (must9 c wr).mono ?_
        rintro e _ ⟨rfl, rfl⟩
        rw [hm0]
        go_wp2_with fail
        go_roundw
        case rel => exact ⟨j + 1, p + 1, by omega, by go_num, by go_num, Hid.mk hN2.out.symm, trivial⟩
        case measure => simp [intOf]; omega
    · obtain rfl : j = a0.size := by omega
      have hpo : p = o.size := by
        have h1 := hp.out
        rw [List.take_of_length_le (by simp)] at h1
        have h2 := congrArg List.length hO.out
        rw [h1, ← h2]
        simp
      go_wp2_with fail
      go_ret
      exact ⟨by simp, b1⟩

set_option maxRecDepth 100000 in
theorem lifted (os : Os) (started : os.Started) (H : Type) (enc : TypeId × Value → H) :
    ReturnsInHanded {} Try.checked os 3 .any (Rows.fnEscapeSPCDecodesExactlySpec.pre6 enc Try.prog Try.f3 Rows.fnEscapeSPCDecodesExactlyRow.domain false) (Rows.fnEscapeSPCDecodesExactlySpec.post enc Try.prog Try.f3 false true false false) := by
  refine returnsInHanded_of_change (C := Try.checked) own started (by kernel_rfl) Try.func3
    (ChangeSpec.witness6 (enc := enc) (C := Try.checked) false ⟨#[], #[.string ByteArray.empty], []⟩ 8 (by kernel_rfl) (by kernel_rfl) (by kernel_rfl) (by kernel_rfl)) ?_
  intro W base args ds gs before hval0 hW hcnd _
  have hval : ∀ (j : Nat) t v, Try.f3.params[j]? = some t → args[j]? = some v → Value.okWide Try.prog W .any base t v := hval0
  have hW' := hW
  obtain ⟨p, q, hA0, hV, rfl, hfz, hnd⟩ := hW
  have hA : DataW.TrodAll enc Try.prog W 0 (fun _ => true) true Try.f3.params.toList args.toList ds p := hA0
  rw [Try.params3] at hA hval
  obtain ⟨v0, vs0, d0, ds0, p0, q0, hargs, rfl, rfl, h0, r0⟩ := trodAll_cons hA
  obtain ⟨rfl, rfl, rfl⟩ := trodAll_nil r0
  obtain rfl : args = #[v0] := by cases args; simp_all
  obtain ⟨rfl, rfl⟩ := trodVars_none hV
  obtain ⟨a0, rfl, rfl, rfl, w0⟩ := open_string Try.underlying9 (hval 0 9 v0 rfl rfl) h0
  clear hA0 hval0
  refine (walk a0 w0 W).mono fun e W' ⟨he, bel⟩ => ?_
  subst he
  exact ⟨_, rfl, _, _, _, [], _, [], hW', trodAll_mk1 (shut_bool Try.underlying4 _), (trodAll_cons_mk (shut_string Try.underlying9 w0) trodAll_mk0), rfl, bel.frame _, fun h => by cases h⟩

theorem over : Rows.fnEscapeSPCDecodesExactlyRow.holds Try.pinned (OpenSpec.ofChange Rows.fnEscapeSPCDecodesExactlySpec) :=
  OpenClaim.holds_of_wide 3 Try.f3 rfl rfl rfl rfl rfl rfl rfl ⟨rfl, rfl, rfl, rfl, rfl⟩ rfl rfl rfl rfl rfl (by kernel_rfl) Try.func3 (by kernel_rfl)
    (of_decide_eq_true (by kernel_rfl)) (by unfold Func.isWrapper; first | (rw [if_pos (by decide +kernel)]; kernel_rfl) | (rw [if_neg (by decide +kernel)]; exact ⟨rfl, rfl⟩))
    (fun os started H enc _ => lifted os started H enc)

/-- ████ THE STATEMENT ████ -/
theorem proved : Rows.FnEscapeSPCDecodesExactlySaid :=
  over
#print axioms proved
end Go.Proofs.Qxb6600747a.fnEscapeSPCDecodesExactly
