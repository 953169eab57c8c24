/-
  A proof of the given statement: the kit's shell (proof-skeleton.mjs) at this function, the walk filled in.
-/
import Derived.Test.Qxb6609210aRows
import Derived.WalkKit
import Derived.ProofKit
import Derived.OpenShut
import Derived.ShutString
namespace Go.Proofs.Qxb6609210a.fnAllAgreesWithCounts
open Go.ChangeShapes Go.WideShapes Go.ChangeAt Go.RowKit
open Go.ChangeMaps (open_string shut_string)
set_option linter.unusedVariables false      -- a walk need not use every 'w<i>' (that an integer argument fits its kind)

theorem own : ownKnob Try.prog.godebug = none := by kernel_rfl

/-! ### THE PLAIN LAW: no Go in sight -/
/-- Does the number lie in 'lo..hi'? -/
def inI (lo hi n : Int) : Bool := decide (lo ≤ n) && decide (n ≤ hi)
def cnt (lo hi : Int) (l : List UInt8) : Nat := (l.filter fun c => inI lo hi (c.toNat : Int)).length
theorem cnt_le (lo hi : Int) (l : List UInt8) : cnt lo hi l ≤ l.length := List.length_filter_le _ _
theorem cnt_yes {lo hi : Int} {l : List UInt8} {c : UInt8} (h : inI lo hi (c.toNat : Int) = true) : cnt lo hi (l ++ [c]) = cnt lo hi l + 1 := by
  unfold cnt
  rw [List.filter_append]
  simp [h]
theorem cnt_no {lo hi : Int} {l : List UInt8} {c : UInt8} (h : inI lo hi (c.toNat : Int) = false) : cnt lo hi (l ++ [c]) = cnt lo hi l := by
  unfold cnt
  rw [List.filter_append]
  simp [h]
theorem take_snoc (s : ByteArray) (k : Nat) (h : k < s.size) : s.data.toList.take (k + 1) = s.data.toList.take k ++ [s[k]] := by
  rw [List.take_succ_eq_append_getElem (by simpa using h)]; rfl
theorem take_le (s : ByteArray) (k : Nat) (h : k ≤ s.size) : (s.data.toList.take k).length = k := by
  rw [List.length_take]
  have e : s.data.toList.length = s.size := by simp
  omega
theorem cnt_append (lo hi : Int) (a b : List UInt8) : cnt lo hi (a ++ b) = cnt lo hi a + cnt lo hi b := by
  simp [cnt]
/-- One byte that is out makes the whole count fall short. -/
theorem cnt_short (lo hi : Int) (s : ByteArray) (k : Nat) (h : k < s.size) (hc : inI lo hi (s[k].toNat : Int) = false) : cnt lo hi s.data.toList < s.size := by
  have e1 := cnt_append lo hi (s.data.toList.take (k + 1)) (s.data.toList.drop (k + 1))
  rw [List.take_append_drop] at e1
  have e2 := cnt_le lo hi (s.data.toList.take k)
  have e3 := cnt_le lo hi (s.data.toList.drop (k + 1))
  rw [take_le s k (by omega)] at e2
  rw [e1, take_snoc s k h, cnt_no hc]
  rw [List.length_drop] at e3
  have e4 : s.data.toList.length = s.size := by simp
  omega
theorem ret_bool {a b : Bool} (h : a = b) : Ending.returned (.bool a) = .returned (.bool b) := by rw [h]

theorem num_eq {a b : Int} (h : a = b) : Value.int .i64 a = .int .i64 b := by rw [h]
theorem step_cnt (lo hi : Int) (s : ByteArray) (k : Nat) (h : k < s.size) : Hid (((cnt lo hi (s.data.toList.take (k + 1)) : Nat) : Int) = ((cnt lo hi (s.data.toList.take k) : Nat) : Int) + if lo ≤ (s[k].toNat : Int) ∧ (s[k].toNat : Int) ≤ hi then 1 else 0) := by
  show _ = _
  rw [take_snoc s k h]
  by_cases hc : lo ≤ (s[k].toNat : Int) ∧ (s[k].toNat : Int) ≤ hi
  · rw [cnt_yes (by simp [inI, hc]), if_pos hc]
    omega
  · rw [cnt_no (by simp [inI]; omega), if_neg hc]
    omega

/-! ### the callees: 'isDigit', 'isLCAlpha', 'all' -/
theorem digit_yes (n : Int) (w : World) (h : inI 48 57 n = true) :
    Calls Try.prog 12 #[.int .u8 n] w fun e w' => e = .returned (.bool true) ∧ w' = w := by
  have h1 : 48 ≤ n := by simp [inI] at h; omega
  have h2 : n ≤ 57 := by simp [inI] at h; omega
  clear h
  go_enter Try.func12, Try.ntmps12
  go_wp2
  go_ret
  exact ⟨rfl, rfl⟩
theorem digit_no (n : Int) (w : World) (h : inI 48 57 n = false) :
    Calls Try.prog 12 #[.int .u8 n] w fun e w' => e = .returned (.bool false) ∧ w' = w := by
  have h1 : n < 48 ∨ 57 < n := by simp [inI] at h; omega
  clear h
  by_cases h2 : 48 ≤ n
  · have h3 : 57 < n := by omega
    clear h1
    go_enter Try.func12, Try.ntmps12
    go_wp2
    go_ret
    exact ⟨ret_bool (decide_eq_false (by omega)), rfl⟩
  · clear h1
    go_enter Try.func12, Try.ntmps12
    go_wp2
    go_ret
    exact ⟨rfl, rfl⟩
theorem alpha_yes (n : Int) (w : World) (h : inI 97 122 n = true) :
    Calls Try.prog 13 #[.int .u8 n] w fun e w' => e = .returned (.bool true) ∧ w' = w := by
  have h1 : 97 ≤ n := by simp [inI] at h; omega
  have h2 : n ≤ 122 := by simp [inI] at h; omega
  clear h
  go_enter Try.func13, Try.ntmps13
  go_wp2
  go_ret
  exact ⟨rfl, rfl⟩
theorem alpha_no (n : Int) (w : World) (h : inI 97 122 n = false) :
    Calls Try.prog 13 #[.int .u8 n] w fun e w' => e = .returned (.bool false) ∧ w' = w := by
  have h1 : n < 97 ∨ 122 < n := by simp [inI] at h; omega
  clear h
  by_cases h2 : 97 ≤ n
  · have h3 : 122 < n := by omega
    clear h1
    go_enter Try.func13, Try.ntmps13
    go_wp2
    go_ret
    exact ⟨ret_bool (decide_eq_false (by omega)), rfl⟩
  · clear h1
    go_enter Try.func13, Try.ntmps13
    go_wp2
    go_ret
    exact ⟨rfl, rfl⟩
/-- Do all bytes lie in 'lo..hi'? Said by the count. -/
def full (lo hi : Int) (s : ByteArray) : Bool := ((cnt lo hi s.data.toList : Nat) : Int) == (s.size : Int)
theorem full_no (lo hi : Int) (s : ByteArray) (k : Nat) (h : k < s.size) (hc : inI lo hi (s[k].toNat : Int) = false) : full lo hi s = false := by
  have := cnt_short lo hi s k h hc
  unfold full
  rw [beq_eq_false_iff_ne]
  omega
theorem full_yes (lo hi : Int) (s : ByteArray) (k : Nat) (h1 : k ≤ s.size) (h2 : ¬ k < s.size) (hc : cnt lo hi (s.data.toList.take k) = k) : full lo hi s = true := by
  have e : s.data.toList.take k = s.data.toList := List.take_of_length_le (by simp; omega)
  rw [e] at hc
  unfold full
  rw [beq_iff_eq]
  omega
theorem Hcnt_step {lo hi : Int} {s : ByteArray} {k : Nat} (h : k < s.size) (hc : inI lo hi (s[k].toNat : Int) = true) (hk : cnt lo hi (s.data.toList.take k) = k) : cnt lo hi (s.data.toList.take (k + 1)) = k + 1 := by
  rw [take_snoc s k h, cnt_yes hc, hk]
set_option maxHeartbeats 400000 in
theorem allDigit (s : ByteArray) (w : World) (hs : s.size ≤ 1048576) :
    Calls Try.prog 11 #[.string s, .func (.func 12) #[] #[]] w fun e w' => e = .returned (.bool (full 48 57 s)) ∧ w' = w := by
  go_enter Try.func11, Try.ntmps11
  go_wp2
  go_loop [8] (fun i => ∃ k : Nat, k ≤ s.size ∧ i = .int .i64 k ∧ Hid (cnt 48 57 (s.data.toList.take k) = k)) (fun i => s.size - (intOf i).toNat)
  case atStart => exact ⟨0, Nat.zero_le _, rfl, rfl⟩
  case round =>
    obtain ⟨k, hk, rfl, hc⟩ := hrel
    by_cases hlt : k < s.size
    · cases hb : inI 48 57 (s[k].toNat : Int) with
      | true =>
        have HB : Hid (inI 48 57 (s[k].toNat : Int) = true) := hb
        clear hb
        go_wp2_with (go_at_call 12; refine (digit_yes _ _ HB.out).mono ?_; rintro e w' ⟨rfl, rfl⟩)
        go_round
        case rel => exact ⟨k + 1, by omega, by go_num, Hcnt_step hlt HB.out hc.out⟩
        case measure => simp [intOf]; omega
      | false =>
        have HB : Hid (inI 48 57 (s[k].toNat : Int) = false) := hb
        clear hb
        go_wp2_with (go_at_call 12; refine (digit_no _ _ HB.out).mono ?_; rintro e w' ⟨rfl, rfl⟩)
        go_ret
        exact ⟨ret_bool (full_no 48 57 s k hlt HB.out).symm, rfl⟩
    · go_wp2
      go_ret
      exact ⟨ret_bool (full_yes 48 57 s k hk hlt hc.out).symm, rfl⟩
theorem allDigitZ (s : ByteArray) (w : World) (hs : s.size ≤ 1048576) :
    Calls Try.prog 6 #[.string s] w fun e w' => e = .returned (.bool (full 48 57 s)) ∧ w' = w := by
  go_enter Try.func6, Try.ntmps6
  go_wp2_with (go_at_call 11; refine (allDigit _ _ hs).mono ?_; rintro e w' ⟨rfl, rfl⟩)
  go_ret
  exact ⟨rfl, rfl⟩
set_option maxHeartbeats 400000 in
theorem allAlpha (s : ByteArray) (w : World) (hs : s.size ≤ 1048576) :
    Calls Try.prog 11 #[.string s, .func (.func 13) #[] #[]] w fun e w' => e = .returned (.bool (full 97 122 s)) ∧ w' = w := by
  go_enter Try.func11, Try.ntmps11
  go_wp2
  go_loop [8] (fun i => ∃ k : Nat, k ≤ s.size ∧ i = .int .i64 k ∧ Hid (cnt 97 122 (s.data.toList.take k) = k)) (fun i => s.size - (intOf i).toNat)
  case atStart => exact ⟨0, Nat.zero_le _, rfl, rfl⟩
  case round =>
    obtain ⟨k, hk, rfl, hc⟩ := hrel
    by_cases hlt : k < s.size
    · cases hb : inI 97 122 (s[k].toNat : Int) with
      | true =>
        have HB : Hid (inI 97 122 (s[k].toNat : Int) = true) := hb
        clear hb
        go_wp2_with (go_at_call 13; refine (alpha_yes _ _ HB.out).mono ?_; rintro e w' ⟨rfl, rfl⟩)
        go_round
        case rel => exact ⟨k + 1, by omega, by go_num, Hcnt_step hlt HB.out hc.out⟩
        case measure => simp [intOf]; omega
      | false =>
        have HB : Hid (inI 97 122 (s[k].toNat : Int) = false) := hb
        clear hb
        go_wp2_with (go_at_call 13; refine (alpha_no _ _ HB.out).mono ?_; rintro e w' ⟨rfl, rfl⟩)
        go_ret
        exact ⟨ret_bool (full_no 97 122 s k hlt HB.out).symm, rfl⟩
    · go_wp2
      go_ret
      exact ⟨ret_bool (full_yes 97 122 s k hk hlt hc.out).symm, rfl⟩
theorem allAlphaZ (s : ByteArray) (w : World) (hs : s.size ≤ 1048576) :
    Calls Try.prog 7 #[.string s] w fun e w' => e = .returned (.bool (full 97 122 s)) ∧ w' = w := by
  go_enter Try.func7, Try.ntmps7
  go_wp2_with (go_at_call 11; refine (allAlpha _ _ hs).mono ?_; rintro e w' ⟨rfl, rfl⟩)
  go_ret
  exact ⟨rfl, rfl⟩
theorem bytes_any (s : ByteArray) (w : World) (hs : ¬ (1048576 : Int) < s.size) :
    Calls Try.prog 5 #[.string s] w fun e w' => e = .returned (.bool true) ∧ w' = w := by
  go_enter Try.func5, Try.ntmps5
  go_wp2
  go_ret
  exact ⟨rfl, rfl⟩

/-! ### THE WALK -/
theorem walk (a0 : ByteArray) (w0 : a0.size ≤ maxLen) (w : World) :
    Calls Try.prog 3 #[.string a0] w fun e w' => e = .returned (.bool true) ∧ Grown w w' := by
  unfold maxLen at w0
  by_cases c1 : (1048576 : Int) < a0.size
  · go_enter Try.func3, Try.ntmps3
    go_wp2
    go_ret
    exact ⟨rfl, Grown.refl _⟩
  have hs : a0.size ≤ 1048576 := by omega
  go_enter Try.func3, Try.ntmps3
  go_wp2_with (go_at_call 5; refine (bytes_any _ _ c1).mono ?_; rintro e w' ⟨rfl, rfl⟩)
  go_loop [3, 4, 5] (fun nd nl q => ∃ k : Nat, k ≤ a0.size ∧ q = .int .i64 k ∧ nd = .int .i64 (cnt 48 57 (a0.data.toList.take k) : Nat) ∧ nl = .int .i64 (cnt 97 122 (a0.data.toList.take k) : Nat)) (fun _ _ q => a0.size - (intOf q).toNat)
  case atStart => exact ⟨0, Nat.zero_le _, rfl, rfl, rfl⟩
  case round =>
    obtain ⟨k, hk, rfl, rfl, rfl⟩ := hrel
    have hl := take_le a0 k hk
    have hd := cnt_le 48 57 (a0.data.toList.take k)
    have ha := cnt_le 97 122 (a0.data.toList.take k)
    rw [hl] at hd ha
    clear hl
    by_cases hlt : k < a0.size
    · have HD := step_cnt 48 57 a0 k hlt
      have HA := step_cnt 97 122 a0 k hlt
      generalize cnt 48 57 (a0.data.toList.take k) = nd at hd HD ⊢
      generalize cnt 97 122 (a0.data.toList.take k) = nl at ha HA ⊢
      go_wp2
      all_goals
        go_round
        case rel => exact ⟨k + 1, by omega, by go_num, num_eq (by rw [HD.out]; split <;> omega), num_eq (by rw [HA.out]; split <;> omega)⟩
        case measure => simp [intOf]; omega
    · have e : a0.data.toList.take k = a0.data.toList := List.take_of_length_le (by simp; omega)
      rw [e] at hd ha ⊢
      clear e
      have f1 : full 48 57 a0 = (((cnt 48 57 a0.data.toList : Nat) : Int) == (a0.size : Int)) := rfl
      have f2 : full 97 122 a0 = (((cnt 97 122 a0.data.toList : Nat) : Int) == (a0.size : Int)) := rfl
      go_wp2_with (first
        | (go_at_call 6; refine (allDigitZ _ _ hs).mono ?_; rintro e w' ⟨rfl, rfl⟩)
        | (go_at_call 7; refine (allAlphaZ _ _ hs).mono ?_; rintro e w' ⟨rfl, rfl⟩))
      go_ret
      exact ⟨rfl, Grown.refl _⟩

/-! ### THE ROW's STEP: WRITTEN OUT: LEAVE IT -/
set_option maxRecDepth 100000 in
theorem lifted (os : Os) (started : os.Started) (H : Type) (enc : TypeId × Value → H) :
    ReturnsInHanded {} Try.checked os 3 .any (Rows.fnAllAgreesWithCountsSpec.pre6 enc Try.prog Try.f3 Rows.fnAllAgreesWithCountsRow.domain false) (Rows.fnAllAgreesWithCountsSpec.post enc Try.prog Try.f3 false true false false) := by
  refine returnsInHanded_of_change (C := Try.checked) own started (by kernel_rfl) Try.func3
    (ChangeSpec.witness6 (enc := enc) (C := Try.checked) false ⟨#[], #[.string ByteArray.empty], []⟩ 8 (by kernel_rfl) (by kernel_rfl) (by kernel_rfl) (by kernel_rfl)) ?_
  intro W base args ds gs before hval0 hW hcnd _
  have hval : ∀ (j : Nat) t v, Try.f3.params[j]? = some t → args[j]? = some v → Value.okWide Try.prog W .any base t v := hval0
  have hW' := hW
  obtain ⟨p, q, hA0, hV, rfl, hfz, hnd⟩ := hW
  have hA : DataW.TrodAll enc Try.prog W 0 (fun _ => true) true Try.f3.params.toList args.toList ds p := hA0
  rw [Try.params3] at hA hval
  obtain ⟨v0, vs0, d0, ds0, p0, q0, hargs, rfl, rfl, h0, r0⟩ := trodAll_cons hA
  obtain ⟨rfl, rfl, rfl⟩ := trodAll_nil r0
  obtain rfl : args = #[v0] := by cases args; simp_all
  obtain ⟨rfl, rfl⟩ := trodVars_none hV
  obtain ⟨a0, rfl, rfl, rfl, w0⟩ := open_string Try.underlying9 (hval 0 9 v0 rfl rfl) h0
  clear hA0 hval0
  simp only [List.append_nil] at hW'
  refine (walk a0 w0 W).mono fun e W' ⟨he, hg⟩ => ?_
  subst he
  exact ⟨_, rfl, post_of_same (pa := []) (pv := []) hW' (fun _ _ _ => (trodAll_cons_mk (shut_bool Try.underlying4 _) trodAll_mk0)) (fun sp _ => (trodAll_cons_mk (shut_string Try.underlying9 w0) trodAll_mk0)) (fun _ _ => rfl) rfl
    (hg.frame _) hg.2.1 (ok_one (by kernel_rfl) rfl (okWide_bool_mk Try.underlying4 _))⟩

theorem over : Rows.fnAllAgreesWithCountsRow.holds Try.pinned (OpenSpec.ofChange Rows.fnAllAgreesWithCountsSpec) :=
  OpenClaim.holds_of_wide 3 Try.f3 rfl rfl rfl rfl rfl rfl rfl ⟨rfl, rfl, rfl, rfl, rfl⟩ rfl rfl rfl rfl rfl (by kernel_rfl) Try.func3 (by kernel_rfl)
    (of_decide_eq_true (by kernel_rfl)) (by unfold Func.isWrapper; first | (rw [if_pos (by decide +kernel)]; kernel_rfl) | (rw [if_neg (by decide +kernel)]; exact ⟨rfl, rfl⟩))
    (fun os started H enc _ => lifted os started H enc)

/-- ████ THE STATEMENT ████ -/
theorem proved : Rows.FnAllAgreesWithCountsSaid :=
  over
end Go.Proofs.Qxb6609210a.fnAllAgreesWithCounts
