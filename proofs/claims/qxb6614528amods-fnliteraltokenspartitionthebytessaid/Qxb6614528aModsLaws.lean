import Derived.Test.Qxb6614528aModsLiteral
namespace Go.Proofs.Qxb6614528aMods.Lit
open Go.RowKit

theorem lowP_nat (d : Nat) : lowP d = (lowN d : Nat) := by
  unfold lowP lowN
  by_cases h : 65 ≤ d ∧ d ≤ 90
  · rw [if_pos h, if_pos (by omega)]; omega
  · rw [if_neg h, if_neg (by omega)]

/-- zzSetHas of literal(c, fold)'s set. -/
theorem setHas_lit (c d : Nat) (hc : c < 256) (hd : d < 256) (fold : Bool) (w : World) (b : Bool) (hb : (if fold then lowN d == c else d == c) = b) :
    Calls Trym.prog 7 #[.agg #[.int .u64 (litW c fold 0), .int .u64 (litW c fold 1), .int .u64 (litW c fold 2), .int .u64 (litW c fold 3)], .int .u8 d] w fun e w' => e = .returned (.bool b) ∧ Grown w w' := by
  have h := setHas_any (litW c fold) (litW_lt c fold) d hd w
  rw [lit_bit c d hc fold, hb] at h
  exact h

set_option maxHeartbeats 1000000 in
set_option maxRecDepth 100000 in
theorem law3_keep (c : Nat) (hc : c < 256) (w : World) :
    Calls Trym.prog 3 #[.int .u8 c, .bool false] w fun e w' => e = .returned (.bool true) ∧ Grown w w' := by
  have HL : ∀ w, Hid (Calls Trym.prog 5 #[.int .u8 c, .bool false] w fun e w' =>
      e = .returned (.tuple #[.int .u8 0, .agg #[.int .u64 (litW c false 0), .int .u64 (litW c false 1), .int .u64 (litW c false 2), .int .u64 (litW c false 3)]]) ∧ Grown w w') := fun w => zzLiteral_any c hc false w
  have HS : ∀ (d : Nat) (w : World) (b : Bool), d < 256 → (d == c) = b → Hid (Calls Trym.prog 7 #[.agg #[.int .u64 (litW c false 0), .int .u64 (litW c false 1), .int .u64 (litW c false 2), .int .u64 (litW c false 3)], .int .u8 d] w fun e w' => e = .returned (.bool b) ∧ Grown w w') :=
    fun d w b hd hb => setHas_lit c d hc hd false w b hb
  generalize litW c false 0 = u0 at *
  generalize litW c false 1 = u1 at *
  generalize litW c false 2 = u2 at *
  generalize litW c false 3 = u3 at *
  go_enter Trym.func3, Trym.ntmps3
  go_wp2_with (go_at_call 5; refine (HL _).out.mono ?_; rintro e w1 ⟨rfl, hg⟩)
  have GH : Hid (Grown w w1) := hg
  clear hg
  go_loopw [7] (fun i wr => ∃ k : Nat, k ≤ 256 ∧ i = .int .i64 k ∧ Grown (w1.alloc (.cells #[.int .u64 u0, .int .u64 u1, .int .u64 u2, .int .u64 u3] 23)) wr) (fun i _ => (256 - intOf i).toNat)
  case atStart => exact ⟨0, by omega, rfl, Grown.refl _⟩
  case round =>
    obtain ⟨k, hk, rfl, hg⟩ := hrel
    have hcell : ∀ i, wr.cell? ⟨w1.heap.size, i, none⟩ = (w1.alloc (.cells #[.int .u64 u0, .int .u64 u1, .int .u64 u2, .int .u64 u3] 23)).cell? ⟨w1.heap.size, i, none⟩ := fun i => grown_cell hg (by simp)
    have k0 := hcell 0
    have k1 := hcell 1
    have k2 := hcell 2
    have k3 := hcell 3
    rw [World.cell?_alloc_new] at k0 k1 k2 k3
    have GR : Hid (Grown (w1.alloc (.cells #[.int .u64 u0, .int .u64 u1, .int .u64 u2, .int .u64 u3] 23)) wr) := hg
    clear hg hcell
    by_cases hlt : k < 256
    · have hlt' : (k : Int) < 256 := by omega
      by_cases hkc : k = c
      · have hb : ((k : Int) == (c : Int)) = true := by simp [hkc]
        have HK := fun w => HS k w true hlt (by simp [hkc])
        clear hkc
        go_wp2_with (go_at_call 7; refine (HK _).out.mono ?_; rintro e w' ⟨rfl, hg'⟩)
        go_roundw
        case rel => exact ⟨k + 1, by omega, by go_num, grown_trans GR.out hg'⟩
        case measure => simp [intOf]; omega
      · have hb : ((k : Int) == (c : Int)) = false := by simp; omega
        have HK := fun w => HS k w false hlt (by simp [hkc])
        clear hkc
        go_wp2_with (go_at_call 7; refine (HK _).out.mono ?_; rintro e w' ⟨rfl, hg'⟩)
        go_roundw
        case rel => exact ⟨k + 1, by omega, by go_num, grown_trans GR.out hg'⟩
        case measure => simp [intOf]; omega
    · go_wp2
      go_ret
      exact ⟨rfl, grown_trans (GH.out.alloc _ _) GR.out⟩
set_option maxHeartbeats 1000000 in
set_option maxRecDepth 100000 in
theorem law3_fold (c : Nat) (hc : c < 256) (w : World) :
    Calls Trym.prog 3 #[.int .u8 c, .bool true] w fun e w' => e = .returned (.bool true) ∧ Grown w w' := by
  have HL : ∀ w, Hid (Calls Trym.prog 5 #[.int .u8 c, .bool true] w fun e w' =>
      e = .returned (.tuple #[.int .u8 0, .agg #[.int .u64 (litW c true 0), .int .u64 (litW c true 1), .int .u64 (litW c true 2), .int .u64 (litW c true 3)]]) ∧ Grown w w') := fun w => zzLiteral_any c hc true w
  have HS : ∀ (d : Nat) (w : World) (b : Bool), d < 256 → (lowN d == c) = b → Hid (Calls Trym.prog 7 #[.agg #[.int .u64 (litW c true 0), .int .u64 (litW c true 1), .int .u64 (litW c true 2), .int .u64 (litW c true 3)], .int .u8 d] w fun e w' => e = .returned (.bool b) ∧ Grown w w') :=
    fun d w b hd hb => setHas_lit c d hc hd true w b hb
  generalize litW c true 0 = u0 at *
  generalize litW c true 1 = u1 at *
  generalize litW c true 2 = u2 at *
  generalize litW c true 3 = u3 at *
  go_enter Trym.func3, Trym.ntmps3
  go_wp2_with (go_at_call 5; refine (HL _).out.mono ?_; rintro e w1 ⟨rfl, hg⟩)
  have GH : Hid (Grown w w1) := hg
  clear hg
  go_loopw [7] (fun i wr => ∃ k : Nat, k ≤ 256 ∧ i = .int .i64 k ∧ Grown (w1.alloc (.cells #[.int .u64 u0, .int .u64 u1, .int .u64 u2, .int .u64 u3] 23)) wr) (fun i _ => (256 - intOf i).toNat)
  case atStart => exact ⟨0, by omega, rfl, Grown.refl _⟩
  case round =>
    obtain ⟨k, hk, rfl, hg⟩ := hrel
    have hcell : ∀ i, wr.cell? ⟨w1.heap.size, i, none⟩ = (w1.alloc (.cells #[.int .u64 u0, .int .u64 u1, .int .u64 u2, .int .u64 u3] 23)).cell? ⟨w1.heap.size, i, none⟩ := fun i => grown_cell hg (by simp)
    have k0 := hcell 0
    have k1 := hcell 1
    have k2 := hcell 2
    have k3 := hcell 3
    rw [World.cell?_alloc_new] at k0 k1 k2 k3
    have GR : Hid (Grown (w1.alloc (.cells #[.int .u64 u0, .int .u64 u1, .int .u64 u2, .int .u64 u3] 23)) wr) := hg
    clear hg hcell
    by_cases hlt : k < 256
    · have hlt' : (k : Int) < 256 := by omega
      have HF : ∀ w, Hid (Calls Trym.prog 6 #[.int .u8 k] w fun e w' => e = .returned (.int .u8 (lowN k : Nat)) ∧ w' = w) := fun w => by rw [← lowP_nat]; exact fold_any k (by omega) (by omega) w
      by_cases hkc : lowN k = c
      · have hb : (((lowN k : Nat) : Int) == (c : Int)) = true := by simp [hkc]
        have HK := fun w => HS k w true hlt (by simp [hkc])
        clear hkc
        go_wp2_with (first
          | (go_at_call 6; refine (HF _).out.mono ?_; rintro e w' ⟨rfl, rfl⟩)
          | (go_at_call 7; refine (HK _).out.mono ?_; rintro e w' ⟨rfl, hg'⟩))
        go_roundw
        case rel => exact ⟨k + 1, by omega, by go_num, grown_trans GR.out hg'⟩
        case measure => simp [intOf]; omega
      · have hb : (((lowN k : Nat) : Int) == (c : Int)) = false := by simp; omega
        have HK := fun w => HS k w false hlt (by simp [hkc])
        clear hkc
        go_wp2_with (first
          | (go_at_call 6; refine (HF _).out.mono ?_; rintro e w' ⟨rfl, rfl⟩)
          | (go_at_call 7; refine (HK _).out.mono ?_; rintro e w' ⟨rfl, hg'⟩))
        go_roundw
        case rel => exact ⟨k + 1, by omega, by go_num, grown_trans GR.out hg'⟩
        case measure => simp [intOf]; omega
    · go_wp2
      go_ret
      exact ⟨rfl, grown_trans (GH.out.alloc _ _) GR.out⟩

/-- The byte of the one token that takes d. -/
def tgt (d : Nat) (fold : Bool) : Nat := if fold then lowN d else d
theorem lowN_lt (d : Nat) (h : d < 256) : lowN d < 256 := by unfold lowN; split <;> omega
theorem tgt_lt (d : Nat) (h : d < 256) (fold : Bool) : tgt d fold < 256 := by
  cases fold
  · exact h
  · exact lowN_lt d h
def cnt (t k : Nat) : Int := if t < k then 1 else 0
theorem cnt_zero (t : Nat) : cnt t 0 = 0 := rfl
theorem cnt_hit (k : Nat) : cnt k k = 0 ∧ cnt k (k + 1) = 1 := ⟨if_neg (by omega), if_pos (by omega)⟩
theorem cnt_miss (t k : Nat) (h : ¬ t = k) : cnt t (k + 1) = cnt t k := by
  unfold cnt
  by_cases g : t < k
  · rw [if_pos g, if_pos (by omega)]
  · rw [if_neg g, if_neg (by omega)]
theorem cnt_end (t : Nat) (h : t < 256) : cnt t 256 = 1 := if_pos h
theorem cnt_bd (t k : Nat) : 0 ≤ cnt t k ∧ cnt t k ≤ 1 := by unfold cnt; split <;> omega

set_option maxHeartbeats 1000000 in
set_option maxRecDepth 100000 in
theorem law4 (d : Nat) (hd : d < 256) (fold : Bool) (w : World) :
    Calls Trym.prog 4 #[.int .u8 d, .bool fold] w fun e w' => e = .returned (.bool true) ∧ Grown w w' := by
  obtain ⟨T, hT⟩ : ∃ T : Nat, T = tgt d fold := ⟨_, rfl⟩
  have hTl : T < 256 := by rw [hT]; exact tgt_lt d hd fold
  have HS : ∀ (c : Nat) (w : World) (b : Bool), c < 256 → (T == c) = b → Hid (Calls Trym.prog 7 #[.agg #[.int .u64 (litW c fold 0), .int .u64 (litW c fold 1), .int .u64 (litW c fold 2), .int .u64 (litW c fold 3)], .int .u8 d] w fun e w' => e = .returned (.bool b) ∧ Grown w w') := by
    intro c w b hc hb
    refine setHas_lit c d hc hd fold w b ?_
    rw [← hb, hT]
    cases fold <;> rfl
  have HF : fold = true → ∀ w, Hid (Calls Trym.prog 6 #[.int .u8 d] w fun e w' => e = .returned (.int .u8 T) ∧ w = w') := by
    intro hf w
    have h := fold_any d (by omega) (by omega) w
    rw [lowP_nat] at h
    rw [hT, hf]
    exact h.mono fun e w' ⟨he, hw⟩ => ⟨he, hw.symm⟩
  have hTf : fold = false → T = d := by intro hf; rw [hT, hf]; rfl
  clear hT
  cases fold
  · have e := hTf rfl
    subst e
    clear hTf HF
    go_enter Trym.func4, Trym.ntmps4
    go_wp2
    go_loopw [6, 7] (fun q i wr => ∃ k : Nat, k ≤ 256 ∧ i = .int .i64 k ∧ q = .int .i64 (cnt T k) ∧ Grown w wr) (fun _ i _ => (256 - intOf i).toNat)
    case atStart => exact ⟨0, by omega, rfl, by rw [cnt_zero], Grown.refl _⟩
    case round =>
      obtain ⟨k, hk, rfl, rfl, hg⟩ := hrel
      have GR : Hid (Grown w wr) := hg
      clear hg
      obtain ⟨n0, n1⟩ := cnt_bd T k
      by_cases hlt : k < 256
      · have hlt' : (k : Int) < 256 := by omega
        have HL : ∀ w, Hid (Calls Trym.prog 5 #[.int .u8 k, .bool false] w fun e w' =>
          e = .returned (.tuple #[.int .u8 0, .agg #[.int .u64 (litW k false 0), .int .u64 (litW k false 1), .int .u64 (litW k false 2), .int .u64 (litW k false 3)]]) ∧ Grown w w') := fun w => zzLiteral_any k hlt false w
        by_cases hkc : T = k
        · have HK := fun w => HS k w true hlt (by simp [hkc])
          have HC : Hid (cnt T k = 0 ∧ cnt T (k + 1) = 1) := by rw [hkc]; exact cnt_hit k
          have hne : ((k : Int) != (T : Int)) = false := by simp [hkc]
          generalize litW k false 0 = u0 at *
          generalize litW k false 1 = u1 at *
          generalize litW k false 2 = u2 at *
          generalize litW k false 3 = u3 at *
          clear hkc HS
          go_wp2_with (first
            | (go_at_call 5; refine (HL _).out.mono ?_; rintro e w1 ⟨rfl, hg1⟩)
            | (go_at_call 7; refine (HK _).out.mono ?_; rintro e w2 ⟨rfl, hg2⟩))
          go_roundw
          case rel => exact ⟨k + 1, by omega, by go_num, by have := HC.out; exact congrArg (Value.int .i64) (by omega), grown_trans GR.out (grown_trans hg1 (grown_trans ((Grown.refl _).alloc _ _) hg2))⟩
          case measure => simp [intOf]; omega
        · have HK := fun w => HS k w false hlt (by simp [hkc])
          have HC : Hid (cnt T (k + 1) = cnt T k) := cnt_miss T k hkc
          generalize litW k false 0 = u0 at *
          generalize litW k false 1 = u1 at *
          generalize litW k false 2 = u2 at *
          generalize litW k false 3 = u3 at *
          clear hkc HS
          go_wp2_with (first
            | (go_at_call 5; refine (HL _).out.mono ?_; rintro e w1 ⟨rfl, hg1⟩)
            | (go_at_call 7; refine (HK _).out.mono ?_; rintro e w2 ⟨rfl, hg2⟩))
          go_roundw
          case rel => exact ⟨k + 1, by omega, by go_num, by rw [HC.out], grown_trans GR.out (grown_trans hg1 (grown_trans ((Grown.refl _).alloc _ _) hg2))⟩
          case measure => simp [intOf]; omega
      · have hk256 : k = 256 := by omega
        subst hk256
        have hce := cnt_end T hTl
        go_wp2
        go_ret
        exact ⟨by simp, GR.out⟩
  · have HF' := HF rfl
    clear hTf HF
    go_enter Trym.func4, Trym.ntmps4
    go_wp2_with (go_at_call 6; refine (HF' _).out.mono ?_; rintro e w' ⟨rfl, rfl⟩)
    clear HF'
    go_loopw [6, 7] (fun q i wr => ∃ k : Nat, k ≤ 256 ∧ i = .int .i64 k ∧ q = .int .i64 (cnt T k) ∧ Grown w wr) (fun _ i _ => (256 - intOf i).toNat)
    case atStart => exact ⟨0, by omega, rfl, by rw [cnt_zero], Grown.refl _⟩
    case round =>
      obtain ⟨k, hk, rfl, rfl, hg⟩ := hrel
      have GR : Hid (Grown w wr) := hg
      clear hg
      obtain ⟨n0, n1⟩ := cnt_bd T k
      by_cases hlt : k < 256
      · have hlt' : (k : Int) < 256 := by omega
        have HL : ∀ w, Hid (Calls Trym.prog 5 #[.int .u8 k, .bool true] w fun e w' =>
          e = .returned (.tuple #[.int .u8 0, .agg #[.int .u64 (litW k true 0), .int .u64 (litW k true 1), .int .u64 (litW k true 2), .int .u64 (litW k true 3)]]) ∧ Grown w w') := fun w => zzLiteral_any k hlt true w
        by_cases hkc : T = k
        · have HK := fun w => HS k w true hlt (by simp [hkc])
          have HC : Hid (cnt T k = 0 ∧ cnt T (k + 1) = 1) := by rw [hkc]; exact cnt_hit k
          have hne : ((k : Int) != (T : Int)) = false := by simp [hkc]
          generalize litW k true 0 = u0 at *
          generalize litW k true 1 = u1 at *
          generalize litW k true 2 = u2 at *
          generalize litW k true 3 = u3 at *
          clear hkc HS
          go_wp2_with (first
            | (go_at_call 5; refine (HL _).out.mono ?_; rintro e w1 ⟨rfl, hg1⟩)
            | (go_at_call 7; refine (HK _).out.mono ?_; rintro e w2 ⟨rfl, hg2⟩))
          go_roundw
          case rel => exact ⟨k + 1, by omega, by go_num, by have := HC.out; exact congrArg (Value.int .i64) (by omega), grown_trans GR.out (grown_trans hg1 (grown_trans ((Grown.refl _).alloc _ _) hg2))⟩
          case measure => simp [intOf]; omega
        · have HK := fun w => HS k w false hlt (by simp [hkc])
          have HC : Hid (cnt T (k + 1) = cnt T k) := cnt_miss T k hkc
          generalize litW k true 0 = u0 at *
          generalize litW k true 1 = u1 at *
          generalize litW k true 2 = u2 at *
          generalize litW k true 3 = u3 at *
          clear hkc HS
          go_wp2_with (first
            | (go_at_call 5; refine (HL _).out.mono ?_; rintro e w1 ⟨rfl, hg1⟩)
            | (go_at_call 7; refine (HK _).out.mono ?_; rintro e w2 ⟨rfl, hg2⟩))
          go_roundw
          case rel => exact ⟨k + 1, by omega, by go_num, by rw [HC.out], grown_trans GR.out (grown_trans hg1 (grown_trans ((Grown.refl _).alloc _ _) hg2))⟩
          case measure => simp [intOf]; omega
      · have hk256 : k = 256 := by omega
        subst hk256
        have hce := cnt_end T hTl
        go_wp2
        go_ret
        exact ⟨by simp, GR.out⟩
end Go.Proofs.Qxb6614528aMods.Lit
