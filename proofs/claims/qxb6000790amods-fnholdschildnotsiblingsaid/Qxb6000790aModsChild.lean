import Derived.Test.Qxb6000790aModsHolds
import Derived.Lib.SlBytesRow
namespace Go.Proofs.Qxb6000790aMods.Holds
open Go.RowKit

theorem Trym.info5 : (Trym.prog.info? 5).map (fun i => (i.zero, i.size, i.bytes)) = some (some (.int .u8 0), 1, 1) := by kernel_rfl

theorem bytes11 (a b : ByteArray) (s : Int) (c1 : ¬ 1048576 < (a.size : Int)) (c2 : ¬ 1048576 < (b.size : Int)) (c3 : ¬ 1048576 < (a.size : Int) + b.size) (w : World) :
    Calls Trym.prog 11 #[.string a, .string b, .int .u8 s] w fun e w' => e = .returned (.bool true) ∧ w = w' := by
  go_enter Trym.func11, Trym.ntmps11
  go_wp2
  go_ret
  exact ⟨rfl, rfl⟩

/-- A name that is dir, then the byte c, then anything: held just where c is the slash. -/
theorem holds_list (d n : ByteArray) (c : UInt8) (t : List UInt8) (h : n.data.toList = d.data.toList ++ c :: t) (hne : d.toList.isEmpty = false) : holdsP d n = decide (((c.toNat : Nat) : Int) = 47) := by
  have hsz : d.size < n.size := by
    have := congrArg List.length h
    simp at this
    omega
  have hix : n[d.size] = c := by
    show n.data[d.size]'(by simpa using hsz) = c
    have e : n.data.toList[d.size]? = some c := by rw [h]; simp
    have := List.getElem?_eq_some_iff.1 e
    obtain ⟨_, h2⟩ := this
    simpa using h2
  have hp : Lib.hasPrefix n.data.toList d.data.toList = true := by
    unfold Lib.hasPrefix
    rw [List.isPrefixOf_iff_prefix, h]
    exact List.prefix_append _ _
  unfold holdsP
  rw [if_neg (by rw [hne]; decide), dif_pos hsz, hix, hp]
  by_cases g : ((c.toNat : Nat) : Int) = 47
  · rw [if_pos g, decide_eq_true g]
  · rw [if_neg g, decide_eq_false g]

theorem child_yes (d r : ByteArray) (hne : d.toList.isEmpty = false) : holdsP d (d ++ ⟨#[47]⟩ ++ r) = true := by
  rw [holds_list d _ 47 r.data.toList (by simp) hne]; rfl
theorem child_no (d r : ByteArray) : holdsP (d ++ ⟨#[47]⟩ ++ r) d = false := by
  apply holds_short
  have e : (⟨#[47]⟩ : ByteArray).size = 1 := rfl
  simp [e]
  omega

/-- A byte as a value. -/
def bv (u : UInt8) : Value := .int .u8 (u.toNat : Nat)

theorem bv_one (l : List UInt8) : ∀ u ∈ l.map bv, u.oneCell' = true := by
  intro u hu
  obtain ⟨x, _, rfl⟩ := List.mem_map.1 hu
  rfl
theorem take_snoc (s : ByteArray) (k : Nat) (h : k < s.size) : s.data.toList.take (k + 1) = s.data.toList.take k ++ [s[k]] := by
  rw [List.take_succ_eq_append_getElem (by simpa using h)]; rfl

theorem size_list (l : List UInt8) : (⟨l.toArray⟩ : ByteArray).size = l.length := List.size_toArray

/-- What a row of bytes of the call's own reads as, made a string. -/
theorem run_string (w : World) (B : Nat) (l : List UInt8) (cap : Nat) (h : w.ownsRow B 5 1 (.slice (some ⟨B, 0, none⟩) l.length cap) l.length (l.map bv)) :
    (convert 25 9 (.slice (some ⟨B, 0, none⟩) l.length cap)).run Trym.prog w = .ok (.string ⟨l.toArray⟩) w := by
  have hb : Lib.Bytes w B 0 ⟨l.toArray⟩ := by
    intro i hi
    have hi' : i < l.length := by rw [size_list] at hi; exact hi
    have := h.cells (g := B) rfl i (bv l[i]) (by simp [hi'])
    have e : (⟨B, 0, none⟩ : Addr).add i = ⟨B, 0 + i, none⟩ := by unfold Addr.add; split <;> simp_all
    rw [e] at this
    rw [this]
    rfl
  have := Lib.run_convert_whole (P := Trym.prog) w 25 5 9 Trym.underlying25 Trym.underlying5 Trym.underlying9 B 0 ⟨l.toArray⟩ hb cap
  rw [size_list] at this
  exact this

set_option maxHeartbeats 1000000 in
set_option maxRecDepth 100000 in
theorem child_main (d r : ByteArray) (sep : UInt8) (w : World) (c1 : ¬ 1048576 < (d.size : Int)) (c2 : ¬ 1048576 < (r.size : Int)) (c3 : ¬ 1048576 < (d.size : Int) + r.size) (hne : d.toList.isEmpty = false) (hsep : ((sep.toNat : Int) != 47) = true) :
    Calls Trym.prog 5 #[.string d, .string r, .int .u8 (sep.toNat : Nat)] w fun e w' => e = .returned (.bool true) ∧ Below w.heap.size w w' := by
  have HB : ∀ w, Hid (Calls Trym.prog 11 #[.string d, .string r, .int .u8 (sep.toNat : Nat)] w fun e w' => e = .returned (.bool true) ∧ w = w') := fun w => bytes11 d r sep.toNat c1 c2 c3 w
  have hyes := child_yes d r hne
  have hno := child_no d r
  obtain ⟨i0, hi, hz0, hz1, hz2⟩ := info_parts Trym.info5
  go_enter Trym.func5, Trym.ntmps5
  go_wp2_with (first
      | (go_at_call 11; refine (HB _).out.mono ?_; rintro e w' ⟨rfl, rfl⟩)
      | (go_at_call 9; refine (zzHolds_any _ _ _).mono ?_; rintro e w' ⟨rfl, rfl⟩)
      | (at_make; refine wpList_make_own _ rfl _ _ 25 rfl w.heap.size 5 i0 (.int .u8 0) 1 Trym.underlying25 hi hz0 hz1 _ _ _ (d.size + 1 + r.size) rfl rfl (by omega) (by rw [hz2]; omega) (by unfold maxLen; omega) (Nat.le_refl _) ?_; intro w0 hown0 hgrow0))
  have b0 : Hid (Below w.heap.size w w0) := (Below.refl _ _).grown hgrow0 (Nat.le_refl _) (fun k h => by cases h)
  clear hgrow0
  go_loopw [8, 9] (fun nb i wr => ∃ k : Nat, k ≤ d.size ∧ i = .int .i64 k ∧ nb = .slice (some ⟨w.heap.size, 0, none⟩) k (d.size + 1 + r.size) ∧ wr.ownsRow w.heap.size 5 1 (.slice (some ⟨w.heap.size, 0, none⟩) k (d.size + 1 + r.size)) k ((d.data.toList.take k).map bv) ∧ Below w.heap.size w wr) (fun _ i _ => d.size - (intOf i).toNat)
  case atStart => exact ⟨0, Nat.zero_le _, rfl, rfl, hown0, b0.out⟩
  case round =>
    obtain ⟨k, hk, rfl, rfl, hown, hnx⟩ := hrel
    by_cases hlt : k < d.size
    · have hlt' : (k : Int) < d.size := by omega
      have hts : Hid (d.data.toList.take (k + 1) = d.data.toList.take k ++ [d[k]]) := take_snoc d k hlt
      have HX : Hid (Below w.heap.size w wr) := hnx
      clear hnx
      go_wp2_with (at_builtin; refine wpList_append_fits _ rfl (.tmp 60) (.tmp 64) 25 rfl w.heap.size 5 i0 1 Trym.underlying25 hi hz1 w.heap.size k (d.size + 1 + r.size) _ rfl (hown.alloc _) ⟨wr.heap.size, 0, none⟩ 1 1 [bv d[k]] rfl rfl (by intro t u ht; match t, ht with | 0, ht => simp at ht; subst ht; simp [Addr.add, bv]) (by intro u hu; simp at hu; subst hu; rfl) (by omega) ?_; intro w1 hown1 hgrow1)
      go_roundw
      case rel => exact ⟨k + 1, by omega, by go_num, rfl, by rw [hts.out, List.map_append]; exact hown1, (HX.out.alloc HX.out.size _).grown hgrow1 (by simp; have := HX.out.size; omega) (fun k hk => by cases hk; exact Nat.le_refl _)⟩
      case measure => simp [intOf]; omega
    · have hkd : k = d.size := by omega
      subst hkd
      rw [List.take_of_length_le (by simp)] at hown
      have HX : Hid (Below w.heap.size w wr) := hnx
      clear hnx
      go_wp2_with (at_builtin; refine wpList_append_fits _ rfl (.tmp 66) (.tmp 68) 25 rfl w.heap.size 5 i0 1 Trym.underlying25 hi hz1 w.heap.size d.size (d.size + 1 + r.size) _ rfl (hown.alloc _) ⟨wr.heap.size, 0, none⟩ 1 1 [bv sep] rfl rfl (by intro t u ht; match t, ht with | 0, ht => simp at ht; subst ht; simp [Addr.add, bv]) (by intro u hu; simp at hu; subst hu; rfl) (by omega) ?_; intro w1 hown1 hgrow1)
      have HX1 : Hid (Below w.heap.size w w1) := (HX.out.alloc HX.out.size _).grown hgrow1 (by simp; have := HX.out.size; omega) (fun k hk => by cases hk; exact Nat.le_refl _)
      clear hgrow1 HX hown
      go_loopw [8, 10] (fun nb i wr => ∃ k : Nat, k ≤ r.size ∧ i = .int .i64 k ∧ nb = .slice (some ⟨w.heap.size, 0, none⟩) (d.size + 1 + k) (d.size + 1 + r.size) ∧ wr.ownsRow w.heap.size 5 1 (.slice (some ⟨w.heap.size, 0, none⟩) (d.size + 1 + k) (d.size + 1 + r.size)) (d.size + 1 + k) (d.data.toList.map bv ++ [bv sep] ++ (r.data.toList.take k).map bv) ∧ Below w.heap.size w wr) (fun _ i _ => r.size - (intOf i).toNat)
      case atStart => exact ⟨0, Nat.zero_le _, rfl, rfl, by simpa using hown1, HX1.out⟩
      case round =>
        obtain ⟨k, hk, rfl, rfl, hown, hnx⟩ := hrel
        by_cases hlt : k < r.size
        · have hlt' : (k : Int) < r.size := by omega
          have hts : Hid (r.data.toList.take (k + 1) = r.data.toList.take k ++ [r[k]]) := take_snoc r k hlt
          have HX : Hid (Below w.heap.size w wr) := hnx
          clear hnx
          go_wp2_with (at_builtin; refine wpList_append_fits _ rfl (.tmp 76) (.tmp 80) 25 rfl w.heap.size 5 i0 1 Trym.underlying25 hi hz1 w.heap.size (d.size + 1 + k) (d.size + 1 + r.size) _ rfl (hown.alloc _) ⟨wr.heap.size, 0, none⟩ 1 1 [bv r[k]] rfl rfl (by intro t u ht; match t, ht with | 0, ht => simp at ht; subst ht; simp [Addr.add, bv]) (by intro u hu; simp at hu; subst hu; rfl) (by omega) ?_; intro w1 hown1 hgrow1)
          go_roundw
          case rel => exact ⟨k + 1, by omega, by go_num, rfl, by rw [hts.out, List.map_append, ← List.append_assoc]; exact hown1, (HX.out.alloc HX.out.size _).grown hgrow1 (by simp; have := HX.out.size; omega) (fun k hk => by cases hk; exact Nat.le_refl _)⟩
          case measure => simp [intOf]; omega
        · have hkr : k = r.size := by omega
          subst hkr
          rw [List.take_of_length_le (by simp)] at hown
          have hl : (d.data.toList ++ sep :: r.data.toList).length = d.size + 1 + r.size := by simp; omega
          have hown2 : wr.ownsRow w.heap.size 5 1 (.slice (some ⟨w.heap.size, 0, none⟩) (d.data.toList ++ sep :: r.data.toList).length (d.size + 1 + r.size)) (d.data.toList ++ sep :: r.data.toList).length ((d.data.toList ++ sep :: r.data.toList).map bv) := by
            rw [hl]; simpa using hown
          have hstr := run_string wr w.heap.size _ _ hown2
          rw [hl] at hstr
          have hfalse : holdsP d ⟨(d.data.toList ++ sep :: r.data.toList).toArray⟩ = false := by
            rw [holds_list d _ sep r.data.toList rfl hne]
            simpa using hsep
          have HX : Hid (Below w.heap.size w wr) := hnx
          clear hnx hown hown2 hl
          go_wp2_with (go_at_call 9; refine (zzHolds_any _ _ _).mono ?_; rintro e w' ⟨rfl, rfl⟩)
          go_ret
          exact ⟨rfl, HX.out⟩

set_option maxHeartbeats 1000000 in
set_option maxRecDepth 100000 in
theorem child (d r : ByteArray) (sep : UInt8) (w : World) :
    Calls Trym.prog 5 #[.string d, .string r, .int .u8 (sep.toNat : Nat)] w fun e w' => e = .returned (.bool true) ∧ Below w.heap.size w w' := by
  by_cases c1 : 1048576 < (d.size : Int)
  · go_enter Trym.func5, Trym.ntmps5
    go_wp2
    go_ret
    exact ⟨rfl, Below.refl _ _⟩
  by_cases c2 : 1048576 < (r.size : Int)
  · go_enter Trym.func5, Trym.ntmps5
    go_wp2
    go_ret
    exact ⟨rfl, Below.refl _ _⟩
  by_cases c3 : 1048576 < (d.size : Int) + r.size
  · go_enter Trym.func5, Trym.ntmps5
    go_wp2
    go_ret
    exact ⟨rfl, Below.refl _ _⟩
  have HB : ∀ w, Hid (Calls Trym.prog 11 #[.string d, .string r, .int .u8 (sep.toNat : Nat)] w fun e w' => e = .returned (.bool true) ∧ w = w') := fun w => bytes11 d r sep.toNat c1 c2 c3 w
  cases hne : d.toList.isEmpty
  · cases hsep : ((sep.toNat : Int) != 47)
    · have hyes := child_yes d r hne
      have hno := child_no d r
      go_enter Trym.func5, Trym.ntmps5
      go_wp2_with (first
        | (go_at_call 11; refine (HB _).out.mono ?_; rintro e w' ⟨rfl, rfl⟩)
        | (go_at_call 9; refine (zzHolds_any _ _ _).mono ?_; rintro e w' ⟨rfl, rfl⟩))
      go_ret
      exact ⟨rfl, Below.refl _ _⟩
    · exact child_main d r sep w c1 c2 c3 hne hsep
  · go_enter Trym.func5, Trym.ntmps5
    go_wp2_with (go_at_call 11; refine (HB _).out.mono ?_; rintro e w' ⟨rfl, rfl⟩)
    go_ret
    exact ⟨rfl, Below.refl _ _⟩
end Go.Proofs.Qxb6000790aMods.Holds
