import Derived.Test.Qxb6614125aModsShims
namespace Go.Proofs.Qxb6614125aMods.Cur
open Go.RowKit

theorem ret_true {b : Bool} (h : b = true) : Ending.returned (.bool b) = .returned (.bool true) := by rw [h]

theorem eqIn (d n : Nat) (w : World) : (Op.equalIn (d + 1) 41 (.pointer (some ⟨n, 0, none⟩)) (.pointer (some ⟨n, 0, none⟩))).run Trym.prog w = .ok true w := by
  simp [Op.equalIn, run_underlying Trym.underlying41, sameAddr]
theorem eqAt (n : Nat) (w : World) : (Op.equal 41 (.pointer (some ⟨n, 0, none⟩)) (.pointer (some ⟨n, 0, none⟩))).run Trym.prog w = .ok true w := eqIn 9999 n w
theorem ptr_neq (n : Nat) (w : World) : (binOp .neq 41 (.pointer (some ⟨n, 0, none⟩)) (.pointer (some ⟨n, 0, none⟩))).run Trym.prog w = .ok (.bool false) w := by
  simp only [binOp]
  simp [eqAt n w]

theorem cell_new (w : World) (cs : Array Value) (t : TypeId) (k : Nat) (v : Value) (h : cs[k]? = some v) : (w.alloc (.cells cs t)).cell? ⟨w.heap.size, k, none⟩ = some v := by
  rw [World.cell?_alloc_new]; exact h

theorem misN_nonpos (m : Int) (h : m ≤ 0) : misN m = 0 := by unfold misN; rw [if_pos (by omega)]; omega
theorem misN_pos (m : Int) (h : 0 < m) : ∃ k, misN m = k + 1 := by
  unfold misN; split
  · exact ⟨m.toNat - 1, by omega⟩
  · exact ⟨15, rfl⟩
theorem winP_succ_le (ny b : Int) (k : Nat) : winP ny b (k + 1) ≤ ny := by
  show (if 4 * winP ny b k ≤ ny then 4 * winP ny b k else ny) ≤ ny
  split <;> omega
theorem twoP_same (A B : Int) (h : A ≤ 64) : twoP A B B = A := by unfold twoP; omega
theorem twoP_bd (A W B : Int) (h : A ≤ 64) : A ≤ twoP A W B ∧ twoP A W B ≤ 64 := by unfold twoP; omega
theorem quarter (R : Nat) (nx : Int) (r1 : (R : Int) * R ≤ nx) (r2 : nx < ((R : Int) + 1) * (R + 1)) :
    (4 * ((R : Int) / 4)) * (4 * ((R : Int) / 4)) ≤ nx ∧ nx < (4 * ((R : Int) / 4) + 4) * (4 * ((R : Int) / 4) + 4) := by
  constructor
  · exact Int.le_trans (Int.mul_le_mul (by omega) (by omega) (by omega) (by omega)) r1
  · exact Int.lt_of_lt_of_le r2 (Int.mul_le_mul (by omega) (by omega) (by omega) (by omega))
theorem ancP_false (A nx ny m : Int) (R : Nat) : ancP A nx ny m R false = twoP A (winP ny (basP nx ny R) (misN m)) (basP nx ny R) := by
  unfold ancP; simp
theorem ancP_zero (A nx ny : Int) (R : Nat) : ancP A nx ny 0 R true = oneP A (offP nx ny) := by
  unfold ancP; simp
theorem ancP_true (A nx ny m : Int) (R : Nat) (h : ¬ m = 0) : ancP A nx ny m R true = twoP A (winP ny (basP nx ny R) (misN m)) (basP nx ny R) := by
  unfold ancP; simp [h]

theorem zzBitLen_int (x : Int) (h0 : 0 ≤ x) (h1 : x ≤ 18446744073709551615) (v : Int) (hv : v = Lib.bitLen x.toNat) (w : World) :
    Calls Trym.prog 22 #[.int .u64 x] w fun e w' => e = .returned (.int .i64 v) ∧ w' = w := by
  obtain ⟨n, rfl⟩ := Int.eq_ofNat_of_zero_le h0
  subst hv
  exact zzBitLen_any n (by omega) w

/-- Both cursors, the worlds and all: what the law has in hand behind line 229. -/
theorem lies_first (w : World) (P1 Q1 : Array Value) (x nx y ny m A : Int) (on : Bool)
    (p0 : P1[0]? = some (.int .i64 x)) (p1 : P1[1]? = some (.int .i64 nx)) (p2 : P1[2]? = some (.int .i64 y)) (p3 : P1[3]? = some (.int .i64 ny)) (p16 : P1[16]? = some (.int .i64 m))
    (q0 : Q1[0]? = some (.int .i64 A)) (q10 : Q1[10]? = some (.bool on)) :
    Lies ((w.alloc (.cells P1 67)).alloc (.cells Q1 79)) w.heap.size (w.heap.size + 1) x nx y ny m A on := by
  have e : w.heap.size + 1 = (w.alloc (.cells P1 67)).heap.size := by simp
  have g : Grown (w.alloc (.cells P1 67)) ((w.alloc (.cells P1 67)).alloc (.cells Q1 79)) := (Grown.refl _).alloc _ _
  have s : w.heap.size < (w.alloc (.cells P1 67)).heap.size := by simp
  refine ⟨(grown_cell g s).trans (cell_new _ _ _ _ _ p0), (grown_cell g s).trans (cell_new _ _ _ _ _ p1), (grown_cell g s).trans (cell_new _ _ _ _ _ p2), (grown_cell g s).trans (cell_new _ _ _ _ _ p3), (grown_cell g s).trans (cell_new _ _ _ _ _ p16), ?_, ?_, by simp; omega, by simp⟩
  · rw [e]; exact cell_new _ _ _ _ _ q0
  · rw [e]; exact cell_new _ _ _ _ _ q10
theorem lies_second {w w' : World} {b c : Nat} (Q2 : Array Value) {x nx y ny m A : Int} {on : Bool} (on' : Bool) (L : Lies w b c x nx y ny m A on) (g : Grown w w')
    (q0 : Q2[0]? = some (.int .i64 A)) (q10 : Q2[10]? = some (.bool on')) : Lies (w'.alloc (.cells Q2 79)) b w'.heap.size x nx y ny m A on' := by
  have L2 := L.grown (g.alloc Q2 79)
  exact ⟨L2.b0, L2.b1, L2.b2, L2.b3, L2.b16, cell_new _ _ _ _ _ q0, cell_new _ _ _ _ _ q10, L2.bs, by simp⟩

set_option maxHeartbeats 2000000 in
set_option maxRecDepth 100000 in
theorem law (A H x nx y ny m : Int) (w : World) :
    Calls Trym.prog 6 #[.int .i64 A, .int .i64 H, .int .i64 x, .int .i64 nx, .int .i64 y, .int .i64 ny, .int .i64 m] w fun e w' => e = .returned (.bool true) ∧ Grown w w' := by
  by_cases g1 : A < 8
  · go_enter Trym.func6, Trym.ntmps6
    go_wp2
    go_ret
    exact ⟨rfl, Grown.refl _⟩
  by_cases g2 : 64 < A
  · go_enter Trym.func6, Trym.ntmps6
    go_wp2
    go_ret
    exact ⟨rfl, Grown.refl _⟩
  by_cases g3 : nx < 0
  · go_enter Trym.func6, Trym.ntmps6
    go_wp2
    go_ret
    exact ⟨rfl, Grown.refl _⟩
  by_cases g4 : 1152921504606846976 < nx
  · go_enter Trym.func6, Trym.ntmps6
    go_wp2
    go_ret
    exact ⟨rfl, Grown.refl _⟩
  by_cases g5 : ny < 0
  · go_enter Trym.func6, Trym.ntmps6
    go_wp2
    go_ret
    exact ⟨rfl, Grown.refl _⟩
  by_cases g6 : 1152921504606846976 < ny
  · go_enter Trym.func6, Trym.ntmps6
    go_wp2
    go_ret
    exact ⟨rfl, Grown.refl _⟩
  obtain ⟨R, r1, r2⟩ : ∃ R : Nat, (R : Int) * R ≤ nx ∧ nx < ((R : Int) + 1) * (R + 1) := by
    obtain ⟨R, h1, h2⟩ := root_ex nx.toNat
    refine ⟨R, ?_, ?_⟩
    · have : ((R * R : Nat) : Int) ≤ (nx.toNat : Int) := by omega
      rw [Int.natCast_mul] at this; omega
    · have : (nx.toNat : Int) < (((R + 1) * (R + 1) : Nat) : Int) := by omega
      rw [Int.natCast_mul, Int.natCast_add] at this; simp at this; omega
  have hR := root_small R nx r1 (by omega)
  obtain ⟨o0, o1⟩ := offP_bd nx ny
  obtain ⟨k1, k2⟩ := quarter R nx r1 r2
  have HC : ∀ (b c : Nat) (on : Bool) (w : World), Lies w b c x nx y ny m A on → Hid (Calls Trym.prog 18 #[.pointer (some ⟨c, 0, none⟩), .pointer (some ⟨b, 0, none⟩)] w fun e w' =>
      e = .returned (.tuple #[.pointer (some ⟨b, 0, none⟩), .int .i64 (ancP A nx ny m R on), .int .i64 x, .int .i64 y, .int .i64 (winP ny (basP nx ny R) (misN m)), .bool (on && (m == 0))]) ∧ Grown w w') :=
    fun b c on w L => zzCursor_any x nx y ny m A R b c on (by omega) (by omega) (by omega) (by omega) r1 r2 (by omega) (by omega) w L
  have HB : ∀ w, Hid (Calls Trym.prog 21 #[.int .i64 (basP nx ny R), .int .i64 (offP nx ny), .int .i64 nx] w fun e w' => e = .returned (.bool true) ∧ w' = w) :=
    fun w => zzIsBase_yes (basP nx ny R) ((R : Int) / 4) (offP nx ny) nx rfl (by omega) (by omega) o0 o1 k1 k2 w
  have HO : ∀ w, Hid (Calls Trym.prog 20 #[.int .i64 nx, .int .i64 ny] w fun e w' => e = .returned (.int .i64 (offP nx ny)) ∧ w' = w) :=
    fun w => zzOffset_any nx ny (by omega) (by omega) (by omega) (by omega) w
  obtain ⟨v, hv⟩ : ∃ v : Int, v = Lib.bitLen (offP nx ny + 1).toNat := ⟨_, rfl⟩
  have hl := bitLen_64 (offP nx ny + 1) (by omega)
  have v0 : 0 ≤ v := by omega
  have v1 : v ≤ 64 := by omega
  have HL : ∀ w, Hid (Calls Trym.prog 22 #[.int .u64 (offP nx ny + 1)] w fun e w' => e = .returned (.int .i64 v) ∧ w' = w) :=
    fun w => zzBitLen_int _ (by omega) (by omega) v hv w
  have HV : Hid (oneP A (offP nx ny) = min A (v + 8)) := by show _ = _; unfold oneP lenP; rw [hv]
  clear hv hl k1 k2 r1 r2
  by_cases hm : m = 0
  · subst hm
    have eOn := ancP_zero A nx ny R
    have eOff := ancP_false A nx ny 0 R
    have eN := misN_nonpos 0 (by omega)
    rw [eN] at eOff HC
    have eW : winP ny (basP nx ny R) 0 = basP nx ny R := rfl
    rw [eW] at eOff HC
    rw [twoP_same A _ (by omega)] at eOff
    rw [HV.out] at eOn
    have HC1 : ∀ (b c : Nat) (w : World), Lies w b c x nx y ny 0 A true → Hid (Calls Trym.prog 18 #[.pointer (some ⟨c, 0, none⟩), .pointer (some ⟨b, 0, none⟩)] w fun e w' =>
      e = .returned (.tuple #[.pointer (some ⟨b, 0, none⟩), .int .i64 (min A (v + 8)), .int .i64 x, .int .i64 y, .int .i64 (basP nx ny R), .bool true]) ∧ Grown w w') := by
      intro b c w L; have := HC b c true w L; rw [eOn] at this; exact this
    have HC2 : ∀ (b c : Nat) (w : World), Lies w b c x nx y ny 0 A false → Hid (Calls Trym.prog 18 #[.pointer (some ⟨c, 0, none⟩), .pointer (some ⟨b, 0, none⟩)] w fun e w' =>
      e = .returned (.tuple #[.pointer (some ⟨b, 0, none⟩), .int .i64 A, .int .i64 x, .int .i64 y, .int .i64 (basP nx ny R), .bool false]) ∧ Grown w w') := by
      intro b c w L; have := HC b c false w L; rw [eOff] at this; exact this
    clear HC eOn eOff eN eW HV
    generalize basP nx ny R = B at *
    generalize offP nx ny = off at *
    go_enter Trym.func6, Trym.ntmps6
    go_wp2_with fail
    refine (newPiece _ _ _ _ _ _).mono ?_
    rintro e w1 ⟨rfl, P1, rfl, p0, p1, p2, p3, p16⟩
    go_wp2_with fail
    refine (newPlan _ _ _ _).mono ?_
    rintro e w1 ⟨rfl, Q1, rfl, q0, q10⟩
    have LH : Hid (Lies _ _ _ _ _ _ _ _ _ _) := lies_first w P1 Q1 x nx y ny 0 A true p0 p1 p2 p3 p16 q0 q10
    clear p0 p1 p2 p3 p16 q0 q10
    go_wp2_with fail
    refine (HC1 _ _ _ LH.out).out.mono ?_
    rintro e w3 ⟨rfl, gr⟩
    have GH : Hid (Grown _ w3) := gr
    clear gr
    go_wp2_with fail
    refine (newPlan _ _ _ _).mono ?_
    rintro e w1 ⟨rfl, Q2, rfl, q0, q10⟩
    have LH2 : Hid (Lies _ _ _ _ _ _ _ _ _ _) := lies_second Q2 false LH.out GH.out q0 q10
    clear q0 q10
    go_wp2_with fail
    refine (HC2 _ _ _ LH2.out).out.mono ?_
    rintro e w5 ⟨rfl, gr⟩
    have GH2 : Hid (Grown _ w5) := gr
    clear gr LH LH2
    have GW : Hid (Grown w w5) := grown_trans (grown_trans (((Grown.refl w).alloc _ _).alloc _ _) GH.out) (grown_trans ((Grown.refl w3).alloc _ _) GH2.out)
    clear GH GH2 HC1 HC2
    have pn := fun wx => ptr_neq w.heap.size wx
    by_cases hc : A < v + 8
    · go_wp2_with (first
        | (go_at_call 20; refine (HO _).out.mono ?_; rintro e w' ⟨rfl, rfl⟩)
        | (go_at_call 21; refine (HB _).out.mono ?_; rintro e w' ⟨rfl, rfl⟩)
        | (go_at_call 22; refine (HL _).out.mono ?_; rintro e w' ⟨rfl, rfl⟩))
      go_ret
      exact ⟨ret_true (beq_iff_eq.2 (by omega)), GW.out⟩
    · go_wp2_with (first
        | (go_at_call 20; refine (HO _).out.mono ?_; rintro e w' ⟨rfl, rfl⟩)
        | (go_at_call 21; refine (HB _).out.mono ?_; rintro e w' ⟨rfl, rfl⟩)
        | (go_at_call 22; refine (HL _).out.mono ?_; rintro e w' ⟨rfl, rfl⟩))
      go_ret
      exact ⟨ret_true (beq_iff_eq.2 (by omega)), GW.out⟩
  · have eOn := ancP_true A nx ny m R hm
    have eOff := ancP_false A nx ny m R
    obtain ⟨t0, t1⟩ := twoP_bd A (winP ny (basP nx ny R) (misN m)) (basP nx ny R) (by omega)
    have hB := basP_bd nx ny R hR
    have hW0 := (winP_bd ny (basP nx ny R) (by omega) (by omega) (by omega) (by omega) (misN m)).1
    have hmb : (m == 0) = false := beq_false_of_ne hm
    have HC1 : ∀ (b c : Nat) (w : World), Lies w b c x nx y ny m A true → Hid (Calls Trym.prog 18 #[.pointer (some ⟨c, 0, none⟩), .pointer (some ⟨b, 0, none⟩)] w fun e w' =>
      e = .returned (.tuple #[.pointer (some ⟨b, 0, none⟩), .int .i64 (twoP A (winP ny (basP nx ny R) (misN m)) (basP nx ny R)), .int .i64 x, .int .i64 y, .int .i64 (winP ny (basP nx ny R) (misN m)), .bool false]) ∧ Grown w w') := by
      intro b c w L; have := HC b c true w L; rw [eOn, hmb] at this; exact this
    have HC2 : ∀ (b c : Nat) (w : World), Lies w b c x nx y ny m A false → Hid (Calls Trym.prog 18 #[.pointer (some ⟨c, 0, none⟩), .pointer (some ⟨b, 0, none⟩)] w fun e w' =>
      e = .returned (.tuple #[.pointer (some ⟨b, 0, none⟩), .int .i64 (twoP A (winP ny (basP nx ny R) (misN m)) (basP nx ny R)), .int .i64 x, .int .i64 y, .int .i64 (winP ny (basP nx ny R) (misN m)), .bool false]) ∧ Grown w w') := by
      intro b c w L; have := HC b c false w L; rw [eOff] at this; exact this
    have hneg : m ≤ 0 → winP ny (basP nx ny R) (misN m) = basP nx ny R := fun h => by rw [misN_nonpos m h]; rfl
    have hpos : 0 < m → winP ny (basP nx ny R) (misN m) ≤ ny := fun h => by obtain ⟨k, hk⟩ := misN_pos m h; rw [hk]; exact winP_succ_le _ _ _
    have htw : m ≤ 0 → twoP A (winP ny (basP nx ny R) (misN m)) (basP nx ny R) = A := fun h => by rw [hneg h]; exact twoP_same A _ (by omega)
    have HN : Hid (m ≤ 0 → winP ny (basP nx ny R) (misN m) = basP nx ny R) := hneg
    have HP : Hid (0 < m → winP ny (basP nx ny R) (misN m) ≤ ny) := hpos
    have HT : Hid (m ≤ 0 → twoP A (winP ny (basP nx ny R) (misN m)) (basP nx ny R) = A) := htw
    clear HC eOn eOff HV HL hneg hpos htw hB
    generalize twoP A (winP ny (basP nx ny R) (misN m)) (basP nx ny R) = T at *
    generalize winP ny (basP nx ny R) (misN m) = W at *
    generalize basP nx ny R = B at *
    generalize offP nx ny = off at *
    go_enter Trym.func6, Trym.ntmps6
    go_wp2_with fail
    refine (newPiece _ _ _ _ _ _).mono ?_
    rintro e w1 ⟨rfl, P1, rfl, p0, p1, p2, p3, p16⟩
    go_wp2_with fail
    refine (newPlan _ _ _ _).mono ?_
    rintro e w1 ⟨rfl, Q1, rfl, q0, q10⟩
    have LH : Hid (Lies _ _ _ _ _ _ _ _ _ _) := lies_first w P1 Q1 x nx y ny m A true p0 p1 p2 p3 p16 q0 q10
    clear p0 p1 p2 p3 p16 q0 q10
    go_wp2_with fail
    refine (HC1 _ _ _ LH.out).out.mono ?_
    rintro e w3 ⟨rfl, gr⟩
    have GH : Hid (Grown _ w3) := gr
    clear gr
    go_wp2_with fail
    refine (newPlan _ _ _ _).mono ?_
    rintro e w1 ⟨rfl, Q2, rfl, q0, q10⟩
    have LH2 : Hid (Lies _ _ _ _ _ _ _ _ _ _) := lies_second Q2 false LH.out GH.out q0 q10
    clear q0 q10
    go_wp2_with fail
    refine (HC2 _ _ _ LH2.out).out.mono ?_
    rintro e w5 ⟨rfl, gr⟩
    have GH2 : Hid (Grown _ w5) := gr
    clear gr LH LH2
    have GW : Hid (Grown w w5) := grown_trans (grown_trans (((Grown.refl w).alloc _ _).alloc _ _) GH.out) (grown_trans ((Grown.refl w3).alloc _ _) GH2.out)
    clear GH GH2 HC1 HC2
    have pn := fun wx => ptr_neq w.heap.size wx
    by_cases hs : m ≤ 0
    · have e1 := HN.out hs
      have e2 := HT.out hs
      subst e1
      subst e2
      clear HN HP HT
      go_wp2_with (first
        | (go_at_call 20; refine (HO _).out.mono ?_; rintro e w' ⟨rfl, rfl⟩)
        | (go_at_call 21; refine (HB _).out.mono ?_; rintro e w' ⟨rfl, rfl⟩))
      go_ret
      exact ⟨ret_true (by simp), GW.out⟩
    · have e1 := HP.out (by omega)
      have e1' : ¬ ny < W := by omega
      have hW0' : ¬ W < 0 := by omega
      clear HN HP HT
      go_wp2_with (first
        | (go_at_call 20; refine (HO _).out.mono ?_; rintro e w' ⟨rfl, rfl⟩))
      go_ret
      exact ⟨ret_true (by simp [*]), GW.out⟩
end Go.Proofs.Qxb6614125aMods.Cur
