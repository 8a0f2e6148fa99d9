import Derived.Test.Qxb6614125aModsWin
import Derived.Test.Qxb6614125aModsShelf
import Derived.Deep.RegionWith
namespace Go.Proofs.Qxb6614125aMods.Cur
open Go.RowKit

/-- The bits to number off + 1 places, plus 8. -/
def lenP (off : Int) : Int := (Lib.bitLen (off + 1).toNat : Int) + 8
/-- The anchor's length in a one-way session without misses. -/
def oneP (A off : Int) : Int := min A (lenP off)
/-- The anchor's length else. -/
def twoP (A w base : Int) : Int := min 64 (A + max 0 ((Lib.bitLen w.toNat : Int) - Lib.bitLen base.toNat))

theorem len64 (x : Int) (w : World) (h0 : 0 ≤ x) (h1 : x ≤ 18446744073709551615) (v : Int) (hv : v = Lib.bitLen x.toNat) :
    Calls Trym.prog 30 #[.int .u64 x] w fun e w' => e = .returned (.int .i64 v) ∧ w' = w := by
  subst hv; exact Trym.bits_Len64 x w h0 h1

theorem bitLen_64 (x : Int) (h1 : x ≤ 18446744073709551615) : Lib.bitLen x.toNat ≤ 64 := Lib.bitLen_le _ 64 (by omega) (by omega)

set_option maxHeartbeats 1000000 in
theorem anchor_one (nx ny A : Int) (b c : Nat) (h0 : 0 ≤ nx) (h1 : nx ≤ 1152921504606846976) (h2 : 0 ≤ ny) (h3 : ny ≤ 1152921504606846976) (_a0 : 8 ≤ A) (_a1 : A ≤ 64) (w : World)
    (k1 : w.cell? ⟨b, 1, none⟩ = some (.int .i64 nx)) (k3 : w.cell? ⟨b, 3, none⟩ = some (.int .i64 ny)) (k16 : w.cell? ⟨b, 16, none⟩ = some (.int .i64 0))
    (c0 : w.cell? ⟨c, 0, none⟩ = some (.int .i64 A)) (c10 : w.cell? ⟨c, 10, none⟩ = some (.bool true)) :
    Calls Trym.prog 27 #[.pointer (some ⟨c, 0, none⟩), .pointer (some ⟨b, 0, none⟩)] w fun e w' => e = .returned (.int .i64 (oneP A (offP nx ny))) ∧ ∃ n, w' = w.drewN n := by
  obtain ⟨o0, o1⟩ := offP_bd nx ny
  obtain ⟨v, hv⟩ : ∃ v : Int, v = Lib.bitLen (offP nx ny + 1).toNat := ⟨_, rfl⟩
  have hl := bitLen_64 (offP nx ny + 1) (by omega)
  have v0 : 0 ≤ v := by omega
  have v1 : v ≤ 64 := by omega
  have HV : Hid (v = Lib.bitLen (offP nx ny + 1).toNat) := hv
  have HE : Hid (oneP A (offP nx ny) = min A (v + 8)) := by show _ = _; unfold oneP lenP; rw [hv]
  clear hv hl
  rw [HE.out]
  go_enter Trym.func27, Trym.ntmps27
  go_wp2
  go_quiet (first
    | (go_at_call 28; exact Calls.quiet_of (offset_any nx ny b h0 h1 h2 h3 _ (by simpa using k1) (by simpa using k3)))
    | (go_at_call 30; exact Calls.quiet_of_same (len64 _ _ (by omega) (by omega) v HV.out)))
  go_wp2
  go_ret
  exact ⟨rfl, nq, rfl⟩

set_option maxHeartbeats 1000000 in
theorem anchor_two (nx ny A m : Int) (R b c : Nat) (on : Bool) (h0 : 0 ≤ nx) (h1 : nx ≤ 1152921504606846976) (h2 : 0 ≤ ny) (h3 : ny ≤ 1152921504606846976) (r1 : (R : Int) * R ≤ nx) (r2 : nx < ((R : Int) + 1) * (R + 1)) (_a0 : 8 ≤ A) (_a1 : A ≤ 64) (w : World)
    (k1 : w.cell? ⟨b, 1, none⟩ = some (.int .i64 nx)) (k3 : w.cell? ⟨b, 3, none⟩ = some (.int .i64 ny)) (k16 : w.cell? ⟨b, 16, none⟩ = some (.int .i64 m))
    (c0 : w.cell? ⟨c, 0, none⟩ = some (.int .i64 A)) (c10 : w.cell? ⟨c, 10, none⟩ = some (.bool on)) (hon : on = false ∨ ¬ m = 0) :
    Calls Trym.prog 27 #[.pointer (some ⟨c, 0, none⟩), .pointer (some ⟨b, 0, none⟩)] w fun e w' => e = .returned (.int .i64 (twoP A (winP ny (basP nx ny R) (misN m)) (basP nx ny R))) ∧ ∃ n, w' = w.drewN n := by
  have hR := root_small R nx r1 h1
  have HS : ∀ w : World, w.cell? ⟨b, 1, none⟩ = some (.int .i64 nx) → w.cell? ⟨b, 3, none⟩ = some (.int .i64 ny) → w.cell? ⟨b, 16, none⟩ = some (.int .i64 m) → Hid (Calls Trym.prog 26 #[.pointer (some ⟨b, 0, none⟩)] w fun e w' => e = .returned (.tuple #[.int .i64 (winP ny (basP nx ny R) (misN m)), .int .i64 (basP nx ny R)]) ∧ ∃ n, w' = w.drewN n) :=
    fun w e1 e2 e3 => searchWindow_any nx ny m R b h0 h1 h2 h3 r1 r2 w e1 e2 e3
  obtain ⟨b0, b1⟩ := basP_bd nx ny R hR
  obtain ⟨w0, w1⟩ := winP_bd ny (basP nx ny R) h2 h3 (by omega) (by omega) (misN m)
  clear r1 r2
  generalize winP ny (basP nx ny R) (misN m) = W at *
  generalize basP nx ny R = B at *
  obtain ⟨u, hu⟩ : ∃ u : Int, u = Lib.bitLen W.toNat := ⟨_, rfl⟩
  obtain ⟨v, hv⟩ : ∃ v : Int, v = Lib.bitLen B.toNat := ⟨_, rfl⟩
  have lu := bitLen_64 W (by omega)
  have lv := bitLen_64 B (by omega)
  have u0 : 0 ≤ u := by omega
  have u1 : u ≤ 64 := by omega
  have v0 : 0 ≤ v := by omega
  have v1 : v ≤ 64 := by omega
  have HU : Hid (u = Lib.bitLen W.toNat) := hu
  have HV : Hid (v = Lib.bitLen B.toNat) := hv
  have HE : Hid (twoP A W B = min 64 (A + max 0 (u - v))) := by show _ = _; unfold twoP; rw [hu, hv]
  clear hu hv lu lv
  rw [HE.out]
  clear HE
  by_cases ho : on = false
  · subst ho
    go_enter Trym.func27, Trym.ntmps27
    go_wp2_with (go_at_call 26; refine (HS _ k1 k3 k16).out.mono ?_; rintro e w1 ⟨rfl, hn⟩)
    have d0 : w1.cell? ⟨c, 0, none⟩ = some (.int .i64 A) := by obtain ⟨n, rfl⟩ := hn; simpa using c0
    go_quiet (first
      | (go_at_call_of 30 (Value.int IntKind.u64 W); exact Calls.quiet_of_same (len64 W _ (by omega) (by omega) u HU.out))
      | (go_at_call_of 30 (Value.int IntKind.u64 B); exact Calls.quiet_of_same (len64 B _ (by omega) (by omega) v HV.out)))
    go_wp2
    go_ret
    obtain ⟨n, rfl⟩ := hn
    exact ⟨rfl, _, by rw [World.drewN_drewN]⟩
  · have ho' : on = true := by simpa using ho
    have hm : ¬ m = 0 := by rcases hon with h | h; exact absurd h ho; exact h
    clear hon ho
    subst ho'
    go_enter Trym.func27, Trym.ntmps27
    go_wp2_with (go_at_call 26; refine (HS _ k1 k3 k16).out.mono ?_; rintro e w1 ⟨rfl, hn⟩)
    have d0 : w1.cell? ⟨c, 0, none⟩ = some (.int .i64 A) := by obtain ⟨n, rfl⟩ := hn; simpa using c0
    go_quiet (first
      | (go_at_call_of 30 (Value.int IntKind.u64 W); exact Calls.quiet_of_same (len64 W _ (by omega) (by omega) u HU.out))
      | (go_at_call_of 30 (Value.int IntKind.u64 B); exact Calls.quiet_of_same (len64 B _ (by omega) (by omega) v HV.out)))
    go_wp2
    go_ret
    obtain ⟨n, rfl⟩ := hn
    exact ⟨rfl, _, by rw [World.drewN_drewN]⟩
end Go.Proofs.Qxb6614125aMods.Cur
