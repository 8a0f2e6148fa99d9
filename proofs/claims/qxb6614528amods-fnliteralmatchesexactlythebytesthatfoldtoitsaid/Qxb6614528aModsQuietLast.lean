/-
  A REGION THAT DRAWS ITS ORDER, ALL OF WHOSE OPERATIONS BUT THE LAST ARE QUIET (they read, or call what only reads), THE LAST ONE WAITING, BY WAY OF OTHERS OR BY ITSELF, FOR ALL THE OTHERS (a store): the quiet walk of the others in the order of the text, then the last one by the plain walk.
-/
import Derived.Deep.Quiet
import Derived.Deep.QuietTactic
import Derived.BigQuiet
import Derived.Tactics
namespace Go.Proofs.Qxb6614528aMods.QuietLast

section
variable {P : Program} {ops hs : Array Oper} {md : Region.Mode} {C : World → Prop} {Q : Exit → Act → World → Prop} {n : Nat} {o : Oper}

/-- 'hs' are the first n operations of 'ops'; the n-th, 'o', is the last and each of them is waited for by 'o' or by a later one of them; edges go back; guards stand among the first n. -/
structure Fit (md : Region.Mode) (ops hs : Array Oper) (n : Nat) (o : Oper) : Prop where
  size : ops.size = n + 1
  hsize : hs.size = n
  same : ∀ i, i < n → hs[i]? = ops[i]?
  last : ops[n]? = some o
  waits : ∀ i, i < n → (∃ e ∈ o.after, Region.binds md e = true ∧ e.on = i) ∨ ∃ (j : Nat) (oj : Oper), i < j ∧ j < n ∧ hs[j]? = some oj ∧ ∃ e ∈ oj.after, Region.binds md e = true ∧ e.on = i
  only : ∀ e ∈ o.after, Region.binds md e = true → e.on < n
  back : ∀ (j : Nat) (oj : Oper), hs[j]? = some oj → ∀ e ∈ oj.after, Region.binds md e = true → e.on < j
  guard : ∀ (j : Nat) (oj : Oper), hs[j]? = some oj → ∀ g b, oj.guard = some (g, b) → g < n

/-- What is listed has all that it waits for listed. -/
def Closed (md : Region.Mode) (hs : Array Oper) (listed : Array Bool) : Prop :=
  ∀ (j : Nat) (oj : Oper), hs[j]? = some oj → listed.getD j false = true → ∀ e ∈ oj.after, Region.binds md e = true → listed.getD e.on false = true

theorem getD_push {listed : Array Bool} (h : listed.size = n) {i : Nat} (hi : i < n) (d : Bool) : (listed.push false).getD i d = listed.getD i d := by
  have : i ≠ listed.size := by omega
  simp [Array.getElem?_push, this]
theorem getD_push_last {listed : Array Bool} (h : listed.size = n) (d : Bool) : (listed.push false).getD n d = false := by
  subst h; simp
theorem getD_replicate_false' (m j : Nat) : (Array.replicate m false).getD j false = false := by
  rcases Nat.lt_or_ge j m with h | h
  · simp [h]
  · simp [h]
theorem getD_tf {listed : Array Bool} {i : Nat} (hi : i < listed.size) : listed.getD i true = listed.getD i false := by
  simp [hi]
theorem set_push {listed : Array Bool} (h : listed.size = n) {i : Nat} (hi : i < n) : (listed.push false).setIfInBounds i true = (listed.setIfInBounds i true).push false := by
  apply Array.ext_getElem?
  intro j
  by_cases hij : i = j
  · subst hij
    have h1 : i < (listed.push false).size := by simp; omega
    have h2 : i ≠ (listed.setIfInBounds i true).size := by simp; omega
    have h3 : i < listed.size := by omega
    rw [Array.getElem?_setIfInBounds_self_of_lt h1, Array.getElem?_push, if_neg h2, Array.getElem?_setIfInBounds_self_of_lt h3]
  · rw [Array.getElem?_setIfInBounds_ne hij, Array.getElem?_push, Array.getElem?_push, Array.getElem?_setIfInBounds_ne hij]
    simp

theorem ready_lt (F : Fit md ops hs n o) {listed : Array Bool} (h : listed.size = n) {i : Nat} (hi : i < n) :
    i ∈ Region.ready md ops (listed.push false) ↔ i ∈ Region.ready md hs listed := by
  rw [mem_ready, mem_ready, getD_push h hi, F.same i hi]
  constructor
  · rintro ⟨h0, oi, hoi, hall⟩
    refine ⟨h0, oi, hoi, fun e he hb => ?_⟩
    have hlt := F.back i oi (by rw [F.same i hi]; exact hoi) e he hb
    have := hall e he hb
    rwa [getD_push h (by omega)] at this
  · rintro ⟨h0, oi, hoi, hall⟩
    refine ⟨h0, oi, hoi, fun e he hb => ?_⟩
    have hlt := F.back i oi (by rw [F.same i hi]; exact hoi) e he hb
    rw [getD_push h (by omega)]
    exact hall e he hb

theorem closed_set {listed : Array Bool} (hc : Closed md hs listed) {i : Nat} (hi : i ∈ Region.ready md hs listed) : Closed md hs (listed.setIfInBounds i true) := by
  intro j oj hoj hl e he hb
  apply getD_set_true
  by_cases hij : i = j
  · subst hij
    obtain ⟨_, o', ho', hall⟩ := mem_ready.1 hi
    have : o' = oj := Option.some.inj (ho'.symm.trans hoj)
    subst this
    exact hall e he hb
  · rw [getD_set_ne false hij] at hl
    exact hc j oj hoj hl e he hb

theorem ready_last (F : Fit md ops hs n o) {listed : Array Bool} (h : listed.size = n) (hc : Closed md hs listed) :
    n ∈ Region.ready md ops (listed.push false) ↔ ∀ i, i < n → listed.getD i false = true := by
  rw [mem_ready]
  constructor
  · rintro ⟨_, o', ho', hall⟩
    have : o' = o := Option.some.inj (ho'.symm.trans F.last)
    subst this
    have key : ∀ d i, n - i = d → i < n → listed.getD i false = true := by
      intro d
      induction d using Nat.strongRecOn with
      | _ d ih =>
        intro i hd hi
        rcases F.waits i hi with ⟨e, he, hb, hon⟩ | ⟨j, oj, hij, hj, hoj, e, he, hb, hon⟩
        · have := hall e he hb
          rwa [hon, getD_push h hi] at this
        · have hl := ih (n - j) (by omega) j rfl hj
          have := hc j oj hoj hl e he hb
          rwa [hon] at this
    exact fun i hi => key _ i rfl hi
  · intro hall
    refine ⟨getD_push_last h true, o, F.last, fun e he hb => ?_⟩
    have hlt := F.only e he hb
    rw [getD_push h hlt]
    exact hall _ hlt

theorem all_of_none (F : Fit md ops hs n o) {listed : Array Bool} (h : listed.size = n) (hr : Region.ready md hs listed = []) :
    ∀ i, i < n → listed.getD i false = true := by
  intro i
  induction i using Nat.strongRecOn with
  | _ i ih =>
    intro hi
    cases hl : listed.getD i false with
    | true => rfl
    | false =>
      exfalso
      have hs' : i < hs.size := by rw [F.hsize]; exact hi
      have : i ∈ Region.ready md hs listed := by
        rw [mem_ready]
        refine ⟨by rw [getD_tf (by omega)]; exact hl, hs[i], Array.getElem?_eq_getElem hs', fun e he hb => ?_⟩
        have hlt := F.back i _ (Array.getElem?_eq_getElem hs') e he hb
        exact ih e.on hlt (by omega)
      rw [hr] at this
      cases this

theorem none_of_all (F : Fit md ops hs n o) {listed : Array Bool} (h : listed.size = n) (hall : ∀ i, i < n → listed.getD i false = true) :
    Region.ready md hs listed = [] := by
  apply List.eq_nil_iff_forall_not_mem.2
  intro i hi
  obtain ⟨h0, oi, hoi, _⟩ := mem_ready.1 hi
  have hlt : i < n := by rw [← F.hsize]; exact (Array.getElem?_eq_some_iff.1 hoi).1
  have := hall i hlt
  rw [getD_tf (by omega), this] at h0
  cases h0

theorem done (F : Fit md ops hs n o) {listed : Array Bool} (h : listed.size = n) (hall : ∀ i, i < n → listed.getD i false = true) :
    Region.ready md ops ((listed.push false).setIfInBounds n true) = [] := by
  apply List.eq_nil_iff_forall_not_mem.2
  intro i hi
  obtain ⟨h0, oi, hoi, _⟩ := mem_ready.1 hi
  have hlt : i < n + 1 := by rw [← F.size]; exact (Array.getElem?_eq_some_iff.1 hoi).1
  by_cases hin : i = n
  · subst hin
    simp [h] at h0
  · rw [getD_set_ne true (by omega), getD_push h (by omega), getD_tf (by omega), hall i (by omega)] at h0
    cases h0

theorem yielded_same (F : Fit md ops hs n o) (t : Array Value) {g : Nat} (hg : g < n) : yielded ops t g = yielded hs t g := by
  unfold yielded
  rw [F.same g hg]
theorem wanted_same (F : Fit md ops hs n o) (t : Array Value) {i : Nat} {oi : Oper} (hoi : hs[i]? = some oi) : Region.wanted oi (yielded ops t) = Region.wanted oi (yielded hs t) := by
  unfold Region.wanted
  split
  · rfl
  · rename_i g b hg
    rw [yielded_same F t (F.guard i oi hoi g b hg)]
theorem qOp_same (F : Fit md ops hs n o) {i : Nat} (hi : i < n) {K : Act → Prop} {a : Act} (h : qOp P hs C i K a) : qOp P ops C i K a := by
  have hs' : i < hs.size := by rw [F.hsize]; exact hi
  have h1 := Array.getElem?_eq_getElem hs'
  unfold qOp at *
  rw [← F.same i hi]
  rw [h1] at h ⊢
  simp only at h ⊢
  rw [wanted_same F a.tmps h1]
  exact h

theorem wpOp_mono' {i : Nat} {K K' : Act → World → Prop} {a : Act} {w : World} (hk : ∀ a w, K a w → K' a w) (h : wpOp P ops Q i K a w) : wpOp P ops Q i K' a w := by
  unfold wpOp at *
  split
  · rename_i ho; simp only [ho] at h; exact hk _ _ h
  · rename_i oi ho
    simp only [ho] at h
    split
    · rename_i hw
      simp only [hw, if_true] at h
      rcases h with h | h
      · exact .inl (Oper.wp_mono hk h)
      · exact .inr h
    · rename_i hw
      simp only [hw] at h
      exact hk _ _ h

theorem wpAnyQ_mono {K K' : Act → Prop} (hk : ∀ a, K a → K' a) : ∀ (fuel : Nat) (listed : Array Bool) (a : Act), wpAnyQ P md hs C K fuel listed a → wpAnyQ P md hs C K' fuel listed a
  | 0, _, _, h => ⟨h.1, hk _ h.2⟩
  | fuel + 1, _, _, h => ⟨fun h0 => hk _ (h.1 h0), fun i hi => qOp_mono (fun a' h' => wpAnyQ_mono hk fuel _ a' h') (h.2 i hi)⟩

theorem wpAny_of (F : Fit md ops hs n o) : ∀ (fuel : Nat) (listed : Array Bool) (a : Act) (w : World), listed.size = n → Closed md hs listed → C w →
    wpAnyQ P md hs C (fun a' => ∀ w', C w' → wpOp P ops Q n (fun a'' w'' => Q .normal a'' w'') a' w') fuel listed a → wpAny P md ops Q (fuel + 1) (listed.push false) a w := by
  intro fuel
  induction fuel with
  | zero =>
    rintro listed a w hsz hcl hC ⟨hr, hq⟩
    have hall := all_of_none F hsz hr
    refine ⟨fun h0 => ?_, fun i hi => ?_⟩
    · have := (ready_last F hsz hcl).2 hall
      rw [h0] at this
      cases this
    · have hlt : i < n + 1 := by
        obtain ⟨_, oi, hoi, _⟩ := mem_ready.1 hi
        rw [← F.size]; exact (Array.getElem?_eq_some_iff.1 hoi).1
      by_cases hin : i = n
      · subst hin
        exact wpOp_mono' (fun a w h => ⟨done F hsz hall, h⟩) (hq w hC)
      · have := (ready_lt F hsz (by omega : i < n)).1 hi
        rw [hr] at this
        cases this
  | succ fuel ih =>
    rintro listed a w hsz hcl hC ⟨hr, hq⟩
    refine ⟨fun h0 => ?_, fun i hi => ?_⟩
    · have hno : Region.ready md hs listed = [] := by
        apply List.eq_nil_iff_forall_not_mem.2
        intro i hi
        have hlt : i < n := by
          obtain ⟨_, oi, hoi, _⟩ := mem_ready.1 hi
          rw [← F.hsize]; exact (Array.getElem?_eq_some_iff.1 hoi).1
        have := (ready_lt F hsz hlt).2 hi
        rw [h0] at this
        cases this
      have := (ready_last F hsz hcl).2 (all_of_none F hsz hno)
      rw [h0] at this
      cases this
    · have hlt : i < n + 1 := by
        obtain ⟨_, oi, hoi, _⟩ := mem_ready.1 hi
        rw [← F.size]; exact (Array.getElem?_eq_some_iff.1 hoi).1
      by_cases hin : i = n
      · subst hin
        have hall := (ready_last F hsz hcl).1 hi
        refine wpOp_mono' (fun a w h => ⟨fun _ => h, fun j hj => ?_⟩) (hr (none_of_all F hsz hall) w hC)
        rw [done F hsz hall] at hj
        cases hj
      · have hi' : i < n := by omega
        have h1 := qOp_same F hi' (hq i ((ready_lt F hsz hi').1 hi))
        refine wpOp_of_qOp hC (fun a' w' hw' h => ?_) h1
        rw [set_push hsz hi']
        exact ih _ a' w' (by simpa using hsz) (closed_set hcl ((ready_lt F hsz hi').1 hi)) hw' h

/-- All that is asked of the operations, as one Bool. -/
def lastB (md : Region.Mode) (l : List Oper) (n : Nat) : Bool :=
  decide (l.length = n + 1) &&
  (match l[n]? with
   | some o => ((List.range n).all fun i => (o.after.any fun e => Region.binds md e && e.on == i) || (List.range n).any fun j => decide (i < j) && match (l.take n)[j]? with | some oj => oj.after.any fun e => Region.binds md e && e.on == i | none => false) && (o.after.all fun e => !Region.binds md e || decide (e.on < n))
   | none => false) &&
  ((List.range n).all fun j => match (l.take n)[j]? with
   | some oj => (oj.after.all fun e => !Region.binds md e || decide (e.on < j)) && (match oj.guard with | some (g, _) => decide (g < n) | none => true)
   | none => false)

theorem fit_of {l : List Oper} (h : lastB md l n = true) : ∃ o, l.drop n = [o] ∧ Fit md l.toArray (l.take n).toArray n o := by
  simp only [lastB, Bool.and_eq_true, decide_eq_true_eq] at h
  obtain ⟨⟨hl, ho⟩, hh⟩ := h
  have hlt : n < l.length := by omega
  have e0 : l[n]? = some l[n] := List.getElem?_eq_getElem hlt
  rw [e0] at ho
  simp only [Bool.and_eq_true] at ho
  obtain ⟨ho1, ho2⟩ := ho
  have hh' : ∀ (j : Nat) (oj : Oper), (l.take n).toArray[j]? = some oj → (oj.after.all fun e => !Region.binds md e || decide (e.on < j)) = true ∧ (match oj.guard with | some (g, _) => decide (g < n) | none => true) = true := by
    intro j oj hoj
    have hoj' : (l.take n)[j]? = some oj := by simpa using hoj
    have hj : j < n := by
      have := (List.getElem?_eq_some_iff.1 hoj').1
      simp at this; omega
    have := List.all_eq_true.1 hh j (List.mem_range.2 hj)
    rw [hoj'] at this
    simpa only [Bool.and_eq_true] using this
  refine ⟨l[n], ?_, ?_⟩
  · rw [List.drop_eq_getElem_cons hlt, List.drop_of_length_le (by omega)]
  · refine ⟨by simpa using hl, by simp; omega, fun i hi => ?_, by simp, fun i hi => ?_, fun e he hb => ?_, fun j oj hoj e he hb => ?_, fun j oj hoj g b hg => ?_⟩
    · simp [hi]
    · have := List.all_eq_true.1 ho1 i (List.mem_range.2 hi)
      rcases Bool.or_eq_true_iff.1 this with this | this
      · obtain ⟨e, he, hb⟩ := Array.any_eq_true'.1 this
        simp only [Bool.and_eq_true, beq_iff_eq] at hb
        exact .inl ⟨e, he, hb.1, hb.2⟩
      · obtain ⟨j, hj, hj2⟩ := List.any_eq_true.1 this
        simp only [Bool.and_eq_true, decide_eq_true_eq] at hj2
        obtain ⟨hij, hm⟩ := hj2
        cases hoj : (l.take n)[j]? with
        | none => rw [hoj] at hm; cases hm
        | some oj =>
          rw [hoj] at hm
          obtain ⟨e, he, hb⟩ := Array.any_eq_true'.1 hm
          simp only [Bool.and_eq_true, beq_iff_eq] at hb
          exact .inr ⟨j, oj, hij, List.mem_range.1 hj, by simpa using hoj, e, he, hb.1, hb.2⟩
    · have := Array.all_eq_true_iff_forall_mem.1 ho2 e he
      simpa [hb] using this
    · have := Array.all_eq_true_iff_forall_mem.1 (hh' j oj hoj).1 e he
      simpa [hb] using this
    · have := (hh' j oj hoj).2
      rw [hg] at this
      simpa using this

theorem wp_region_quiet_last {id : Nat} {a : Act} {w : World} {l : List Oper} (n : Nat) (hm : P.follows .mixedOrders = true) (hF : lastB .any l n = true) (hB : Region.lexB .any (l.take n).toArray = true)
    (h : wpQuiet P (l.take n).toArray (fun w' => ∃ k, w' = w.drewN k) (fun a' => ∀ w', (∃ k, w' = w.drewN k) → wpList P l.toArray Q (l.drop n) a' w') (l.take n) a) : (Code.region id l.toArray true).wp P Q a w := by
  obtain ⟨o, hd, F⟩ := fit_of hF
  simp only [Region.lexB, Bool.and_eq_true] at hB
  rw [hd] at h
  have hlen : (l.take n).length = n := by have := F.hsize; simpa using this
  have hq := wpAnyQ_lex (P := P) (C := fun w' => ∃ k, w' = w.drewN k) (md := .any) hB.1 (l.take n) 0 (Array.replicate (l.take n).toArray.size false) a (by simp) (by simpa using hB.2) h
  refine wp_region_any hm ?_
  have hs : l.toArray.size = (l.take n).length + 1 := by rw [hlen]; exact F.size
  have key := wpAny_of (P := P) (Q := Q) (C := fun w' => ∃ k, w' = w.drewN k) F (l.take n).length (Array.replicate (l.take n).toArray.size false) a { w with drawn := w.drawn + 1 } (by simpa using hlen) (fun j oj _ hl => by rw [getD_replicate_false'] at hl; cases hl) ⟨1, rfl⟩ ?_
  · rw [hs]
    have e : (Array.replicate ((l.take n).length + 1) false) = (Array.replicate (l.take n).toArray.size false).push false := by
      simp [Array.replicate_succ]
    rw [e]
    exact key
  · refine wpAnyQ_mono (fun a' h' w' hw' => ?_) _ _ _ hq
    have := h' w' hw'
    unfold wpOp
    rw [F.last]
    exact this
end
end Go.Proofs.Qxb6614528aMods.QuietLast
