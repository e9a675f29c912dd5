import PyProof.Rows.All
import Wide.All
import OpenK.AllK
import Wide.FinOn
import Lean
import PySem.Challenge.RW_bj0026_01
set_option Elab.async false

section
open PySem PySem.W PyProof.Rows
set_option Elab.async false
set_option maxRecDepth 100000
set_option maxHeartbeats 8000000
namespace Mine
open_top hd for PySem.Challenge.rw_bj0026_01
end Mine
end

section
namespace Mine
open PySem

def wayInts (k : Nat) : List Int :=
  if k % 2 = 0 then [((k % 3 : Nat) : Int), ((3 + k / 3 % 3 : Nat) : Int)] else [((k % 3 : Nat) : Int), 7, ((3 + k / 3 % 3 : Nat) : Int)]
def wayHash (k : Nat) : Int := Builtin.Tuple.tupleHashOf (wayInts k)

def runsL (mask : Nat) : Nat → Nat → Nat → List Nat
  | 0, _, _ => []
  | r + 1, i, pt => List.range' (SetTable.leap mask i pt).1 (SetTable.runEnd mask (SetTable.leap mask i pt).1 - (SetTable.leap mask i pt).1 + 1) ++ runsL mask r (SetTable.leap mask i pt).1 (SetTable.leap mask i pt).2

def slotsFrom (mask r : Nat) (p : SetTable.Probe) : List Nat := List.range' p.j (p.more + 1) ++ runsL mask r p.i p.perturb

def pathL (mask : Nat) (h : Int) : List Nat :=
  let i := SetTable.bits h % (mask + 1)
  List.range' i (SetTable.runEnd mask i - i + 1) ++ runsL mask (SetTable.turns mask - 1) i (SetTable.bits h)

def coverOk (mask k : Nat) : Bool := (List.range (mask + 1)).all fun e => (pathL mask (wayHash k)).contains e

theorem cover_all : ∀ mask ∈ [7, 15, 31, 63], ∀ k < 9, coverOk mask k = true := by decide +kernel
theorem hash_inj : ∀ k < 9, ∀ k' < 9, wayHash k = wayHash k' → k = k' := by decide +kernel
end Mine
end

section
namespace Mine
open PySem

theorem below_go (xs : Array Nat) (j : Nat) (hs : ∀ i i', i < i' → i' < xs.size → xs.getD i 0 < xs.getD i' 0) : ∀ fuel lo hi, lo ≤ hi → hi ≤ xs.size → hi - lo ≤ fuel → (∀ i, i < lo → xs.getD i 0 < j) → (∀ i, hi ≤ i → i < xs.size → j ≤ xs.getD i 0) →
    SetTable.below.go xs j fuel lo hi ≤ xs.size ∧ (∀ i, i < SetTable.below.go xs j fuel lo hi → xs.getD i 0 < j) ∧ (∀ i, SetTable.below.go xs j fuel lo hi ≤ i → i < xs.size → j ≤ xs.getD i 0) := by
  intro fuel
  induction fuel with
  | zero =>
    intro lo hi h1 h2 h3 h4 h5
    have : lo = hi := by omega
    subst this
    unfold SetTable.below.go
    exact ⟨h2, h4, h5⟩
  | succ fuel ih =>
    intro lo hi h1 h2 h3 h4 h5
    unfold SetTable.below.go
    by_cases hlt : lo < hi
    · rw [if_pos hlt]
      dsimp only
      have e0 : xs.getD ((lo + hi) / 2) j = xs.getD ((lo + hi) / 2) 0 := by
        have : (lo + hi) / 2 < xs.size := by omega
        simp [Array.getD, this]
      rw [e0]
      by_cases hm : xs.getD ((lo + hi) / 2) 0 < j
      · rw [if_pos hm]
        refine ih _ _ (by omega) h2 (by omega) (fun i hi' => ?_) h5
        by_cases e : i = (lo + hi) / 2
        · subst e; exact hm
        · have := hs i ((lo + hi) / 2) (by omega) (by omega)
          omega
      · rw [if_neg hm]
        refine ih _ _ (by omega) (by omega) (by omega) h4 (fun i hi' hi2 => ?_)
        by_cases e : i = (lo + hi) / 2
        · subst e; omega
        · have := hs ((lo + hi) / 2) i (by omega) (by omega)
          omega
    · rw [if_neg hlt]
      have : lo = hi := by omega
      subst this
      exact ⟨h2, h4, h5⟩

theorem rise_get {l : List Nat} (h : l.Pairwise (· < ·)) {i i' : Nat} (h1 : i < i') (h2 : i' < l.length) : l[i]'(by omega) < l[i'] :=
  List.pairwise_iff_getElem.mp h i i' (by omega) h2 h1

theorem below_split {xs : Array Nat} (hs : xs.toList.Pairwise (· < ·)) (j : Nat) :
    ∃ L1 L2, xs.toList = L1 ++ L2 ∧ SetTable.below xs j = L1.length ∧ (∀ x ∈ L1, x < j) ∧ (∀ x ∈ L2, j ≤ x) := by
  have hg : ∀ i, i < xs.size → ∃ hh : i < xs.toList.length, xs.getD i 0 = xs.toList[i] := fun i hi => ⟨by simpa using hi, by simp [Array.getD, hi]⟩
  obtain ⟨a, b, c⟩ := below_go xs j (fun i i' h1 h2 => by
    obtain ⟨g1, e1⟩ := hg i (by omega)
    obtain ⟨g2, e2⟩ := hg i' h2
    rw [e1, e2]
    exact rise_get hs h1 g2) xs.size 0 xs.size (by omega) (by omega) (by omega) (fun i hi => by omega) (fun i h1 h2 => by omega)
  refine ⟨xs.toList.take (SetTable.below xs j), xs.toList.drop (SetTable.below xs j), (List.take_append_drop _ _).symm, ?_, fun x hx => ?_, fun x hx => ?_⟩
  · rw [List.length_take]
    have : SetTable.below xs j ≤ xs.size := a
    simp; omega
  · obtain ⟨i, hi, rfl⟩ := List.mem_iff_getElem.mp hx
    rw [List.length_take] at hi
    have hi2 : i < SetTable.below xs j := by omega
    have h3 := b i hi2
    obtain ⟨g, e⟩ := hg i (by have : SetTable.below xs j ≤ xs.size := a; omega)
    rw [List.getElem_take, ← e]; exact h3
  · obtain ⟨i, hi, rfl⟩ := List.mem_iff_getElem.mp hx
    rw [List.length_drop, Array.length_toList] at hi
    have h3 := c (SetTable.below xs j + i) (Nat.le_add_right _ _) (by omega)
    obtain ⟨g, e⟩ := hg (SetTable.below xs j + i) (by omega)
    rw [List.getElem_drop, ← e]; exact h3

theorem rise_head {L2 : List Nat} {j : Nat} (h : L2.Pairwise (· < ·)) (hm : j ∈ L2) (hle : ∀ x ∈ L2, j ≤ x) : ∃ L3, L2 = j :: L3 := by
  cases L2 with
  | nil => cases hm
  | cons a r =>
    refine ⟨r, ?_⟩
    rcases List.mem_cons.mp hm with rfl | hm
    · rfl
    · have h1 := (List.pairwise_cons.mp h).1 j hm
      have h2 := hle a (.head _)
      omega

theorem get_below {xs : Array Nat} (hs : xs.toList.Pairwise (· < ·)) (j : Nat) : (xs[SetTable.below xs j]? = some j ↔ j ∈ xs.toList) := by
  obtain ⟨L1, L2, e, eb, h1, h2⟩ := below_split hs j
  constructor
  · intro h
    rw [← Array.getElem?_toList] at h
    exact List.mem_of_getElem? h
  · intro h
    have hr := hs
    rw [e] at hr h
    have hr2 := (List.pairwise_append.mp hr).2.1
    have hm : j ∈ L2 := by
      rcases List.mem_append.mp h with h | h
      · exact absurd (h1 j h) (Nat.lt_irrefl _)
      · exact h
    obtain ⟨L3, rfl⟩ := rise_head hr2 hm h2
    rw [← Array.getElem?_toList, e, eb]
    simp

theorem has_iff {xs : Array Nat} (hs : xs.toList.Pairwise (· < ·)) (j : Nat) : (SetTable.has xs j = true ↔ j ∈ xs.toList) := by
  unfold SetTable.has
  rw [beq_iff_eq]
  exact get_below hs j

theorem split_of_mem {xs : Array Nat} (hs : xs.toList.Pairwise (· < ·)) {j : Nat} (hj : j ∈ xs.toList) :
    ∃ L1 L2, xs.toList = L1 ++ j :: L2 ∧ SetTable.below xs j = L1.length := by
  obtain ⟨L1, L2, e, eb, h1, h2⟩ := below_split hs j
  have hr := hs
  rw [e] at hr hj
  have hr2 := (List.pairwise_append.mp hr).2.1
  have hm : j ∈ L2 := by
    rcases List.mem_append.mp hj with h | h
    · exact absurd (h1 j h) (Nat.lt_irrefl _)
    · exact h
  obtain ⟨L3, rfl⟩ := rise_head hr2 hm h2
  exact ⟨L1, L3, e, eb⟩

theorem toList_insertAt {α : Type} (xs : Array α) (p : Nat) (x : α) : (SetTable.insertAt xs p x).toList = xs.toList.take p ++ x :: xs.toList.drop p := by
  simp [SetTable.insertAt, List.extract_eq_take_drop, List.take_of_length_le]
theorem toList_eraseAt {α : Type} (xs : Array α) (p : Nat) : (SetTable.eraseAt xs p).toList = xs.toList.take p ++ xs.toList.drop (p + 1) := by
  simp [SetTable.eraseAt, List.extract_eq_take_drop, List.take_of_length_le]

theorem insert_sorted {xs : Array Nat} (hs : xs.toList.Pairwise (· < ·)) {j : Nat} (hj : j ∉ xs.toList) :
    ∃ L1 L2, xs.toList = L1 ++ L2 ∧ SetTable.below xs j = L1.length ∧ (SetTable.insertAt xs (SetTable.below xs j) j).toList = L1 ++ j :: L2 ∧ (L1 ++ j :: L2).Pairwise (· < ·) := by
  obtain ⟨L1, L2, e, eb, h1, h2⟩ := below_split hs j
  refine ⟨L1, L2, e, eb, by rw [toList_insertAt, eb, e]; simp, ?_⟩
  have hr := hs
  rw [e] at hr hj
  obtain ⟨a, b, c⟩ := List.pairwise_append.mp hr
  refine List.pairwise_append.mpr ⟨a, List.pairwise_cons.mpr ⟨fun y hy => ?_, b⟩, fun x hx y hy => ?_⟩
  · have := h2 y hy
    have : y ≠ j := fun q => hj (List.mem_append.mpr (.inr (q ▸ hy)))
    omega
  · rcases List.mem_cons.mp hy with rfl | hy
    · exact h1 x hx
    · exact c x hx y hy

theorem erase_sorted {xs : Array Nat} (hs : xs.toList.Pairwise (· < ·)) {j : Nat} (hj : j ∈ xs.toList) :
    (SetTable.eraseAt xs (SetTable.below xs j)).toList.Pairwise (· < ·) ∧ (∀ x, x ∈ (SetTable.eraseAt xs (SetTable.below xs j)).toList ↔ x ∈ xs.toList ∧ x ≠ j) ∧ (SetTable.eraseAt xs (SetTable.below xs j)).size + 1 = xs.size := by
  obtain ⟨L1, L2, e, eb⟩ := split_of_mem hs hj
  have he : (SetTable.eraseAt xs (SetTable.below xs j)).toList = L1 ++ L2 := by
    rw [toList_eraseAt, eb, e, List.take_left]
    congr 1
    rw [← List.drop_drop, List.drop_left]; rfl
  have hr := hs
  rw [e] at hr
  obtain ⟨a, b, c⟩ := List.pairwise_append.mp hr
  obtain ⟨b1, b2⟩ := List.pairwise_cons.mp b
  refine ⟨?_, fun x => ?_, ?_⟩
  · rw [he]
    exact List.pairwise_append.mpr ⟨a, b2, fun x hx y hy => c x hx y (.tail _ hy)⟩
  · rw [he, e]
    simp only [List.mem_append, List.mem_cons]
    constructor
    · rintro (h | h)
      · have := c x h j (.head _); exact ⟨.inl h, by omega⟩
      · have := b1 x h; exact ⟨.inr (.inr h), by omega⟩
    · rintro ⟨h | h | h, hne⟩
      · exact .inl h
      · exact absurd h hne
      · exact .inr h
  · have h1 : (SetTable.eraseAt xs (SetTable.below xs j)).toList.length = (L1 ++ L2).length := by rw [he]
    have h2 : xs.toList.length = (L1 ++ j :: L2).length := by rw [e]
    simp at h1 h2
    omega

theorem slot_live {t : SetTable} (hs : t.place.toList.Pairwise (· < ·)) {L1 L2 : List Nat} {j : Nat} (e : t.place.toList = L1 ++ j :: L2) : t.slot j = .live L1.length := by
  have hj : j ∈ t.place.toList := by rw [e]; simp
  obtain ⟨A1, A2, e', eb⟩ := split_of_mem hs hj
  have hlen : L1.length = A1.length := by
    have h1 : t.place.toList[L1.length]? = some j := by rw [e]; simp
    have h2 : t.place.toList[A1.length]? = some j := by rw [e']; simp
    rcases Nat.lt_trichotomy L1.length A1.length with h | h | h
    · obtain ⟨g1, q1⟩ := List.getElem?_eq_some_iff.mp h1
      obtain ⟨g2, q2⟩ := List.getElem?_eq_some_iff.mp h2
      have := rise_get hs h g2
      omega
    · exact h
    · obtain ⟨g1, q1⟩ := List.getElem?_eq_some_iff.mp h1
      obtain ⟨g2, q2⟩ := List.getElem?_eq_some_iff.mp h2
      have := rise_get hs h g1
      omega
  unfold SetTable.slot
  dsimp only
  rw [if_pos (beq_iff_eq.mpr ((get_below hs j).mpr hj)), eb, hlen]

theorem slot_not {t : SetTable} (hs : t.place.toList.Pairwise (· < ·)) (hd : t.dummies.toList.Pairwise (· < ·)) {j : Nat} (hj : j ∉ t.place.toList) :
    t.slot j = if j ∈ t.dummies.toList then .dummy else .empty := by
  unfold SetTable.slot
  dsimp only
  rw [if_neg (fun h => hj ((get_below hs j).mp (beq_iff_eq.mp h)))]
  by_cases h : j ∈ t.dummies.toList
  · rw [if_pos h, if_pos ((has_iff hd j).mpr h)]
  · rw [if_neg h, if_neg (fun q => h ((has_iff hd j).mp q))]

theorem slot_of_live {t : SetTable} (hs : t.place.toList.Pairwise (· < ·)) (hd : t.dummies.toList.Pairwise (· < ·)) {j i : Nat} (h : t.slot j = .live i) : t.place.toList[i]? = some j := by
  by_cases hj : j ∈ t.place.toList
  · obtain ⟨A1, A2, e', eb⟩ := split_of_mem hs hj
    rw [slot_live hs e'] at h
    cases h
    rw [e']; simp
  · rw [slot_not hs hd hj] at h
    split at h <;> cases h

theorem slot_empty_iff {t : SetTable} (hs : t.place.toList.Pairwise (· < ·)) (hd : t.dummies.toList.Pairwise (· < ·)) {j : Nat} : t.slot j = .empty ↔ j ∉ t.place.toList ∧ j ∉ t.dummies.toList := by
  by_cases hj : j ∈ t.place.toList
  · obtain ⟨A1, A2, e', eb⟩ := split_of_mem hs hj
    rw [slot_live hs e']
    simp [hj]
  · rw [slot_not hs hd hj]
    by_cases h : j ∈ t.dummies.toList <;> simp [h, hj]

theorem slots_more {mask r : Nat} {p : SetTable.Probe} (t : SetTable) (_ht : t.mask = mask) (h : p.more > 0) : slotsFrom mask r p = p.j :: slotsFrom mask r (t.advance p) := by
  unfold SetTable.advance
  rw [if_pos h]
  unfold slotsFrom
  dsimp only
  rw [show p.more - 1 + 1 = p.more from by omega, List.range'_succ]
  rfl
theorem slots_leap {mask r : Nat} {p : SetTable.Probe} (t : SetTable) (ht : t.mask = mask) (h : ¬ p.more > 0) : slotsFrom mask (r + 1) p = p.j :: slotsFrom mask r (t.advance p) := by
  unfold SetTable.advance
  rw [if_neg h]
  unfold slotsFrom
  have : p.more = 0 := by omega
  rw [this, ht]
  rfl
theorem slots_end {mask : Nat} {p : SetTable.Probe} (h : ¬ p.more > 0) : slotsFrom mask 0 p = [p.j] := by
  unfold slotsFrom runsL
  have : p.more = 0 := by omega
  rw [this]; rfl
theorem slots_head {mask r : Nat} {p : SetTable.Probe} : ∃ tl, slotsFrom mask r p = p.j :: tl := by
  unfold slotsFrom
  rw [List.range'_succ]
  exact ⟨_, rfl⟩
theorem slotsFrom_dummy {mask r : Nat} {p : SetTable.Probe} {d : Option Nat} : slotsFrom mask r { p with dummy := d } = slotsFrom mask r p := rfl
theorem advance_dummy {t : SetTable} {p : SetTable.Probe} : (t.advance p).dummy = p.dummy := by
  unfold SetTable.advance
  split <;> rfl

theorem go_spec (t : SetTable) (hashAt : Nat → Int) (h : Int) : ∀ (L1 : List Nat) (e : Nat) (L2 : List Nat) (r fuel : Nat) (p : SetTable.Probe), slotsFrom t.mask r p = L1 ++ e :: L2 → L1.length < fuel →
    (∀ x ∈ L1, t.slot x ≠ .empty ∧ ∀ i, t.slot x = .live i → hashAt i ≠ h) →
    (t.slot e = .empty → ∃ d, SetTable.probe.go t hashAt h fuel p = some (.empty e d) ∧ (d = p.dummy ∨ ∃ x ∈ L1, d = some x ∧ t.slot x = .dummy)) ∧
    (∀ i, t.slot e = .live i → hashAt i = h → ∃ nx, SetTable.probe.go t hashAt h fuel p = some (.candidate e i nx)) := by
  intro L1
  induction L1 with
  | nil =>
    intro e L2 r fuel p hL hf hx
    obtain ⟨tl, htl⟩ := slots_head (mask := t.mask) (r := r) (p := p)
    rw [htl] at hL
    injection hL with he _
    cases fuel with
    | zero => cases hf
    | succ fuel =>
      refine ⟨fun h1 => ⟨p.dummy, ?_, .inl rfl⟩, fun i h1 h2 => ⟨t.advance p, ?_⟩⟩
      · unfold SetTable.probe.go
        rw [he, h1]
      · unfold SetTable.probe.go
        rw [he, h1]
        dsimp only
        rw [if_pos (beq_iff_eq.mpr h2)]
  | cons x L1 ih =>
    intro e L2 r fuel p hL hf hx
    have hj : p.j = x ∧ ∃ r', slotsFrom t.mask r' (t.advance p) = L1 ++ e :: L2 := by
      by_cases hm : p.more > 0
      · rw [slots_more t rfl hm] at hL
        injection hL with a b
        exact ⟨a, r, b⟩
      · cases r with
        | zero =>
          rw [slots_end hm] at hL
          injection hL with a b
          cases L1 <;> cases b
        | succ r =>
          rw [slots_leap t rfl hm] at hL
          injection hL with a b
          exact ⟨a, r, b⟩
    obtain ⟨hj, r', hr'⟩ := hj
    subst hj
    cases fuel with
    | zero => cases hf
    | succ fuel =>
      have hf' : L1.length < fuel := by simp only [List.length_cons] at hf; omega
      have hx0 := hx p.j (.head _)
      have hx' := fun y hy => hx y (.tail _ hy)
      unfold SetTable.probe.go
      cases hs : t.slot p.j with
      | empty => exact absurd hs hx0.1
      | live i =>
        dsimp only
        rw [if_neg (fun q => hx0.2 i hs (beq_iff_eq.mp q))]
        obtain ⟨a, b⟩ := ih e L2 r' fuel (t.advance p) hr' hf' hx'
        refine ⟨fun h1 => ?_, b⟩
        obtain ⟨d, h2, h3⟩ := a h1
        refine ⟨d, h2, h3.imp (fun q => by rw [q, advance_dummy]) fun ⟨y, hy, q⟩ => ⟨y, .tail _ hy, q⟩⟩
      | dummy =>
        dsimp only
        have hadv : slotsFrom t.mask r' (t.advance { p with dummy := some p.j }) = L1 ++ e :: L2 := by
          rw [← hr']
          unfold SetTable.advance
          dsimp only
          split <;> rfl
        obtain ⟨a, b⟩ := ih e L2 r' fuel (t.advance { p with dummy := some p.j }) hadv hf' hx'
        refine ⟨fun h1 => ?_, b⟩
        obtain ⟨d, h2, h3⟩ := a h1
        refine ⟨d, h2, .inr ?_⟩
        rcases h3 with q | ⟨y, hy, q⟩
        · exact ⟨p.j, .head _, by rw [q, advance_dummy], hs⟩
        · exact ⟨y, .tail _ hy, q⟩

theorem runsL_len (mask : Nat) : ∀ r i pt, (runsL mask r i pt).length ≤ 10 * r := by
  intro r
  induction r with
  | zero => intro i pt; exact Nat.le_refl _
  | succ r ih =>
    intro i pt
    unfold runsL
    rw [List.length_append, List.length_range']
    have := ih (SetTable.leap mask i pt).1 (SetTable.leap mask i pt).2
    have h2 : SetTable.runEnd mask (SetTable.leap mask i pt).1 - (SetTable.leap mask i pt).1 ≤ 9 := by
      unfold SetTable.runEnd; split <;> omega
    omega
theorem pathL_len (mask : Nat) (h : Int) : (pathL mask h).length ≤ 10 * SetTable.turns mask := by
  unfold pathL
  dsimp only
  rw [List.length_append, List.length_range']
  have := runsL_len mask (SetTable.turns mask - 1) (SetTable.bits h % (mask + 1)) (SetTable.bits h)
  have h2 : SetTable.runEnd mask (SetTable.bits h % (mask + 1)) - (SetTable.bits h % (mask + 1)) ≤ 9 := by
    unfold SetTable.runEnd; split <;> omega
  have h3 : 1 ≤ SetTable.turns mask := by unfold SetTable.turns; omega
  omega
theorem pathL_start (t : SetTable) (h : Int) : slotsFrom t.mask (SetTable.turns t.mask - 1) (t.probeStart h) = pathL t.mask h := rfl
end Mine
end

section
namespace Mine
open PySem

def Occ (t : SetTable) (ents : List (Nat × Nat)) (y : Nat) : Prop := y ∈ ents.map (·.1) ∨ y ∈ t.dummies.toList

structure TInv (t : SetTable) (ents : List (Nat × Nat)) : Prop where
  mask : t.mask ∈ [7, 15, 31, 63]
  place : t.place.toList = ents.map (·.1)
  rise : (ents.map (·.1)).Pairwise (· < ·)
  drise : t.dummies.toList.Pairwise (· < ·)
  lim : ∀ x ∈ ents, x.1 ≤ t.mask
  dlim : ∀ x ∈ t.dummies.toList, x ≤ t.mask
  disj : ∀ x ∈ ents, x.1 ∉ t.dummies.toList
  fill : ents.length + t.dummies.size ≤ t.mask
  ways : ∀ x ∈ ents, x.2 < 9
  nodup : (ents.map (·.2)).Nodup
  path : ∀ x ∈ ents, ∃ L1 L2, pathL t.mask (wayHash x.2) = L1 ++ x.1 :: L2 ∧ ∀ y ∈ L1, Occ t ents y

theorem first_occ {α : Type} [DecidableEq α] (P : α → Prop) [DecidablePred P] : ∀ {L : List α}, (∃ x ∈ L, P x) → ∃ L1 e L2, L = L1 ++ e :: L2 ∧ P e ∧ ∀ x ∈ L1, ¬ P x := by
  intro L
  induction L with
  | nil => rintro ⟨x, hx, _⟩; cases hx
  | cons a r ih =>
    rintro ⟨x, hx, hp⟩
    by_cases ha : P a
    · exact ⟨[], a, r, rfl, ha, fun x hx => nomatch hx⟩
    · have : ∃ x ∈ r, P x := by
        rcases List.mem_cons.mp hx with rfl | hx
        · exact absurd hp ha
        · exact ⟨x, hx, hp⟩
      obtain ⟨L1, e, L2, h1, h2, h3⟩ := ih this
      refine ⟨a :: L1, e, L2, by rw [h1]; rfl, h2, fun y hy => ?_⟩
      rcases List.mem_cons.mp hy with rfl | hy
      · exact ha
      · exact h3 y hy

theorem nodup_len : ∀ {l l' : List Nat}, l.Nodup → (∀ x ∈ l, x ∈ l') → l.length ≤ l'.length := by
  intro l
  induction l with
  | nil => intro l' _ _; exact Nat.zero_le _
  | cons a r ih =>
    intro l' hn hs
    obtain ⟨h1, h2⟩ := List.nodup_cons.mp hn
    have ha := hs a (.head _)
    have h3 : ∀ x ∈ r, x ∈ l'.erase a := fun x hx => by
      have hne : x ≠ a := fun q => h1 (q ▸ hx)
      exact (List.mem_erase_of_ne hne).mpr (hs x (.tail _ hx))
    have h4 := ih h2 h3
    have h5 := List.length_erase_of_mem ha
    have h6 : 0 < l'.length := List.length_pos_of_mem ha
    simp only [List.length_cons]
    omega

theorem rise_nodup {l : List Nat} (h : l.Pairwise (· < ·)) : l.Nodup := h.imp (fun {a b} q => by omega)

/-- some slot is empty -/
theorem some_empty {mask : Nat} {occ : List Nat} (h : occ.length ≤ mask) : ∃ e, e ≤ mask ∧ e ∉ occ := by
  refine Classical.byContradiction fun hn => ?_
  have h1 : ∀ x ∈ List.range (mask + 1), x ∈ occ := fun x hx => by
    refine Classical.byContradiction fun q => hn ⟨x, ?_, q⟩
    have := List.mem_range.mp hx
    omega
  have h2 := nodup_len (l := List.range (mask + 1)) List.nodup_range h1
  rw [List.length_range] at h2
  omega

theorem cover {mask k e : Nat} (hm : mask ∈ [7, 15, 31, 63]) (hk : k < 9) (he : e ≤ mask) : e ∈ pathL mask (wayHash k) := by
  have h := cover_all mask hm k hk
  unfold coverOk at h
  rw [List.all_eq_true] at h
  have := h e (List.mem_range.mpr (by omega))
  exact List.contains_iff_mem.mp this

def leOk (mask k : Nat) : Bool := (pathL mask (wayHash k)).all fun e => decide (e ≤ mask)
theorem le_all : ∀ mask ∈ [7, 15, 31, 63], ∀ k < 9, leOk mask k = true := by decide +kernel
theorem path_le {mask k e : Nat} (hm : mask ∈ [7, 15, 31, 63]) (hk : k < 9) (he : e ∈ pathL mask (wayHash k)) : e ≤ mask := by
  have h := le_all mask hm k hk
  unfold leOk at h
  rw [List.all_eq_true] at h
  exact of_decide_eq_true (h e he)

section
variable {t : SetTable} {ents : List (Nat × Nat)}

theorem TInv.riseP (I : TInv t ents) : t.place.toList.Pairwise (· < ·) := I.place ▸ I.rise

theorem TInv.slot_at (I : TInv t ents) {E1 E2 : List (Nat × Nat)} {j k : Nat} (e : ents = E1 ++ (j, k) :: E2) : t.slot j = .live E1.length := by
  have h := slot_live I.riseP (L1 := E1.map (·.1)) (L2 := E2.map (·.1)) (j := j) (by rw [I.place, e]; simp)
  rw [h, List.length_map]

theorem TInv.empty_iff (I : TInv t ents) {j : Nat} : t.slot j = .empty ↔ ¬ Occ t ents j := by
  rw [slot_empty_iff I.riseP I.drise, I.place]
  unfold Occ
  constructor
  · rintro ⟨a, b⟩ (h | h)
    · exact a h
    · exact b h
  · intro h
    exact ⟨fun a => h (.inl a), fun b => h (.inr b)⟩

theorem ent_unique (I : TInv t ents) {x y : Nat × Nat} (hx : x ∈ ents) (hy : y ∈ ents) (h : x.2 = y.2) : x = y := by
  have hn := List.pairwise_map.mp I.nodup
  obtain ⟨i, hi, rfl⟩ := List.mem_iff_getElem.mp hx
  obtain ⟨j, hj, rfl⟩ := List.mem_iff_getElem.mp hy
  have hp := List.pairwise_iff_getElem.mp hn
  rcases Nat.lt_trichotomy i j with q | q | q
  · exact absurd h (hp i j hi hj q)
  · subst q; rfl
  · exact absurd h.symm (hp j i hj hi q)

theorem find_hit (I : TInv t ents) {hashAt : Nat → Int} (hh : ∀ i (h : i < ents.length), hashAt i = wayHash ents[i].2) {E1 E2 : List (Nat × Nat)} {j k : Nat} (e : ents = E1 ++ (j, k) :: E2) :
    ∃ nx, t.probe hashAt (wayHash k) (t.probeStart (wayHash k)) = some (.candidate j E1.length nx) := by
  have hm : (j, k) ∈ ents := by rw [e]; simp
  obtain ⟨A1, A2, hA, hocc⟩ := I.path _ hm
  obtain ⟨L1, e', L2, hL, hP, hn⟩ := first_occ (P := fun x => x = j) (L := A1 ++ j :: A2) ⟨j, by simp, rfl⟩
  subst hP
  have hpre : ∀ x ∈ L1, x ∈ A1 := by
    intro x hx
    rcases Nat.lt_or_ge A1.length L1.length with q | q
    · exfalso
      have h1 : (A1 ++ e' :: A2)[A1.length]? = some e' := by simp
      rw [hL, List.getElem?_append_left q] at h1
      exact hn _ (List.mem_of_getElem? h1) rfl
    · obtain ⟨i, hi, rfl⟩ := List.mem_iff_getElem.mp hx
      have h1 : (A1 ++ e' :: A2)[i]? = some L1[i] := by rw [hL, List.getElem?_append_left hi]; simp [hi]
      rw [List.getElem?_append_left (by omega)] at h1
      exact List.mem_of_getElem? h1
  have hp : slotsFrom t.mask (SetTable.turns t.mask - 1) (t.probeStart (wayHash k)) = L1 ++ e' :: L2 := by rw [pathL_start, ← hL]; exact hA
  have hlen : L1.length < 10 * SetTable.turns t.mask := by
    have := pathL_len t.mask (wayHash k)
    rw [← pathL_start t, hp] at this
    simp at this; omega
  have hx : ∀ x ∈ L1, t.slot x ≠ .empty ∧ ∀ i, t.slot x = .live i → hashAt i ≠ wayHash k := by
    intro x hx
    refine ⟨fun q => (I.empty_iff.mp q) (hocc x (hpre x hx)), fun i hi he => ?_⟩
    have h1 := slot_of_live I.riseP I.drise hi
    rw [I.place, List.getElem?_map] at h1
    obtain ⟨y, hy, hy2⟩ := Option.map_eq_some_iff.mp h1
    obtain ⟨g, hg⟩ := List.getElem?_eq_some_iff.mp hy
    rw [hh i g, hg] at he
    have hym : y ∈ ents := List.mem_of_getElem? hy
    have := hash_inj _ (I.ways y hym) _ (I.ways _ hm) he
    have h2 := ent_unique I hym hm this
    rw [h2] at hy2
    exact hn x hx hy2.symm
  obtain ⟨nx, hnx⟩ := (go_spec t hashAt (wayHash k) L1 e' L2 _ _ _ hp hlen hx).2 E1.length (I.slot_at e) (by
    rw [hh _ (by rw [e]; simp)]
    simp [e])
  exact ⟨nx, hnx⟩

theorem find_miss (I : TInv t ents) {hashAt : Nat → Int} (hh : ∀ i (h : i < ents.length), hashAt i = wayHash ents[i].2) {k : Nat} (hk : k < 9) (hn : k ∉ ents.map (·.2)) :
    ∃ e d, t.probe hashAt (wayHash k) (t.probeStart (wayHash k)) = some (.empty e d) ∧ (d.getD e) ≤ t.mask ∧ (d.getD e) ∉ ents.map (·.1) ∧ (d = none → (d.getD e) ∉ t.dummies.toList) ∧ (d.isSome = true → (d.getD e) ∈ t.dummies.toList ∧ t.slot (d.getD e) = .dummy) ∧
      ∃ L1 L2, pathL t.mask (wayHash k) = L1 ++ (d.getD e) :: L2 ∧ ∀ y ∈ L1, Occ t ents y := by
  obtain ⟨z, hz1, hz2⟩ := some_empty (mask := t.mask) (occ := ents.map (·.1) ++ t.dummies.toList) (by have := I.fill; simp; omega)
  have hz3 : ¬ Occ t ents z := fun q => hz2 (List.mem_append.mpr q)
  have hzP := cover I.mask hk hz1
  haveI : DecidablePred fun x => ¬ Occ t ents x := fun x => by unfold Occ; infer_instance
  obtain ⟨L1, e, L2, hL, hP, hno⟩ := first_occ (P := fun x => ¬ Occ t ents x) (L := pathL t.mask (wayHash k)) ⟨z, hzP, hz3⟩
  have hocc : ∀ y ∈ L1, Occ t ents y := fun y hy => Classical.byContradiction (hno y hy)
  have hp : slotsFrom t.mask (SetTable.turns t.mask - 1) (t.probeStart (wayHash k)) = L1 ++ e :: L2 := by rw [pathL_start]; exact hL
  have hlen : L1.length < 10 * SetTable.turns t.mask := by
    have := pathL_len t.mask (wayHash k)
    rw [← pathL_start t, hp] at this
    simp at this; omega
  have hx : ∀ x ∈ L1, t.slot x ≠ .empty ∧ ∀ i, t.slot x = .live i → hashAt i ≠ wayHash k := by
    intro x hx
    refine ⟨fun q => (I.empty_iff.mp q) (hocc x hx), fun i hi he => ?_⟩
    have h1 := slot_of_live I.riseP I.drise hi
    rw [I.place, List.getElem?_map] at h1
    obtain ⟨y, hy, hy2⟩ := Option.map_eq_some_iff.mp h1
    obtain ⟨g, hg⟩ := List.getElem?_eq_some_iff.mp hy
    rw [hh i g, hg] at he
    have hym : y ∈ ents := List.mem_of_getElem? hy
    have := hash_inj _ (I.ways y hym) _ hk he
    exact hn (List.mem_map.mpr ⟨y, hym, this⟩)
  obtain ⟨d, hd, hd2⟩ := (go_spec t hashAt (wayHash k) L1 e L2 _ _ _ hp hlen hx).1 (I.empty_iff.mpr hP)
  refine ⟨e, d, hd, ?_⟩
  rcases hd2 with hd2 | ⟨x, hxm, hd2, hxs⟩
  · have : d = none := hd2
    subst this
    have hem : e ≤ t.mask := by
      -- e lies on the path: all slots of the path are at most the mask, or e is taken; use the range of the path
      exact path_le I.mask hk (by rw [hL]; simp)
    exact ⟨hem, fun q => hP (.inl q), fun _ q => hP (.inr q), fun q => (by cases q), L1, L2, hL, hocc⟩
  · subst hd2
    have hxd : x ∈ t.dummies.toList := by
      refine Classical.byContradiction fun q => ?_
      by_cases hpl : x ∈ t.place.toList
      · obtain ⟨B1, B2, e2, _⟩ := split_of_mem I.riseP hpl
        rw [slot_live I.riseP e2] at hxs; cases hxs
      · rw [slot_not I.riseP I.drise hpl, if_neg q] at hxs; cases hxs
    obtain ⟨C1, C2, hC⟩ := List.append_of_mem hxm
    refine ⟨I.dlim x hxd, fun q => ?_, fun q => (by cases q), fun _ => ⟨hxd, hxs⟩, C1, C2 ++ e :: L2, by show _ = C1 ++ x :: _; rw [hL, hC]; simp, fun y hy => hocc y (by rw [hC]; exact List.mem_append.mpr (.inl hy))⟩
    obtain ⟨y, hy, hy2⟩ := List.mem_map.mp q
    exact I.disj y hy (hy2 ▸ hxd)
end
end Mine
end

section
namespace Mine
open PySem

section
variable {t : SetTable} {ents : List (Nat × Nat)}

theorem nodup_insert {E1 E2 : List Nat} {k : Nat} (h : (E1 ++ E2).Nodup) (hk : k ∉ E1 ++ E2) : (E1 ++ k :: E2).Nodup := by
  have h1 : (k :: (E1 ++ E2)).Nodup := List.nodup_cons.mpr ⟨hk, h⟩
  exact (List.perm_middle.nodup_iff).mpr h1

theorem put_inv (I : TInv t ents) {s k : Nat} (hs : s ≤ t.mask) (hn : s ∉ ents.map (·.1)) (hk : k < 9) (hnk : k ∉ ents.map (·.2))
    (hpath : ∃ L1 L2, pathL t.mask (wayHash k) = L1 ++ s :: L2 ∧ ∀ y ∈ L1, Occ t ents y) (hf : s ∈ t.dummies.toList ∨ ents.length + t.dummies.size + 1 ≤ t.mask) :
    ∃ E1 E2, ents = E1 ++ E2 ∧ (t.put s).2 = E1.length ∧ TInv (t.put s).1 (E1 ++ (s, k) :: E2) ∧ (t.put s).1.mask = t.mask ∧ (t.put s).1.led = t.led ∧ (t.put s).1.plain = t.plain ∧
      (s ∉ t.dummies.toList → (t.put s).1.dummies.size = t.dummies.size) ∧ (s ∈ t.dummies.toList → (t.put s).1.dummies.size + 1 = t.dummies.size) := by
  have hnp : s ∉ t.place.toList := by rw [I.place]; exact hn
  obtain ⟨L1, L2, e, eb, ei, er⟩ := insert_sorted I.riseP hnp
  have hb : (t.put s).2 = L1.length := by unfold SetTable.put; exact eb
  refine ⟨ents.take L1.length, ents.drop L1.length, (List.take_append_drop _ _).symm, ?_, ?_, rfl, rfl, rfl, ?_, ?_⟩
  · have : L1.length ≤ ents.length := by
      have h1 : t.place.toList.length = (L1 ++ L2).length := by rw [e]
      rw [I.place] at h1; simp at h1; omega
    rw [hb, List.length_take]; omega
  · have e1 : (ents.take L1.length).map (·.1) = L1 := by rw [List.map_take, ← I.place, e, List.take_left]
    have e2 : (ents.drop L1.length).map (·.1) = L2 := by rw [List.map_drop, ← I.place, e, List.drop_left]
    have em : (ents.take L1.length ++ (s, k) :: ents.drop L1.length).map (·.1) = L1 ++ s :: L2 := by rw [List.map_append, List.map_cons, e1, e2]
    have hmem : ∀ x, x ∈ ents.take L1.length ++ (s, k) :: ents.drop L1.length ↔ x = (s, k) ∨ x ∈ ents := by
      intro x
      conv => rhs; rw [← List.take_append_drop L1.length ents]
      simp only [List.mem_append, List.mem_cons]
      constructor
      · rintro (h | h | h)
        · exact .inr (.inl h)
        · exact .inl h
        · exact .inr (.inr h)
      · rintro (h | h | h)
        · exact .inr (.inl h)
        · exact .inl h
        · exact .inr (.inr h)
    have hpl : (t.put s).1.place.toList = L1 ++ s :: L2 := by unfold SetTable.put; exact ei
    have hdm : (t.put s).1.dummies = if SetTable.has t.dummies s then SetTable.eraseAt t.dummies (SetTable.below t.dummies s) else t.dummies := rfl
    have hdl : (t.put s).1.dummies.toList.Pairwise (· < ·) ∧ (∀ x, x ∈ (t.put s).1.dummies.toList ↔ x ∈ t.dummies.toList ∧ x ≠ s) := by
      rw [hdm]
      by_cases h : SetTable.has t.dummies s = true
      · rw [if_pos h]
        have := erase_sorted I.drise ((has_iff I.drise s).mp h)
        exact ⟨this.1, this.2.1⟩
      · rw [if_neg h]
        refine ⟨I.drise, fun x => ⟨fun hx => ⟨hx, fun q => h ((has_iff I.drise s).mpr (q ▸ hx))⟩, fun hx => hx.1⟩⟩
    have hocc : ∀ y, Occ t ents y → Occ (t.put s).1 (ents.take L1.length ++ (s, k) :: ents.drop L1.length) y := by
      rintro y (hy | hy)
      · left
        obtain ⟨x, hx, rfl⟩ := List.mem_map.mp hy
        exact List.mem_map.mpr ⟨x, (hmem x).mpr (.inr hx), rfl⟩
      · by_cases q : y = s
        · left
          exact List.mem_map.mpr ⟨(s, k), (hmem _).mpr (.inl rfl), q.symm⟩
        · exact .inr ((hdl.2 y).mpr ⟨hy, q⟩)
    refine ⟨I.mask, by rw [hpl, em], by rw [em]; exact er, hdl.1, ?_, ?_, ?_, ?_, ?_, ?_, ?_⟩
    · intro x hx
      rcases (hmem x).mp hx with rfl | hx
      · exact hs
      · exact I.lim x hx
    · intro x hx
      exact I.dlim x ((hdl.2 x).mp hx).1
    · intro x hx hd
      rcases (hmem x).mp hx with rfl | hx
      · exact ((hdl.2 _).mp hd).2 rfl
      · exact I.disj x hx ((hdl.2 _).mp hd).1
    · have hlen : (ents.take L1.length ++ (s, k) :: ents.drop L1.length).length = ents.length + 1 := by
        conv => rhs; rw [← List.take_append_drop L1.length ents]
        simp only [List.length_append, List.length_cons]; omega
      rw [hlen]
      show ents.length + 1 + (t.put s).1.dummies.size ≤ t.mask
      rw [hdm]
      by_cases h : SetTable.has t.dummies s = true
      · rw [if_pos h]
        have := (erase_sorted I.drise ((has_iff I.drise s).mp h)).2.2
        have := I.fill
        omega
      · rw [if_neg h]
        have : s ∉ t.dummies.toList := fun q => h ((has_iff I.drise s).mpr q)
        rcases hf with hf | hf
        · exact absurd hf this
        · omega
    · intro x hx
      rcases (hmem x).mp hx with rfl | hx
      · exact hk
      · exact I.ways x hx
    · rw [List.map_append, List.map_cons]
      refine nodup_insert ?_ ?_
      · rw [← List.map_append, List.take_append_drop]; exact I.nodup
      · rw [← List.map_append, List.take_append_drop]; exact hnk
    · intro x hx
      rcases (hmem x).mp hx with rfl | hx
      · obtain ⟨A1, A2, h1, h2⟩ := hpath
        exact ⟨A1, A2, h1, fun y hy => hocc y (h2 y hy)⟩
      · obtain ⟨A1, A2, h1, h2⟩ := I.path x hx
        exact ⟨A1, A2, h1, fun y hy => hocc y (h2 y hy)⟩
  · intro h
    show (if SetTable.has t.dummies s then SetTable.eraseAt t.dummies (SetTable.below t.dummies s) else t.dummies).size = _
    rw [if_neg (fun q => h ((has_iff I.drise s).mp q))]
  · intro h
    show (if SetTable.has t.dummies s then SetTable.eraseAt t.dummies (SetTable.below t.dummies s) else t.dummies).size + 1 = _
    rw [if_pos ((has_iff I.drise s).mpr h)]
    exact (erase_sorted I.drise h).2.2

theorem drop_inv (I : TInv t ents) {E1 E2 : List (Nat × Nat)} {j k : Nat} (e : ents = E1 ++ (j, k) :: E2) :
    TInv (t.drop E1.length) (E1 ++ E2) ∧ (t.drop E1.length).mask = t.mask ∧ (t.drop E1.length).led = t.led ∧ (t.drop E1.length).plain = t.plain ∧ (t.drop E1.length).dummies.size = t.dummies.size + 1 := by
  have hpl : t.place.toList = E1.map (·.1) ++ j :: E2.map (·.1) := by rw [I.place, e]; simp
  have hget : t.place[E1.length]? = some j := by
    rw [← Array.getElem?_toList, hpl, List.getElem?_append_right (by simp)]
    simp
  have hd : t.drop E1.length = { t with place := SetTable.eraseAt t.place E1.length, dummies := SetTable.insertAt t.dummies (SetTable.below t.dummies j) j } := by
    unfold SetTable.drop; rw [hget]
  have hjm : (j, k) ∈ ents := by rw [e]; simp
  have hjd : j ∉ t.dummies.toList := I.disj _ hjm
  obtain ⟨D1, D2, d1, d2, d3, d4⟩ := insert_sorted I.drise hjd
  have hmd : ∀ x, x ∈ (t.drop E1.length).dummies.toList ↔ x = j ∨ x ∈ t.dummies.toList := by
    intro x
    rw [hd]
    show x ∈ (SetTable.insertAt t.dummies (SetTable.below t.dummies j) j).toList ↔ _
    rw [d3, d1]
    simp only [List.mem_append, List.mem_cons]
    constructor
    · rintro (h | h | h)
      · exact .inr (.inl h)
      · exact .inl h
      · exact .inr (.inr h)
    · rintro (h | h | h)
      · exact .inr (.inl h)
      · exact .inl h
      · exact .inr (.inr h)
  have hmm : ∀ x ∈ E1 ++ E2, x ∈ ents := by
    intro x hx; rw [e]
    rcases List.mem_append.mp hx with h | h
    · exact List.mem_append.mpr (.inl h)
    · exact List.mem_append.mpr (.inr (.tail _ h))
  have hsz : (t.drop E1.length).dummies.size = t.dummies.size + 1 := by
    rw [hd]
    show (SetTable.insertAt t.dummies (SetTable.below t.dummies j) j).size = _
    have h1 : (SetTable.insertAt t.dummies (SetTable.below t.dummies j) j).toList.length = (D1 ++ j :: D2).length := by rw [d3]
    have h2 : t.dummies.toList.length = (D1 ++ D2).length := by rw [d1]
    simp at h1 h2; omega
  have hocc : ∀ y, Occ t ents y → Occ (t.drop E1.length) (E1 ++ E2) y := by
    rintro y (hy | hy)
    · obtain ⟨x, hx, rfl⟩ := List.mem_map.mp hy
      rw [e] at hx
      rcases List.mem_append.mp hx with h | h
      · exact .inl (List.mem_map.mpr ⟨x, List.mem_append.mpr (.inl h), rfl⟩)
      · rcases List.mem_cons.mp h with rfl | h
        · exact .inr ((hmd _).mpr (.inl rfl))
        · exact .inl (List.mem_map.mpr ⟨x, List.mem_append.mpr (.inr h), rfl⟩)
    · exact .inr ((hmd _).mpr (.inr hy))
  have hrise := I.rise
  rw [e, List.map_append, List.map_cons] at hrise
  obtain ⟨r1, r2, r3⟩ := List.pairwise_append.mp hrise
  obtain ⟨r4, r5⟩ := List.pairwise_cons.mp r2
  have hnod := I.nodup
  rw [e, List.map_append, List.map_cons] at hnod
  have hnod2 := List.nodup_cons.mp (List.perm_middle.nodup_iff.mp hnod)
  refine ⟨⟨by rw [hd]; exact I.mask, ?_, ?_, by rw [hd]; exact d3 ▸ d4, ?_, ?_, ?_, ?_, fun x hx => I.ways x (hmm x hx), by rw [List.map_append]; exact hnod2.2, ?_⟩, by rw [hd], by rw [hd], by rw [hd], hsz⟩
  · rw [hd]
    show (SetTable.eraseAt t.place E1.length).toList = _
    rw [toList_eraseAt, hpl, List.map_append, List.take_left' (by simp), ← List.drop_drop, List.drop_left' (by simp)]
    rfl
  · rw [List.map_append]
    exact List.pairwise_append.mpr ⟨r1, r5, fun x hx y hy => r3 x hx y (.tail _ hy)⟩
  · intro x hx; rw [hd]; exact I.lim x (hmm x hx)
  · intro x hx
    have hm : (t.drop E1.length).mask = t.mask := by rw [hd]
    rw [hm]
    rcases (hmd x).mp hx with rfl | h
    · exact I.lim _ hjm
    · exact I.dlim x h
  · intro x hx hdx
    rcases (hmd _).mp hdx with h | h
    · rcases List.mem_append.mp hx with q | q
      · have := r3 x.1 (List.mem_map.mpr ⟨x, q, rfl⟩) j (.head _)
        omega
      · have := r4 x.1 (List.mem_map.mpr ⟨x, q, rfl⟩)
        omega
    · exact I.disj x (hmm x hx) h
  · rw [hsz]
    have hm : (t.drop E1.length).mask = t.mask := by rw [hd]
    rw [hm]
    have := I.fill
    have hl : ents.length = (E1 ++ E2).length + 1 := by rw [e]; simp; omega
    omega
  · intro x hx
    obtain ⟨A1, A2, h1, h2⟩ := I.path x (hmm x hx)
    have hm : (t.drop E1.length).mask = t.mask := by rw [hd]
    rw [hm]
    exact ⟨A1, A2, h1, fun y hy => hocc y (h2 y hy)⟩
end
end Mine
end

section
set_option autoImplicit false
namespace Mine
open PySem

def runL (mask i : Nat) : List Nat := List.range' i (SetTable.runEnd mask i - i + 1)

theorem runEnd_ge (mask i : Nat) : i ≤ SetTable.runEnd mask i := by unfold SetTable.runEnd; split <;> omega

theorem find_range {n i : Nat} {P : Nat → Bool} :
    (∃ k, (List.range n).find? (fun k => P (i + k)) = some k ∧ ∃ L1 L2, List.range' i n = L1 ++ (i + k) :: L2 ∧ P (i + k) = true ∧ ∀ y ∈ L1, P y = false) ∨
    ((List.range n).find? (fun k => P (i + k)) = none ∧ ∀ y ∈ List.range' i n, P y = false) := by
  have hr : List.range' i n = (List.range n).map (i + ·) := List.range'_eq_map_range
  cases h : (List.range n).find? (fun k => P (i + k)) with
  | none =>
    right
    refine ⟨rfl, fun y hy => ?_⟩
    rw [hr] at hy
    obtain ⟨k, hk, rfl⟩ := List.mem_map.mp hy
    have := List.find?_eq_none.mp h k hk
    simpa using this
  | some k =>
    left
    refine ⟨k, rfl, ?_⟩
    obtain ⟨h1, as, bs, h2, h3⟩ := List.find?_eq_some_iff_append.mp h
    refine ⟨as.map (i + ·), bs.map (i + ·), by rw [hr, h2]; simp, h1, fun y hy => ?_⟩
    obtain ⟨x, hx, rfl⟩ := List.mem_map.mp hy
    have := h3 x hx
    simpa using this

theorem free_spec (mask : Nat) (owner : Array (Option Nat)) : ∀ r i pt, (∃ e ∈ runL mask i ++ runsL mask r i pt, (owner.getD e (some 0)).isNone = true) →
    ∃ L1 e L2, runL mask i ++ runsL mask r i pt = L1 ++ e :: L2 ∧ SetTable.layClean.free mask owner (r + 1) i pt = some e ∧ (owner.getD e (some 0)).isNone = true ∧ ∀ y ∈ L1, (owner.getD y (some 0)).isNone = false := by
  intro r
  induction r with
  | zero =>
    intro i pt hex
    have hn : SetTable.runEnd mask i + 1 - i = SetTable.runEnd mask i - i + 1 := by have := runEnd_ge mask i; omega
    unfold SetTable.layClean.free
    rw [hn]
    rcases find_range (n := SetTable.runEnd mask i - i + 1) (i := i) (P := fun y => (owner.getD y (some 0)).isNone) with ⟨k, h1, L1, L2, h2, h3, h4⟩ | ⟨h1, h2⟩
    · rw [h1]
      exact ⟨L1, i + k, L2 ++ runsL mask 0 i pt, by unfold runL; rw [h2]; simp, rfl, h3, h4⟩
    · exfalso
      obtain ⟨e, he, he2⟩ := hex
      rcases List.mem_append.mp he with he | he
      · rw [h2 e he] at he2; cases he2
      · cases he
  | succ r ih =>
    intro i pt hex
    have hn : SetTable.runEnd mask i + 1 - i = SetTable.runEnd mask i - i + 1 := by have := runEnd_ge mask i; omega
    unfold SetTable.layClean.free
    rw [hn]
    rcases find_range (n := SetTable.runEnd mask i - i + 1) (i := i) (P := fun y => (owner.getD y (some 0)).isNone) with ⟨k, h1, L1, L2, h2, h3, h4⟩ | ⟨h1, h2⟩
    · rw [h1]
      exact ⟨L1, i + k, L2 ++ runsL mask (r + 1) i pt, by unfold runL; rw [h2]; simp, rfl, h3, h4⟩
    · rw [h1]
      dsimp only
      obtain ⟨e, he, he2⟩ := hex
      have he' : e ∈ runsL mask (r + 1) i pt := by
        rcases List.mem_append.mp he with he | he
        · rw [h2 e he] at he2; cases he2
        · exact he
      obtain ⟨L1, e1, L2, a, b, c, d⟩ := ih (SetTable.leap mask i pt).1 (SetTable.leap mask i pt).2 ⟨e, he', he2⟩
      refine ⟨runL mask i ++ L1, e1, L2, ?_, b, c, fun y hy => ?_⟩
      · rw [List.append_assoc, ← a]; rfl
      · rcases List.mem_append.mp hy with hy | hy
        · exact h2 y hy
        · exact d y hy

theorem pathL_eq (mask : Nat) (h : Int) : pathL mask h = runL mask (SetTable.bits h % (mask + 1)) ++ runsL mask (SetTable.turns mask - 1) (SetTable.bits h % (mask + 1)) (SetTable.bits h) := rfl

theorem free_path {mask k : Nat} (hm : mask ∈ [7, 15, 31, 63]) (hk : k < 9) {owner : Array (Option Nat)} (hex : ∃ e, e ≤ mask ∧ (owner.getD e (some 0)).isNone = true) :
    ∃ L1 e L2, pathL mask (wayHash k) = L1 ++ e :: L2 ∧ SetTable.layClean.free mask owner (SetTable.turns mask) (SetTable.bits (wayHash k) % (mask + 1)) (SetTable.bits (wayHash k)) = some e ∧ (owner.getD e (some 0)).isNone = true ∧
      ∀ y ∈ L1, (owner.getD y (some 0)).isNone = false := by
  obtain ⟨e, he, he2⟩ := hex
  have := free_spec mask owner (SetTable.turns mask - 1) (SetTable.bits (wayHash k) % (mask + 1)) (SetTable.bits (wayHash k)) ⟨e, by rw [← pathL_eq]; exact cover hm hk he, he2⟩
  rw [← pathL_eq, show SetTable.turns mask - 1 + 1 = SetTable.turns mask from by unfold SetTable.turns; omega] at this
  exact this

structure OwnInv (mask : Nat) (ws : List Nat) (owner : Array (Option Nat)) (c : Nat) : Prop where
  size : owner.size = mask + 1
  back : ∀ j k : Nat, owner[j]? = some (some k) → k < c ∧ ∃ w, ws[k]? = some w ∧ ∃ L1 L2, pathL mask (wayHash w) = L1 ++ j :: L2 ∧ ∀ y ∈ L1, (owner.getD y (some 0)).isNone = false
  all : ∀ k : Nat, k < c → ∃ j : Nat, owner[j]? = some (some k)
  inj : ∀ j j' k : Nat, owner[j]? = some (some k) → owner[j']? = some (some k) → j = j'

theorem own_room {mask : Nat} {ws : List Nat} {owner : Array (Option Nat)} {c : Nat} (I : OwnInv mask ws owner c) (hc : c ≤ mask) : ∃ e, e ≤ mask ∧ (owner.getD e (some 0)).isNone = true := by
  -- the places that are taken map one to one into range c
  refine Classical.byContradiction fun hn => ?_
  have hfull : ∀ j, j ≤ mask → ∃ k, owner[j]? = some (some k) := by
    intro j hj
    have hjs : j < owner.size := by rw [I.size]; omega
    cases h : owner[j]? with
    | none => rw [Array.getElem?_eq_none_iff] at h; omega
    | some x =>
      cases x with
      | some k => exact ⟨k, rfl⟩
      | none => exact absurd ⟨j, hj, by rw [Array.getD_eq_getD_getElem?, h]; rfl⟩ hn
  let f : Nat → Nat := fun j => ((owner[j]?).getD none).getD 0
  have hf : ∀ j, j ≤ mask → owner[j]? = some (some (f j)) := by
    intro j hj
    obtain ⟨k, hk⟩ := hfull j hj
    show owner[j]? = some (some (((owner[j]?).getD none).getD 0))
    rw [hk]; rfl
  have h1 : ((List.range (mask + 1)).map f).Nodup := by
    refine List.pairwise_map.mpr ((List.nodup_range (n := mask + 1)).imp_of_mem fun {a b} ha hb hab => ?_)
    intro q
    have ha' := List.mem_range.mp ha
    have hb' := List.mem_range.mp hb
    exact hab (I.inj a b (f a) (hf a (by omega)) (by rw [q]; exact hf b (by omega)))
  have h2 := nodup_len (l' := List.range c) h1 (fun x hx => by
    obtain ⟨j, hj, rfl⟩ := List.mem_map.mp hx
    have hj' := List.mem_range.mp hj
    exact List.mem_range.mpr (I.back j _ (hf j (by omega))).1)
  simp at h2
  omega

theorem own_step {mask : Nat} {ws : List Nat} {owner : Array (Option Nat)} {c w : Nat} (hm : mask ∈ [7, 15, 31, 63]) (I : OwnInv mask ws owner c) (hc : c ≤ mask) (hw : ws[c]? = some w) (hw9 : w < 9) :
    ∃ e, SetTable.layClean.free mask owner (SetTable.turns mask) (SetTable.bits (wayHash w) % (mask + 1)) (SetTable.bits (wayHash w)) = some e ∧ OwnInv mask ws (owner.setIfInBounds e (some c)) (c + 1) := by
  obtain ⟨L1, e, L2, h1, h2, h3, h4⟩ := free_path hm hw9 (own_room I hc)
  have he : e ≤ mask := path_le hm hw9 (by rw [h1]; simp)
  have hes : e < owner.size := by rw [I.size]; omega
  have hen : owner[e]? = some none := by
    rw [Array.getD_eq_getD_getElem?] at h3
    cases h : owner[e]? with
    | none => rw [Array.getElem?_eq_none_iff] at h; omega
    | some x => rw [h] at h3; cases x <;> first | rfl | cases h3
  have hget : ∀ j, (owner.setIfInBounds e (some c))[j]? = if j = e then some (some c) else owner[j]? := by
    intro j
    rw [Array.getElem?_setIfInBounds]
    by_cases q : e = j
    · subst q; simp [hes]
    · rw [if_neg q, if_neg (fun z => q z.symm)]
  have hkeep : ∀ y, (owner.getD y (some 0)).isNone = false → ((owner.setIfInBounds e (some c)).getD y (some 0)).isNone = false := by
    intro y hy
    rw [Array.getD_eq_getD_getElem?, hget]
    by_cases q : y = e
    · rw [if_pos q]; rfl
    · rw [if_neg q, ← Array.getD_eq_getD_getElem?]; exact hy
  refine ⟨e, h2, ⟨by simp [I.size], fun j k hj => ?_, fun k hk => ?_, fun j j' k hj hj' => ?_⟩⟩
  · rw [hget] at hj
    by_cases q : j = e
    · rw [if_pos q] at hj
      cases hj
      subst q
      exact ⟨by omega, w, hw, L1, L2, h1, fun y hy => hkeep y (h4 y hy)⟩
    · rw [if_neg q] at hj
      obtain ⟨a, w', hw', A1, A2, b, d⟩ := I.back j k hj
      exact ⟨by omega, w', hw', A1, A2, b, fun y hy => hkeep y (d y hy)⟩
  · by_cases q : k = c
    · exact ⟨e, by rw [hget, if_pos rfl, q]⟩
    · obtain ⟨j, hj⟩ := I.all k (by omega)
      refine ⟨j, ?_⟩
      rw [hget, if_neg (fun z => ?_)]
      · exact hj
      · rw [z, hen] at hj; cases hj
  · rw [hget] at hj hj'
    by_cases q : j = e <;> by_cases q' : j' = e
    · rw [q, q']
    · rw [if_pos q] at hj; rw [if_neg q'] at hj'
      cases hj
      have := (I.back _ _ hj').1; omega
    · rw [if_neg q] at hj; rw [if_pos q'] at hj'
      cases hj'
      have := (I.back _ _ hj).1; omega
    · rw [if_neg q] at hj; rw [if_neg q'] at hj'
      exact I.inj j j' k hj hj'

def layStep (mask : Nat) (acc : Option (Array (Option Nat) × Nat)) (h : Int) : Option (Array (Option Nat) × Nat) := do
    let (owner, k) ← acc
    let j ← SetTable.layClean.free mask owner (SetTable.turns mask) (SetTable.bits h % (mask + 1)) (SetTable.bits h)
    pure (owner.setIfInBounds j (some k), k + 1)

theorem own_fold {mask : Nat} (hm : mask ∈ [7, 15, 31, 63]) (ws : List Nat) (hws : ∀ w ∈ ws, w < 9) (hl : ws.length ≤ mask) : ∀ (post : List Nat) (owner : Array (Option Nat)) (c : Nat), OwnInv mask ws owner c → (∃ pre, ws = pre ++ post ∧ pre.length = c) →
    ∃ owner', (post.map wayHash).foldl (layStep mask) (some (owner, c)) = some (owner', ws.length) ∧ OwnInv mask ws owner' ws.length := by
  intro post
  induction post with
  | nil =>
    rintro owner c I ⟨pre, h1, h2⟩
    have : c = ws.length := by rw [h1]; simp [h2]
    subst this
    exact ⟨owner, rfl, I⟩
  | cons w post ih =>
    rintro owner c I ⟨pre, h1, h2⟩
    have hcl : c < ws.length := by rw [h1]; simp; omega
    have hw : ws[c]? = some w := by rw [h1, ← h2]; simp
    obtain ⟨e, he, I'⟩ := own_step hm I (by omega) hw (hws w (List.mem_of_getElem? hw))
    rw [List.map_cons, List.foldl_cons]
    have hs : layStep mask (some (owner, c)) (wayHash w) = some (owner.setIfInBounds e (some c), c + 1) := by
      unfold layStep
      show (SetTable.layClean.free mask owner _ _ _).bind _ = _
      rw [he]; rfl
    rw [hs]
    exact ih _ _ I' ⟨pre ++ [w], by rw [h1]; simp, by simp [h2]⟩

theorem lay_clean {mask : Nat} (hm : mask ∈ [7, 15, 31, 63]) (ws : List Nat) (hws : ∀ w ∈ ws, w < 9) (hl : ws.length ≤ mask) :
    ∃ owner, SetTable.layClean mask (ws.map wayHash).toArray = some owner ∧ OwnInv mask ws owner ws.length := by
  have hI0 : OwnInv mask ws (Array.replicate (mask + 1) none) 0 := by
    refine ⟨by simp, fun j k hj => ?_, fun k hk => by omega, fun j j' k hj => ?_⟩
    · rw [Array.getElem?_replicate] at hj; split at hj <;> cases hj
    · rw [Array.getElem?_replicate] at hj; split at hj <;> cases hj
  obtain ⟨owner', h1, h2⟩ := own_fold hm ws hws hl ws _ 0 hI0 ⟨[], rfl, rfl⟩
  refine ⟨owner', ?_, h2⟩
  unfold SetTable.layClean
  rw [List.foldl_toArray]
  show ((ws.map wayHash).foldl (layStep mask) (some (Array.replicate (mask + 1) none, 0))).map (·.1) = _
  rw [h1]; rfl

def liveL (mask : Nat) (owner : Array (Option Nat)) : List (Nat × Nat) := (List.range (mask + 1)).filterMap fun j => (owner.getD j none).map (j, ·)

theorem mem_live {mask : Nat} {ws : List Nat} {owner : Array (Option Nat)} {c : Nat} (I : OwnInv mask ws owner c) (x : Nat × Nat) : x ∈ liveL mask owner ↔ owner[x.1]? = some (some x.2) := by
  unfold liveL
  rw [List.mem_filterMap]
  constructor
  · rintro ⟨j, hj, h⟩
    obtain ⟨k, hk, rfl⟩ := Option.map_eq_some_iff.mp h
    rw [Array.getD_eq_getD_getElem?] at hk
    cases q : owner[j]? with
    | none => rw [q] at hk; cases hk
    | some y => rw [q] at hk; simp at hk; rw [hk]
  · intro h
    refine ⟨x.1, ?_, ?_⟩
    · have : x.1 < owner.size := (Array.getElem?_eq_some_iff.mp h).1
      rw [I.size] at this
      exact List.mem_range.mpr this
    · rw [Array.getD_eq_getD_getElem?, h]; rfl

theorem live_rise (mask : Nat) (owner : Array (Option Nat)) : ((liveL mask owner).map (·.1)).Pairwise (· < ·) := by
  unfold liveL
  rw [List.map_filterMap]
  have h : (List.filterMap (fun x => Option.map (fun x => x.fst) (Option.map (fun x_1 => (x, x_1)) (owner.getD x none))) (List.range (mask + 1))).Sublist (List.range (mask + 1)) := by
    generalize List.range (mask + 1) = l
    induction l with
    | nil => exact .slnil
    | cons a r ih =>
      rw [List.filterMap_cons]
      cases q : owner.getD a none with
      | none => exact .cons _ ih
      | some k => exact .cons_cons _ ih
  exact List.Pairwise.sublist h List.pairwise_lt_range

theorem relaid_inv {t : SetTable} {ws : List Nat} {wanted : Nat} (hws : ∀ w ∈ ws, w < 9) (hnd : ws.Nodup) (hm : SetTable.sizeAbove wanted - 1 ∈ [7, 15, 31, 63]) (hl : ws.length ≤ SetTable.sizeAbove wanted - 1) :
    ∃ t' order, t.relaid (ws.map wayHash).toArray wanted = some (t', order) ∧ t'.led = t.led ∧ t'.plain = t.plain ∧ t'.dummies = #[] ∧ t'.mask = SetTable.sizeAbove wanted - 1 ∧
      order.size = ws.length ∧ (∀ k ∈ order.toList, k < ws.length) ∧ ∃ ents, TInv t' ents ∧ order.toList.map (fun k => ws[k]?) = ents.map (fun x => some x.2) := by
  obtain ⟨owner, h1, I⟩ := lay_clean hm ws hws hl
  generalize hM : SetTable.sizeAbove wanted - 1 = mask at *
  let live := liveL mask owner
  have hlt : ∀ x ∈ live, x.2 < ws.length := fun x hx => (I.back x.1 x.2 ((mem_live I x).mp hx)).1
  let ents : List (Nat × Nat) := live.map fun x => (x.1, ws.getD x.2 0)
  have hkn : (live.map (·.2)).Nodup := by
    have h2 : live.Nodup := by
      have := rise_nodup (live_rise mask owner)
      exact (List.pairwise_map.mp this).imp fun {a b} hab q => hab (by rw [q])
    refine List.pairwise_map.mpr (h2.imp_of_mem fun {a b} ha hb hab q => hab ?_)
    have ha' := (mem_live I a).mp ha
    have hb' := (mem_live I b).mp hb
    have : a.1 = b.1 := I.inj a.1 b.1 a.2 ha' (by rw [q]; exact hb')
    exact Prod.ext this q
  have hlen : live.length = ws.length := by
    have a := nodup_len (l' := List.range ws.length) hkn (fun x hx => by
      obtain ⟨y, hy, rfl⟩ := List.mem_map.mp hx
      exact List.mem_range.mpr (hlt y hy))
    have b := nodup_len (l := List.range ws.length) (l' := live.map (·.2)) List.nodup_range (fun k hk => by
      obtain ⟨j, hj⟩ := I.all k (List.mem_range.mp hk)
      exact List.mem_map.mpr ⟨(j, k), (mem_live I (j, k)).mpr hj, rfl⟩)
    simp at a b; omega
  have hws2 : ∀ x ∈ live, ∃ h : x.2 < ws.length, ws.getD x.2 0 = ws[x.2] := fun x hx => ⟨hlt x hx, by simp [List.getD, hlt x hx]⟩
  have hentsnd : (ents.map (·.2)).Nodup := by
    show ((live.map fun x => (x.1, ws.getD x.2 0)).map (·.2)).Nodup
    rw [List.map_map]
    refine List.pairwise_map.mpr ((List.pairwise_map.mp hkn).imp_of_mem fun {a b} ha hb hab q => hab ?_)
    obtain ⟨ga, ea⟩ := hws2 a ha
    obtain ⟨gb, eb⟩ := hws2 b hb
    have q' : ws.getD a.2 0 = ws.getD b.2 0 := q
    rw [ea, eb] at q'
    have hp := List.pairwise_iff_getElem.mp hnd
    rcases Nat.lt_trichotomy a.2 b.2 with z | z | z
    · exact absurd q' (hp _ _ ga gb z)
    · exact z
    · exact absurd q'.symm (hp _ _ gb ga z)
  refine ⟨{ mask := mask, place := (live.map (·.1)).toArray, dummies := #[], finger := t.finger, led := t.led, moves := t.movedTo mask, plain := t.plain }, (live.map (·.2)).toArray, ?_, rfl, rfl, rfl, rfl, by simp [hlen], ?_, ents, ?_, ?_⟩
  · unfold SetTable.relaid SetTable.laid
    rw [hM]
    show (SetTable.layClean mask _).bind _ = _
    rw [h1]; rfl
  · intro k hk
    obtain ⟨y, hy, rfl⟩ := List.mem_map.mp hk
    exact hlt y hy
  · have hocc : ∀ y, y ≤ mask → (owner.getD y (some 0)).isNone = false → y ∈ ents.map (·.1) := by
      intro y hy h
      rw [Array.getD_eq_getD_getElem?] at h
      cases q : owner[y]? with
      | none => rw [Array.getElem?_eq_none_iff, I.size] at q; omega
      | some z =>
        rw [q] at h
        cases z with
        | none => cases h
        | some k =>
          show y ∈ (live.map fun x => (x.1, ws.getD x.2 0)).map (·.1)
          rw [List.map_map]
          exact List.mem_map.mpr ⟨(y, k), (mem_live I (y, k)).mpr q, rfl⟩
    have hfst : ents.map (·.1) = live.map (·.1) := by
      show (live.map fun x => (x.1, ws.getD x.2 0)).map (·.1) = _
      rw [List.map_map]; rfl
    refine ⟨hm, by rw [hfst], by rw [hfst]; exact live_rise mask owner, .nil, ?_, fun x hx => (nomatch hx), fun x _ hx => (nomatch hx), ?_, ?_, hentsnd, ?_⟩
    · intro x hx
      have : x.1 ∈ ents.map (·.1) := List.mem_map.mpr ⟨x, hx, rfl⟩
      rw [hfst] at this
      obtain ⟨y, hy, e⟩ := List.mem_map.mp this
      have h3 := (Array.getElem?_eq_some_iff.mp ((mem_live I y).mp hy)).1
      rw [I.size] at h3
      show x.1 ≤ mask
      omega
    · show (live.map _).length + 0 ≤ mask
      rw [List.length_map, hlen]; omega
    · intro x hx
      obtain ⟨y, hy, rfl⟩ := List.mem_map.mp hx
      obtain ⟨g, e⟩ := hws2 y hy
      show ws.getD y.2 0 < 9
      rw [e]
      exact hws _ (List.getElem_mem g)
    · intro x hx
      obtain ⟨y, hy, rfl⟩ := List.mem_map.mp hx
      obtain ⟨_, w, hw, L1, L2, h5, h6⟩ := I.back y.1 y.2 ((mem_live I y).mp hy)
      have e : ws.getD y.2 0 = w := by simp [List.getD, hw]
      refine ⟨L1, L2, by show pathL mask (wayHash (ws.getD y.2 0)) = _; rw [e]; exact h5, fun z hz => .inl (hocc z ?_ (h6 z hz))⟩
      exact path_le hm (hws w (List.mem_of_getElem? hw)) (by rw [h5]; exact List.mem_append.mpr (.inl hz))
  · show (live.map (·.2)).map (fun k => ws[k]?) = (live.map fun x => (x.1, ws.getD x.2 0)).map (fun x => some x.2)
    rw [List.map_map, List.map_map]
    refine List.map_congr_left fun x hx => ?_
    obtain ⟨g, e⟩ := hws2 x hx
    show ws[x.2]? = some (ws.getD x.2 0)
    rw [e]; simp [g]
end Mine
end

section
set_option autoImplicit false
namespace Mine
open PySem

abbrev Ent := Int × Int × Nat
def e0 : Ent := (0, 0, 0)
def le (a b : Ent) : Prop := a.1 < b.1 ∨ (a.1 = b.1 ∧ a.2.1 ≤ b.2.1)
def lt (a b : Ent) : Bool := decide (a.1 < b.1) || (decide (a.1 = b.1) && decide (a.2.1 < b.2.1))
theorem le_refl (a : Ent) : le a a := .inr ⟨rfl, Int.le_refl _⟩
theorem le_trans {a b c : Ent} (h : le a b) (g : le b c) : le a c := by unfold le at *; omega
theorem le_of_lt {a b : Ent} (h : lt a b = true) : le a b := by unfold lt at h; unfold le; simp at h; omega
theorem le_of_not_lt {a b : Ent} (h : lt a b = false) : le b a := by unfold lt at h; unfold le; simp at h; omega

def at_ (H : Array Ent) (i : Nat) : Ent := H.getD i e0
def swp {α : Type} [Inhabited α] (H : Array α) (i j : Nat) : Array α := (H.setIfInBounds i H[j]!).setIfInBounds j H[i]!

theorem at_eq {H : Array Ent} {i : Nat} (h : i < H.size) : at_ H i = H[i] := by unfold at_; simp [Array.getD, h]
theorem swp_size {α : Type} [Inhabited α] (H : Array α) (i j : Nat) : (swp H i j).size = H.size := by unfold swp; simp
theorem swp_at {H : Array Ent} {i j k : Nat} (hi : i < H.size) (hj : j < H.size) : at_ (swp H i j) k = if k = j then at_ H i else if k = i then at_ H j else at_ H k := by
  unfold at_ swp
  simp only [Array.getD_eq_getD_getElem?, Array.getElem?_setIfInBounds, Array.size_setIfInBounds]
  by_cases h1 : k = j
  · subst h1; simp [hi, hj]
  · rw [if_neg h1, if_neg (fun q => h1 q.symm)]
    by_cases h2 : k = i
    · subst h2; simp [hi, hj]
    · rw [if_neg h2, if_neg (fun q => h2 q.symm)]
theorem swp_perm {α : Type} [Inhabited α] {H : Array α} {i j : Nat} (hi : i < H.size) (hj : j < H.size) : List.Perm (swp H i j).toList H.toList := by
  have e : swp H i j = H.swap i j hi hj := by
    unfold swp
    rw [Array.swap_def]
    have e1 : H.setIfInBounds i H[j]! = H.set i H[j] hi := by
      rw [Array.setIfInBounds, dif_pos hi]; simp [hj]
    rw [e1, Array.setIfInBounds, dif_pos (by simpa using hj)]
    simp [hi]
  rw [e]
  exact Array.perm_iff_toList_perm.mp (Array.swap_perm hi hj)

def par (i : Nat) : Nat := (i - 1) / 2
def HeapOrd (H : Array Ent) : Prop := ∀ i, 0 < i → i < H.size → le (at_ H (par i)) (at_ H i)
structure DownInv (H : Array Ent) (pos : Nat) : Prop where
  one : ∀ i, 0 < i → i < H.size → i ≠ pos → par i ≠ pos → le (at_ H (par i)) (at_ H i)
  two : 0 < pos → ∀ c, 0 < c → c < H.size → par c = pos → le (at_ H (par pos)) (at_ H c)
structure UpInv (H : Array Ent) (pos : Nat) : Prop where
  one : ∀ i, 0 < i → i < H.size → i ≠ pos → le (at_ H (par i)) (at_ H i)
  two : 0 < pos → ∀ c, 0 < c → c < H.size → par c = pos → le (at_ H (par pos)) (at_ H c)

theorem down_step {H : Array Ent} {pos c : Nat} (I : DownInv H pos) (hc : c < H.size) (hp : par c = pos) (h0 : 0 < c) (hmin : ∀ c', 0 < c' → c' < H.size → par c' = pos → le (at_ H c) (at_ H c')) : DownInv (swp H c pos) c := by
  have hpc : pos < c := by unfold par at hp; omega
  have hps : pos < H.size := by omega
  refine ⟨fun i h1 h2 h3 h4 => ?_, fun h1 d h2 h3 h4 => ?_⟩
  · rw [swp_size] at h2
    rw [swp_at hc hps, swp_at hc hps]
    by_cases a : i = pos
    · subst a
      have hpi : par i ≠ i := by unfold par; omega
      rw [if_neg hpi, if_neg h4, if_pos rfl]
      exact I.two h1 c h0 hc hp
    · rw [if_neg a, if_neg h3]
      by_cases b : par i = pos
      · rw [if_pos b]
        exact hmin i h1 h2 b
      · rw [if_neg b, if_neg h4]
        exact I.one i h1 h2 a b
  · rw [swp_size] at h3
    have hdc : c < d := by unfold par at h4; omega
    rw [swp_at hc hps, swp_at hc hps, hp, if_pos rfl, if_neg (by omega), if_neg (by omega)]
    have := I.one d h2 h3 (by omega) (by omega)
    rw [h4] at this
    exact this

theorem down_end {H : Array Ent} {pos : Nat} (I : DownInv H pos) (h : H.size / 2 ≤ pos) : UpInv H pos :=
  ⟨fun i h1 h2 h3 => I.one i h1 h2 h3 (by unfold par; omega), I.two⟩

theorem up_step {H : Array Ent} {pos : Nat} (I : UpInv H pos) (hp : pos < H.size) (h0 : 0 < pos) (hlt : le (at_ H pos) (at_ H (par pos))) : UpInv (swp H (par pos) pos) (par pos) := by
  have hpp : par pos < pos := by unfold par; omega
  have hps : par pos < H.size := by omega
  refine ⟨fun i h1 h2 h3 => ?_, fun h1 d h2 h3 h4 => ?_⟩
  · rw [swp_size] at h2
    rw [swp_at hps hp, swp_at hps hp]
    by_cases a : i = pos
    · subst a
      rw [if_neg (by omega), if_pos rfl, if_pos rfl]
      exact hlt
    · rw [if_neg a, if_neg h3]
      by_cases b : par i = pos
      · rw [if_pos b]
        exact I.two h0 i h1 h2 b
      · rw [if_neg b]
        by_cases c : par i = par pos
        · rw [if_pos c]
          have := I.one i h1 h2 a
          rw [c] at this
          exact le_trans hlt this
        · rw [if_neg c]
          exact I.one i h1 h2 a
  · rw [swp_size] at h3
    have hq : par (par pos) < par pos := by unfold par at *; omega
    have hup := I.one (par pos) h1 hps (by omega)
    rw [swp_at hps hp, swp_at hps hp, if_neg (by omega), if_neg (by omega)]
    by_cases a : d = pos
    · rw [if_pos a]; exact hup
    · rw [if_neg a, if_neg (by unfold par at *; omega)]
      have := I.one d h2 h3 a
      rw [h4] at this
      exact le_trans hup this

theorem up_stop {H : Array Ent} {pos : Nat} (I : UpInv H pos) (h : 0 < pos → le (at_ H (par pos)) (at_ H pos)) : HeapOrd H := by
  intro i h1 h2
  by_cases a : i = pos
  · subst a; exact h h1
  · exact I.one i h1 h2 a

theorem push_init {H : Array Ent} (I : HeapOrd H) (e : Ent) : UpInv (H.push e) H.size := by
  have hg : ∀ i, i < H.size → at_ (H.push e) i = at_ H i := fun i hi => by
    unfold at_; simp [Array.getD_eq_getD_getElem?, Array.getElem?_push, hi, Nat.ne_of_lt hi]
  refine ⟨fun i h1 h2 h3 => ?_, fun h1 c h2 h3 h4 => ?_⟩
  · rw [Array.size_push] at h2
    have : i < H.size := by omega
    rw [hg i this, hg (par i) (by unfold par; omega)]
    exact I i h1 this
  · rw [Array.size_push] at h3
    unfold par at h4; omega

theorem pop_init {H : Array Ent} (I : HeapOrd H) (e : Ent) : DownInv ((H.pop).setIfInBounds 0 e) 0 := by
  have hg : ∀ i, 0 < i → i < H.pop.size → at_ ((H.pop).setIfInBounds 0 e) i = at_ H i := fun i h0 hi => by
    rw [Array.size_pop] at hi
    unfold at_
    have h1 : ¬ 0 = i := by omega
    have h2 : i < H.size := by omega
    simp [Array.getD_eq_getD_getElem?, Array.getElem?_setIfInBounds, h1, Array.getElem?_pop, hi, h2]
  refine ⟨fun i h1 h2 h3 h4 => ?_, fun h1 => absurd h1 (Nat.lt_irrefl _)⟩
  rw [Array.size_setIfInBounds] at h2
  have hp : 0 < par i := by omega
  rw [hg i h1 h2, hg (par i) hp (by unfold par at *; omega)]
  refine I i h1 ?_
  rw [Array.size_pop] at h2; omega

theorem root_min {H : Array Ent} (I : HeapOrd H) : ∀ i, i < H.size → le (at_ H 0) (at_ H i) := by
  intro i
  induction i using Nat.strongRecOn with
  | ind i ih =>
    intro hi
    by_cases h0 : i = 0
    · subst h0; exact le_refl _
    · exact le_trans (ih (par i) (by unfold par; omega) (by unfold par; omega)) (I i (by omega) hi)
end Mine
end

section
set_option autoImplicit false
set_option maxRecDepth 100000
namespace Mine
open PySem PySem.W PyProof.Rows

inductive All2 {α β : Type} (R : α → β → Prop) : List α → List β → Prop
  | nil : All2 R [] []
  | cons {a : α} {b : β} {as : List α} {bs : List β} : R a b → All2 R as bs → All2 R (a :: as) (b :: bs)
namespace All2
variable {α β : Type} {R R' : α → β → Prop}
theorem length {as : List α} {bs : List β} (h : All2 R as bs) : as.length = bs.length := by
  induction h with
  | nil => rfl
  | cons _ _ ih => simp [ih]
theorem mono {as : List α} {bs : List β} (h : All2 R as bs) (hR : ∀ a b, R a b → R' a b) : All2 R' as bs := by
  induction h with
  | nil => exact .nil
  | cons h _ ih => exact .cons (hR _ _ h) ih
theorem append {as as' : List α} {bs bs' : List β} (h : All2 R as bs) (h' : All2 R as' bs') : All2 R (as ++ as') (bs ++ bs') := by
  induction h with
  | nil => exact h'
  | cons h _ ih => exact .cons h ih
theorem split {as : List α} : ∀ {bs bs' : List β}, All2 R as (bs ++ bs') → All2 R (as.take bs.length) bs ∧ All2 R (as.drop bs.length) bs' := by
  induction as with
  | nil =>
    intro bs bs' h
    cases bs with
    | nil => exact ⟨.nil, h⟩
    | cons b bs => cases h
  | cons a as ih =>
    intro bs bs' h
    cases bs with
    | nil => exact ⟨.nil, h⟩
    | cons b bs =>
      cases h with
      | cons h1 h2 => exact ⟨.cons h1 (ih h2).1, (ih h2).2⟩
theorem get {as : List α} {bs : List β} (h : All2 R as bs) : ∀ {i : Nat} (hi : i < bs.length), ∃ a, as[i]? = some a ∧ R a bs[i] := by
  induction h with
  | nil => intro i hi; cases hi
  | cons h1 _ ih =>
    intro i hi
    cases i with
    | zero => exact ⟨_, rfl, h1⟩
    | succ i => exact ih (Nat.lt_of_succ_lt_succ hi)
theorem of_get {as : List α} : ∀ {bs : List β}, as.length = bs.length → (∀ i (h : i < as.length) (h' : i < bs.length), R as[i] bs[i]) → All2 R as bs := by
  induction as with
  | nil => intro bs h _; cases bs with
    | nil => exact .nil
    | cons _ _ => cases h
  | cons a as ih =>
    intro bs h g
    cases bs with
    | nil => cases h
    | cons b bs => exact .cons (g 0 (by simp) (by simp)) (ih (by simpa using h) fun i h1 h2 => g (i + 1) (by simpa using h1) (by simpa using h2))
end All2

section
variable {prog : Program} {w : World}

def KeyP (prog : Program) (w : World) (h : Heap) (v : Value) (k : Nat) : Prop := ∃ b, v = .ref b ∧ IsTupleKey (intKind prog w) h (wayInts k) b

theorem tkh (k : Nat) (hk : k < 9) : tupleKeyHash (intKind prog w) (wayInts k) = wayHash k := by
  unfold tupleKeyHash
  have h1 : ∀ k < 9, reduceHash (Builtin.Tuple.tupleHashOf ((wayInts k).map hashInt)) = wayHash k := by decide +kernel
  exact h1 k hk

def KeysAt (prog : Program) (w : World) (KP : Value → Nat → Prop) (h : Heap) : Prop := ∀ v k, KP v k → KeyP prog w h v k

structure SetOk (KP : Value → Nat → Prop) (es : Array (Int × Value)) (t : SetTable) (ents : List (Nat × Nat)) : Prop where
  inv : TInv t ents
  room : 5 * (ents.length + t.dummies.size) < 3 * t.mask
  plain : t.plain = true
  all : All2 (fun (e : Int × Value) (x : Nat × Nat) => e.1 = wayHash x.2 ∧ KP e.2 x.2) es.toList ents

variable {h : Heap} {KP : Value → Nat → Prop} {es : Array (Int × Value)} {t : SetTable} {ents : List (Nat × Nat)}
theorem KeysAt.keeps {h' : Heap} (S : KeysAt prog w KP h) (hk : ∀ b o, h.get? b = some o → o.cls = .type "tuple" → h'.get? b = some o) : KeysAt prog w KP h' := fun v k hv =>
  let ⟨b, e, o, items, n, ho, hc, r⟩ := S v k hv; ⟨b, e, o, items, n, hk b o ho hc, hc, r⟩
theorem SetOk.size (S : SetOk KP es t ents) : es.size = ents.length := by have := S.all.length; simpa using this
theorem SetOk.fits (S : SetOk KP es t ents) : t.fits es.size = true := by
  have h1 : t.place.size = ents.length := by
    have := congrArg List.length S.inv.place
    simpa using this
  unfold SetTable.fits SetTable.fill
  have := S.inv.fill
  rw [S.size]
  simp only [Bool.and_eq_true, beq_iff_eq, decide_eq_true_eq]
  exact ⟨h1, by omega⟩
theorem SetOk.le9 (S : SetOk KP es t ents) : ents.length ≤ 9 := by
  have h1 := nodup_len (l' := List.range 9) S.inv.nodup (fun x hx => by
    obtain ⟨y, hy, rfl⟩ := List.mem_map.mp hx
    exact List.mem_range.mpr (S.inv.ways y hy))
  simpa using h1
theorem SetOk.hashAt (S : SetOk KP es t ents) : ∀ i (hi : i < ents.length), ((es[i]?.map (·.1)).getD 0) = wayHash ents[i].2 := by
  intro i hi
  obtain ⟨a, h1, h2⟩ := S.all.get hi
  rw [Array.getElem?_toList] at h1
  rw [h1]
  exact h2.1
theorem gaveWay_no {mask : Nat} (hm : mask ∈ [7, 15, 31, 63]) : (mask % 2 == 0) = false := by
  simp at hm
  rcases hm with rfl | rfl | rfl | rfl <;> rfl

section
variable {M : Model} {A : Around} {E : Value → Shared → Prop} {s : Shared}

theorem ofA_tuple {ks : List Int} {a : Addr} {Q : Bool → Shared → Prop} (hk : IsTupleKey (intKind prog w) s.heap ks a) (h : Q false s) : wpAny (model prog w) A (ofAClassStatement 8 (.ref a)) Q E s := by
  have hT := hk.typeIs
  obtain ⟨o, items, n, ho, _, hd, hi⟩ := hk
  unfold ofAClassStatement
  refine wpAny_bind (wpAny_typeOf hT ?_)
  simp only [beq_self_eq_true, if_true]
  refine wpAny_bind (wpAny_pure ?_)
  simp only [Bool.not_true, Bool.false_eq_true, if_false]
  refine wpAny_bind (wpAny_seqItems ho hd ?_)
  dsimp only
  refine wpAny_bind ?_
  rw [← Array.forIn_toList]
  refine wpAny_forIn_list _ (fun rest r s' => r.1 = none ∧ s' = s ∧ ∀ v ∈ rest, carriedByValue v = true) _ ?_ ?_ _ _ ⟨rfl, rfl, hi.byValue⟩
  · rintro v rest r s' ⟨hr, rfl, hall⟩
    have hv := hall v List.mem_cons_self
    have e : ofAClassStatement 7 v = pure false := by
      cases v with
      | ref a => simp [carriedByValue] at hv
      | _ => rfl
    rw [e]
    refine wpAny_bind (wpAny_pure ?_)
    simp only [Bool.false_eq_true, if_false]
    exact wpAny_pure ⟨rfl, rfl, fun u hu' => hall u (List.mem_cons_of_mem _ hu')⟩
  · rintro ⟨r1, r2⟩ s' ⟨hr, rfl, _⟩
    simp only at hr
    subst hr
    exact wpAny_pure h

theorem searchSeen {x : Addr} {ks : List Int} {stored : List Value} {Q : Bool → Shared → Prop} (hx : IsTupleKey (intKind prog w) s.heap ks x) (hs : ∀ v ∈ stored, ∃ b ks', v = .ref b ∧ IsTupleKey (intKind prog w) s.heap ks' b) (h : Q false s) :
    wpAny (model prog w) A (searchCouldBeSeen (.ref x) stored) Q E s := by
  unfold searchCouldBeSeen
  refine wpAny_bind ?_
  refine wpAny_forIn_list _ (fun rest r s' => r.1 = none ∧ s' = s ∧ ∀ v ∈ rest, ∃ b ks', v = .ref b ∧ IsTupleKey (intKind prog w) s.heap ks' b) _ ?_ ?_ _ _ ⟨rfl, rfl, hs⟩
  · rintro v rest r s' ⟨hr, rfl, hall⟩
    obtain ⟨b, ks', rfl, hb⟩ := hall v List.mem_cons_self
    have hrest := fun u hu' => hall u (List.mem_cons_of_mem _ hu')
    dsimp only
    by_cases hab : (x == b) = true
    · rw [hab]
      simp only [Bool.true_or, if_true]
      exact wpAny_pure ⟨rfl, rfl, hrest⟩
    · have hab' : (x == b) = false := by simpa using hab
      rw [hab']
      simp only [carriedByValue, Bool.false_and, Bool.or_false, Bool.false_eq_true, if_false]
      refine wpAny_bind (wpAny_eqIsQuiet_tuple hx ?_)
      simp only [Bool.not_true, Bool.false_eq_true, if_false]
      refine wpAny_bind (wpAny_eqIsQuiet_tuple hb ?_)
      simp only [Bool.not_true, Bool.false_eq_true, if_false]
      refine wpAny_bind (ofA_tuple hx ?_)
      simp only [Bool.false_eq_true, if_false]
      refine wpAny_bind (ofA_tuple hb ?_)
      simp only [Bool.false_eq_true, if_false]
      exact wpAny_pure ⟨rfl, rfl, hrest⟩
  · rintro ⟨r1, r2⟩ s' ⟨hr, rfl, _⟩
    simp only at hr
    subst hr
    exact wpAny_pure h
end
end
end Mine
end

section
set_option autoImplicit false
set_option maxRecDepth 100000
namespace Mine
open PySem PySem.W PyProof.Rows
section
variable {prog : Program} {w : World} {KP : Value → Nat → Prop} {es : Array (Int × Value)} {t : SetTable} {ents : List (Nat × Nat)} {A : Around} {E : Value → Shared → Prop} {s : Shared} {a x : Addr} {o : Obj} {ep k : Nat}

theorem search_hit {adding : Bool} {Q : SetFound → Shared → Prop} (hu : A.units < cLine) (ho : s.heap.get? a = some o) (hd : o.data = .set es ep t) (S : SetOk KP es t ents) (hK : KeysAt prog w KP s.heap) (hx : IsTupleKey (intKind prog w) s.heap (wayInts k) x)
    {E1 E2 : List (Nat × Nat)} {j : Nat} (e : ents = E1 ++ (j, k) :: E2) (h : Q (.there (if adding then none else some E1.length)) s) :
    wpAny (model prog w) A (setSearch a (.ref x) (wayHash k) adding) Q E s := by
  unfold setSearch
  rw [show (100000 : Nat) = 99999 + 1 from rfl]
  unfold setSearchFrom
  refine wpAny_bind (wpAny_setState_of ho hd S.fits ?_)
  dsimp only
  rw [if_neg (by unfold SetTable.gaveWay; rw [gaveWay_no S.inv.mask]; exact Bool.false_ne_true)]
  obtain ⟨nx, hnx⟩ := find_hit S.inv S.hashAt e
  simp only [Option.getD_none]
  generalize hg : t.probe _ (wayHash k) (t.probeStart (wayHash k)) = r
  have hr : r = _ := hg.symm.trans hnx
  subst hr
  dsimp only
  have hi : E1.length < ents.length := by rw [e]; simp
  obtain ⟨y, hy, hy1, hyK⟩ := S.all.get hi
  obtain ⟨b, hy2, hy3⟩ := hK _ _ hyK
  have hek : (ents[E1.length]).2 = k := by simp [e]
  rw [hek] at hy1 hy3
  rw [Array.getElem?_toList] at hy
  have stored : ∀ v ∈ (es.filter (fun z => z.1 == wayHash k)).toList.map (·.2), ∃ b ks', v = .ref b ∧ IsTupleKey (intKind prog w) s.heap ks' b := by
    intro v hv
    obtain ⟨z, hz, rfl⟩ := List.mem_map.mp hv
    have hz2 : z ∈ es.toList := by
      rw [Array.toList_filter] at hz
      exact (List.mem_filter.mp hz).1
    obtain ⟨i, hi', rfl⟩ := List.mem_iff_getElem.mp hz2
    have hl := S.all.length
    obtain ⟨z2, q1, _, qK⟩ := S.all.get (i := i) (by omega)
    obtain ⟨b', q2, q3⟩ := hK _ _ qK
    rw [List.getElem?_eq_getElem hi'] at q1
    cases q1
    exact ⟨b', _, q2, q3⟩
  obtain ⟨y1, y2⟩ := y
  dsimp only at hy2 hy1
  subst hy2
  have hsm : t.sameMemory t.moves t.mask = some true := by unfold SetTable.sameMemory; simp
  cases hl : t.led
  case' true => simp only [Bool.not_true, Bool.false_eq_true, if_false]
  case' false =>
    simp only [Bool.not_false, if_true]
    refine wpAny_bind (searchSeen hx stored ?_)
    simp only [Bool.false_eq_true, if_false]
  all_goals
    rw [hy]
    dsimp only
    refine wpAny_bind (wpAny_holding (wpAny_eqBool_tuple hu hy3 hx ?_))
    rw [decide_eq_true rfl]
    refine wpAny_bind (wpAny_setState_of ho hd S.fits ?_)
    dsimp only
    cases adding with
    | true =>
      simp only [Bool.and_self, if_true]
      exact wpAny_pure (by simpa using h)
    | false =>
      simp only [Bool.false_and, Bool.false_eq_true, if_false]
      rw [hsm]
      dsimp only
      rw [if_pos rfl, S.inv.slot_at e]
      dsimp only
      rw [hy]
      dsimp only
      refine wpAny_bind (wpAny_isSame_ref_self (wpAny_bind (wpAny_pure ?_)))
      exact wpAny_pure (by simpa using h)

theorem search_miss {adding : Bool} {Q : SetFound → Shared → Prop} (ho : s.heap.get? a = some o) (hd : o.data = .set es ep t) (S : SetOk KP es t ents)
    (hk : k < 9) (hn : k ∉ ents.map (·.2))
    (h : ∀ sl wd, sl ≤ t.mask → sl ∉ ents.map (·.1) → (wd = false → sl ∉ t.dummies.toList) → (wd = true → sl ∈ t.dummies.toList) → (∃ L1 L2, pathL t.mask (wayHash k) = L1 ++ sl :: L2 ∧ ∀ y ∈ L1, Occ t ents y) → Q (.free sl wd) s) :
    wpAny (model prog w) A (setSearch a (.ref x) (wayHash k) adding) Q E s := by
  unfold setSearch
  rw [show (100000 : Nat) = 99999 + 1 from rfl]
  unfold setSearchFrom
  refine wpAny_bind (wpAny_setState_of ho hd S.fits ?_)
  dsimp only
  rw [if_neg (by unfold SetTable.gaveWay; rw [gaveWay_no S.inv.mask]; exact Bool.false_ne_true)]
  obtain ⟨e, d, h1, h2, h3, h4, h5, h6⟩ := find_miss S.inv S.hashAt hk hn
  simp only [Option.getD_none]
  generalize hg : t.probe _ (wayHash k) (t.probeStart (wayHash k)) = r
  have hr : r = _ := hg.symm.trans h1
  subst hr
  dsimp only
  cases d with
  | none => exact wpAny_pure (h e false h2 h3 (fun _ => h4 rfl) (fun q => by cases q) h6)
  | some d =>
    dsimp only
    have h5' := h5 rfl
    have hsd : t.slot d = .dummy := h5'.2
    have hb : (adding && (t.slot d != SetTable.Slot.dummy)) = false := by rw [hsd]; simp
    rw [hb]
    simp only [Bool.false_eq_true, if_false]
    exact wpAny_pure (h d true h2 h3 (fun q => by cases q) (fun _ => h5'.1) h6)
end
end Mine
end

section
set_option autoImplicit false
set_option maxRecDepth 100000
namespace Mine
open PySem PySem.W PyProof.Rows
section
variable {prog : Program} {w : World} {KP : Value → Nat → Prop} {es : Array (Int × Value)} {t : SetTable} {ents : List (Nat × Nat)} {A : Around} {E : Value → Shared → Prop} {s : Shared} {a x : Addr} {o : Obj} {ep k : Nat}

theorem byScan_ref (es : Array (Int × Value)) : byScan (.ref x) es = false := by unfold byScan; rfl

theorem find_hit_w {Q : Option Nat → Shared → Prop} (hu : A.units < cLine) (ho : s.heap.get? a = some o) (hd : o.data = .set es ep t) (S : SetOk KP es t ents) (hK : KeysAt prog w KP s.heap) (hx : IsTupleKey (intKind prog w) s.heap (wayInts k) x)
    {E1 E2 : List (Nat × Nat)} {j : Nat} (e : ents = E1 ++ (j, k) :: E2) (h : Q (some E1.length) s) : wpAny (model prog w) A (setFind a (.ref x) (wayHash k)) Q E s := by
  unfold setFind
  rw [show (100000 : Nat) = 99999 + 1 from rfl]
  unfold setFindIn
  refine wpAny_bind (wpAny_setState_of ho hd S.fits ?_)
  dsimp only
  rw [byScan_ref]
  simp only [Bool.false_eq_true, if_false]
  exact wpAny_bind (search_hit (adding := false) hu ho hd S hK hx e (wpAny_pure (by simpa using h)))
theorem find_miss_w {Q : Option Nat → Shared → Prop} (ho : s.heap.get? a = some o) (hd : o.data = .set es ep t) (S : SetOk KP es t ents) (hk : k < 9) (hn : k ∉ ents.map (·.2)) (h : Q none s) :
    wpAny (model prog w) A (setFind a (.ref x) (wayHash k)) Q E s := by
  unfold setFind
  rw [show (100000 : Nat) = 99999 + 1 from rfl]
  unfold setFindIn
  refine wpAny_bind (wpAny_setState_of ho hd S.fits ?_)
  dsimp only
  rw [byScan_ref]
  simp only [Bool.false_eq_true, if_false]
  exact wpAny_bind (search_miss (adding := false) ho hd S hk hn fun _ _ _ _ _ _ _ => wpAny_pure h)

theorem ent_split (hm : k ∈ ents.map (·.2)) : ∃ E1 E2 j, ents = E1 ++ (j, k) :: E2 := by
  obtain ⟨⟨j, k'⟩, hy, rfl⟩ := List.mem_map.mp hm
  obtain ⟨E1, E2, e⟩ := List.append_of_mem hy
  exact ⟨E1, E2, j, e⟩

theorem hash_way {Q : Int → Shared → Prop} (hu : A.units < cLine) (hk : k < 9) (hx : IsTupleKey (intKind prog w) s.heap (wayInts k) x) (h : ∀ tk, Q (wayHash k) { s with toks := tk }) :
    wpAny (model prog w) A (pyHash (.ref x)) Q E s :=
  wpAny_pyHash_tuple hu hx (by rw [tkh k hk]; exact h _)

theorem in_way {Q : Value → Shared → Prop} (hu : A.units + 1 < cLine) (ho : s.heap.get? a = some o) (hc : o.cls = .type "set") (hd : o.data = .set es ep t) (S : SetOk KP es t ents) (hK : KeysAt prog w KP s.heap) (hk : k < 9) (hx : IsTupleKey (intKind prog w) s.heap (wayInts k) x)
    (h : ∀ tk, Q (.bool (!decide (k ∈ ents.map (·.2)))) { s with toks := tk }) : wpAny (model prog w) A (compareOp .NotIn (.ref x) (.ref a)) Q E s := by
  have hT : s.TypeIs (.ref a) "set" := ⟨o, ho, hc⟩
  show wpAny _ _ (do return .bool (!(← contains (.ref a) (.ref x)))) Q E s
  refine wpAny_bind ?_
  unfold contains
  try with_reducible refine wpAny_holding ?_
  refine wpAny_bind (wpAny_specialOf hT F.slot_set_contains.lookup ?_)
  show wpAny _ _ (if (some (Value.builtin "set.__contains__") == some Value.none) = true then _ else _) _ E s
  rw [if_neg (by rw [beq_builtin_none]; exact Bool.false_ne_true)]
  refine wpAny_bind (wpAny_callSpecialUnlessNone?_slot (name := Str.ofString "__contains__") hT F.slot_set_contains
    (wpAny_call_entry F.slot_set_contains hT entry_set_contains ?_ (F.args_set_contains_2 _ _)))
  unfold Builtin.«frozenset.__contains__» Builtin.Frozenset.oneOther
  simp only [List.isEmpty_nil, bind_assoc]
  unfold Builtin.Frozenset.addrOf Builtin.Frozenset.withSetAsKey setContains
  refine wpAny_bind (wpAny_pure ?_)
  try dsimp only
  refine wpAny_bind (wpAny_pure ?_)
  try dsimp only
  refine wpAny_bind (wpAny_tryCatch ?_)
  refine wpAny_holding ?_
  refine wpAny_bind (hash_way (by simpa using hu) hk hx fun tk => ?_)
  have fin : ∀ (E' : Value → Shared → Prop) (r : Option Nat), r.isSome = decide (k ∈ ents.map (·.2)) → wpAny (model prog w) A.in1 (pure r.isSome : Sem Bool) (fun b s' => wpAny (model prog w) A.in1 (ret (Value.bool b)) (fun fin s' => ∃ v, fin = .done (.ret v) ∧ wpAny (model prog w) A (truthy v) (fun b s' => wpAny (model prog w) A (pure (Value.bool !b)) Q E s') E s') E s') E' { s with toks := tk } := by
    intro E' r hr
    refine wpAny_pure ?_
    rw [hr]
    exact wpAny_pure ⟨_, rfl, wpAny_truthy_bool (wpAny_pure (h tk))⟩
  by_cases hm : k ∈ ents.map (·.2)
  · obtain ⟨E1, E2, j, e⟩ := ent_split hm
    refine wpAny_bind (find_hit_w (s := { s with toks := tk }) (by simpa using hu) ho hd S hK hx e ?_)
    exact fin _ (some E1.length) (by simp [hm])
  · refine wpAny_bind (find_miss_w (s := { s with toks := tk }) ho hd S hk hm ?_)
    exact fin _ none (by simp [hm])

theorem hashByValue_tuple {ks : List Int} {Q : Bool → Shared → Prop} (hk : IsTupleKey (intKind prog w) s.heap ks x) (h : Q true s) : wpAny (model prog w) A (hashByValue 8 (.ref x)) Q E s := by
  have hT := hk.typeIs
  obtain ⟨o, items, n, ho, _, hd, hi⟩ := hk
  unfold hashByValue
  refine wpAny_bind (wpAny_specialOf hT F.slot_tuple_hash.lookup ?_)
  dsimp only
  refine wpAny_bind (wpAny_seqItems ho hd ?_)
  dsimp only [Option.getD_some]
  refine wpAny_bind ?_
  rw [← Array.forIn_toList]
  refine wpAny_forIn_list _ (fun rest r s' => r.1 = none ∧ s' = s ∧ ∃ left, ItemsAre (intKind prog w) left rest) _ ?_ ?_ _ _ ⟨rfl, rfl, _, hi⟩
  · rintro v rest r s' ⟨hr, rfl, left, hl⟩
    cases hl with
    | @cons k _ ks' _ h1 hl' =>
      obtain ⟨tk, rfl⟩ := Value.isInt_shape h1
      have e : hashByValue 7 (.int k tk) = pure true := rfl
      rw [e]
      refine wpAny_bind (wpAny_pure ?_)
      simp only [Bool.not_true, Bool.false_eq_true, if_false]
      exact wpAny_pure ⟨rfl, rfl, ks', hl'⟩
  · rintro ⟨r1, r2⟩ s' ⟨hr, rfl, _⟩
    simp only at hr
    subst hr
    exact wpAny_pure h

theorem mask_of_grown {n : Nat} (h0 : 0 < n) (h9 : n ≤ 9) : SetTable.sizeAbove (SetTable.grown n) - 1 ∈ [7, 15, 31, 63] ∧ 5 * n < 3 * (SetTable.sizeAbove (SetTable.grown n) - 1) ∧ ¬ SetTable.sizeAbove (SetTable.grown n) > sizeLine := by
  have h : ∀ n < 10, 0 < n → SetTable.sizeAbove (SetTable.grown n) - 1 ∈ [7, 15, 31, 63] ∧ 5 * n < 3 * (SetTable.sizeAbove (SetTable.grown n) - 1) ∧ ¬ SetTable.sizeAbove (SetTable.grown n) > 16777216 := by decide +kernel
  rw [sizeLine_eq]
  exact h n (by omega) h0

theorem all2_insert {sl : Nat} {E1 E2 : List (Nat × Nat)} (e : ents = E1 ++ E2) (hA : All2 (fun (e : Int × Value) (x : Nat × Nat) => e.1 = wayHash x.2 ∧ KP e.2 x.2) es.toList ents)
    (hx : KP (.ref x) k) : All2 (fun (e : Int × Value) (x : Nat × Nat) => e.1 = wayHash x.2 ∧ KP e.2 x.2) (SetTable.insertAt es E1.length (wayHash k, .ref x)).toList (E1 ++ (sl, k) :: E2) := by
  rw [toList_insertAt]
  rw [e] at hA
  obtain ⟨h1, h2⟩ := hA.split
  exact h1.append (.cons ⟨rfl, hx⟩ h2)
theorem all2_erase {z : Nat × Nat} {E1 E2 : List (Nat × Nat)} (e : ents = E1 ++ z :: E2) (hA : All2 (fun (e : Int × Value) (x : Nat × Nat) => e.1 = wayHash x.2 ∧ KP e.2 x.2) es.toList ents) :
    All2 (fun (e : Int × Value) (x : Nat × Nat) => e.1 = wayHash x.2 ∧ KP e.2 x.2) (SetTable.eraseAt es E1.length).toList (E1 ++ E2) := by
  rw [toList_eraseAt]
  rw [e] at hA
  obtain ⟨h1, h2⟩ := hA.split
  refine h1.append ?_
  rw [← List.drop_drop]
  cases hq : es.toList.drop E1.length with
  | nil => rw [hq] at h2; cases h2
  | cons q r =>
    rw [hq] at h2
    cases h2 with
    | cons _ h3 => exact h3

theorem relay_all2 {ents1 : List (Nat × Nat)} {l : List (Int × Value)} (hA : All2 (fun (e : Int × Value) (x : Nat × Nat) => e.1 = wayHash x.2 ∧ KP e.2 x.2) l ents1) :
    ∀ (order : List Nat) (ents2 : List (Nat × Nat)), (∀ k ∈ order, k < (ents1.map (·.2)).length) → order.map (fun k => (ents1.map (·.2))[k]?) = ents2.map (fun x => some x.2) →
      All2 (fun (e : Int × Value) (x : Nat × Nat) => e.1 = wayHash x.2 ∧ KP e.2 x.2) (order.filterMap (fun k => l[k]?)) ents2 := by
  intro order
  induction order with
  | nil =>
    intro ents2 _ hq
    cases ents2 with
    | nil => exact .nil
    | cons _ _ => cases hq
  | cons k r ih =>
    intro ents2 hk hq
    cases ents2 with
    | nil => cases hq
    | cons z ents2 =>
      simp only [List.map_cons, List.cons.injEq] at hq
      have hkl := hk k (.head _)
      rw [List.length_map] at hkl
      obtain ⟨y, hy, h1, h2⟩ := hA.get hkl
      have hz : (ents1[k]).2 = z.2 := by
        have := hq.1
        rw [List.getElem?_map, List.getElem?_eq_getElem hkl] at this
        simpa using this
      rw [List.filterMap_cons, hy]
      exact .cons ⟨by rw [← hz]; exact h1, by rw [← hz]; exact h2⟩ (ih ents2 (fun q hq' => hk q (.tail _ hq')) hq.2)

theorem same_ways {ws vs : List Nat} (hv : vs.Nodup) (hl : ws.length = vs.length) (hs : ∀ x ∈ vs, x ∈ ws) : ∀ x, x ∈ vs ↔ x ∈ ws := by
  intro x
  refine ⟨hs x, fun hx => Classical.byContradiction fun hn => ?_⟩
  have := nodup_len (l := x :: vs) (l' := ws) (List.nodup_cons.mpr ⟨hn, hv⟩) (fun y hy => by
    rcases List.mem_cons.mp hy with rfl | hy
    · exact hx
    · exact hs y hy)
  simp at this; omega

theorem keeps_set {h h' : Heap} {R : Obj} (ho : h.get? a = some R) (hc : R.cls = .type "set") (hs : Heap.SameBut a h h') : ∀ b o, h.get? b = some o → o.cls = .type "tuple" → h'.get? b = some o := by
  intro b o hb ht
  by_cases e : b = a
  · subst e
    rw [ho] at hb
    cases hb
    rw [hc] at ht
    injection ht with ht
    exact absurd ht (by decide)
  · exact (hs.2 b e).trans hb

theorem set_stored {h : Heap} {es' : Array (Int × Value)} {t' : SetTable} (ho : h.get? a = some o) (hd : o.data = .set es ep t) :
    (h.update a (Obj.putSet es' t')).get? a = some { o with data := .set es' (ep + 1) t' } ∧ Heap.SameBut a h (h.update a (Obj.putSet es' t')) := by
  refine ⟨?_, Heap.SameBut.update ..⟩
  rw [← putSet_of es' t' hd]
  exact Heap.get?_update_self _ ho (by rw [putSet_of es' t' hd]; rfl)

theorem ents_pos (E1 E2 : List (Nat × Nat)) (z : Nat × Nat) : (E1 ++ z :: E2).length = (E1 ++ E2).length + 1 := by simp; omega

/-- what an add leaves -/
def Added (KP : Value → Nat → Prop) (s : Shared) (a : Addr) (o : Obj) (ents : List (Nat × Nat)) (k : Nat) (h' : Heap) : Prop :=
  Heap.SameBut a s.heap h' ∧ ∃ es' ep' t' ents', h'.get? a = some { o with data := .set es' ep' t' } ∧ SetOk KP es' t' ents' ∧ (∀ k', k' ∈ ents'.map (·.2) ↔ k' = k ∨ k' ∈ ents.map (·.2)) ∧ ents'.length = ents.length + 1

theorem add_hashed {Q : Bool → Shared → Prop} (ho : s.heap.get? a = some o) (hc : o.cls = .type "set") (hd : o.data = .set es ep t) (S : SetOk KP es t ents) (hk : k < 9) (hn : k ∉ ents.map (·.2))
    (hx : IsTupleKey (intKind prog w) s.heap (wayInts k) x) (hxK : KP (.ref x) k) (h : ∀ h', Added KP s a o ents k h' → Q true { s with heap := h' }) : wpAny (model prog w) A (setAddHashed a (.ref x) (wayHash k)) Q E s := by
  unfold setAddHashed
  try with_reducible refine wpAny_holding ?_
  rw [show (100000 : Nat) = 99999 + 1 from rfl]
  unfold setAddHashedIn
  refine wpAny_bind (wpAny_setState_of ho hd S.fits ?_)
  dsimp only
  rw [byScan_ref]
  simp only [Bool.false_eq_true, if_false]
  refine wpAny_bind (search_miss (adding := true) ho hd S hk hn fun sl wd h1 h2 h3 h4 h5 => ?_)
  dsimp only
  refine wpAny_bind (wpAny_setState_of ho hd S.fits ?_)
  dsimp only
  rw [show (t.put sl).1.plain = true from S.plain]
  simp only [if_true]
  refine wpAny_bind (hashByValue_tuple hx ?_)
  simp only [if_true]
  have hroom := S.room
  have hm7 : 7 ≤ t.mask := by
    have := S.inv.mask
    simp at this; omega
  have hf : sl ∈ t.dummies.toList ∨ ents.length + t.dummies.size + 1 ≤ t.mask := by
    cases wd with
    | true => exact .inl (h4 rfl)
    | false => right; omega
  obtain ⟨E1, E2, e, hp, I', hmask, hled, hpl, hds, hds2⟩ := put_inv S.inv h1 h2 hk hn h5 hf
  have hA' := all2_insert (sl := sl) e S.all hxK
  obtain ⟨g1, g2⟩ := set_stored (es' := SetTable.insertAt es E1.length (wayHash k, .ref x)) (t' := (t.put sl).1) ho hd
  have hsz : (SetTable.insertAt es E1.length (wayHash k, Value.ref x)).size = ents.length + 1 := by
    have := hA'.length
    rw [ents_pos, ← e] at this
    simpa using this
  have h9 : ents.length + 1 ≤ 9 := by
    have h1 := nodup_len (l' := List.range 9) I'.nodup (fun z hz => by
      obtain ⟨y, hy, rfl⟩ := List.mem_map.mp hz
      exact List.mem_range.mpr (I'.ways y hy))
    rw [List.length_map, ents_pos, ← e] at h1
    simpa using h1
  rw [hp]
  refine wpAny_bind (wpAny_storeSet_of ho hd ?_ (by rw [hsz, sizeLine_eq]; omega))
  generalize hH : s.heap.update a (Obj.putSet (SetTable.insertAt es E1.length (wayHash k, Value.ref x)) (t.put sl).1) = H at g1 g2 ⊢
  have hmem : ∀ k', k' ∈ (E1 ++ (sl, k) :: E2).map (·.2) ↔ k' = k ∨ k' ∈ ents.map (·.2) := by
    intro k'
    rw [e]
    simp only [List.map_append, List.map_cons, List.mem_append, List.mem_cons]
    constructor
    · rintro (h | h | h)
      · exact .inr (.inl h)
      · exact .inl h
      · exact .inr (.inr h)
    · rintro (h | h | h)
      · exact .inr (.inl h)
      · exact .inl h
      · exact .inr (.inr h)
  have hA2 : All2 (fun (e : Int × Value) (x : Nat × Nat) => e.1 = wayHash x.2 ∧ KP e.2 x.2) (SetTable.insertAt es E1.length (wayHash k, .ref x)).toList (E1 ++ (sl, k) :: E2) :=
    hA'
  have plain' : (t.put sl).1.plain = true := by rw [hpl]; exact S.plain
  have done : 5 * ((E1 ++ (sl, k) :: E2).length + (t.put sl).1.dummies.size) < 3 * (t.put sl).1.mask → Q true { s with heap := H } := by
    intro hr
    refine h H ⟨g2, _, _, _, _, g1, ⟨I', hr, plain', hA2⟩, hmem, ?_⟩
    rw [ents_pos, ← e]
  have hplace : (t.put sl).1.place.size = ents.length + 1 := by
    have := congrArg List.length I'.place
    rw [List.length_map, ents_pos, ← e] at this
    simpa using this
  cases wd with
  | true =>
    simp only [Bool.not_true, Bool.false_and, Bool.false_eq_true, if_false]
    have := hds2 (h4 rfl)
    exact wpAny_pure (done (by rw [ents_pos, ← e, hmask]; omega))
  | false =>
    have hd0 := hds (h3 rfl)
    by_cases hfull : (t.put sl).1.tooFull = true
    · simp only [Bool.not_false, Bool.true_and, hfull, if_true]
      rw [S.size]
      refine wpAny_bind ?_
      unfold setRelay
      have hfits : (t.put sl).1.fits (SetTable.insertAt es E1.length (wayHash k, Value.ref x)).size = true := by
        unfold SetTable.fits SetTable.fill
        have := I'.fill
        rw [ents_pos, ← e] at this
        rw [hsz, hplace]
        simp only [Bool.and_eq_true, beq_iff_eq, decide_eq_true_eq]
        exact ⟨trivial, this⟩
      refine wpAny_bind (wpAny_setState_of (s := { s with heap := H }) g1 rfl hfits ?_)
      dsimp only
      obtain ⟨m1, m2, m3⟩ := mask_of_grown (n := ents.length + 1) (by omega) h9
      rw [if_neg m3]
      have hmap : (SetTable.insertAt es E1.length (wayHash k, Value.ref x)).map (·.1) = (((E1 ++ (sl, k) :: E2).map (·.2)).map wayHash).toArray := by
        apply Array.ext'
        rw [Array.toList_map]
        have : ∀ {as : List (Int × Value)} {bs : List (Nat × Nat)}, All2 (fun (e : Int × Value) (x : Nat × Nat) => e.1 = wayHash x.2 ∧ KP e.2 x.2) as bs → as.map (·.1) = (bs.map (·.2)).map wayHash := by
          intro as bs h
          induction h with
          | nil => rfl
          | cons h1 _ ih => simp only [List.map_cons, ih, h1.1]
        exact this hA2
      obtain ⟨t2, order, q1, q2, q3, q4, q5, q6, q7, ents2, I2, q8⟩ := relaid_inv (t := (t.put sl).1) (ws := (E1 ++ (sl, k) :: E2).map (·.2)) (wanted := SetTable.grown (ents.length + 1))
        (fun z hz => by obtain ⟨y, hy, rfl⟩ := List.mem_map.mp hz; exact I'.ways y hy) I'.nodup m1 (by rw [List.length_map, ents_pos, ← e]; omega)
      rw [hmap, q1]
      refine wpAny_bind ?_
      wp_delta
      have hA3 := relay_all2 hA2 order.toList ents2 q7 q8
      have hl2 : order.toList.length = ents2.length := by
        have := congrArg List.length q8
        simpa using this
      have hn2 : ents2.length = ents.length + 1 := by
        rw [List.length_map, ents_pos, ← e] at q6
        rw [← hl2]; simpa using q6
      have hfm : (Array.filterMap (fun i => (SetTable.insertAt es E1.length (wayHash k, Value.ref x))[i]?) order).toList = order.toList.filterMap (fun i => (SetTable.insertAt es E1.length (wayHash k, Value.ref x)).toList[i]?) := by
        rw [Array.toList_filterMap]
        simp only [Array.getElem?_toList]
      rw [← hfm] at hA3
      have hsz3 : (Array.filterMap (fun i => (SetTable.insertAt es E1.length (wayHash k, Value.ref x))[i]?) order).size = ents.length + 1 := by
        have := hA3.length
        rw [hn2] at this
        rw [← Array.length_toList]; exact this
      generalize hE3 : Array.filterMap (fun i => (SetTable.insertAt es E1.length (wayHash k, Value.ref x))[i]?) order = es3 at hA3 hsz3 ⊢
      rw [if_neg (by rw [hsz3, hsz]; simp)]
      refine wpAny_pure ?_
      dsimp only
      refine wpAny_storeSet_of (s := { s with heap := H }) g1 rfl ?_ (by rw [hsz3, sizeLine_eq]; omega)
      obtain ⟨f1, f2⟩ := set_stored (es' := es3) (t' := t2) g1 rfl
      refine wpAny_pure (h _ ⟨?_, es3, _, t2, ents2, f1, ⟨I2, ?_, by rw [q3]; exact plain', hA3⟩, ?_, hn2⟩)
      · exact g2.trans f2
      · rw [hn2, q4, q5]
        simpa using m2
      · intro k'
        rw [← hmem k']
        refine same_ways I2.nodup (by rw [List.length_map, List.length_map, ents_pos, ← e, hn2]) (fun z hz => ?_) k'
        have hz2 : some z ∈ ents2.map (fun x => some x.2) := by
          obtain ⟨y, hy, rfl⟩ := List.mem_map.mp hz
          exact List.mem_map.mpr ⟨y, hy, rfl⟩
        rw [← q8] at hz2
        obtain ⟨i, _, hi⟩ := List.mem_map.mp hz2
        exact List.mem_of_getElem? hi
    · simp only [Bool.not_false, Bool.true_and, hfull, Bool.false_eq_true, if_false]
      refine wpAny_pure (done ?_)
      unfold SetTable.tooFull SetTable.fill at hfull
      rw [hplace] at hfull
      rw [ents_pos, ← e]
      simp only [ge_iff_le, decide_eq_true_eq] at hfull
      omega
end
end Mine
end

section
set_option autoImplicit false
set_option maxRecDepth 100000
namespace Mine
open PySem PySem.W PyProof.Rows
section
variable {prog : Program} {w : World} {KP : Value → Nat → Prop} {es : Array (Int × Value)} {t : SetTable} {ents : List (Nat × Nat)} {A : Around} {E : Value → Shared → Prop} {s : Shared} {a x : Addr} {o : Obj} {ep k : Nat}

theorem set_noDict (ho : s.heap.get? a = some o) (hnd : o.dict = none) : ∀ b, Value.ref a = .ref b → ∃ ob, s.heap.get? b = some ob ∧ ob.dict = none := fun b e => by
  injection e with e; subst e; exact ⟨o, ho, hnd⟩
theorem meth_add {pl : Sem Bool} {Q : Value × List Value → Shared → Prop} (ho : s.heap.get? a = some o) (hc : o.cls = .type "set") (hnd : o.dict = none) (h : Q (.builtin "set.add", [.ref a]) s) :
    wpAny (model prog w) A (getMethod (.ref a) "add" pl) Q E s := getMethod_builtin ⟨o, ho, hc⟩ F.plainAttrs_set F.slot_set_add F.type_set_add (set_noDict ho hnd) h
theorem meth_remove {pl : Sem Bool} {Q : Value × List Value → Shared → Prop} (ho : s.heap.get? a = some o) (hc : o.cls = .type "set") (hnd : o.dict = none) (h : Q (.builtin "set.remove", [.ref a]) s) :
    wpAny (model prog w) A (getMethod (.ref a) "remove" pl) Q E s := getMethod_builtin ⟨o, ho, hc⟩ F.plainAttrs_set F.slot_set_remove F.type_set_remove (set_noDict ho hnd) h

theorem call_add {Q : Value → Shared → Prop} (hu : A.units + 1 < cLine) (ho : s.heap.get? a = some o) (hc : o.cls = .type "set") (hd : o.data = .set es ep t) (S : SetOk KP es t ents) (hk : k < 9) (hn : k ∉ ents.map (·.2))
    (hx : IsTupleKey (intKind prog w) s.heap (wayInts k) x) (hxK : KP (.ref x) k) (h : ∀ h' tk, Added KP s a o ents k h' → Q .none { s with heap := h', toks := tk }) : wpAny (model prog w) A (call (.builtin "set.add") [.ref a, .ref x]) Q E s := by
  have hT : s.TypeIs (.ref a) "set" := ⟨o, ho, hc⟩
  refine wpAny_call_entry F.slot_set_add hT F.entry_set_add ?_ (F.args_set_add_2 _ _)
  unfold Builtin.«set.add» Builtin.Frozenset.oneOther
  simp only [List.isEmpty_nil, bind_assoc]
  unfold Builtin.Frozenset.addrOf setAdd
  refine wpAny_bind (wpAny_pure ?_)
  try dsimp only
  refine wpAny_bind (wpAny_pure ?_)
  try dsimp only
  refine wpAny_bind ?_
  refine wpAny_holding ?_
  refine wpAny_bind (hash_way (by simpa using hu) hk hx fun tk => ?_)
  refine add_hashed (s := { s with toks := tk }) ho hc hd S hk hn hx hxK fun h' hA => ?_
  show wpAny _ _ (ret Value.none) _ _ _
  exact wpAny_pure ⟨_, rfl, h h' tk hA⟩

def Removed (KP : Value → Nat → Prop) (s : Shared) (a : Addr) (o : Obj) (ents : List (Nat × Nat)) (k : Nat) (h' : Heap) : Prop :=
  Heap.SameBut a s.heap h' ∧ ∃ es' ep' t' ents', h'.get? a = some { o with data := .set es' ep' t' } ∧ SetOk KP es' t' ents' ∧ (∀ k', k' ∈ ents'.map (·.2) ↔ k' ≠ k ∧ k' ∈ ents.map (·.2)) ∧ ents'.length + 1 = ents.length

theorem call_remove {Q : Value → Shared → Prop} (hu : A.units + 1 < cLine) (ho : s.heap.get? a = some o) (hc : o.cls = .type "set") (hd : o.data = .set es ep t) (S : SetOk KP es t ents) (hK : KeysAt prog w KP s.heap) (hk : k < 9) (hm : k ∈ ents.map (·.2))
    (hx : IsTupleKey (intKind prog w) s.heap (wayInts k) x) (h : ∀ h' tk, Removed KP s a o ents k h' → Q .none { s with heap := h', toks := tk }) : wpAny (model prog w) A (call (.builtin "set.remove") [.ref a, .ref x]) Q E s := by
  have hT : s.TypeIs (.ref a) "set" := ⟨o, ho, hc⟩
  refine wpAny_call_entry F.slot_set_remove hT F.entry_set_remove ?_ (F.args_set_remove_2 _ _)
  unfold Builtin.«set.remove» Builtin.Frozenset.oneOther
  simp only [List.isEmpty_nil, bind_assoc]
  unfold Builtin.Frozenset.addrOf Builtin.Frozenset.withSetAsKey setDiscard
  refine wpAny_bind (wpAny_pure ?_)
  try dsimp only
  refine wpAny_bind (wpAny_pure ?_)
  try dsimp only
  refine wpAny_bind (wpAny_tryCatch ?_)
  refine wpAny_holding ?_
  refine wpAny_bind (hash_way (by simpa using hu) hk hx fun tk => ?_)
  unfold setDiscardHashed
  obtain ⟨E1, E2, j, e⟩ := ent_split hm
  refine wpAny_bind (find_hit_w (s := { s with toks := tk }) (by simpa using hu) ho hd S hK hx e ?_)
  dsimp only
  refine wpAny_bind (wpAny_setState_of (s := { s with toks := tk }) ho hd S.fits ?_)
  dsimp only
  obtain ⟨I', dm, dl, dp, dd⟩ := drop_inv S.inv e
  have hA' := all2_erase (z := (j, k)) e S.all
  have hl : ents.length = (E1 ++ E2).length + 1 := by rw [e, ents_pos]
  have hsz : (SetTable.eraseAt es E1.length).size = (E1 ++ E2).length := by have := hA'.length; rw [← Array.length_toList]; exact this
  have h9 := S.le9
  refine wpAny_bind (wpAny_storeSet_of (s := { s with toks := tk }) ho hd ?_ (by rw [hsz, sizeLine_eq]; omega))
  obtain ⟨g1, g2⟩ := set_stored (es' := SetTable.eraseAt es E1.length) (t' := t.drop E1.length) ho hd
  refine wpAny_bind (wpAny_point (wpAny_pure ?_))
  simp only [Bool.not_true, Bool.false_eq_true, if_false]
  refine wpAny_pure ⟨_, rfl, h _ tk ⟨g2, _, _, _, E1 ++ E2, g1, ⟨I', ?_, by rw [dp]; exact S.plain, hA'⟩, fun k' => ?_, hl.symm⟩⟩
  · rw [dd, dm]
    have := S.room
    omega
  · have hnd := S.inv.nodup
    rw [e, List.map_append, List.map_cons] at hnd
    have hnd2 := (List.nodup_cons.mp (List.perm_middle.nodup_iff.mp hnd)).1
    rw [e]
    simp only [List.map_append, List.map_cons, List.mem_append, List.mem_cons] at hnd2 ⊢
    constructor
    · intro h
      refine ⟨fun q => hnd2 (q ▸ h), h.elim .inl fun h => .inr (.inr h)⟩
    · rintro ⟨h1, h | h | h⟩
      · exact .inl h
      · exact absurd h h1
      · exact .inr h

theorem set_fresh (led : Bool) : SetOk KP #[] (SetTable.fresh 0 0 led) [] :=
  ⟨⟨by simp [SetTable.fresh], rfl, .nil, .nil, fun _ hx => (nomatch hx), fun _ hx => (nomatch hx), fun _ hx => (nomatch hx), by simp [SetTable.fresh], fun _ hx => (nomatch hx), .nil, fun _ hx => (nomatch hx)⟩, by simp [SetTable.fresh], rfl, .nil⟩
end
end Mine
end

section
set_option autoImplicit false
set_option maxRecDepth 100000
namespace Mine
open PySem PySem.W PyProof.Rows

abbrev tupObj (xs : Array Value) (k : Nat) : Obj := { cls := .type "tuple", data := .seq xs k }
abbrev lstObj (xs : Array Value) (k : Nat) : Obj := { cls := .type "list", data := .seq xs k }

section
variable {prog : Program} {w : World} {A : Around} {E : Value → Shared → Prop} {s : Shared}

theorem ent_lt {a b : Addr} {c1 n1 c2 n2 : Int} {t1 u1 t2 u2 : Tok} {p1 p2 : Value} {k1 k2 : Nat} {Q : Value → Shared → Prop} (hu : A.units < cLine) (ha : s.heap.get? a = some (tupObj #[.int c1 t1, .int n1 u1, p1] k1)) (hb : s.heap.get? b = some (tupObj #[.int c2 t2, .int n2 u2, p2] k2))
    (hne : n1 ≠ n2) (h : Q (.bool (decide (c1 < c2) || (decide (c1 = c2) && decide (n1 < n2)))) s) : wpAny (model prog w) A (richCompare .Lt (.ref a) (.ref b)) Q E s := by
  have hTa : s.TypeIs (.ref a) "tuple" := ⟨_, ha, rfl⟩
  have hTb : s.TypeIs (.ref b) "tuple" := ⟨_, hb, rfl⟩
  refine wpAny_richCompare_same_room (op := .Lt) hTa hTb F.slot_tuple_lt (wpAny_call_entry F.slot_tuple_lt hTa F.entry_tuple_lt ?_ (F.args_tuple_lt_2 _ _)) hu
  show wpAny _ _ (isInstance (.ref b) (.type "tuple") >>= _) _ _ s
  refine wpAny_bind (wpAny_isInstance hTb isSubtype_tuple_tuple ?_)
  simp only [Bool.not_true, Bool.false_eq_true, if_false]
  refine wpAny_bind (wpAny_tupleItemsOf ha rfl ?_)
  refine wpAny_bind (wpAny_tupleItemsOf hb rfl ?_)
  refine wpAny_bind ?_
  show wpAny _ _ (forIn [(Value.int c1 t1, Value.int c2 t2), (Value.int n1 u1, Value.int n2 u2), (p1, p2)] _ _) _ _ _
  rw [List.forIn_cons]
  refine wpAny_bind ?_
  dsimp only
  refine wpAny_bind (wpAny_eqBool_int ?_)
  by_cases hc : c1 = c2
  · subst hc
    simp only [beq_self_eq_true, Bool.not_true, Bool.false_eq_true, if_false]
    refine wpAny_pure ?_
    dsimp only
    rw [List.forIn_cons]
    refine wpAny_bind ?_
    dsimp only
    refine wpAny_bind (wpAny_eqBool_int ?_)
    have hnb : (n1 == n2) = false := by simpa using hne
    simp only [hnb, Bool.not_false, if_true]
    refine wpAny_bind (wpAny_rule ?_)
    refine wpAny_bind ?_
    show wpAny _ _ (compareOp .Lt (.int n1 u1) (.int n2 u2)) _ _ _
    refine wpAny_lt_int (wpAny_bind (wpAny_pure (wpAny_pure ?_)))
    dsimp only
    refine wpAny_pure (wpAny_pure ⟨_, rfl, (fun e => nomatch e), ?_⟩)
    simpa using h
  · have hcb : (c1 == c2) = false := by simpa using hc
    simp only [hcb, Bool.not_false, if_true]
    refine wpAny_bind (wpAny_rule ?_)
    refine wpAny_bind ?_
    show wpAny _ _ (compareOp .Lt (.int c1 t1) (.int c2 t2)) _ _ _
    refine wpAny_lt_int (wpAny_bind (wpAny_pure (wpAny_pure ?_)))
    dsimp only
    refine wpAny_pure (wpAny_pure ⟨_, rfl, (fun e => nomatch e), ?_⟩)
    simpa [hc] using h
end
end Mine
end

section
set_option autoImplicit false
set_option maxRecDepth 100000
namespace Mine
open PySem PySem.W PyProof.Rows
theorem entry_sift : entryFor table "_heapq.heapify.sift" = some Builtin.«_heapq.heapify.sift» := entryFor_of_tree (by kernel_rfl)
theorem entry_push : entryFor table "_heapq.heappush" = some Builtin.«_heapq.heappush» := entryFor_of_tree (by kernel_rfl)
theorem entry_pop : entryFor table "_heapq.heappop" = some Builtin.«_heapq.heappop» := entryFor_of_tree (by kernel_rfl)
theorem plain_sift : plainId "_heapq.heapify.sift" = true := by decide +kernel
theorem plain_push : plainId "_heapq.heappush" = true := by decide +kernel
theorem plain_pop : plainId "_heapq.heappop" = true := by decide +kernel
theorem kind_push : builtinKind "_heapq.heappush" = none := by kernel_rfl
theorem kind_pop : builtinKind "_heapq.heappop" = none := by kernel_rfl
theorem args_push (a b : Value) : argsOk "_heapq.heappush" ⟨[a, b], []⟩ := by unfold argsOk; kernel_rfl
theorem args_pop (a : Value) : argsOk "_heapq.heappop" ⟨[a], []⟩ := by unfold argsOk; kernel_rfl

section
variable {prog : Program} {w : World} {A : Around} {E : Value → Shared → Prop} {s : Shared}

theorem call_again {id : String} {b : Builtin} {args : List Value} {Q : Value → Shared → Prop} (hk : builtinKind id = none) (hp : plainId id = true) (hb : entryFor table id = some b) (ha : argsOk id ⟨args, []⟩)
    (hc : wpAny (model prog w) A.in1 (b ⟨args, []⟩) (fun fin s' => match fin with
      | .done f => (match (Except.ok f : Result) with | .ok (.ret v) => Q v s' | .ok _ => False | .error e => E e s')
      | .again c' => c'.quiet = true ∧ codeAny (model prog w) A c' (fun r s' => match r with | .ok (.ret v) => Q v s' | .ok _ => False | .error e => E e s') s') E s) : wpAny (model prog w) A (call (.builtin id) args) Q E s := by
  refine wpAny_call (codeAny_call_builtin hp hb ?_)
  simp only [checkBuiltinCall, hk]
  cases hsig : Manifest.signature? id with
  | none => exact wpAny_pure hc
  | some sig =>
    simp only [argsOk, hsig] at ha
    have h2 : Bind.checkArgs id sig ⟨args, []⟩ = pure () := ha
    show wpAny _ A.in1 (Bind.checkArgs id sig ⟨args, []⟩) _ _ s
    rw [h2]; exact wpAny_pure hc

abbrev siftC (a : Addr) (down : Bool) (pos : Nat) (res : Value) : Code := .builtin "_heapq.heapify.sift" ⟨[.ref a, .bool false, .bool down, .int (pos : Int) 0, .int 0 0, res, .int (-1) 0], []⟩


theorem upd_swap {a : Addr} {xs : Array Value} {n i j : Nat} {x y : Value} {Q : Unit → Shared → Prop} (ha : s.heap.get? a = some (lstObj xs n)) (hx : xs[i]? = some x) (hy : xs[j]? = some y) (hsz : xs.size ≤ sizeLine)
    (h : ∀ h', Heap.SameBut a s.heap h' → h'.get? a = some (lstObj (swp xs i j) n) → Q () { s with heap := h' }) :
    wpAny (model prog w) A (updateSeq a fun xs => (xs.setIfInBounds i y).setIfInBounds j x) Q E s := by
  have hi : i < xs.size := (Array.getElem?_eq_some_iff.mp hx).1
  have hj : j < xs.size := (Array.getElem?_eq_some_iff.mp hy).1
  refine wpAny_updateSeq ha rfl (h _ (Heap.SameBut.update ..) ?_) hsz (by simp; omega)
  rw [Heap.get?_update_self _ ha rfl]
  have e : swp xs i j = (xs.setIfInBounds i y).setIfInBounds j x := by
    unfold swp
    have e1 : xs[i]! = x := by rw [Array.getElem!_eq_getD, Array.getD_eq_getD_getElem?, hx]; rfl
    have e2 : xs[j]! = y := by rw [Array.getElem!_eq_getD, Array.getD_eq_getD_getElem?, hy]; rfl
    rw [e1, e2]
  rw [e]
  simp [Obj.mapSeq]

theorem step_leaf {a : Addr} {pos : Nat} {res : Value} {R : Result → Shared → Prop} {xs : Array Value} {n : Nat} (ha : s.heap.get? a = some (lstObj xs n)) (hp : ¬ pos < xs.size / 2) (h : codeAny (model prog w) A (siftC a false pos res) R s) : codeAny (model prog w) A (siftC a true pos res) R s := by
  refine codeAny_builtin entry_sift ?_
  rw [Around.under_plainId plain_sift]
  unfold Builtin.«_heapq.heapify.sift»
  dsimp only
  refine wpAny_bind ?_
  wp_delta
  refine wpAny_bind (wpAny_seqItems ha rfl (wpAny_pure ?_))
  simp only [Int.toNat_natCast, if_true, if_neg hp]
  wp_delta
  exact wpAny_pure ⟨Code.quiet_builtin _ (by decide +kernel), h⟩

theorem step_one {a : Addr} {pos : Nat} {res : Value} {R : Result → Shared → Prop} {xs : Array Value} {n : Nat} {x y : Value} (ha : s.heap.get? a = some (lstObj xs n)) (hsz : xs.size ≤ sizeLine) (hp : pos < xs.size / 2) (hq : ¬ 2 * pos + 1 + 1 < xs.size)
    (hx : xs[2 * pos + 1]? = some x) (hy : xs[pos]? = some y)
    (h : ∀ h', Heap.SameBut a s.heap h' → h'.get? a = some (lstObj (swp xs (2 * pos + 1) pos) n) → codeAny (model prog w) A (siftC a true (2 * pos + 1) res) R { s with heap := h' }) : codeAny (model prog w) A (siftC a true pos res) R s := by
  refine codeAny_builtin entry_sift ?_
  rw [Around.under_plainId plain_sift]
  unfold Builtin.«_heapq.heapify.sift»
  dsimp only
  refine wpAny_bind ?_
  wp_delta
  refine wpAny_bind (wpAny_seqItems ha rfl (wpAny_pure ?_))
  simp only [Int.toNat_natCast, if_true, if_pos hp, if_neg hq]
  refine wpAny_bind ?_
  wp_delta
  refine wpAny_bind ?_
  wp_delta
  refine wpAny_bind (wpAny_seqItems ha rfl (wpAny_pure ?_))
  refine wpAny_bind ?_
  wp_delta
  rw [hx]
  refine wpAny_pure (wpAny_bind ?_)
  wp_delta
  rw [hy]
  refine wpAny_pure (upd_swap ha hx hy hsz fun h' h1 h2 => ?_)
  wp_delta
  exact wpAny_pure ⟨Code.quiet_builtin _ (by decide +kernel), h h' h1 h2⟩

theorem step_two {a : Addr} {pos : Nat} {res : Value} {R : Result → Shared → Prop} {xs : Array Value} {n : Nat} {l r y : Value} {b : Bool} (ha : s.heap.get? a = some (lstObj xs n)) (hsz : xs.size ≤ sizeLine) (hp : pos < xs.size / 2) (hq : 2 * pos + 1 + 1 < xs.size)
    (hl : xs[2 * pos + 1]? = some l) (hr : xs[2 * pos + 1 + 1]? = some r) (hy : xs[pos]? = some y)
    (hlt : ∀ (E' : Value → Shared → Prop) (Q : Value → Shared → Prop), Q (.bool b) s → wpAny (model prog w) A.in1 (richCompare .Lt l r) Q E' s)
    (h : ∀ c h', c = (if b = true then 2 * pos + 1 else 2 * pos + 1 + 1) → Heap.SameBut a s.heap h' → h'.get? a = some (lstObj (swp xs c pos) n) → codeAny (model prog w) A (siftC a true c res) R { s with heap := h' }) : codeAny (model prog w) A (siftC a true pos res) R s := by
  refine codeAny_builtin entry_sift ?_
  rw [Around.under_plainId plain_sift]
  unfold Builtin.«_heapq.heapify.sift»
  dsimp only
  refine wpAny_bind ?_
  wp_delta
  refine wpAny_bind (wpAny_seqItems ha rfl (wpAny_pure ?_))
  simp only [Int.toNat_natCast, if_true, if_pos hp, if_pos hq]
  refine wpAny_bind ?_
  wp_delta
  rw [hl]
  refine wpAny_pure (wpAny_bind ?_)
  wp_delta
  rw [hr]
  refine wpAny_pure ?_
  simp only [Bool.false_eq_true, if_false]
  refine wpAny_bind ?_
  wp_delta
  refine wpAny_bind (wpAny_holding (wpAny_bind (hlt _ _ ?_)))
  unfold truthOfDropped
  dsimp only
  refine wpAny_truthy_bool (wpAny_bind ?_)
  wp_delta
  refine wpAny_bind (wpAny_seqItems ha rfl (wpAny_pure ?_))
  simp only [bne_self_eq_false, Bool.false_eq_true, if_false]
  refine wpAny_pure ?_
  cases b with
  | true =>
    simp only [Bool.not_true, Bool.false_eq_true, if_false]
    refine wpAny_bind ?_
    wp_delta
    refine wpAny_bind ?_
    wp_delta
    refine wpAny_bind (wpAny_seqItems ha rfl (wpAny_pure ?_))
    refine wpAny_bind ?_
    wp_delta
    rw [hl]
    refine wpAny_pure (wpAny_bind ?_)
    wp_delta
    rw [hy]
    refine wpAny_pure (upd_swap ha hl hy hsz fun h' h1 h2 => ?_)
    wp_delta
    exact wpAny_pure ⟨Code.quiet_builtin _ (by decide +kernel), h _ h' rfl h1 h2⟩
  | false =>
    simp only [Bool.not_false, if_true]
    refine wpAny_bind ?_
    wp_delta
    refine wpAny_bind ?_
    wp_delta
    refine wpAny_bind (wpAny_seqItems ha rfl (wpAny_pure ?_))
    refine wpAny_bind ?_
    wp_delta
    rw [hr]
    refine wpAny_pure (wpAny_bind ?_)
    wp_delta
    rw [hy]
    refine wpAny_pure (upd_swap ha hr hy hsz fun h' h1 h2 => ?_)
    wp_delta
    exact wpAny_pure ⟨Code.quiet_builtin _ (by decide +kernel), h _ h' rfl h1 h2⟩

theorem step_top {a : Addr} {pos : Nat} {res : Value} {R : Result → Shared → Prop} {xs : Array Value} {n : Nat} (ha : s.heap.get? a = some (lstObj xs n)) (hp : ¬ pos > 0) (h : R (.ok (.ret res)) s) : codeAny (model prog w) A (siftC a false pos res) R s := by
  refine codeAny_builtin entry_sift ?_
  rw [Around.under_plainId plain_sift]
  unfold Builtin.«_heapq.heapify.sift»
  dsimp only
  refine wpAny_bind ?_
  wp_delta
  refine wpAny_bind (wpAny_seqItems ha rfl (wpAny_pure ?_))
  have h0 : Int.toNat 0 = 0 := rfl
  simp only [Int.toNat_natCast, Bool.false_eq_true, if_false, h0, if_neg hp]
  rw [if_pos (by decide)]
  exact wpAny_pure h

theorem step_up {a : Addr} {pos : Nat} {res : Value} {R : Result → Shared → Prop} {xs : Array Value} {n : Nat} {x p : Value} {b : Bool} (ha : s.heap.get? a = some (lstObj xs n)) (hsz : xs.size ≤ sizeLine) (hp : pos > 0)
    (hx : xs[pos]? = some x) (hpp : xs[(pos - 1) / 2]? = some p) (hlt : ∀ (E' : Value → Shared → Prop) (Q : Value → Shared → Prop), Q (.bool b) s → wpAny (model prog w) A.in1 (richCompare .Lt x p) Q E' s)
    (h1 : b = true → ∀ h', Heap.SameBut a s.heap h' → h'.get? a = some (lstObj (swp xs ((pos - 1) / 2) pos) n) → codeAny (model prog w) A (siftC a false ((pos - 1) / 2) res) R { s with heap := h' })
    (h2 : b = false → R (.ok (.ret res)) s) : codeAny (model prog w) A (siftC a false pos res) R s := by
  refine codeAny_builtin entry_sift ?_
  rw [Around.under_plainId plain_sift]
  unfold Builtin.«_heapq.heapify.sift»
  dsimp only
  refine wpAny_bind ?_
  wp_delta
  refine wpAny_bind (wpAny_seqItems ha rfl (wpAny_pure ?_))
  have h0 : Int.toNat 0 = 0 := rfl
  simp only [Int.toNat_natCast, Bool.false_eq_true, if_false, h0, if_pos hp]
  refine wpAny_bind ?_
  wp_delta
  rw [hx]
  refine wpAny_pure (wpAny_bind ?_)
  wp_delta
  rw [hpp]
  refine wpAny_pure ?_
  refine wpAny_bind ?_
  wp_delta
  refine wpAny_bind (wpAny_holding (wpAny_bind (hlt _ _ ?_)))
  unfold truthOfDropped
  dsimp only
  refine wpAny_truthy_bool (wpAny_bind ?_)
  wp_delta
  refine wpAny_bind (wpAny_seqItems ha rfl (wpAny_pure ?_))
  simp only [bne_self_eq_false, Bool.false_eq_true, if_false]
  refine wpAny_pure ?_
  cases b with
  | true =>
    simp only [if_true]
    refine wpAny_bind ?_
    wp_delta
    refine wpAny_bind ?_
    wp_delta
    refine wpAny_bind (wpAny_seqItems ha rfl (wpAny_pure ?_))
    refine wpAny_bind ?_
    wp_delta
    rw [hpp]
    refine wpAny_pure (wpAny_bind ?_)
    wp_delta
    rw [hx]
    refine wpAny_pure (upd_swap ha hpp hx hsz fun h' g1 g2 => ?_)
    wp_delta
    exact wpAny_pure ⟨Code.quiet_builtin _ (by decide +kernel), h1 rfl h' g1 g2⟩
  | false =>
    simp only [Bool.false_eq_true, if_false]
    rw [if_pos (by decide)]
    exact wpAny_pure (h2 rfl)
end
end Mine
end

section
set_option autoImplicit false
set_option maxRecDepth 100000
namespace Mine
open PySem PySem.W PyProof.Rows

theorem swp_get {α : Type} [Inhabited α] {H : Array α} {i j k : Nat} (hi : i < H.size) (hj : j < H.size) : (swp H i j)[k]? = if k = j then H[i]? else if k = i then H[j]? else H[k]? := by
  unfold swp
  simp only [Array.getElem?_setIfInBounds, Array.size_setIfInBounds]
  by_cases h1 : k = j
  · subst h1; simp [hi, hj]
  · have h1' : ¬ j = k := fun q => h1 q.symm
    simp only [if_neg h1, if_neg h1']
    by_cases h2 : k = i
    · subst h2; simp [hi, hj]
    · have h2' : ¬ i = k := fun q => h2 q.symm
      simp only [if_neg h2, if_neg h2']

theorem all2_swp {R : Value → Ent → Prop} {xs : Array Value} {H : Array Ent} {i j : Nat} (hA : All2 R xs.toList H.toList) (hi : i < H.size) (hj : j < H.size) : All2 R (swp xs i j).toList (swp H i j).toList := by
  have hl : xs.size = H.size := by have := hA.length; simpa using this
  refine All2.of_get (by simp [swp_size, hl]) fun k h1 h2 => ?_
  have h1' : k < (swp xs i j).size := by simpa using h1
  have h2' : k < (swp H i j).size := by simpa using h2
  have e1 := swp_get (H := xs) (k := k) (i := i) (j := j) (by omega) (by omega)
  have e2 := swp_get (H := H) (k := k) hi hj
  rw [Array.getElem?_eq_getElem h1'] at e1
  rw [Array.getElem?_eq_getElem h2'] at e2
  have key : ∀ m, m < H.size → ∃ v, xs[m]? = some v ∧ ∃ e, H[m]? = some e ∧ R v e := by
    intro m hm
    obtain ⟨v, hv, hr⟩ := hA.get (i := m) (by simpa using hm)
    exact ⟨v, by simpa using hv, H[m], by simp [hm], by simpa using hr⟩
  have fin : ∀ m, m < H.size → some (swp xs i j)[k] = xs[m]? → some (swp H i j)[k] = H[m]? → R (swp xs i j)[k] (swp H i j)[k] := by
    intro m hm a b
    obtain ⟨v, hv, e, he, hr⟩ := key m hm
    rw [hv] at a; rw [he] at b
    cases a; cases b; exact hr
  simp only [Array.getElem_toList]
  by_cases c1 : k = j
  · rw [if_pos c1] at e1 e2; exact fin i hi e1 e2
  · rw [if_neg c1] at e1 e2
    by_cases c2 : k = i
    · rw [if_pos c2] at e1 e2; exact fin j hj e1 e2
    · rw [if_neg c2] at e1 e2
      refine fin k ?_ e1 e2
      rw [swp_size] at h2'; exact h2'

def nums (H : Array Ent) : List Int := H.toList.map (·.2.1)
theorem nums_ne {H : Array Ent} (hn : (nums H).Nodup) {i j : Nat} (hi : i < H.size) (hj : j < H.size) (hij : i ≠ j) : (at_ H i).2.1 ≠ (at_ H j).2.1 := by
  rw [at_eq hi, at_eq hj]
  intro q
  have hp := List.pairwise_iff_getElem.mp (List.pairwise_map.mp hn)
  rcases Nat.lt_or_gt_of_ne hij with h | h
  · exact hp i j (by simpa using hi) (by simpa using hj) h (by simpa using q)
  · exact hp j i (by simpa using hj) (by simpa using hi) h (by simpa using q.symm)

section
variable {prog : Program} {w : World} {A : Around} {s : Shared} {a : Addr} {R : Value → Ent → Prop}

def EntsAt (R : Value → Ent → Prop) (h : Heap) : Prop := ∀ v e, R v e → ∃ b t1 t2 p k, v = .ref b ∧ h.get? b = some (tupObj #[.int e.1 t1, .int e.2.1 t2, p] k)
theorem EntsAt.keeps {h h' : Heap} {xs : Array Value} {n : Nat} (hR : EntsAt R h) (ha : h.get? a = some (lstObj xs n)) (hs : Heap.SameBut a h h') : EntsAt R h' := by
  intro v e hve
  obtain ⟨b, t1, t2, p, k, hv, hb⟩ := hR v e hve
  refine ⟨b, t1, t2, p, k, hv, ?_⟩
  by_cases q : b = a
  · subst q
    rw [ha] at hb
    have hc := congrArg Obj.cls (Option.some.inj hb)
    injection hc with hc
    exact absurd hc (by decide)
  · exact (hs.2 b q).trans hb

theorem less_at {xs : Array Value} {H : Array Ent} {i j : Nat} (hu : A.units + 1 < cLine) (hR : EntsAt R s.heap) (hA : All2 R xs.toList H.toList) (hn : (nums H).Nodup) (hi : i < H.size) (hj : j < H.size) (hij : i ≠ j) :
    ∃ x y, xs[i]? = some x ∧ xs[j]? = some y ∧ ∀ (E' : Value → Shared → Prop) (Q : Value → Shared → Prop), Q (.bool (lt (at_ H i) (at_ H j))) s → wpAny (model prog w) A.in1 (richCompare .Lt x y) Q E' s := by
  obtain ⟨x, hx, hxr⟩ := hA.get (i := i) (by simpa using hi)
  obtain ⟨y, hy, hyr⟩ := hA.get (i := j) (by simpa using hj)
  rw [Array.getElem?_toList] at hx hy
  obtain ⟨b, t1, t2, p, k, rfl, hb⟩ := hR _ _ hxr
  obtain ⟨b', t1', t2', p', k', rfl, hb'⟩ := hR _ _ hyr
  refine ⟨_, _, hx, hy, fun E' Q hq => ?_⟩
  have hne := nums_ne hn hi hj hij
  rw [at_eq hi, at_eq hj] at hne hq
  exact ent_lt (by simpa using hu) hb hb' (by simpa using hne) (by simpa [lt] using hq)

theorem sift_up {RR : Result → Shared → Prop} {res : Value} {n : Nat} (hu : A.units + 1 < cLine) : ∀ (pos : Nat) (s : Shared) (xs : Array Value) (H : Array Ent), s.heap.get? a = some (lstObj xs n) → xs.size ≤ sizeLine → EntsAt R s.heap → All2 R xs.toList H.toList → (nums H).Nodup →
    UpInv H pos → pos < H.size →
    (∀ h' xs' H', Heap.SameBut a s.heap h' → h'.get? a = some (lstObj xs' n) → All2 R xs'.toList H'.toList → HeapOrd H' → List.Perm H'.toList H.toList → RR (.ok (.ret res)) { s with heap := h' }) →
    codeAny (model prog w) A (siftC a false pos res) RR s := by
  intro pos
  induction pos using Nat.strongRecOn with
  | ind pos ih =>
    intro s xs H ha hsz hR hA hn I hp hq
    have hl : xs.size = H.size := by have := hA.length; simpa using this
    by_cases h0 : pos > 0
    · have hpar : (pos - 1) / 2 < H.size := by omega
      obtain ⟨x, p, hx, hpx, hlt⟩ := less_at (A := A) (prog := prog) (w := w) hu hR hA hn hp hpar (by omega)
      refine step_up ha hsz h0 hx hpx hlt (fun hb h' h1 h2 => ?_) (fun hb => ?_)
      · refine ih _ (by omega) { s with heap := h' } (swp xs ((pos - 1) / 2) pos) (swp H ((pos - 1) / 2) pos) h2 (by rw [swp_size]; exact hsz) (hR.keeps ha h1) (all2_swp hA hpar hp)
          ((List.Perm.nodup_iff ((swp_perm hpar hp).map _)).mpr hn) (up_step I hp h0 (le_of_lt hb)) (by rw [swp_size]; exact hpar) fun h'' xs' H' g1 g2 g3 g4 g5 => ?_
        exact hq h'' xs' H' (h1.trans g1) g2 g3 g4 (g5.trans (swp_perm hpar hp))
      · have := hq s.heap xs H (Heap.SameBut.refl _ _) ha hA (up_stop I fun _ => le_of_not_lt hb) (.refl _)
        exact this
    · refine step_top ha h0 ?_
      exact hq s.heap xs H (Heap.SameBut.refl _ _) ha hA (up_stop I fun h => absurd h h0) (.refl _)

theorem sift_down {RR : Result → Shared → Prop} {res : Value} {n : Nat} (hu : A.units + 1 < cLine) : ∀ (m pos : Nat) (s : Shared) (xs : Array Value) (H : Array Ent), H.size - pos = m → s.heap.get? a = some (lstObj xs n) → xs.size ≤ sizeLine → EntsAt R s.heap → All2 R xs.toList H.toList → (nums H).Nodup →
    DownInv H pos → pos < H.size →
    (∀ h' xs' H', Heap.SameBut a s.heap h' → h'.get? a = some (lstObj xs' n) → All2 R xs'.toList H'.toList → HeapOrd H' → List.Perm H'.toList H.toList → RR (.ok (.ret res)) { s with heap := h' }) →
    codeAny (model prog w) A (siftC a true pos res) RR s := by
  intro m
  induction m using Nat.strongRecOn with
  | ind m ih =>
    intro pos s xs H hm ha hsz hR hA hn I hp hq
    have hl : xs.size = H.size := by have := hA.length; simpa using this
    by_cases hh : pos < xs.size / 2
    · have hc1 : 2 * pos + 1 < H.size := by omega
      have go : ∀ c h', c < H.size → par c = pos → 0 < c → (∀ c', 0 < c' → c' < H.size → par c' = pos → le (at_ H c) (at_ H c')) → Heap.SameBut a s.heap h' → h'.get? a = some (lstObj (swp xs c pos) n) →
          codeAny (model prog w) A (siftC a true c res) RR { s with heap := h' } := by
        intro c h' b1 b2 b3 b4 h1 h2
        have hcp : pos < c := by unfold par at b2; omega
        refine ih (H.size - c) (by omega) c { s with heap := h' } (swp xs c pos) (swp H c pos) (by rw [swp_size]) h2 (by rw [swp_size]; exact hsz) (hR.keeps ha h1) (all2_swp hA b1 hp)
          ((List.Perm.nodup_iff ((swp_perm b1 hp).map _)).mpr hn) (down_step I b1 b2 b3 b4) (by rw [swp_size]; exact b1) fun h'' xs' H' g1 g2 g3 g4 g5 => ?_
        exact hq h'' xs' H' (h1.trans g1) g2 g3 g4 (g5.trans (swp_perm b1 hp))
      by_cases hc2 : 2 * pos + 1 + 1 < xs.size
      · obtain ⟨l, r, hlx, hrx, hlt⟩ := less_at (A := A) (prog := prog) (w := w) hu hR hA hn hc1 (show 2 * pos + 1 + 1 < H.size by omega) (by omega)
        have hy : xs[pos]? = some xs[pos]! := by
          have : pos < xs.size := by omega
          simp [this]
        refine step_two ha hsz hh hc2 hlx hrx hy hlt fun c h' hc h1 h2 => ?_
        have kids : ∀ c', 0 < c' → par c' = pos → c' = 2 * pos + 1 ∨ c' = 2 * pos + 1 + 1 := fun c' q1 q2 => by unfold par at q2; omega
        cases hb : lt (at_ H (2 * pos + 1)) (at_ H (2 * pos + 1 + 1)) with
        | true =>
          rw [hb, if_pos rfl] at hc
          subst hc
          refine go _ h' hc1 (by unfold par; omega) (by omega) (fun c' q1 q2 q3 => ?_) h1 h2
          rcases kids c' q1 q3 with rfl | rfl
          · exact le_refl _
          · exact le_of_lt hb
        | false =>
          rw [hb, if_neg (by simp)] at hc
          subst hc
          refine go _ h' (by omega) (by unfold par; omega) (by omega) (fun c' q1 q2 q3 => ?_) h1 h2
          rcases kids c' q1 q3 with rfl | rfl
          · exact le_of_not_lt hb
          · exact le_refl _
      · have hx : xs[2 * pos + 1]? = some xs[2 * pos + 1]! := by
          have : 2 * pos + 1 < xs.size := by omega
          simp [this]
        have hy : xs[pos]? = some xs[pos]! := by
          have : pos < xs.size := by omega
          simp [this]
        refine step_one ha hsz hh hc2 hx hy fun h' h1 h2 => ?_
        refine go _ h' hc1 (by unfold par; omega) (by omega) (fun c' q1 q2 q3 => ?_) h1 h2
        have : c' = 2 * pos + 1 := by unfold par at q3; omega
        rw [this]; exact le_refl _
    · refine step_leaf ha hh ?_
      exact sift_up hu pos s xs H ha hsz hR hA hn (down_end I (by omega)) hp hq
end
end Mine
end

section
set_option autoImplicit false
set_option maxRecDepth 100000
namespace Mine
open PySem PySem.W PyProof.Rows

theorem all2_arr {R : Value → Ent → Prop} {xs : Array Value} {H : Array Ent} (hl : xs.size = H.size) (h : ∀ k, k < H.size → ∃ v e, xs[k]? = some v ∧ H[k]? = some e ∧ R v e) : All2 R xs.toList H.toList := by
  refine All2.of_get (by simpa using hl) fun k h1 h2 => ?_
  obtain ⟨v, e, a, b, c⟩ := h k (by simpa using h2)
  have h1' : k < xs.size := by simpa using h1
  have h2' : k < H.size := by simpa using h2
  rw [Array.getElem?_eq_getElem h1'] at a
  rw [Array.getElem?_eq_getElem h2'] at b
  cases a; cases b
  simpa using c
theorem all2_key {R : Value → Ent → Prop} {xs : Array Value} {H : Array Ent} (hA : All2 R xs.toList H.toList) {m : Nat} (hm : m < H.size) : ∃ v e, xs[m]? = some v ∧ H[m]? = some e ∧ R v e := by
  obtain ⟨v, hv, hr⟩ := hA.get (i := m) (by simpa using hm)
  exact ⟨v, H[m], by simpa using hv, by simp [hm], by simpa using hr⟩

section
variable {prog : Program} {w : World} {A : Around} {E : Value → Shared → Prop} {s : Shared} {a : Addr} {R : Value → Ent → Prop} {xs : Array Value} {H : Array Ent} {n : Nat}
theorem sub_list : isSubtype (.type "list") (.type "list") = pure true := by rw [isSubtype_type]; kernel_rfl

theorem call_push {v : Value} {e : Ent} {Q : Value → Shared → Prop} (hu : A.units + 1 < cLine) (ha : s.heap.get? a = some (lstObj xs n)) (hsz : xs.size < sizeLine) (hR : EntsAt R s.heap) (hA : All2 R xs.toList H.toList) (hve : R v e)
    (hn : (nums (H.push e)).Nodup) (I : HeapOrd H)
    (h : ∀ h' xs' H', Heap.SameBut a s.heap h' → h'.get? a = some (lstObj xs' (n + 1)) → All2 R xs'.toList H'.toList → HeapOrd H' → List.Perm H'.toList (H.toList ++ [e]) → Q .none { s with heap := h' }) :
    wpAny (model prog w) A (call (.builtin "_heapq.heappush") [.ref a, v]) Q E s := by
  have hT : s.TypeIs (.ref a) "list" := ⟨_, ha, rfl⟩
  have hl : xs.size = H.size := by have := hA.length; simpa using this
  refine call_again kind_push plain_push entry_push (args_push _ _) ?_
  unfold Builtin.«_heapq.heappush»
  refine wpAny_bind ?_
  wp_delta
  refine wpAny_bind (wpAny_pure ?_)
  refine wpAny_bind (wpAny_pure ?_)
  dsimp only
  refine wpAny_bind ?_
  wp_delta
  refine wpAny_bind (wpAny_isInstance hT sub_list ?_)
  simp only [if_true]
  refine wpAny_pure (wpAny_pure ?_)
  dsimp only
  refine wpAny_bind (wpAny_updateSeq ha rfl ?_ (by omega) (by simp; omega))
  have hg : (s.heap.update a (Obj.mapSeq (·.push v))).get? a = some (lstObj (xs.push v) (n + 1)) := by
    rw [Heap.get?_update_self _ ha rfl]
    simp [Obj.mapSeq]
  have hs : Heap.SameBut a s.heap (s.heap.update a (Obj.mapSeq (·.push v))) := Heap.SameBut.update ..
  generalize s.heap.update a (Obj.mapSeq (·.push v)) = h1 at hg hs ⊢
  refine wpAny_bind ?_
  wp_delta
  refine wpAny_bind (wpAny_seqItems hg rfl (wpAny_pure ?_))
  wp_delta
  refine wpAny_pure ⟨Code.quiet_builtin _ (by decide +kernel), ?_⟩
  have hp : (xs.push v).size - 1 = H.size := by simp [hl]
  rw [hp]
  have hA' : All2 R (xs.push v).toList (H.push e).toList := by
    rw [Array.toList_push, Array.toList_push]
    exact hA.append (.cons hve .nil)
  refine sift_up (n := n + 1) hu H.size { s with heap := h1 } (xs.push v) (H.push e) hg (by simp; omega) (hR.keeps ha hs) hA' hn (push_init I e) (by simp) fun h' xs' H' g1 g2 g3 g4 g5 => ?_
  exact h h' xs' H' (hs.trans g1) g2 g3 g4 (by rw [Array.toList_push] at g5; exact g5)

theorem call_pop {Q : Value → Shared → Prop} (hu : A.units + 1 < cLine) (ha : s.heap.get? a = some (lstObj xs n)) (hsz : xs.size ≤ sizeLine) (hR : EntsAt R s.heap) (hA : All2 R xs.toList H.toList) (hn : (nums H).Nodup) (I : HeapOrd H) (hpos : 0 < H.size)
    (h : ∀ v h' xs' H', R v (at_ H 0) → Heap.SameBut a s.heap h' → h'.get? a = some (lstObj xs' (n + 1)) → All2 R xs'.toList H'.toList → HeapOrd H' → List.Perm (at_ H 0 :: H'.toList) H.toList → Q v { s with heap := h' }) :
    wpAny (model prog w) A (call (.builtin "_heapq.heappop") [.ref a]) Q E s := by
  have hT : s.TypeIs (.ref a) "list" := ⟨_, ha, rfl⟩
  have hl : xs.size = H.size := by have := hA.length; simpa using this
  refine call_again kind_pop plain_pop entry_pop (args_pop _) ?_
  unfold Builtin.«_heapq.heappop»
  wp_delta
  refine wpAny_bind ?_
  wp_delta
  refine wpAny_bind (wpAny_pure ?_)
  dsimp only
  refine wpAny_bind ?_
  wp_delta
  refine wpAny_bind (wpAny_isInstance hT sub_list ?_)
  simp only [if_true]
  refine wpAny_pure (wpAny_pure ?_)
  dsimp only
  refine wpAny_bind ?_
  wp_delta
  refine wpAny_bind (wpAny_seqItems ha rfl (wpAny_pure ?_))
  obtain ⟨z, ez, hz, hez, hzr⟩ := all2_key hA (m := H.size - 1) (by omega)
  obtain ⟨v0, ev0, hv0, hev0, hvr⟩ := all2_key hA (m := 0) hpos
  have hat0 : at_ H 0 = ev0 := by
    rw [at_eq hpos]
    rw [Array.getElem?_eq_getElem hpos] at hev0
    exact Option.some.inj hev0
  have hback : xs.back? = some z := by rw [Array.back?_eq_getElem?, hl]; exact hz
  rw [hback]
  dsimp only
  refine wpAny_bind (wpAny_updateSeq ha rfl ?_ (by omega) (by simp; omega))
  have hg : (s.heap.update a (Obj.mapSeq (·.pop))).get? a = some (lstObj xs.pop (n + 1)) := by
    rw [Heap.get?_update_self _ ha rfl]
    have : ¬ (xs.size - 1 = xs.size) := by omega
    simp [Obj.mapSeq, this]
  have hs : Heap.SameBut a s.heap (s.heap.update a (Obj.mapSeq (·.pop))) := Heap.SameBut.update ..
  generalize s.heap.update a (Obj.mapSeq (·.pop)) = h1 at hg hs ⊢
  have hsplit : H.toList = H.pop.toList ++ [ez] := by
    have e1 : H = H.pop.push ez := by
      apply Array.ext (by simp; omega)
      intro i h1 h2
      rw [Array.getElem_push]
      by_cases c : i < H.pop.size
      · rw [dif_pos c]; simp
      · rw [dif_neg c]
        have : i = H.size - 1 := by simp at c; omega
        subst this
        rw [Array.getElem?_eq_getElem h1] at hez
        exact Option.some.inj hez
    conv => lhs; rw [e1]
    rw [Array.toList_push]
  by_cases h1s : xs.size = 1
  · simp only [h1s, beq_self_eq_true, if_true]
    have hH1 : H.size = 1 := by omega
    have hpe : H.pop.toList = [] := by
      apply List.eq_nil_of_length_eq_zero
      simp [hH1]
    have hxe : xs.pop.toList = [] := by
      apply List.eq_nil_of_length_eq_zero
      simp [h1s]
    have hzv : z = v0 := by
      rw [hH1] at hz
      rw [hz] at hv0
      exact Option.some.inj hv0
    have hez0 : ez = ev0 := by
      rw [hH1] at hez
      rw [hez] at hev0
      exact Option.some.inj hev0
    refine wpAny_pure ?_
    dsimp only
    refine h z h1 xs.pop H.pop (by rw [hat0, hzv]; exact hvr) hs hg (by rw [hxe, hpe]; exact .nil) (fun i q1 q2 => by simp [hH1] at q2) ?_
    rw [hpe, hsplit, hpe, hat0, hez0]
    exact .refl _
  · have hb : (xs.size == 1) = false := by simpa using h1s
    rw [hb]
    simp only [Bool.false_eq_true, if_false]
    refine wpAny_bind ?_
    wp_delta
    rw [hv0]
    refine wpAny_pure ?_
    refine wpAny_bind (wpAny_updateSeq (s := { s with heap := h1 }) hg rfl ?_ (by simp; omega) (by simp; omega))
    have hg2 : (h1.update a (Obj.mapSeq (·.setIfInBounds 0 z))).get? a = some (lstObj (xs.pop.setIfInBounds 0 z) (n + 1)) := by
      rw [Heap.get?_update_self _ hg rfl]
      simp [Obj.mapSeq]
    have hs2 : Heap.SameBut a h1 (h1.update a (Obj.mapSeq (·.setIfInBounds 0 z))) := Heap.SameBut.update ..
    generalize h1.update a (Obj.mapSeq (·.setIfInBounds 0 z)) = h2 at hg2 hs2 ⊢
    wp_delta
    refine wpAny_pure ⟨Code.quiet_builtin _ (by decide +kernel), ?_⟩
    have hA' : All2 R (xs.pop.setIfInBounds 0 z).toList (H.pop.setIfInBounds 0 ez).toList := by
      refine all2_arr (by simp [hl]) fun k hk => ?_
      simp at hk
      by_cases c : k = 0
      · subst c
        have q1 : 0 < xs.size - 1 := by omega
        have q2 : 0 < H.size - 1 := by omega
        exact ⟨z, ez, by simp [Array.getElem?_setIfInBounds, q1], by simp [Array.getElem?_setIfInBounds, q2], hzr⟩
      · obtain ⟨v, e, b1, b2, b3⟩ := all2_key hA (m := k) (by omega)
        have c' : ¬ 0 = k := fun q => c q.symm
        have q1 : k < xs.size - 1 := by omega
        have q2 : k < H.size - 1 := by omega
        refine ⟨v, e, ?_, ?_, b3⟩
        · simp only [Array.getElem?_setIfInBounds, if_neg c', Array.getElem?_pop, if_pos q1]; exact b1
        · simp only [Array.getElem?_setIfInBounds, if_neg c', Array.getElem?_pop, if_pos q2]; exact b2
    have hperm : List.Perm (at_ H 0 :: (H.pop.setIfInBounds 0 ez).toList) H.toList := by
      cases hc : H.pop.toList with
      | nil =>
        have := congrArg List.length hc
        simp at this; omega
      | cons q r =>
        have hset : (H.pop.setIfInBounds 0 ez).toList = ez :: r := by
          rw [Array.toList_setIfInBounds, hc]; rfl
        have hq : q = at_ H 0 := by
          rw [hat0]
          have : H.toList[0]? = some q := by rw [hsplit, hc]; rfl
          rw [Array.getElem?_toList, hev0] at this
          exact (Option.some.inj this).symm
        rw [hset, hsplit, hc, hq]
        exact List.Perm.cons _ (List.perm_append_singleton ez r).symm
    have hn' : (nums (H.pop.setIfInBounds 0 ez)).Nodup := by
      have := (List.Perm.nodup_iff (hperm.map (fun e : Ent => e.2.1))).mpr hn
      exact (List.nodup_cons.mp this).2
    refine sift_down (n := n + 1) hu _ 0 { s with heap := h2 } (xs.pop.setIfInBounds 0 z) (H.pop.setIfInBounds 0 ez) rfl hg2 (by simp; omega) ((hR.keeps ha hs).keeps hg hs2) hA' hn' (pop_init I ez) (by simp; omega) fun h' xs' H' g1 g2 g3 g4 g5 => ?_
    exact h v0 h' xs' H' (by rw [hat0]; exact hvr) ((hs.trans hs2).trans g1) g2 g3 g4 ((List.Perm.cons _ g5).trans hperm)
end
end Mine
end

section
set_option autoImplicit false
set_option maxRecDepth 100000
namespace Mine
open PySem PySem.W PyProof.Rows

abbrev Led := List (Addr × Obj)

def WayIn (tl : Led) (p : Addr) (k : Nat) : Prop := ∃ vs n, (p, W.listOf (List.toArray vs) n) ∈ tl ∧ IntsAre vs (wayInts k)
def KeyIn (tl : Led) (v : Value) (k : Nat) : Prop := ∃ b vs n, v = .ref b ∧ (b, tupObj (List.toArray vs) n) ∈ tl ∧ IntsAre vs (wayInts k)
def EntIn (tl : Led) (v : Value) (e : Ent) : Prop := ∃ b t1 t2 p n, v = .ref b ∧ (b, tupObj #[.int e.1 t1, .int e.2.1 t2, .ref p] n) ∈ tl ∧ WayIn tl p e.2.2
def RowIn (tl : Led) (v : Value) (e : Ent) : Prop := ∃ b t p n, v = .ref b ∧ (b, tupObj #[.int e.1 t, .ref p] n) ∈ tl ∧ WayIn tl p e.2.2

section
variable {tl tl' : Led}
theorem WayIn.mono {p : Addr} {k : Nat} (h : WayIn tl p k) (hs : ∀ q ∈ tl, q ∈ tl') : WayIn tl' p k := let ⟨vs, n, a, b⟩ := h; ⟨vs, n, hs _ a, b⟩
theorem KeyIn.mono {v : Value} {k : Nat} (h : KeyIn tl v k) (hs : ∀ q ∈ tl, q ∈ tl') : KeyIn tl' v k := let ⟨p, vs, n, a, b, c⟩ := h; ⟨p, vs, n, a, hs _ b, c⟩
theorem EntIn.mono {v : Value} {e : Ent} (h : EntIn tl v e) (hs : ∀ q ∈ tl, q ∈ tl') : EntIn tl' v e := let ⟨b, t1, t2, p, n, a, c, d⟩ := h; ⟨b, t1, t2, p, n, a, hs _ c, d.mono hs⟩
theorem RowIn.mono {v : Value} {e : Ent} (h : RowIn tl v e) (hs : ∀ q ∈ tl, q ∈ tl') : RowIn tl' v e := let ⟨b, t, p, n, a, c, d⟩ := h; ⟨b, t, p, n, a, hs _ c, d.mono hs⟩

/-- one buffer, as its objects bear it: R the ways in it in the order in which they came -/
structure SideInv (tl : Led) (es : Array (Int × Value)) (T : SetTable) (xs : Array Value) (cnt : Int) (R : List Ent) : Prop where
  set : ∃ ents, SetOk (KeyIn tl) es T ents ∧ (∀ k, k ∈ ents.map (·.2) ↔ k ∈ R.map (·.2.2))
  heap : ∃ H : Array Ent, All2 (EntIn tl) xs.toList H.toList ∧ HeapOrd H ∧ List.Perm H.toList R
  inc : R.Pairwise (fun a b => a.2.1 < b.2.1)
  lim : ∀ e ∈ R, e.2.1 < cnt ∧ e.2.2 < 9
  nodup : (R.map (·.2.2)).Nodup
  cnt0 : 0 ≤ cnt

def RowsIn (tl : Led) (r : Addr) (R : List Ent) : Prop := ∃ rs n, (r, W.listOf (List.toArray rs) n) ∈ tl ∧ All2 (RowIn tl) rs R

theorem SetOk.mono {es : Array (Int × Value)} {T : SetTable} {ents : List (Nat × Nat)} {KP KP' : Value → Nat → Prop} (S : SetOk KP es T ents) (h : ∀ v k, KP v k → KP' v k) : SetOk KP' es T ents :=
  ⟨S.inv, S.room, S.plain, S.all.mono fun _ _ q => ⟨q.1, h _ _ q.2⟩⟩
theorem SideInv.mono {es : Array (Int × Value)} {T : SetTable} {xs : Array Value} {cnt : Int} {R : List Ent} (S : SideInv tl es T xs cnt R) (hs : ∀ q ∈ tl, q ∈ tl') : SideInv tl' es T xs cnt R :=
  ⟨let ⟨ents, a, b⟩ := S.set; ⟨ents, a.mono fun _ _ q => q.mono hs, b⟩, let ⟨H, a, b⟩ := S.heap; ⟨H, a.mono fun _ _ q => q.mono hs, b⟩, S.inc, S.lim, S.nodup, S.cnt0⟩
theorem RowsIn.mono {r : Addr} {R : List Ent} (h : RowsIn tl r R) (hs : ∀ q ∈ tl, q ∈ tl') : RowsIn tl' r R := let ⟨rs, n, a, b⟩ := h; ⟨rs, n, hs _ a, b.mono fun _ _ q => q.mono hs⟩

theorem SideInv.le9 {es : Array (Int × Value)} {T : SetTable} {xs : Array Value} {cnt : Int} {R : List Ent} (S : SideInv tl es T xs cnt R) : R.length ≤ 9 := by
  have h1 := nodup_len (l' := List.range 9) S.nodup (fun x hx => by
    obtain ⟨y, hy, rfl⟩ := List.mem_map.mp hx
    exact List.mem_range.mpr (S.lim y hy).2)
  simpa using h1
theorem SideInv.xsize {es : Array (Int × Value)} {T : SetTable} {xs : Array Value} {cnt : Int} {R : List Ent} (S : SideInv tl es T xs cnt R) : xs.size = R.length := by
  obtain ⟨H, h1, _, h3⟩ := S.heap
  have a := h1.length
  have b := h3.length_eq
  simp at a b; omega

theorem SideInv.nil {led : Bool} : SideInv tl #[] (SetTable.fresh 0 0 led) #[] 0 [] :=
  ⟨⟨[], set_fresh led, fun _ => Iff.rfl⟩, ⟨#[], .nil, fun _ _ h => absurd h (Nat.not_lt_zero _), .refl _⟩, .nil, fun _ h => (nomatch h), .nil, Int.le_refl _⟩

theorem isInt_self (n : Int) (t : Tok) : Value.isInt n (.int n t) = true := by simp [Value.isInt]
theorem items_of {prog : Program} {w : World} : ∀ {vs : List Value} {ns : List Int}, IntsAre vs ns → PySem.ItemsAre (intKind prog w) ns vs := by
  intro vs ns h
  induction h with
  | nil => exact .nil
  | cons n t _ ih => exact .cons (isInt_self n t) ih

variable {prog : Program} {w : World} {h : Heap}
theorem keysAt (hh : ∀ p ∈ tl, h.get? p.1 = some p.2) : KeysAt prog w (KeyIn tl) h := fun v k hv =>
  let ⟨b, vs, n, a, c, d⟩ := hv; ⟨b, a, _, _, n, hh _ c, rfl, rfl, items_of d⟩
theorem entsAt (hh : ∀ p ∈ tl, h.get? p.1 = some p.2) : EntsAt (EntIn tl) h := fun v e hv =>
  let ⟨b, t1, t2, p, n, a, c, _⟩ := hv; ⟨b, t1, t2, .ref p, n, a, hh _ c⟩
end

section
variable {prog : Program} {w : World} {A : Around} {E : Value → Shared → Prop} {s : Shared} {h₀ : Heap} {L d : Addr} {m : Str → Option Value} {news : Led} {o o' : Obj} {g : Obj → Led}

theorem news_same {h h' : Heap} (F : Fr h₀ L h m) (N : News h₀ L h news) (U : UpdF d o news g) (hs : Heap.SameBut d h h') (ho : h'.get? d = some o') : Fr h₀ L h' m ∧ News h₀ L h' (g o') := by
  obtain ⟨pre, post, rfl, e, h1, h2⟩ := U.split
  rw [e]
  have D := N (d, o) (by simp)
  have F' : Fr h₀ L h' m := by
    obtain ⟨oL, es, ep, hL, r⟩ := F.ns
    refine ⟨⟨oL, es, ep, (hs.2 L (Ne.symm D.2.1)).trans hL, r⟩, fun b x q => (hs.2 b fun z => ?_).trans (F.keep b x q), F.above⟩
    have := D.2.2
    rw [← z, q] at this; cases this
  refine ⟨F', fun p hp => ?_⟩
  rcases List.mem_append.mp hp with q | q
  · have P := N p (List.mem_append_left _ q); exact ⟨(hs.2 _ (h1 p q)).trans P.1, P.2⟩
  · rcases List.mem_cons.mp q with rfl | q
    · exact ⟨ho, D.2⟩
    · have P := N p (List.mem_append_right _ (.tail _ q)); exact ⟨(hs.2 _ (h2 p q)).trans P.1, P.2⟩

theorem upd_get {h : Heap} (N : News h₀ L h news) (U : UpdF d o news g) : h.get? d = some o := by
  obtain ⟨pre, post, rfl, e, h1, h2⟩ := U.split
  exact (N (d, o) (by simp)).1

theorem k_tuple {l : Addr} {vs : List Value} {k : Nat} {Q : Value → Shared → Prop} (F : Fr h₀ L s.heap m) (N : News h₀ L s.heap news) (hm : (l, W.listOf vs.toArray k) ∈ news) (hz : vs.length ≤ 16384)
    (h : ∀ D h', Fr h₀ L h' m → News h₀ L h' ((D, tupObj vs.toArray 0) :: news) → (∀ p ∈ news, p.1 < D) → Q (.ref D) { s with heap := h' }) : wpAny (model prog w) A (call (.type "tuple") [.ref l]) Q E s := by
  refine kde_tupleOf F N ⟨_, (N _ hm).1, rfl, k, rfl⟩ (by simpa using hz) rfl h

variable {tl : Led} {es : Array (Int × Value)} {ep : Nat} {T : SetTable} {ents : List (Nat × Nat)} {x : Addr} {k : Nat}

theorem k_notin {Q : Value → Shared → Prop} (hu : A.units + 1 < cLine) (N : News h₀ L s.heap news) (hd : (d, ({ cls := .type "set", dict := none, data := .set es ep T } : Obj)) ∈ news) (hs : ∀ p ∈ tl, p ∈ news) (S : SetOk (KeyIn tl) es T ents)
    {vs : List Value} {n : Nat} (hx : (x, tupObj vs.toArray n) ∈ news) (hi : IntsAre vs (wayInts k)) (hk : k < 9) (h : ∀ tk, Q (.bool (!decide (k ∈ ents.map (·.2)))) { s with toks := tk }) :
    wpAny (model prog w) A (compareOp .NotIn (.ref x) (.ref d)) Q E s :=
  in_way hu (N _ hd).1 rfl rfl S (keysAt fun p hp => (N p (hs p hp)).1) hk ⟨_, _, n, (N _ hx).1, rfl, rfl, items_of hi⟩ h

theorem k_add {Q : Value → Shared → Prop} (hu : A.units + 1 < cLine) (F : Fr h₀ L s.heap m) (N : News h₀ L s.heap news) (U : UpdF d ({ cls := .type "set", dict := none, data := .set es ep T } : Obj) news g) (hs : ∀ p ∈ tl, p ∈ news) (S : SetOk (KeyIn tl) es T ents)
    (hx : KeyIn tl (.ref x) k) (hk : k < 9) (hn : k ∉ ents.map (·.2))
    (h : ∀ h' tk es' ep' T' ents', Fr h₀ L h' m → News h₀ L h' (g ({ cls := .type "set", dict := none, data := .set es' ep' T' } : Obj)) → SetOk (KeyIn tl) es' T' ents' → (∀ k', k' ∈ ents'.map (·.2) ↔ k' = k ∨ k' ∈ ents.map (·.2)) → Q .none { s with heap := h', toks := tk }) :
    wpAny (model prog w) A (call (.builtin "set.add") [.ref d, .ref x]) Q E s := by
  have hd : s.heap.get? d = some ({ cls := .type "set", dict := none, data := .set es ep T } : Obj) := upd_get N U
  have hKA : KeysAt prog w (KeyIn tl) s.heap := keysAt fun p hp => (N p (hs p hp)).1
  obtain ⟨b, e, hb⟩ := hKA _ _ hx
  cases e
  refine call_add hu hd rfl rfl S hk hn hb hx fun h' tk hA => ?_
  obtain ⟨h1, es', ep', T', ents', h2, h3, h4, _⟩ := hA
  obtain ⟨F', N'⟩ := news_same F N U h1 h2
  exact h h' tk es' ep' T' ents' F' N' h3 h4

theorem k_remove {Q : Value → Shared → Prop} (hu : A.units + 1 < cLine) (F : Fr h₀ L s.heap m) (N : News h₀ L s.heap news) (U : UpdF d ({ cls := .type "set", dict := none, data := .set es ep T } : Obj) news g) (hs : ∀ p ∈ tl, p ∈ news) (S : SetOk (KeyIn tl) es T ents)
    {vs : List Value} {n : Nat} (hx : (x, tupObj vs.toArray n) ∈ news) (hi : IntsAre vs (wayInts k)) (hk : k < 9) (hm : k ∈ ents.map (·.2))
    (h : ∀ h' tk es' ep' T' ents', Fr h₀ L h' m → News h₀ L h' (g ({ cls := .type "set", dict := none, data := .set es' ep' T' } : Obj)) → SetOk (KeyIn tl) es' T' ents' → (∀ k', k' ∈ ents'.map (·.2) ↔ k' ≠ k ∧ k' ∈ ents.map (·.2)) → Q .none { s with heap := h', toks := tk }) :
    wpAny (model prog w) A (call (.builtin "set.remove") [.ref d, .ref x]) Q E s := by
  have hd : s.heap.get? d = some ({ cls := .type "set", dict := none, data := .set es ep T } : Obj) := upd_get N U
  have hKA : KeysAt prog w (KeyIn tl) s.heap := keysAt fun p hp => (N p (hs p hp)).1
  refine call_remove hu hd rfl rfl S hKA hk hm ⟨_, _, n, (N _ hx).1, rfl, rfl, items_of hi⟩ fun h' tk hA => ?_
  obtain ⟨h1, es', ep', T', ents', h2, h3, h4, _⟩ := hA
  obtain ⟨F', N'⟩ := news_same F N U h1 h2
  exact h h' tk es' ep' T' ents' F' N' h3 h4

theorem k_meth_add {pl : Sem Bool} {Q : Value × List Value → Shared → Prop} (N : News h₀ L s.heap news) (hd : (d, ({ cls := .type "set", dict := none, data := .set es ep T } : Obj)) ∈ news) (h : Q (.builtin "set.add", [.ref d]) s) :
    wpAny (model prog w) A (getMethod (.ref d) "add" pl) Q E s := meth_add (N _ hd).1 rfl rfl h
theorem k_meth_remove {pl : Sem Bool} {Q : Value × List Value → Shared → Prop} (N : News h₀ L s.heap news) (hd : (d, ({ cls := .type "set", dict := none, data := .set es ep T } : Obj)) ∈ news) (h : Q (.builtin "set.remove", [.ref d]) s) :
    wpAny (model prog w) A (getMethod (.ref d) "remove" pl) Q E s := meth_remove (N _ hd).1 rfl rfl h

theorem nums_snoc {H : Array Ent} {R : List Ent} {e : Ent} (hp : List.Perm H.toList R) (hi : R.Pairwise (fun a b => a.2.1 < b.2.1)) (hl : ∀ x ∈ R, x.2.1 < e.2.1) : (nums (H.push e)).Nodup := by
  have h1 : ((R ++ [e]).map (·.2.1)).Nodup := by
    refine List.pairwise_map.mpr (List.pairwise_append.mpr ⟨hi.imp fun {a b} q => by omega, List.pairwise_singleton _ _, fun a ha b hb => ?_⟩)
    have := hl a ha
    simp at hb
    subst hb
    omega
  unfold nums
  rw [Array.toList_push]
  exact (List.Perm.nodup_iff ((hp.append_right [e]).map _)).mpr h1
theorem nums_perm {H : Array Ent} {R : List Ent} (hp : List.Perm H.toList R) (hi : R.Pairwise (fun a b => a.2.1 < b.2.1)) : (nums H).Nodup := by
  have h1 : (R.map (fun e : Ent => e.2.1)).Nodup := List.pairwise_map.mpr (hi.imp fun {a b} q => by omega)
  exact (List.Perm.nodup_iff (hp.map _)).mpr h1

theorem k_push {xs : Array Value} {n : Nat} {H : Array Ent} {R : List Ent} {v : Value} {e : Ent} {Q : Value → Shared → Prop} (hu : A.units + 1 < cLine) (F : Fr h₀ L s.heap m) (N : News h₀ L s.heap news) (U : UpdF d (W.listOf xs n) news g) (hs : ∀ p ∈ tl, p ∈ news)
    (hA : All2 (EntIn tl) xs.toList H.toList) (I : HeapOrd H) (hp : List.Perm H.toList R) (hl9 : R.length ≤ 9) (hi : R.Pairwise (fun a b => a.2.1 < b.2.1)) (hl : ∀ x ∈ R, x.2.1 < e.2.1) (hve : EntIn tl v e)
    (h : ∀ h' xs' H', Fr h₀ L h' m → News h₀ L h' (g (W.listOf xs' (n + 1))) → All2 (EntIn tl) xs'.toList H'.toList → HeapOrd H' → List.Perm H'.toList (R ++ [e]) → Q .none { s with heap := h' }) :
    wpAny (model prog w) A (call (.builtin "_heapq.heappush") [.ref d, v]) Q E s := by
  have hd : s.heap.get? d = some (W.listOf xs n) := upd_get N U
  have hsz : xs.size < sizeLine := by
    have a := hA.length
    have b := hp.length_eq
    rw [sizeLine_eq]
    simp at a b; omega
  refine call_push hu hd hsz (entsAt fun p hp => (N p (hs p hp)).1) hA hve (nums_snoc hp hi hl) I fun h' xs' H' h1 h2 h3 h4 h5 => ?_
  obtain ⟨F', N'⟩ := news_same F N U h1 h2
  exact h h' xs' H' F' N' h3 h4 (h5.trans (hp.append_right [e]))

theorem k_pop {xs : Array Value} {n : Nat} {H : Array Ent} {R : List Ent} {Q : Value → Shared → Prop} (hu : A.units + 1 < cLine) (F : Fr h₀ L s.heap m) (N : News h₀ L s.heap news) (U : UpdF d (W.listOf xs n) news g) (hs : ∀ p ∈ tl, p ∈ news)
    (hA : All2 (EntIn tl) xs.toList H.toList) (I : HeapOrd H) (hp : List.Perm H.toList R) (hl9 : R.length ≤ 9) (hi : R.Pairwise (fun a b => a.2.1 < b.2.1)) (hne : R ≠ [])
    (h : ∀ v e h' xs' H', EntIn tl v e → e ∈ R → (∀ x ∈ R, le e x) → Fr h₀ L h' m → News h₀ L h' (g (W.listOf xs' (n + 1))) → All2 (EntIn tl) xs'.toList H'.toList → HeapOrd H' → List.Perm (e :: H'.toList) R → Q v { s with heap := h' }) :
    wpAny (model prog w) A (call (.builtin "_heapq.heappop") [.ref d]) Q E s := by
  have hd : s.heap.get? d = some (W.listOf xs n) := upd_get N U
  have hHl : H.size = R.length := by have b := hp.length_eq; simpa using b
  have hpos : 0 < H.size := by
    rw [hHl]
    exact List.length_pos_iff.mpr hne
  have hsz : xs.size ≤ sizeLine := by
    have a := hA.length
    rw [sizeLine_eq]
    simp at a; omega
  refine call_pop hu hd hsz (entsAt fun p hp => (N p (hs p hp)).1) hA (nums_perm hp hi) I hpos fun v h' xs' H' h0 h1 h2 h3 h4 h5 => ?_
  obtain ⟨F', N'⟩ := news_same F N U h1 h2
  refine h v _ h' xs' H' h0 ?_ ?_ F' N' h3 h4 (h5.trans hp)
  · refine hp.mem_iff.mp ?_
    rw [at_eq hpos]
    simp
  · intro x hx
    have := hp.mem_iff.mpr hx
    obtain ⟨i, hi', rfl⟩ := List.mem_iff_getElem.mp this
    have hi2 : i < H.size := by simpa using hi'
    have := root_min I i hi2
    rw [at_eq hi2] at this
    simpa using this
end
end Mine
end

section
set_option autoImplicit false
set_option maxRecDepth 100000
namespace Mine
open PySem PySem.W PyProof.Rows PySem.Calls
section
variable {prog : Program} {w : World} {A : Around} {E : Value → Shared → Prop} {s : Shared} {h₀ : Heap} {L : Addr} {m : Str → Option Value} {news : Led}

theorem k_next {K : Frag} {x C f : Addr} {ox : Obj} {od : Option Obj} {Q : Value → Shared → Prop} (F : Fr h₀ L s.heap m) (X₀ : K.In h₀) (I : InstAt s.heap x ox C od) (hs : findIn K (.ref C) "__next__" = some (some (.ref f))) (hf : isFn K (.ref f) = true)
    (h : wpAny (model prog w) A.in1 (call (.ref f) [.ref x]) Q E s) : wpAny (model prog w) A (call (.builtin "next") [.ref x]) Q E s := by
  have X := X₀.keeps F.keep
  refine call_function_entry (by decide +kernel) (by decide +kernel) kdk_entry_next (kdk_args_next _) ?_
  unfold Builtin.«next»
  refine wpAny_bind (m := someArgs "next" 1 2 _) (wpAny_of_eq (a := [Value.ref x]) (by first | rfl | kernel_rfl!) ?_)
  dsimp only [List.headD_cons]
  refine wpAny_bind (wpAny_bind (I.type.here ((looks_findIn X hs).here ?_)))
  simp only [Option.isNone_some, Bool.false_eq_true, if_false]
  refine wpAny_bind (special_fn (name := "__next__") (args := []) X I hs (beq_iff_eq.mp hf) (wpAny_mono h (fun v s' hq => ?_) fun _ _ e => e))
  exact wpAny_pure ⟨_, rfl, hq⟩
end
end Mine
end

section
open PySem PySem.W PyProof.Rows
set_option Elab.async false
set_option autoImplicit false
set_option maxRecDepth 100000
set_option maxHeartbeats 8000000
namespace Mine

/-- what every call from the law's frame may lean on -/
structure Base (w : World) (mean : ExcName → Option Value) (mg mb : Str → Option Value) (h₀ : Heap) : Prop where
  X : (hd.heap_39 w.params).In h₀
  T : Top hd.view_39 (looseW hd.view_39 [Str.ofString "count"]) mean mg mb h₀
  G : Glob 0 mg mb (List.map itemOf (recsOf hd.view_39)) (scalarsOf [] ++ constsW hd.view_39) [] (namesW hd.view_39 [Str.ofString "count"]) h₀

abbrev cntObj (dc : Addr) (bv : Value) (t1 : Tok) (n : Int) (t : Tok) : Obj := { cls := .ref 104, dict := some dc, slots := #[some (.int n t), some bv, some (.int 1 t1)] }
abbrev pbDict (w : World) (a1 a2 a3 : Tok) (st hp ct : Addr) : Obj := dictOf [⟨PyData.keyHash w.params (Str.ofString "paths"), .str (Str.ofString "paths") a1, .ref st⟩, ⟨PyData.keyHash w.params (Str.ofString "sortedpaths"), .str (Str.ofString "sortedpaths") a2, .ref hp⟩, ⟨PyData.keyHash w.params (Str.ofString "counter"), .str (Str.ofString "counter") a3, .ref ct⟩] 3
abbrev setObj (es : Array (Int × Value)) (ep : Nat) (t : SetTable) : Obj := { cls := .type "set", dict := none, data := .set es ep t }


/-- into a def of the text from the law's frame -/
local macro_rules | `(tactic| k_enter) => `(tactic|
  (refine' code_def ?k1 ?k2 ?k3 ?k4 ?k5 ?kA ?kF ?kK ?k6 ?k7 ?k8 ?k9 ?kB ?_ ?c2 ?c3 ?c4 ?c5; (case kA => exact rfl); (case kF => assumption); (case kK => assumption); (case k1 => k_asm); (case k2 => k_asm); (case k3 => k_asm); (case k4 => k_asm); (case k5 => k_asm); (case k6 => k_is); (case k7 => k_is); (case k8 => k_room); (case k9 => first | exact BindsTo.of_eq rfl | exact binds_K (by k_in) rfl (by k_is) rfl rfl rfl | fail "k_enter: no rule for these arguments"); (case c5 => decide); (case kB => exact locs rfl); (case c2 => exact rfl); (case c3 => exact rfl); (case c4 => exact rfl); k_whole; intro g' L' h' FG' F' N' B' X' T'; (try dsimp only); (try k_lift B'); (try k_fold)))

theorem news_re {h₀ h : Heap} {L : Addr} {l l' : Led} (N : News h₀ L h l) (hs : ∀ p ∈ l', p ∈ l) : News h₀ L h l' := fun p hp => N p (hs p hp)

theorem push_inv {tl tl' : Led} {es es4 : Array (Int × Value)} {T T4 : SetTable} {xs xs3 : Array Value} {cnt c : Int} {k : Nat} {R : List Ent} {ents4 : List (Nat × Nat)} {H3 : Array Ent} (S : SideInv tl es T xs cnt R) (hk : k < 9) (hw : k ∉ R.map (·.2.2))
    (S4 : SetOk (KeyIn tl') es4 T4 ents4) (m4 : ∀ k', k' ∈ ents4.map (·.2) ↔ k' = k ∨ k' ∈ R.map (·.2.2)) (hA : All2 (EntIn tl') xs3.toList H3.toList) (hO : HeapOrd H3) (hP : List.Perm H3.toList (R ++ [(c, cnt, k)])) (_hs : ∀ q ∈ tl, q ∈ tl') :
    SideInv tl' es4 T4 xs3 (cnt + 1) (R ++ [(c, cnt, k)]) := by
  refine ⟨⟨ents4, S4, fun k' => ?_⟩, ⟨H3, hA, hO, hP⟩, ?_, ?_, ?_, ?_⟩
  · rw [m4 k']
    simp only [List.map_append, List.map_cons, List.map_nil, List.mem_append, List.mem_singleton]
    exact Or.comm
  · refine List.pairwise_append.mpr ⟨S.inc, List.pairwise_singleton _ _, fun a ha b hb => ?_⟩
    have := (S.lim a ha).1
    simp at hb
    subst hb
    exact this
  · intro e he
    rcases List.mem_append.mp he with he | he
    · have := S.lim e he
      exact ⟨by omega, this.2⟩
    · simp at he
      subst he
      exact ⟨by show cnt < cnt + 1; omega, hk⟩
  · rw [List.map_append]
    refine List.pairwise_append.mpr ⟨S.nodup, List.pairwise_singleton _ _, fun a ha b hb => ?_⟩
    simp at hb
    subst hb
    exact fun q => hw (q ▸ ha)
  · have := S.cnt0
    omega

theorem push_spec {w : World} {mean : ExcName → Option Value} {mg mb : Str → Option Value} {base h₀ : Heap} {env : Env} {L : Addr} {m : Str → Option Value} {s : Shared}
    {oth tl : Led} {pb d st hp ct dc p : Addr} {a1 a2 a3 t1 tc : Tok} {bv : Value} {es : Array (Int × Value)} {ep : Nat} {T : SetTable} {xs : Array Value} {nh : Nat} {cnt : Int} {ck : Tok}
    {k : Nat} {c : Int} {R : List Ent} {E : Value → Shared → Prop} {Q : Value → Shared → Prop}
    (C : Base w mean mg mb h₀) (B : Below callerA base [] h₀) (F : Fr h₀ L s.heap m) (hf : env.frame = some L) (hke : env.scope.kind = .function)
    (N : News h₀ L s.heap ((pb, instObj 147 d) :: (d, pbDict w a1 a2 a3 st hp ct) :: (st, setObj es ep T) :: (hp, W.listOf xs nh) :: (ct, cntObj dc bv t1 cnt ck) :: (dc, dictOf [] 0) :: (oth ++ tl)))
    (hoff1 : OwnOff oth [st, hp, ct]) (hoff2 : OwnOff tl [st, hp, ct]) (o1 : @Ne Nat pb st) (o2 : @Ne Nat pb hp) (o3 : @Ne Nat pb ct) (o4 : @Ne Nat d st) (o5 : @Ne Nat d hp) (o6 : @Ne Nat d ct) (o7 : @Ne Nat st hp) (o8 : @Ne Nat st ct) (o9 : @Ne Nat hp ct) (o10 : @Ne Nat dc st) (o11 : @Ne Nat dc hp) (o12 : @Ne Nat dc ct)
    (hW : WayIn tl p k) (hk : k < 9) (S : SideInv tl es T xs cnt R)
    (h : ∀ h' tk' add es' ep' T' xs' n' cnt' tk2 R', Fr h₀ L h' m → News h₀ L h' ((pb, instObj 147 d) :: (d, pbDict w a1 a2 a3 st hp ct) :: (st, setObj es' ep' T') :: (hp, W.listOf xs' n') :: (ct, cntObj dc bv t1 cnt' tk2) :: (dc, dictOf [] 0) :: (oth ++ (add ++ tl))) →
      (∀ p ∈ add, (∀ q ∈ oth, @LT.lt Nat _ q.1 p.1) ∧ @LT.lt Nat _ pb p.1 ∧ @LT.lt Nat _ d p.1 ∧ @LT.lt Nat _ st p.1 ∧ @LT.lt Nat _ hp p.1 ∧ @LT.lt Nat _ ct p.1 ∧ @LT.lt Nat _ dc p.1) → SideInv (add ++ tl) es' T' xs' cnt' R' → R' = (if k ∈ R.map (·.2.2) then R else R ++ [(c, cnt, k)]) → Q .none { s with heap := h', toks := tk' }) :
    wpAny (model PySem.Challenge.rw_bj0026_01.row.prog w) (callerA.deeper env) (call (.ref 137) [.ref pb, .int c tc, .ref p]) Q E s := by
  obtain ⟨X₀, T₀, G₀⟩ := C
  revert X₀
  k_fill
  intro X₀
  have hMk := kstMark
  obtain ⟨vs, nv, hwm, hwi⟩ := hW
  have hz : vs.length ≤ 16384 := by
    have := hwi.length
    unfold wayInts at this
    split at this <;> simp at this <;> omega
  refine wpAny_call ?_
  w_strict k_enter
  k_steps
  rename Fr _ _ _ _ => F1
  rename News _ _ _ _ => N1
  refine k_tuple F1 N1 (l := p) (vs := vs) (k := nv) (by repeat (first | exact List.mem_append_right _ hwm | apply List.Mem.tail)) hz ?_
  intro D1 h1 F2 N2 l2
  have l2' := l2
  k_lt l2
  clear F1 N1
  k_steps
  rename Fr _ _ _ _ => F1
  rename News _ _ _ _ => N1
  obtain ⟨ents, hS, hways⟩ := S.set
  refine k_notin (tl := tl) (vs := vs) (n := 0) (k := k) (by show Around.units (Around.in1 _) < cLine; k_units) N1 (by repeat (first | exact List.Mem.head _ | apply List.Mem.tail)) (fun q hq => by repeat (first | exact List.mem_append_right _ hq | apply List.Mem.tail)) hS (by repeat (first | exact List.Mem.head _ | apply List.Mem.tail)) hwi hk ?_
  intro tk1
  by_cases hw : k ∈ R.map (·.2.2)
  · rw [decide_eq_true ((hways k).mpr hw)]
    k_steps
    rename Fr _ _ _ _ => F1
    rename News _ _ _ _ => N1
    refine h _ _ [] es ep T xs nh cnt ck R F1 (news_re N1 ?_) (fun _ hq => nomatch hq) (by simpa using S) (by rw [if_pos hw])
    intro q hq
    simp only [List.mem_cons, List.mem_append, List.nil_append] at hq ⊢
    rcases hq with hq | hq | hq | hq | hq | hq | hq | hq <;> (repeat (first | exact hq | exact Or.inl hq | apply Or.inr))
  · rw [decide_eq_false (fun q => hw ((hways k).mp q))]
    k_steps
    rename Fr _ _ _ _ => F1
    rename News _ _ _ _ => N1
    refine k_next (K := hd.heap_39 w.params) (C := 104) (f := 93) F1 (by k_asm) (by k_inst) (by k_is) (by k_is) ?_
    k_steps
    rename Fr _ _ _ _ => F1
    rename News _ _ _ _ => N1
    rename Addr => D2
    obtain ⟨H, hHA, hHO, hHP⟩ := S.heap
    have sub2 : ∀ q ∈ tl, q ∈ (D2, tupObj #[.int c tc, .int cnt ck, .ref p] 0) :: (D1, tupObj vs.toArray 0) :: tl := fun q hq => .tail _ (.tail _ hq)
    k_dflt (refine' k_push (d := hp) (xs := xs) (n := nh) (tl := (D2, tupObj #[.int c tc, .int cnt ck, .ref p] 0) :: (D1, tupObj vs.toArray 0) :: tl) (e := (c, cnt, k)) (R := R) (H := H) ?k1 F1 N1 ?k2 ?k3 (hHA.mono fun _ _ q => q.mono sub2) hHO hHP S.le9 S.inc (fun x hx => (S.lim x hx).1) ?k4 ?_)
    case k1 => show Around.units (Around.in1 _) < cLine; k_units
    case k2 => k_updF
    case k3 =>
      intro q hq
      rcases List.mem_cons.mp hq with rfl | hq
      · repeat (first | exact List.Mem.head _ | apply List.Mem.tail)
      rcases List.mem_cons.mp hq with rfl | hq
      · repeat (first | exact List.Mem.head _ | apply List.Mem.tail)
      repeat (first | exact List.mem_append_right _ hq | apply List.Mem.tail)
    case k4 => exact ⟨D2, tc, ck, p, 0, rfl, List.Mem.head _, (show WayIn tl p k from ⟨vs, nv, hwm, hwi⟩).mono sub2⟩
    intro h3 xs3 H3 F3 N3 hA3 hO3 hP3
    (try dsimp only at N3)
    clear N1 F1
    k_steps
    rename Fr _ _ _ _ => F1
    rename News _ _ _ _ => N1
    refine k_meth_add N1 (by repeat (first | exact List.Mem.head _ | apply List.Mem.tail)) ?_
    k_steps
    rename Fr _ _ _ _ => F1
    rename News _ _ _ _ => N1
    k_dflt (refine' k_add (d := st) (es := es) (ep := ep) (T := T) (ents := ents) (k := k) (tl := (D2, tupObj #[.int c tc, .int cnt ck, .ref p] 0) :: (D1, tupObj vs.toArray 0) :: tl) ?k1 F1 N1 ?k2 ?k3 (hS.mono fun _ _ q => q.mono sub2) ?k4 hk (fun q => hw ((hways k).mp q)) ?_)
    case k1 => show Around.units (Around.in1 _) < cLine; k_units
    case k2 => k_updF
    case k3 =>
      intro q hq
      rcases List.mem_cons.mp hq with rfl | hq
      · repeat (first | exact List.Mem.head _ | apply List.Mem.tail)
      rcases List.mem_cons.mp hq with rfl | hq
      · repeat (first | exact List.Mem.head _ | apply List.Mem.tail)
      repeat (first | exact List.mem_append_right _ hq | apply List.Mem.tail)
    case k4 => exact ⟨D1, vs, 0, rfl, .tail _ (.head _), hwi⟩
    intro h4 tk4 es4 ep4 T4 ents4 F4 N4 S4 m4
    (try dsimp only at N4)
    clear N1 F1
    k_steps
    rename Fr _ _ _ _ => F1
    rename News _ _ _ _ => N1
    obtain ⟨tkk, N2⟩ : ∃ tkk, News h₀ L h4 ((D2, tupObj #[.int c tc, .int cnt ck, .ref p] 0) :: (D1, tupObj vs.toArray 0) :: (pb, instObj 147 d) :: (d, pbDict w a1 a2 a3 st hp ct) :: (st, setObj es4 ep4 T4) :: (hp, W.listOf xs3 (nh + 1)) :: (ct, cntObj dc bv t1 (cnt + 1) tkk) :: (dc, dictOf [] 0) :: (oth ++ tl)) := ⟨_, N1⟩
    clear N1
    refine h _ _ [(D2, tupObj #[.int c tc, .int cnt ck, .ref p] 0), (D1, tupObj vs.toArray 0)] es4 ep4 T4 xs3 (nh + 1) (cnt + 1) tkk (R ++ [(c, cnt, k)]) F1 (news_re N2 ?_) ?_ ?_ (by rw [if_neg hw])
    · intro q hq
      simp only [List.mem_cons, List.mem_append, List.cons_append, List.nil_append] at hq ⊢
      rcases hq with hq | hq | hq | hq | hq | hq | hq | hq | hq | hq <;> (repeat (first | exact hq | exact Or.inl hq | apply Or.inr))
    · have lt1 : ∀ q ∈ oth, @LT.lt Nat _ q.1 D1 := fun q hq => l2' q (by repeat (first | exact List.mem_append_left _ hq | apply List.Mem.tail))
      intro q hq
      have hq' : q.1 = D2 ∨ q.1 = D1 := by
        rcases List.mem_cons.mp hq with rfl | hq
        · exact .inl rfl
        · rcases List.mem_cons.mp hq with rfl | hq
          · exact .inr rfl
          · cases hq
      rcases hq' with e | e
      · rw [e]
        refine ⟨fun z hz => ?_, by omega, by omega, by omega, by omega, by omega, by omega⟩
        have := lt1 z hz
        omega
      · rw [e]
        exact ⟨lt1, by omega, by omega, by omega, by omega, by omega, by omega⟩
    · exact push_inv S hk hw S4 (fun k' => (m4 k').trans (by rw [hways k'])) hA3 hO3 hP3 sub2
end Mine
end

section
open PySem PySem.W PyProof.Rows
set_option Elab.async false
set_option autoImplicit false
set_option maxRecDepth 100000
set_option maxHeartbeats 8000000
namespace Mine
/-- into a def of the text from the law's frame -/
local macro_rules | `(tactic| k_enter) => `(tactic|
  (refine' code_def ?k1 ?k2 ?k3 ?k4 ?k5 ?kA ?kF ?kK ?k6 ?k7 ?k8 ?k9 ?kB ?_ ?c2 ?c3 ?c4 ?c5; (case kA => exact rfl); (case kF => assumption); (case kK => assumption); (case k1 => k_asm); (case k2 => k_asm); (case k3 => k_asm); (case k4 => k_asm); (case k5 => k_asm); (case k6 => k_is); (case k7 => k_is); (case k8 => k_room); (case k9 => first | exact BindsTo.of_eq rfl | exact binds_K (by k_in) rfl (by k_is) rfl rfl rfl | fail "k_enter: no rule for these arguments"); (case c5 => decide); (case kB => exact locs rfl); (case c2 => exact rfl); (case c3 => exact rfl); (case c4 => exact rfl); k_whole; intro g' L' h' FG' F' N' B' X' T'; (try dsimp only); (try k_lift B'); (try k_fold)))


theorem pop_inv {tl : Led} {es es4 : Array (Int × Value)} {T T4 : SetTable} {xs xs3 : Array Value} {cnt : Int} {e : Ent} {R1 R2 : List Ent} {ents4 : List (Nat × Nat)} {H3 : Array Ent} (S : SideInv tl es T xs cnt (R1 ++ e :: R2))
    (S4 : SetOk (KeyIn tl) es4 T4 ents4) (m4 : ∀ k', k' ∈ ents4.map (·.2) ↔ k' ≠ e.2.2 ∧ k' ∈ (R1 ++ e :: R2).map (·.2.2)) (hA : All2 (EntIn tl) xs3.toList H3.toList) (hO : HeapOrd H3) (hP : List.Perm (e :: H3.toList) (R1 ++ e :: R2)) :
    SideInv tl es4 T4 xs3 cnt (R1 ++ R2) := by
  have hnd := S.nodup
  rw [List.map_append, List.map_cons] at hnd
  have hnd2 := List.nodup_cons.mp (List.perm_middle.nodup_iff.mp hnd)
  have hinc := List.pairwise_append.mp S.inc
  refine ⟨⟨ents4, S4, fun k' => ?_⟩, ⟨H3, hA, hO, ?_⟩, ?_, ?_, by rw [List.map_append]; exact hnd2.2, S.cnt0⟩
  · rw [m4 k']
    have h1 := hnd2.1
    simp only [List.map_append, List.map_cons, List.mem_append, List.mem_cons] at h1 ⊢
    constructor
    · rintro ⟨a, b | b | b⟩
      · exact .inl b
      · exact absurd b a
      · exact .inr b
    · intro b
      exact ⟨fun q => h1 (q ▸ b), b.elim .inl fun b => .inr (.inr b)⟩
  · exact (hP.trans List.perm_middle).cons_inv
  · exact List.pairwise_append.mpr ⟨hinc.1, (List.pairwise_cons.mp hinc.2.1).2, fun a ha b hb => hinc.2.2 a ha b (.tail _ hb)⟩
  · intro x hx
    refine S.lim x ?_
    rcases List.mem_append.mp hx with h | h
    · exact List.mem_append.mpr (.inl h)
    · exact List.mem_append.mpr (.inr (.tail _ h))

local macro_rules | `(tactic| walk_at "call type:tuple") => `(tactic| (k_here; (with_reducible show wpAny _ _ (call (Value.type _) [Value.ref _]) _ _ _); k_dflt (refine' k_tuple ?k1 ?k2 ?k3 ?k4 ?_; (case k1 => k_asm); (case k2 => k_asm); (case k3 => k_mem); (case k4 => assumption)); intro D' h' F' N' l1; (try k_lt l1)))

theorem pop_spec {w : World} {mean : ExcName → Option Value} {mg mb : Str → Option Value} {base h₀ : Heap} {env : Env} {L : Addr} {m : Str → Option Value} {s : Shared}
    {oth tl : Led} {pb d st hp ct dc : Addr} {a1 a2 a3 t1 : Tok} {bv : Value} {es : Array (Int × Value)} {ep : Nat} {T : SetTable} {xs : Array Value} {nh : Nat} {cnt : Int} {ck : Tok}
    {R : List Ent} {E : Value → Shared → Prop} {Q : Value → Shared → Prop}
    (C : Base w mean mg mb h₀) (B : Below callerA base [] h₀) (F : Fr h₀ L s.heap m) (hf : env.frame = some L) (hke : env.scope.kind = .function)
    (N : News h₀ L s.heap ((pb, instObj 147 d) :: (d, pbDict w a1 a2 a3 st hp ct) :: (st, setObj es ep T) :: (hp, W.listOf xs nh) :: (ct, cntObj dc bv t1 cnt ck) :: (dc, dictOf [] 0) :: (oth ++ tl)))
    (hoff1 : OwnOff oth [st, hp, ct]) (hoff2 : OwnOff tl [st, hp, ct]) (o1 : @Ne Nat pb st) (o2 : @Ne Nat pb hp) (o3 : @Ne Nat pb ct) (o4 : @Ne Nat d st) (o5 : @Ne Nat d hp) (o6 : @Ne Nat d ct) (o7 : @Ne Nat st hp) (o8 : @Ne Nat st ct) (o9 : @Ne Nat hp ct) (o10 : @Ne Nat dc st) (o11 : @Ne Nat dc hp) (o12 : @Ne Nat dc ct)
    (S : SideInv tl es T xs cnt R) (hne : R ≠ [])
    (h : ∀ h' tk' es' ep' T' xs' n' p e R1 R2, Fr h₀ L h' m → News h₀ L h' ((pb, instObj 147 d) :: (d, pbDict w a1 a2 a3 st hp ct) :: (st, setObj es' ep' T') :: (hp, W.listOf xs' n') :: (ct, cntObj dc bv t1 cnt ck) :: (dc, dictOf [] 0) :: (oth ++ tl)) →
      WayIn tl p e.2.2 → R = R1 ++ e :: R2 → (∀ x ∈ R, le e x) → SideInv tl es' T' xs' cnt (R1 ++ R2) → Q (.ref p) { s with heap := h', toks := tk' }) :
    wpAny (model PySem.Challenge.rw_bj0026_01.row.prog w) (callerA.deeper env) (call (.ref 144) [.ref pb]) Q E s := by
  obtain ⟨X₀, T₀, G₀⟩ := C
  revert X₀
  k_fill
  intro X₀
  have hMk := kstMark
  refine wpAny_call ?_
  w_strict k_enter
  k_steps
  rename Fr _ _ _ _ => F1
  rename News _ _ _ _ => N1
  obtain ⟨H, hHA, hHO, hHP⟩ := S.heap
  k_dflt (refine' k_pop (d := hp) (xs := xs) (n := nh) (tl := tl) (R := R) (H := H) ?k1 F1 N1 ?k2 ?k3 hHA hHO hHP S.le9 S.inc hne ?_)
  case k1 => show Around.units (Around.in1 _) < cLine; k_units
  case k2 => k_updF
  case k3 => exact fun q hq => by repeat (first | exact List.mem_append_right _ hq | apply List.Mem.tail)
  intro v e h3 xs3 H3 hv hmem hmin F3 N3 hA3 hO3 hP3
  (try dsimp only at N3)
  clear N1 F1
  obtain ⟨b, t4, t5, p, nb, rfl, hbm, hW⟩ := hv
  obtain ⟨vs, nv, hwm, hwi⟩ := id hW
  have hz : vs.length ≤ 16384 := by
    have := hwi.length
    unfold wayInts at this
    split at this <;> simp at this <;> omega
  have q1 : @Ne Nat b st := hoff2 _ hbm _ (.head _)
  have q2 : @Ne Nat p st := hoff2 _ hwm _ (.head _)
  have N4 := news_re (l' := (b, tupObj #[.int e.1 t4, .int e.2.1 t5, .ref p] nb) :: (p, W.listOf vs.toArray nv) :: _) N3 (fun q hq => by
    rcases List.mem_cons.mp hq with rfl | hq
    · repeat (first | exact List.mem_append_right _ hbm | apply List.Mem.tail)
    rcases List.mem_cons.mp hq with rfl | hq
    · repeat (first | exact List.mem_append_right _ hwm | apply List.Mem.tail)
    exact hq)
  clear N3
  k_steps
  rename Fr _ _ _ _ => F1
  rename News _ _ _ _ => N1
  refine k_meth_remove N1 (by repeat (first | exact List.Mem.head _ | apply List.Mem.tail)) ?_
  k_steps
  rename Fr _ _ _ _ => F1
  rename News _ _ _ _ => N1
  obtain ⟨ents, hS, hways⟩ := S.set
  have heW : e.2.2 ∈ R.map (·.2.2) := List.mem_map.mpr ⟨e, hmem, rfl⟩
  have hk9 : e.2.2 < 9 := (S.lim e hmem).2
  k_dflt (refine' k_remove (d := st) (es := es) (ep := ep) (T := T) (ents := ents) (k := e.2.2) (tl := tl) (vs := vs) (n := 0) ?k1 F1 N1 ?k2 ?k3 hS ?k4 hwi hk9 ((hways _).mpr heW) ?_)
  case k1 => show Around.units (Around.in1 _) < cLine; k_units
  case k2 => k_updF
  case k3 => exact fun q hq => by repeat (first | exact List.mem_append_right _ hq | apply List.Mem.tail)
  case k4 => repeat (first | exact List.Mem.head _ | apply List.Mem.tail)
  intro h4 tk4 es4 ep4 T4 ents4 F4 N4 S4 m4
  (try dsimp only at N4)
  clear N1 F1
  k_steps
  rename Fr _ _ _ _ => F1
  rename News _ _ _ _ => N1
  obtain ⟨R1, R2, hR⟩ := List.append_of_mem hmem
  refine h _ _ es4 ep4 T4 xs3 (nh + 1) p e R1 R2 F1 (news_re N1 ?_) hW hR hmin ?_
  · intro q hq
    simp only [List.mem_cons, List.mem_append] at hq ⊢
    rcases hq with hq | hq | hq | hq | hq | hq | hq | hq <;> (repeat (first | exact hq | exact Or.inl hq | apply Or.inr))
  · subst hR
    exact pop_inv S S4 (fun k' => (m4 k').trans (by rw [hways k'])) hA3 hO3 hP3
end Mine
end

section
open PySem PySem.W PyProof.Rows
set_option Elab.async false
set_option autoImplicit false
set_option maxRecDepth 100000
set_option maxHeartbeats 8000000
namespace Mine
/-- into a def of the text from the law's frame -/
local macro_rules | `(tactic| k_enter) => `(tactic|
  (refine' code_def ?k1 ?k2 ?k3 ?k4 ?k5 ?kA ?kF ?kK ?k6 ?k7 ?k8 ?k9 ?kB ?_ ?c2 ?c3 ?c4 ?c5; (case kA => exact rfl); (case kF => assumption); (case kK => assumption); (case k1 => k_asm); (case k2 => k_asm); (case k3 => k_asm); (case k4 => k_asm); (case k5 => k_asm); (case k6 => k_is); (case k7 => k_is); (case k8 => k_room); (case k9 => first | exact BindsTo.of_eq rfl | exact binds_K (by k_in) rfl (by k_is) rfl rfl rfl | fail "k_enter: no rule for these arguments"); (case c5 => decide); (case kB => exact locs rfl); (case c2 => exact rfl); (case c3 => exact rfl); (case c4 => exact rfl); k_whole; intro g' L' h' FG' F' N' B' X' T'; (try dsimp only); (try k_lift B'); (try k_fold)))



theorem way_vals (k : Nat) (hk : k < 9) : Int.fmod (k : Int) 3 = ((k % 3 : Nat) : Int) ∧ 3 + Int.fmod (Int.fdiv (k : Int) 3) 3 = ((3 + k / 3 % 3 : Nat) : Int) ∧ (Int.fmod (k : Int) 2 = 0 ↔ k % 2 = 0) := by
  have h : ∀ k : Nat, k < 9 → Int.fmod (k : Int) 3 = ((k % 3 : Nat) : Int) ∧ 3 + Int.fmod (Int.fdiv (k : Int) 3) 3 = ((3 + k / 3 % 3 : Nat) : Int) ∧ (Int.fmod (k : Int) 2 = 0 ↔ k % 2 = 0) := by decide
  exact h k hk

theorem way_pos (k : Nat) (e1 : Int.fmod (k : Int) 3 = ((k % 3 : Nat) : Int)) (e2 : 3 + Int.fmod (Int.fdiv (k : Int) 3) 3 = ((3 + k / 3 % 3 : Nat) : Int)) (hp : k % 2 = 0) : wayInts k = [Int.fmod (k : Int) 3, 3 + Int.fmod (Int.fdiv (k : Int) 3) 3] := by
  rw [e1, e2]
  exact if_pos hp
theorem way_neg (k : Nat) (e1 : Int.fmod (k : Int) 3 = ((k % 3 : Nat) : Int)) (e2 : 3 + Int.fmod (Int.fdiv (k : Int) 3) 3 = ((3 + k / 3 % 3 : Nat) : Int)) (hp : ¬ k % 2 = 0) : wayInts k = [Int.fmod (k : Int) 3, 7, 3 + Int.fmod (Int.fdiv (k : Int) 3) 3] := by
  rw [e1, e2]
  exact if_neg hp

theorem way_spec {w : World} {mean : ExcName → Option Value} {mg mb : Str → Option Value} {base h₀ : Heap} {env : Env} {L : Addr} {m : Str → Option Value} {s : Shared}
    {news : Led} {tk0 : Tok} {k : Nat} {E : Value → Shared → Prop} {Q : Value → Shared → Prop}
    (C : Base w mean mg mb h₀) (B : Below callerA base [] h₀) (F : Fr h₀ L s.heap m) (hf : env.frame = some L) (hke : env.scope.kind = .function)
    (N : News h₀ L s.heap news) (hk : k < 9)
    (h : ∀ h' tk' p vs, Fr h₀ L h' m → News h₀ L h' ((p, W.listOf (List.toArray vs) 0) :: news) → (∀ q ∈ news, q.1 < p) → IntsAre vs (wayInts k) → Q (.ref p) { s with heap := h', toks := tk' }) :
    wpAny (model PySem.Challenge.rw_bj0026_01.row.prog w) (callerA.deeper env) (call (.ref 165) [.int (k : Int) tk0]) Q E s := by
  obtain ⟨X₀, T₀, G₀⟩ := C
  revert X₀
  k_fill
  intro X₀
  obtain ⟨e1, e2, e3⟩ := way_vals k hk
  refine wpAny_call ?_
  w_strict k_enter
  k_steps
  · have hp : k % 2 = 0 := e3.mp (by assumption)
    refine h _ _ _ [_, _] (by assumption) (by assumption) (by assumption) ?_
    rw [way_pos k e1 e2 hp]
    exact .cons _ _ (.cons _ _ .nil)
  · have hp : ¬ k % 2 = 0 := fun q => absurd (e3.mpr q) (by assumption)
    refine h _ _ _ [_, _, _] (by assumption) (by assumption) (by assumption) ?_
    rw [way_neg k e1 e2 hp]
    exact .cons _ _ (.cons _ _ (.cons _ _ .nil))

theorem cell_spec {w : World} {mean : ExcName → Option Value} {mg mb : Str → Option Value} {base h₀ : Heap} {env : Env} {L l : Addr} {m : Str → Option Value} {s : Shared}
    {news : Led} {tk0 : Tok} {i : Nat} {vs : List Value} {ns : List Int} {E : Value → Shared → Prop} {Q : Value → Shared → Prop}
    (C : Base w mean mg mb h₀) (B : Below callerA base [] h₀) (F : Fr h₀ L s.heap m) (hf : env.frame = some L) (hke : env.scope.kind = .function)
    (N : News h₀ L s.heap news) (hL : base.IsList l vs.toArray) (hI : IntsAre vs ns) (hlen : ns.length ≤ 63) (hi : i < 24)
    (h : ∀ h' tk' v t, Fr h₀ L h' m → News h₀ L h' news → 0 ≤ v → Q (.int v t) { s with heap := h', toks := tk' }) :
    wpAny (model PySem.Challenge.rw_bj0026_01.row.prog w) (callerA.deeper env) (call (.ref 158) [.ref l, .int (i : Int) tk0]) Q E s := by
  obtain ⟨X₀, T₀, G₀⟩ := C
  revert X₀
  k_fill
  intro X₀
  refine wpAny_call ?_
  w_strict k_enter
  k_steps
  · refine h _ _ _ _ (by assumption) (by assumption) ?_
    split <;> omega
  · refine h _ _ _ _ (by assumption) (by assumption) ?_
    omega
end Mine
end

section
set_option autoImplicit false
set_option maxRecDepth 100000
namespace Mine
open PySem PySem.W PyProof.Rows PySem.Calls

section
variable {prog : Program} {w : World} {A : Around} {E : Value → Shared → Prop} {s : Shared}

/-- a list against an empty one -/
theorem eq_empty {a b : Addr} {xs : List Value} {n k : Nat} {Q : Value → Shared → Prop} (hu : A.units + 64 < cLine) (ha : s.heap.get? a = some (W.listOf xs.toArray n)) (hb : s.heap.get? b = some (W.listOf #[] k))
    (h : Q (.bool (decide (xs = []))) s) : wpAny (model prog w) A (compareOp .Eq (.ref a) (.ref b)) Q E s := by
  cases xs with
  | nil => exact eq_intsK (vs := []) (us := []) (ns := []) (ms := []) ⟨_, ha, rfl, n, rfl⟩ .nil ⟨_, hb, rfl, k, rfl⟩ .nil hu (by simpa using h)
  | cons x r =>
    have hTa : s.TypeIs (.ref a) "list" := ⟨_, ha, rfl⟩
    have hTb : s.TypeIs (.ref b) "list" := ⟨_, hb, rfl⟩
    show wpAny _ _ (richCompare .Eq (.ref a) (.ref b)) _ _ _
    refine wpAny_richCompare_same_room (op := .Eq) hTa hTb F.slot_list_eq (wpAny_call_entry F.slot_list_eq hTa F.entry_list_eq ?_ (F.args_list_eq_2 _ _)) (by omega)
    unfold Builtin.«list.__eq__»
    wp_delta
    refine wpAny_bind (m := slotArgs _ _ _) (wpAny_pure ?_)
    dsimp only
    refine wpAny_bind (wpAny_isInstance hTb sub_list ?_)
    simp only [Bool.not_true, Bool.false_eq_true, if_false]
    have hc : (CmpOp.Eq == CmpOp.Eq || CmpOp.Eq == CmpOp.NotEq) = true := by decide
    rw [if_pos hc]
    refine wpAny_bind (listItems_at ha rfl (wpAny_bind (listItems_at hb rfl ?_)))
    have hsz : ((x :: r).toArray.size != (#[] : Array Value).size) = true := by simp
    rw [if_pos hsz]
    refine wpAny_bind (wpAny_rule (wpAny_pure ⟨_, rfl, (fun e => nomatch e), ?_⟩))
    exact h

/-- row[i] in the block of a comprehension -/
theorem eval_item {env : Env} {x : Str} {p1 p2 p3 : Pos} {b : Addr} {l : List Value} {n : Nat} {j : Nat} {kk : Int} {v : Value} {m : Str → Option Value} {Q : Value → Shared → Prop} (hkj : kk = (j : Int)) (hk : env.scope.kind = .function) (hx : env.kindOf x = some .local) (hd : (x == ("__debug__" : Str)) = false)
    (hn : s.heap.Ns env.locals m) (hm : m x = some (.ref b)) (hb : s.heap.get? b = some (tupObj l.toArray n)) (hj : l[j]? = some v) (hj9 : j < 9) (h : ∀ tk, s.toks ≤ tk → Q v { s with toks := tk }) :
    wpAny (model prog w) A (eval (.Subscript (.Name x p1) (.Constant (.int kk) 0 p2) p3) env) Q E s := by
  subst hkj
  refine Subscript_ ?_
  refine wpAny_Name (wpAny_loadName_local hk hx hn hm ?_) hd
  refine wpAny_Constant_int ?_
  have hjl : j < l.length := (List.getElem?_eq_some_iff.mp hj).1
  refine item_tupleT (s := { s with toks := s.toks + 1 }) (t := b) (l := l) (j := j) ⟨_, hb, rfl, n, rfl⟩ (by omega) (by omega) ?_ hj (h _ (Nat.le_succ _))
  unfold seqIndex?
  have h0 : ¬ ((j : Int) < 0) := by omega
  simp only [if_neg h0]
  rw [if_pos (by simp; omega)]
  simp

variable {h₀ : Heap} {L : Addr} {m : Str → Option Value} {news : Led}

theorem news_keep {h h' : Heap} (F : Fr h₀ L h m) (N : News h₀ L h news) (hk : ∀ b o, h.get? b = some o → h'.get? b = some o) : Fr h₀ L h' m ∧ News h₀ L h' news := ⟨F.keeps hk, fun p hp => ⟨hk _ _ (N p hp).1, (N p hp).2⟩⟩

/-- a new list onto the ledger -/
theorem news_list {h h' : Heap} {D : Addr} {ys : Array Value} (F : Fr h₀ L h m) (N : News h₀ L h news) (hk : ∀ b o, h.get? b = some o → h'.get? b = some o) (hD : h.get? D = none) (hP : h'.PlainList D ys) :
    ∃ n, Fr h₀ L h' m ∧ News h₀ L h' ((D, W.listOf ys n) :: news) ∧ ∀ p ∈ news, @Ne Nat p.1 D := by
  obtain ⟨n, hn⟩ := hP
  obtain ⟨F', N'⟩ := news_keep F N hk
  refine ⟨n, F', fun p hp => ?_, fun p hp e => ?_⟩
  · rcases List.mem_cons.mp hp with rfl | hp
    · refine ⟨hn, ?_, ?_⟩
      · rintro rfl
        obtain ⟨oL, _, _, hL, _⟩ := F.ns
        rw [hD] at hL; cases hL
      · cases e : h₀.get? D with
        | none => rfl
        | some o => have := F.keep _ _ e; rw [hD] at this; cases this
    · exact N' p hp
  · have := (N p hp).1
    rw [show p.1 = D from e, hD] at this; cases this

theorem paired_all2 {P : Value → Value → Prop} {R : Value → Ent → Prop} {S : Value → Ent → Prop} (hS : ∀ v y e, P v y → R v e → S y e) : ∀ {vs : List Value} {ys : List Value} {es : List Ent}, Paired P vs ys → All2 R vs es → All2 S ys es := by
  intro vs ys es h1 h2
  induction h2 generalizing ys with
  | nil => cases h1; exact .nil
  | cons h _ ih =>
    cases h1 with
    | cons q r => exact .cons (hS _ _ _ q h) (ih r)

/-- [row[0] for row in rows] -/
theorem comp_costs {env : Env} {x : Str} {px p1 p2 p3 : Pos} {iter : Expr} {scope : Scope} {pos : Pos} {r : Addr} {rs : List Value} {n : Nat} {tl : Led} {R : List Ent} {Q : Value → Shared → Prop}
    (hh : A.handled = none) (F : Fr h₀ L s.heap m) (N : News h₀ L s.heap news) (hr : (r, W.listOf rs.toArray n) ∈ news) (hs : ∀ p ∈ tl, p ∈ news) (hR : All2 (RowIn tl) rs R) (hl9 : R.length ≤ 9)
    (hit : ∀ Q' : Value → Shared → Prop, Q' (.ref r) s → wpAny (model prog w) A (eval iter env) Q' E s)
    (hfree : ∀ y ∈ scope.names, y.2 ≠ .free) (hcell : ∀ y ∈ scope.names, y.2 ≠ .cell) (hkind : scope.kind = .function)
    (hnames : ∀ y ∈ scope.names, y.2 = .local → scope.names.lookup y.1 = some .local) (hx : scope.names.lookup x = some .local) (hd : (x == ("__debug__" : Str)) = false)
    (hfold : ∀ x, foldedSetIterable iter env x = pure x)
    (h : ∀ D h' tk ys k, Fr h₀ L h' m → News h₀ L h' ((D, W.listOf (List.toArray ys) k) :: news) → (∀ p ∈ news, @Ne Nat p.1 D) → All2 (fun y (e : Ent) => ∃ t, y = .int e.1 t) ys R → Q (.ref D) { s with heap := h', toks := tk }) :
    wpAny (model prog w) A (eval (.ListComp (.Subscript (.Name x p1) (.Constant (.int 0) 0 p2) p3) [⟨.Name x px, iter, [], 0⟩] scope pos) env) Q E s := by
  have hls : s.heap.IsList r rs.toArray := ⟨_, (N _ hr).1, rfl, n, rfl⟩
  have hrlt : r < s.heap.objs.size := Heap.lt_size (N _ hr).1
  refine wpAny_ListComp_walk (p := fun _ => true) (F := fun v y => ∃ b l n, ∃ t : Int × Tok, v = .ref b ∧ (b, tupObj (List.toArray l) n) ∈ tl ∧ l[0]? = some y ∧ y = .int t.1 t.2) hfree hcell hkind hnames hx ?_ hfold
  refine hit _ (wpAny_pyIter_list hls ?_)
  have hne : r ≠ s.heap.objs.size := Nat.ne_of_lt hrlt
  refine ⟨s.heap.objs.size, _, _, _, _, _, rfl, Walks.list (prog := prog) (w := w) hh s.heap.objs.size r hne rs.toArray, ?_, ⟨⟨_, Heap.get?_push_size _ rfl, rfl, rfl⟩, hls.at fun o e => Heap.get?_push_of_some _ e⟩, ?_, ⟨?_, ?_⟩, ?_⟩
  · have := hR.length
    rw [sizeLine_eq]; simp; omega
  · intro b hb
    rw [Heap.size_push]
    rcases List.mem_cons.mp hb with rfl | hb
    · exact Nat.lt_succ_self _
    · rw [List.mem_singleton.mp hb]; exact Nat.lt_succ_of_lt hrlt
  · intro C i v s₃ m₃ E' _ _ _ _ _
    exact wpAny_tests_nil ⟨rfl, _, _, rfl, fun _ _ e => e⟩
  · intro C i v s₃ m₃ E' hP _ hn hm hk htk
    have hi : i < R.length := by
      have := (Array.getElem?_eq_some_iff.mp hP).1
      have h2 := hR.length
      simp at this; omega
    obtain ⟨v', hv', b, t, p, k, rfl, hb, _⟩ := hR.get hi
    have hvv : v = .ref b := by
      have : rs[i]? = some v := by simpa using hP
      rw [hv'] at this; exact (Option.some.inj this).symm
    subst hvv
    have hbs : s₃.heap.get? b = some (tupObj #[.int (R[i]).1 t, .ref p] k) := by
      have h1 := (N _ (hs _ hb)).1
      refine hk b _ ?_ (Heap.get?_push_of_some _ h1)
      intro q
      rw [List.mem_singleton.mp q] at h1
      exact absurd (Heap.lt_size h1) (Nat.lt_irrefl _)
    refine eval_item (l := [.int (R[i]).1 t, .ref p]) (n := k) (j := 0) rfl (by simp [compEnv, hkind]) (by show scope.names.lookup x = _; exact hx) hd hn hm hbs rfl (by omega) fun tk _ => ?_
    exact ⟨⟨b, [.int (R[i]).1 t, .ref p], k, ((R[i]).1, t), rfl, hb, rfl, rfl⟩, _, _, rfl, fun _ _ e => e⟩
  · intro D h' tk ys vs hD hL hP hlen hvs hpair hk
    have hk' : ∀ b o, s.heap.get? b = some o → h'.get? b = some o := by
      intro b o e
      refine hk b o ?_ (Heap.get?_push_of_some _ e)
      intro q
      rw [List.mem_singleton.mp q] at e
      exact absurd (Heap.lt_size e) (Nat.lt_irrefl _)
    have hD' : s.heap.get? D = none := by
      cases e : s.heap.get? D with
      | none => rfl
      | some o => rw [Heap.get?_push_of_some _ e] at hD; cases hD
    have hvr : vs = rs := by
      apply List.ext_getElem?
      intro i
      by_cases hi : i < vs.length
      · have h1 : vs[i]? = some vs[i] := List.getElem?_eq_getElem hi
        have := hvs i _ h1
        rw [h1, ← this]; simp
      · have h2 : rs.length = vs.length := by rw [hlen]; simp
        rw [List.getElem?_eq_none (by omega), List.getElem?_eq_none (by omega)]
    subst hvr
    rw [List.filter_eq_self.mpr (fun _ _ => rfl)] at hpair
    obtain ⟨k, F', N', l'⟩ := news_list F N hk' hD' hP
    refine h D h' tk ys.toList k F' (by simpa using N') l' ?_
    refine paired_all2 (fun v y e hvy hve => ?_) hpair hR
    obtain ⟨b, l, n1, t, rfl, hb, hy, rfl⟩ := hvy
    obtain ⟨b', t', p', n', e', hb', _⟩ := hve
    cases e'
    have h1 := (N _ (hs _ hb)).1
    have h2 := (N _ (hs _ hb')).1
    rw [h1] at h2
    have h3 := congrArg Obj.data (Option.some.inj h2)
    injection h3 with h3
    have h4 : l = [.int e.1 t', .ref p'] := by
      have := congrArg Array.toList h3
      simpa using this
    rw [h4] at hy
    exact ⟨t', (Option.some.inj hy).symm⟩
end
end Mine
end

section
set_option autoImplicit false
set_option maxRecDepth 100000
namespace Mine
open PySem PySem.W PyProof.Rows PySem.Calls

theorem way_inj {k k' : Nat} (h : k < 9) (h' : k' < 9) (e : wayInts k = wayInts k') : k = k' := by
  have : ∀ k < 9, ∀ k' < 9, wayInts k = wayInts k' → k = k' := by decide
  exact this k h k' h' e

theorem ints_fun : ∀ {vs : List Value} {ns ms : List Int}, IntsAre vs ns → IntsAre vs ms → ns = ms := by
  intro vs ns ms h
  induction h generalizing ms with
  | nil => intro h2; cases h2; rfl
  | cons n t _ ih => intro h2; cases h2 with
    | cons _ _ h3 => rw [ih h3]

section
variable {prog : Program} {w : World} {A : Around} {E : Value → Shared → Prop} {s : Shared} {h₀ : Heap} {L : Addr} {m : Str → Option Value} {news : Led}

/-- a row tells its way -/
theorem row_way {h : Heap} {tl : Led} (hh : ∀ p ∈ tl, h.get? p.1 = some p.2) {v : Value} {e e' : Ent} (h1 : RowIn tl v e) (h2 : RowIn tl v e') (l1 : e.2.2 < 9) (l2 : e'.2.2 < 9) : e.2.2 = e'.2.2 := by
  obtain ⟨b, t, p, n, rfl, hb, vs, k, hp, hi⟩ := h1
  obtain ⟨b', t', p', n', e1, hb', vs', k', hp', hi'⟩ := h2
  cases e1
  have q := hh _ hb
  have q' := hh _ hb'
  rw [q] at q'
  have q2 := congrArg Obj.data (Option.some.inj q')
  injection q2 with q2
  have q3 := congrArg Array.toList q2
  simp at q3
  obtain ⟨_, rfl⟩ := q3
  have r := hh _ hp
  have r' := hh _ hp'
  rw [r] at r'
  have r2 := congrArg Obj.data (Option.some.inj r')
  injection r2 with r2
  have r3 : vs = vs' := by simpa using r2
  subst r3
  exact way_inj l1 l2 (ints_fun hi hi')

/-- [row for row in rows if row[1] == way] -/
theorem comp_same {env : Env} {x y : Str} {px p0 p1 p2 p3 p4 p5 : Pos} {iter : Expr} {scope : Scope} {cl : List (Str × Addr)} {pos : Pos} {r c q : Addr} {oc : Obj} {rs vq : List Value} {n kq k : Nat} {tl : Led} {R : List Ent} {Q : Value → Shared → Prop}
    (hh : A.handled = none) (hu : A.units + 64 < cLine) (F : Fr h₀ L s.heap m) (N : News h₀ L s.heap news) (hr : (r, W.listOf rs.toArray n) ∈ news) (hs : ∀ p ∈ tl, p ∈ news) (hR : All2 (RowIn tl) rs R) (hl9 : R.length ≤ 9) (hw9 : ∀ e ∈ R, e.2.2 < 9)
    (hcm : (c, oc) ∈ news) (hcd : oc.data = .cell (some (.ref q))) (hqm : (q, W.listOf vq.toArray kq) ∈ news) (hqi : IntsAre vq (wayInts k)) (hk9 : k < 9)
    (hit : ∀ Q' : Value → Shared → Prop, Q' (.ref r) s → wpAny (model prog w) A (eval iter env) Q' E s)
    (hclos : closureFor scope env = pure cl) (hcell : ∀ y ∈ scope.names, y.2 ≠ .cell) (hkind : scope.kind = .function)
    (hnames : ∀ y ∈ scope.names, y.2 = .local → scope.names.lookup y.1 = some .local) (hx : scope.names.lookup x = some .local) (hd : (x == ("__debug__" : Str)) = false) (hdy : (y == ("__debug__" : Str)) = false)
    (hcl : cl.lookup y = some c) (hyk : ∀ C, (compEnvC scope cl C env).kindOf y = some .cell) (hxk : ∀ C, (compEnvC scope cl C env).kindOf x = some .local)
    (hfold : ∀ x, foldedSetIterable iter env x = pure x) (hbm : behindInMarks .Eq (.Name y p5) = false)
    (h : ∀ D h' tk ys k', Fr h₀ L h' m → News h₀ L h' ((D, W.listOf (List.toArray ys) k') :: news) → (∀ p ∈ news, @Ne Nat p.1 D) → (ys = [] ↔ k ∉ R.map (·.2.2)) → Q (.ref D) { s with heap := h', toks := tk }) :
    wpAny (model prog w) A (eval (.ListComp (.Name x p0) [⟨.Name x px, iter, [.Compare (.Subscript (.Name x p1) (.Constant (.int 1) 0 p2) p3) [.Eq] [.Name y p5] p4], 0⟩] scope pos) env) Q E s := by
  have hls : s.heap.IsList r rs.toArray := ⟨_, (N _ hr).1, rfl, n, rfl⟩
  have hrlt : r < s.heap.objs.size := Heap.lt_size (N _ hr).1
  have hget : ∀ p ∈ tl, s.heap.get? p.1 = some p.2 := fun p hp => (N p (hs p hp)).1
  let pp : Value → Bool := fun v => @decide (∃ e ∈ R, RowIn tl v e ∧ e.2.2 = k) (Classical.propDecidable _)
  refine wpAny_ListComp_free (p := pp) (F := fun _ _ => True) hclos hcell hkind hnames hx ?_ hfold
  refine hit _ (wpAny_pyIter_list hls ?_)
  have hne : r ≠ s.heap.objs.size := Nat.ne_of_lt hrlt
  refine ⟨s.heap.objs.size, _, _, _, _, _, rfl, Walks.list (prog := prog) (w := w) hh s.heap.objs.size r hne rs.toArray, ?_, ⟨⟨_, Heap.get?_push_size _ rfl, rfl, rfl⟩, hls.at fun o e => Heap.get?_push_of_some _ e⟩, ?_, ⟨?_, ?_⟩, ?_⟩
  · have := hR.length
    rw [sizeLine_eq]; simp; omega
  · intro b hb
    rw [Heap.size_push]
    rcases List.mem_cons.mp hb with rfl | hb
    · exact Nat.lt_succ_self _
    · rw [List.mem_singleton.mp hb]; exact Nat.lt_succ_of_lt hrlt
  · intro C i v s₃ m₃ E' _ hP hn hm hk htk
    have hi : i < R.length := by
      have := (Array.getElem?_eq_some_iff.mp hP).1
      have h2 := hR.length
      simp at this; omega
    obtain ⟨v', hv', hrow⟩ := hR.get hi
    obtain ⟨b, t, p, kb, rfl, hb, vp, kp, hpm, hpi⟩ := id hrow
    have hvv : v = .ref b := by
      have : rs[i]? = some v := by simpa using hP
      rw [hv'] at this; exact (Option.some.inj this).symm
    subst hvv
    have up : ∀ a o, s.heap.get? a = some o → s₃.heap.get? a = some o := by
      intro a o e
      refine hk a o ?_ (Heap.get?_push_of_some _ e)
      intro q'
      rw [List.mem_singleton.mp q'] at e
      exact absurd (Heap.lt_size e) (Nat.lt_irrefl _)
    have hbs := up _ _ (hget _ hb)
    refine wpAny_tests_one (wpAny_isTrue_Compare1 ?_ hbm)
    refine eval_item (l := [.int (R[i]).1 t, .ref p]) (n := kb) (j := 1) rfl (by simp [compEnvC, relabel, hkind]) (hxk C) hd hn hm hbs rfl (by omega) fun tk htk2 => ?_
    refine wpAny_Name (wpAny_loadName_cell (by simp [compEnvC, relabel, hkind]) (hyk C) hcl ⟨oc, up _ _ (N _ hcm).1, hcd⟩ ?_) hdy
    refine eq_intsK (s := { s₃ with toks := tk }) (vs := vp) (us := vq) ⟨_, up _ _ (hget _ hpm), rfl, kp, rfl⟩ hpi ⟨_, up _ _ (N _ hqm).1, rfl, kq, rfl⟩ hqi hu (wpAny_truthy_bool ?_)
    refine ⟨?_, _, _, rfl, fun _ _ e => e⟩
    have hRi : R[i] ∈ R := List.getElem_mem hi
    show decide (wayInts (R[i]).2.2 = wayInts k) = @decide _ (Classical.propDecidable _)
    by_cases hkk : (R[i]).2.2 = k
    · rw [decide_eq_true (by rw [hkk])]
      exact (@decide_eq_true _ (Classical.propDecidable _) ⟨R[i], hRi, hrow, hkk⟩).symm
    · rw [decide_eq_false (fun z => hkk (way_inj (hw9 _ hRi) hk9 z))]
      refine (@decide_eq_false _ (Classical.propDecidable _) ?_).symm
      rintro ⟨e, he, hre, hek⟩
      exact hkk ((row_way hget hrow hre (hw9 _ hRi) (hw9 _ he)).trans hek)
  · intro C i v s₃ m₃ E' _ hP _ hn hm hk htk
    exact wpAny_Name (wpAny_loadName_local (by simp [compEnvC, relabel, hkind]) (hxk C) hn hm ⟨trivial, _, _, rfl, fun _ _ e => e⟩) hd
  · intro D h' tk ys vs hD hL hP hlen hvs hpair hk
    have hk' : ∀ b o, s.heap.get? b = some o → h'.get? b = some o := by
      intro b o e
      refine hk b o ?_ (Heap.get?_push_of_some _ e)
      intro q'
      rw [List.mem_singleton.mp q'] at e
      exact absurd (Heap.lt_size e) (Nat.lt_irrefl _)
    have hD' : s.heap.get? D = none := by
      cases e : s.heap.get? D with
      | none => rfl
      | some o => rw [Heap.get?_push_of_some _ e] at hD; cases hD
    have hvr : vs = rs := by
      apply List.ext_getElem?
      intro i
      by_cases hi : i < vs.length
      · have h1 : vs[i]? = some vs[i] := List.getElem?_eq_getElem hi
        have := hvs i _ h1
        rw [h1, ← this]; simp
      · have h2 : rs.length = vs.length := by rw [hlen]; simp
        rw [List.getElem?_eq_none (by omega), List.getElem?_eq_none (by omega)]
    subst hvr
    obtain ⟨k', F', N', l'⟩ := news_list F N hk' hD' hP
    refine h D h' tk ys.toList k' F' (by simpa using N') l' ?_
    have e1 : ys.toList = [] ↔ vs.filter pp = [] := by
      have := hpair.length
      constructor
      · intro z; rw [z] at this; exact List.eq_nil_of_length_eq_zero (by simpa using this)
      · intro z; rw [z] at this; exact List.eq_nil_of_length_eq_zero (by simpa using this.symm)
    rw [e1, List.filter_eq_nil_iff]
    constructor
    · intro hno hmem
      obtain ⟨e, he, hek⟩ := List.mem_map.mp hmem
      obtain ⟨i, hi, rfl⟩ := List.mem_iff_getElem.mp he
      obtain ⟨v, hv, hrow⟩ := hR.get hi
      exact hno v (List.mem_of_getElem? hv) (@decide_eq_true _ (Classical.propDecidable _) ⟨_, he, hrow, hek⟩)
    · intro hno v hv hp
      obtain ⟨e, he, _, hek⟩ := @of_decide_eq_true _ (Classical.propDecidable _) hp
      exact hno (List.mem_map.mpr ⟨e, he, hek⟩)
end
end Mine
end

section
set_option autoImplicit false
set_option maxRecDepth 100000
namespace Mine
open PySem PySem.W PyProof.Rows PySem.Calls PyProof.Rows.LCg

def hitsN (R : List Ent) (least : Int) (n : Nat) : List Nat := (List.range n).filter fun j => decide ((R[j]?).map (·.1) = some least)
def hits (R : List Ent) (least : Int) (n : Nat) : List Int := (hitsN R least n).map fun (j : Nat) => (j : Int)
theorem hits_zero (R : List Ent) (least : Int) : hits R least 0 = [] := rfl
theorem hits_succ {R : List Ent} {least : Int} {n : Nat} (hn : n < R.length) : hits R least (n + 1) = hits R least n ++ (if (R[n]).1 = least then [(n : Int)] else []) := by
  unfold hits hitsN
  rw [List.range_succ, List.filter_append, List.map_append]
  congr 1
  by_cases h : (R[n]).1 = least
  · simp [h, hn]
  · simp [h, hn]

theorem ints_snoc {vs : List Value} {ns : List Int} (h : IntsAre vs ns) (n : Int) (t : Tok) : IntsAre (vs ++ [.int n t]) (ns ++ [n]) := by
  induction h with
  | nil => exact .cons _ _ .nil
  | cons a b _ ih => exact .cons a b ih

section
variable {prog : Program} {w : World} {A : Around} {E : Value → Shared → Prop} {s : Shared} {h₀ : Heap} {L : Addr} {m : Str → Option Value} {news : Led}

/-- the block [at for at, row in enumerate(rows) if row[0] == least] -/
theorem comp_least {env : Env} {a b y : Str} {pa pb tp p0 p1 p2 p3 p4 p5 : Pos} {kk : Nat} {iter : Expr} {scope : Scope} {cl : List (Str × Addr)} {pos : Pos} {r c : Addr} {oc : Obj} {rs : List Value} {n : Nat} {tl : Led} {R : List Ent} {least : Int} {tl0 : Tok} {Q : Value → Shared → Prop}
    (hh : A.handled = none) (F : Fr h₀ L s.heap m) (N : News h₀ L s.heap news) (hr : (r, W.listOf rs.toArray n) ∈ news) (hs : ∀ p ∈ tl, p ∈ news) (hR : All2 (RowIn tl) rs R) (hl9 : R.length ≤ 9)
    (hcm : (c, oc) ∈ news) (hcd : oc.data = .cell (some (.int least tl0)))
    (hit : ∀ Q' : Value → Shared → Prop, (∀ h', IsEnum h' (s.heap.objs.size + 1) s.heap.objs.size 0 .none → h'.IsListIter s.heap.objs.size r 0 → h'.objs.size = s.heap.objs.size + 2 →
      (∀ b o, s.heap.get? b = some o → h'.get? b = some o) → Q' (.ref (s.heap.objs.size + 1)) { s with heap := h' }) → wpAny (model prog w) A (eval iter env) Q' E s)
    (hclos : closureFor scope env = pure cl) (hcell : ∀ y ∈ scope.names, y.2 ≠ .cell) (hkind : scope.kind = .function)
    (hnames : ∀ y ∈ scope.names, y.2 = .local → scope.names.lookup y.1 = some .local) (hxa : scope.names.lookup a = some .local) (hxb : scope.names.lookup b = some .local) (hab : ¬ a = b)
    (hda : (a == ("__debug__" : Str)) = false) (hdb : (b == ("__debug__" : Str)) = false) (hdy : (y == ("__debug__" : Str)) = false)
    (hcl : cl.lookup y = some c) (hyk : ∀ C, (compEnvC scope cl C env).kindOf y = some .cell)
    (hfold : ∀ x, foldedSetIterable iter env x = pure x) (hbm : behindInMarks .Eq (.Name y p5) = false)
    (h : ∀ D h' tk ys k, Fr h₀ L h' m → News h₀ L h' ((D, W.listOf (List.toArray ys) k) :: news) → (∀ p ∈ news, @Ne Nat p.1 D) → IntsAre ys (hits R least R.length) → Q (.ref D) { s with heap := h', toks := tk }) :
    wpAny (model prog w) A (eval (.ListComp (.Name a p0) [⟨.Tuple [.Name a pa, .Name b pb] kk tp, iter, [.Compare (.Subscript (.Name b p1) (.Constant (.int 0) 0 p2) p3) [.Eq] [.Name y p5] p4], 0⟩] scope pos) env) Q E s := by
  have hls : s.heap.IsList r rs.toArray := ⟨_, (N _ hr).1, rfl, n, rfl⟩
  have hrlt : @LT.lt Nat _ r s.heap.objs.size := Heap.lt_size (N _ hr).1
  have hget : ∀ p ∈ tl, s.heap.get? p.1 = some p.2 := fun p hp => (N p (hs p hp)).1
  have hRl : rs.length = R.length := hR.length
  rw [eval_ListComp]
  refine wpAny_comprehension_free (use := none) rfl hfold hclos hkind hnames (hit _ fun he0 hen hli hsz0 hk0 => ?_)
  refine wpAny_pyIter_enum (s := { s with heap := he0 }) hen ?_
  refine wpAny_newObj_type (s := { s with heap := he0 }) (wpAny_newFunctionEnv hcell (by intro y hy; simp at hy) (fun h₁ hns₁ hsb₁ => ?_) hkind)
  dsimp only at hns₁ hsb₁ ⊢
  generalize hIt : s.heap.objs.size = It at *
  generalize hH2 : he0.push { cls := .type "list", dict := none, data := .seq ([] : List Value).toArray } = H2 at hns₁ hsb₁ ⊢
  generalize hDD : he0.objs.size = D at *
  have hC : @Eq Nat H2.objs.size (D + 1) := by rw [← hH2, Heap.size_push, hDD]
  have hIt2 : @Eq Nat D (It + 2) := hsz0
  generalize hCC : H2.objs.size = C at *
  have lt : ∀ {b o}, s.heap.get? b = some o → @LT.lt Nat _ b It := fun e => hIt ▸ Heap.lt_size e
  have old0 : ∀ b o, he0.get? b = some o → h₁.get? b = some o := fun b o e => by
    have : @LT.lt Nat _ b he0.objs.size := Heap.lt_size e
    refine hsb₁.extBut b o ?_ (Heap.get?_push_of_some _ (hH2 ▸ Heap.get?_push_of_some _ e))
    show @Ne Nat (b) (C)
    rw [hDD] at this
    omega
  have hacc : h₁.get? D = some (lst []) := hsb₁.extBut D _ (by show @Ne Nat (D) (C); omega) (Heap.get?_push_of_some _ (hH2 ▸ hDD ▸ Heap.get?_push_size _ rfl))
  have en1 : IsEnum h₁ (It + 1) It 0 .none := old0 _ _ hen
  have li1 : h₁.IsListIter It r 0 := hli.at fun o e => old0 _ o e
  have ls1 : h₁.IsList r rs.toArray := hls.at fun o e => old0 _ o (hk0 _ o e)
  have W := WalksT.enumerate (prog := prog) (w := w) hh (It + 1) It r (by show @Ne Nat (It + 1) (It); omega) (by show @Ne Nat (r) (It + 1); omega) (by show @Ne Nat (r) (It); omega) rs.toArray
  have loop : ∀ s₃ : Shared, s₃ = { s with heap := h₁, toks := s.toks + ([] : List (Str × Value)).length } →
      codeAny (model prog w) A (.compLoop (.ListComp (.Name a p0) [⟨.Tuple [.Name a pa, .Name b pb] kk tp, iter, [.Compare (.Subscript (.Name b p1) (.Constant (.int 0) 0 p2) p3) [.Eq] [.Name y p5] p4], 0⟩] scope pos) 0 (.ref (It + 1)) (.ref D) (compEnvC scope cl C env))
        (compPost (model prog w) A E none Q (.ref D) C) s₃ := by
    rintro s₃ rfl
    refine kct_loop
      (fun k s' => ∃ h' tk i ys m', s' = { s with heap := h', toks := tk } ∧ i ≤ R.length ∧ k = R.length + 1 - i ∧ ys.length ≤ i ∧ IntsAre ys (hits R least i) ∧ ((∃ old, IsEnum h' (It + 1) It i old) ∧ h'.IsListIter It r i ∧ h'.IsList r rs.toArray) ∧ h'.Ns C m' ∧
        h'.get? D = some (lst ys) ∧ (∀ b o, s.heap.get? b = some o → h'.get? b = some o)) ?_ (R.length + 1)
      ⟨h₁, _, 0, [], _, rfl, Nat.zero_le _, rfl, Nat.le_refl _, .nil, ⟨⟨_, en1⟩, li1, ls1⟩, hns₁, hacc, fun b o e => old0 _ o (hk0 _ o e)⟩
    rintro k s' ⟨h', tk, i, ys, m', rfl, hi, rfl, hyl, hys, hst, hn', hD', hk'⟩
    have hsz : rs.toArray.size = R.length := by simp [hRl]
    by_cases hlt : i < R.length
    · refine W.item i _ _ _ (by rw [hsz]; exact hlt) hst fun T vals h₂ tk₂ hPt hTge hT hMd hk₂ => ?_
      obtain ⟨t, v, hv, rfl⟩ := hPt
      have hTw := W.apart _ _ _ hMd
      refine W.go _ _ _ i T _ _ _ hMd fun h₃ hst₃ hk₃ => ?_
      have up₃ : ∀ c o, c ≠ It + 1 → c ≠ It → h'.get? c = some o → h₃.get? c = some o := fun c o hc hc2 e => hk₃ c o (by simp; exact ⟨hc, hc2⟩) (hk₂ c o (by simp; exact ⟨hc, hc2⟩) e)
      have hT₃ : h₃.IsTuple T #[.int i t, v] := hT.at fun o e => hk₃ T o hTw e
      have hCe : C ≠ It + 1 := by show @Ne Nat (C) (It + 1); omega
      have hCi : C ≠ It := by show @Ne Nat (C) (It); omega
      refine kcp_assign (env := compEnvC scope cl C env) hh hT₃ (lookup_relabel_local hxa) (lookup_relabel_local hxb) (by simp [compEnvC, relabel, hkind]) (hn'.at' fun o e => up₃ _ o hCe hCi e) fun h₄ tk₄ hn₄ hs₄ => ?_
      have up : ∀ c o, c ≠ It + 1 → c ≠ It → c ≠ C → h'.get? c = some o → h₄.get? c = some o := fun c o h1 h2 h3 e => hs₄ c o h3 (up₃ c o h1 h2 e)
      have up0 : ∀ b o, s.heap.get? b = some o → h₄.get? b = some o := fun b o e => by
        have := lt e
        exact up b o (by show @Ne Nat (b) (It + 1); omega) (by show @Ne Nat (b) (It); omega) (by show @Ne Nat (b) (C); omega) (hk' b o e)
      have hst₄ : (∃ old, IsEnum h₄ (It + 1) It (i + 1 : Nat) old) ∧ h₄.IsListIter It r (i + 1) ∧ h₄.IsList r rs.toArray := by
        obtain ⟨⟨old, q1⟩, q2, q3⟩ := hst₃
        exact ⟨⟨old, hs₄ _ _ (Ne.symm hCe) q1⟩, q2.at fun o e => hs₄ _ o (Ne.symm hCi) e, q3.at fun o e => hs₄ _ o (by show @Ne Nat (r) (C); omega) e⟩
      have hD₄ : h₄.get? D = some (lst ys) := up D _ (by show @Ne Nat (D) (It + 1); omega) (by show @Ne Nat (D) (It); omega) (by show @Ne Nat (D) (C); omega) hD'
      obtain ⟨v', hv', hrow⟩ := hR.get hlt
      obtain ⟨bb, tt, pp, kb, rfl, hb, _⟩ := id hrow
      have hvv : v = .ref bb := by
        have : rs[i]? = some v := by simpa using hv
        rw [hv'] at this; exact (Option.some.inj this).symm
      subst hvv
      refine wpAny_isTrue_Compare1 ?_ hbm
      refine eval_item (l := [.int (R[i]).1 tt, .ref pp]) (n := kb) (j := 0) rfl (by simp [compEnvC, relabel, hkind]) (lookup_relabel_local hxb) hdb hn₄ (by simp) (up0 _ _ (hget _ hb)) rfl (by omega) fun tk htk2 => ?_
      refine wpAny_Name (wpAny_loadName_cell (by simp [compEnvC, relabel, hkind]) (hyk C) hcl ⟨oc, up0 _ _ (N _ hcm).1, hcd⟩ ?_) hdy
      refine eq_int (wpAny_truthy_bool ?_)
      by_cases hle : (R[i]).1 = least
      · rw [show ((R[i]).1 == least) = true by simpa using hle]
        simp only [if_true]
        refine wpAny_Name (wpAny_loadName_local (by simp [compEnvC, relabel, hkind]) (lookup_relabel_local hxa) hn₄ (by simp [hab]; rfl) ?_) hda
        refine append_at (s := { s with heap := h₄, toks := tk }) (hsz := by rw [List.size_toArray, sizeLine_eq]; omega) hD₄ fun h₆ hs₆ hD₆ => ?_
        refine ⟨R.length + 1 - (i + 1), by omega, h₆, tk, i + 1, ys ++ [.int i t], _, rfl, hlt, rfl, by rw [List.length_append, List.length_singleton]; omega, ?_, ?_, hn₄.sameBut hs₆ (by show @Ne Nat (C) (D); omega), ?_, ?_⟩
        · rw [hits_succ hlt, if_pos hle]
          exact ints_snoc hys _ _
        · obtain ⟨⟨old, q1⟩, q2, q3⟩ := hst₄
          exact ⟨⟨old, hs₆.extBut _ _ (by show @Ne Nat (It + 1) (D); omega) q1⟩, q2.at fun o e => hs₆.extBut _ o (by show @Ne Nat (It) (D); omega) e, q3.at fun o e => hs₆.extBut _ o (by show @Ne Nat (r) (D); omega) e⟩
        · exact hD₆.trans (congrArg some (lst_snoc ys _))
        · intro b o e
          have := lt e
          exact hs₆.extBut b o (by show @Ne Nat (b) (D); omega) (up0 b o e)
      · rw [show ((R[i]).1 == least) = false by simpa using hle]
        simp only [Bool.false_eq_true, if_false]
        refine ⟨R.length + 1 - (i + 1), by omega, h₄, tk, i + 1, ys, _, rfl, hlt, rfl, by omega, ?_, hst₄, hn₄, hD₄, up0⟩
        rw [hits_succ hlt, if_neg hle, List.append_nil]
        exact hys
    · have hin : i = R.length := Nat.le_antisymm hi (Nat.not_lt.mp hlt)
      subst hin
      refine W.done _ _ _ (by rw [hsz]; exact hst) fun h₂ tk₂ hk₂ => ?_
      have up2 : ∀ b o, s.heap.get? b = some o → h₂.get? b = some o := fun b o e => by
        have := lt e
        refine hk₂ b o ?_ (hk' b o e)
        simp
        exact ⟨by show @Ne Nat (b) (It + 1); omega, by show @Ne Nat (b) (It); omega⟩
      have hne2 : ∀ x : Nat, It + 2 ≤ x → (x : Addr) ∉ [It + 1, It] := fun x hx => by
        simp
        exact ⟨by show @Ne Nat (x) (It + 1); omega, by show @Ne Nat (x) (It); omega⟩
      refine ⟨m', hn'.at' fun o e => hk₂ C o (hne2 C (by omega)) e, fun h'' hs'' => ?_⟩
      have kk2 : ∀ b o, s.heap.get? b = some o → h''.get? b = some o := fun b o e => by
        have := lt e
        exact hs''.extBut b o (by show @Ne Nat (b) (C); omega) (up2 b o e)
      have hD2 : h''.get? D = some (lst ys) := hs''.extBut D _ (by show @Ne Nat (D) (C); omega) (hk₂ D _ (hne2 D (by omega)) hD')
      have hDn : s.heap.get? D = none := by
        cases e : s.heap.get? D with
        | none => rfl
        | some o => have := lt e; exfalso; omega
      obtain ⟨k', F', N', l'⟩ := news_list (ys := ys.toArray) F N kk2 hDn ⟨_, hD2⟩
      exact h D h'' tk₂ ys k' F' N' l' hys
  exact codeAny_compStart_list (loop _ rfl) (wpAny_pyIter_enum (s := { s with heap := h₁, toks := s.toks + ([] : List (Str × Value)).length }) en1 (loop _ rfl))
end
end Mine
end

section
open PySem PySem.W PyProof.Rows
set_option Elab.async false
set_option autoImplicit false
set_option maxRecDepth 100000
set_option maxHeartbeats 8000000
namespace Mine
/-- into a def of the text from the law's frame -/
local macro_rules | `(tactic| k_enter) => `(tactic| first
  | (refine' code_def ?k1 ?k2 ?k3 ?k4 ?k5 ?kA ?kF ?kK ?k6 ?k7 ?k8 ?k9 ?kB ?_ ?c2 ?c3 ?c4 ?c5; (case kA => exact rfl); (case kF => assumption); (case kK => assumption); (case k1 => k_asm); (case k2 => k_asm); (case k3 => k_asm); (case k4 => k_asm); (case k5 => k_asm); (case k6 => k_is); (case k7 => k_is); (case k8 => k_room); (case k9 => first | exact BindsTo.of_eq rfl | exact binds_K (by k_in) rfl (by k_is) rfl rfl rfl | fail "k_enter: no rule for these arguments"); (case c5 => decide); (case kB => exact locs rfl); (case c2 => exact rfl); (case c3 => exact rfl); (case c4 => exact rfl); k_whole; intro g' L' h' FG' F' N' B' X' T'; (try dsimp only); (try k_lift B'); (try k_fold))
  | (refine' code_defC ?k1 ?k2 ?k3 ?k4 ?k5 ?kA ?kF ?kK ?k6 ?k7 ?k8 ?k9 ?kB ?kD ?_ ?c2 ?c3 ?c4; (case kA => exact rfl); (case kF => assumption); (case kK => assumption); (case k1 => k_asm); (case k2 => k_asm); (case k3 => k_asm); (case k4 => k_asm); (case k5 => k_asm); (case k6 => k_is); (case k7 => k_is); (case k8 => k_room); (case k9 => first | exact BindsTo.of_eq rfl | exact binds_K (by k_in) rfl (by k_is) rfl rfl rfl | fail "k_enter: no rule for these arguments"); (case kB => exact rfl); (case kD => decide +kernel); (case c2 => exact rfl); (case c3 => exact rfl); (case c4 => exact rfl); k_whole; intro g' L' h' tk' cells' FG' F' N' Y' B' X' T' l1; (try k_lt l1); k_cells Y'; (try simp only [List.cons_append, List.nil_append] at N'); (try dsimp only); (try k_lift B'); (try k_fold)))

structure Halt (P : Prop) : Prop where
  out : P
theorem Halt.go {P : Prop} (h : Halt P) : P := h.out
local macro_rules | `(tactic| walk_at "call type:enumerate") => `(tactic| (k_here; refine Halt.go ?_))
local macro_rules | `(tactic| walk_at "eval ListComp") => `(tactic| (k_here; refine Halt.go ?_))

theorem off_of_lt {l : Led} {x : Addr} (h : ∀ p ∈ l, p.1 < x) : OwnOff l [x + 1] := fun p hp y hy => by
  rw [List.mem_singleton.mp hy]
  have : @LT.lt Nat _ p.1 x := h p hp
  show @Ne Nat _ _
  omega

theorem all2_ints {ys : List Value} {R : List Ent} (h : All2 (fun y (e : Ent) => ∃ t, y = .int e.1 t) ys R) : IntsAre ys (R.map (·.1)) := by
  induction h with
  | nil => exact .nil
  | cons q _ ih =>
    obtain ⟨t, rfl⟩ := q
    exact .cons _ _ ih

theorem hits_none {R : List Ent} {least : Int} : ∀ n, n ≤ R.length → (∀ j, j < n → ∀ x, R[j]? = some x → x.1 ≠ least) → hits R least n = [] := by
  intro n
  induction n with
  | zero => intros; rfl
  | succ n ih =>
    intro hn hj
    rw [hits_succ (by omega), ih (by omega) fun j hjn => hj j (by omega), if_neg]
    · rfl
    · exact hj n (by omega) _ (List.getElem?_eq_getElem (by omega))
theorem hits_first {R : List Ent} {least : Int} {k : Nat} (hk : k < R.length) (hk1 : (R[k]).1 = least) (hj : ∀ j, j < k → ∀ x, R[j]? = some x → x.1 ≠ least) : ∀ n, k < n → n ≤ R.length → ∃ r, hits R least n = (k : Int) :: r := by
  intro n
  induction n with
  | zero => intro h; omega
  | succ n ih =>
    intro h1 h2
    by_cases hkn : k = n
    · subst hkn
      rw [hits_succ (by omega), hits_none k (by omega) hj, if_pos hk1]
      exact ⟨[], rfl⟩
    · obtain ⟨r, hr⟩ := ih (by omega) (by omega)
      rw [hits_succ (by omega), hr]
      exact ⟨_, rfl⟩
theorem least_of (P : Nat → Prop) (h : ∃ k, P k) : ∃ k, P k ∧ ∀ j, j < k → ¬ P j := by
  obtain ⟨k, hk⟩ := h
  induction k using Nat.strongRecOn with
  | ind k ih =>
    by_cases hx : ∃ j, j < k ∧ P j
    · obtain ⟨j, hj, hp⟩ := hx
      exact ih j hj hp
    · exact ⟨k, hk, fun j hj hp => hx ⟨j, hj, hp⟩⟩
/-- the first of the hits is the first row of the least price -/
theorem hits_head {R : List Ent} {M : Int} {zs : List Value} (h1 : M ∈ R.map (·.1)) (h2 : ∀ a, a ∈ R.map (·.1) → M ≤ a) (hz : IntsAre zs (hits R M R.length)) :
    ∃ zr k t, zs = Value.int ((k : Nat) : Int) t :: zr ∧ (∃ e, R[k]? = some e ∧ (∀ x ∈ R, e.1 ≤ x.1) ∧ ∀ j, j < k → ∀ x, R[j]? = some x → e.1 < x.1) := by
  have hex : ∃ k : Nat, ∃ e : Ent, R[k]? = some e ∧ e.1 = M := by
    obtain ⟨e, he, hm⟩ := List.mem_map.mp h1
    obtain ⟨k, hk, rfl⟩ := List.mem_iff_getElem.mp he
    exact ⟨k, _, List.getElem?_eq_getElem hk, hm⟩
  obtain ⟨k, ⟨e, he, hem⟩, hmin⟩ := least_of _ hex
  have hk : k < R.length := (List.getElem?_eq_some_iff.mp he).1
  have hke : R[k] = e := (List.getElem?_eq_some_iff.mp he).2
  obtain ⟨r, hr⟩ := hits_first (least := M) hk (by rw [hke]; exact hem) (fun j hj x hx q => hmin j hj ⟨x, hx, q⟩) R.length hk (Nat.le_refl _)
  rw [hr] at hz
  cases hz with
  | cons n t _ =>
    refine ⟨_, k, t, rfl, e, he, fun x hx => ?_, fun j hj x hx => ?_⟩
    · rw [hem]; exact h2 _ (List.mem_map.mpr ⟨x, hx, rfl⟩)
    · have a : M ≤ x.1 := h2 _ (List.mem_map.mpr ⟨x, List.mem_of_getElem? hx, rfl⟩)
      have b : x.1 ≠ M := fun q => hmin j hj ⟨x, hx, q⟩
      omega

theorem taken_spec {w : World} {mean : ExcName → Option Value} {mg mb : Str → Option Value} {base h₀ : Heap} {env : Env} {L r : Addr} {m : Str → Option Value} {s : Shared}
    {news tl : Led} {rs : List Value} {n : Nat} {R : List Ent} {E : Value → Shared → Prop} {Q : Value → Shared → Prop}
    (C : Base w mean mg mb h₀) (B : Below callerA base [] h₀) (F : Fr h₀ L s.heap m) (hf : env.frame = some L) (hke : env.scope.kind = .function)
    (N : News h₀ L s.heap news) (hr : (r, W.listOf rs.toArray n) ∈ news) (hs : ∀ p ∈ tl, p ∈ news) (hR : All2 (RowIn tl) rs R) (hl9 : R.length ≤ 9) (hne : R ≠ [])
    (h : ∀ h' tk' k t, Fr h₀ L h' m → News h₀ L h' news → (∃ e, R[k]? = some e ∧ (∀ x ∈ R, e.1 ≤ x.1) ∧ ∀ j, j < k → ∀ x, R[j]? = some x → e.1 < x.1) → Q (.int (k : Nat) t) { s with heap := h', toks := tk' }) :
    wpAny (model PySem.Challenge.rw_bj0026_01.row.prog w) (callerA.deeper env) (call (.ref 170) [.ref r]) Q E s := by
  obtain ⟨X₀, T₀, G₀⟩ := C
  revert X₀
  k_fill
  intro X₀
  have hMk := kstMark
  refine wpAny_call ?_
  w_strict k_enter
  k_steps
  rename ∀ p ∈ news, p.1 < _ => lN
  have hoffN := off_of_lt lN
  refine Halt.mk ?_
  rename Fr _ _ _ _ => F1
  rename News _ _ _ _ => N1
  k_dflt (refine' comp_costs (r := r) (rs := rs) (n := n) (tl := tl) (R := R) ?k1 F1 N1 ?k2 ?k3 hR hl9 ?k4 ?k5 ?k6 ?k7 ?k8 ?k9 ?kA ?kB ?_)
  case k1 => rfl
  case k2 => repeat (first | exact hr | apply List.Mem.tail)
  case k3 => exact fun q hq => by repeat (first | exact hs _ hq | apply List.Mem.tail)
  case k4 =>
    intro Q' hq
    walk1
    exact hq
  case k5 => decide
  case k6 => decide
  case k7 => rfl
  case k8 => decide
  case k9 => rfl
  case kA => rfl
  case kB => intro _; rfl
  intro D h1 tk1 ys ky F2 N2 lD hys
  clear F1 N1
  have nD : @Ne Nat _ D := lD _ (List.Mem.head _)
  dsimp only at nD
  k_steps
  rename Fr _ _ _ _ => F1
  rename News _ _ _ _ => N1
  k_dflt (refine' kso_min F1 N1 (vs := ys) (ns := R.map (·.1)) ⟨_, (N1 (D, _) (by repeat (first | exact List.Mem.head _ | apply List.Mem.tail))).1, rfl, ky, rfl⟩ (all2_ints hys) ?k5 ?k6 ?_)
  case k5 => rw [List.length_map]; exact List.length_pos_iff.mpr hne
  case k6 => rfl
  intro h2 M tM tk2 F3 N3 hM1 hM2
  clear F1 N1
  k_steps
  refine Halt.mk ?_
  rename Fr _ _ _ _ => F1
  rename News _ _ _ _ => N1
  k_dflt (refine' comp_least (r := r) (rs := rs) (n := n) (tl := tl) (R := R) (least := M) ?k1 F1 N1 ?k2 ?k3 hR hl9 ?m1 ?m2 ?k4 ?k5 ?k6 ?k7 ?k8 ?k9 ?kA ?kB ?kC ?kD ?kE ?kF ?kG ?kH ?kI ?_)
  case k1 => rfl
  case k2 => repeat (first | exact hr | apply List.Mem.tail)
  case k3 => exact fun q hq => by repeat (first | exact hs _ hq | apply List.Mem.tail)
  case k5 => rfl
  case k6 => decide
  case k7 => rfl
  case k8 => decide
  case k9 => rfl
  case kA => rfl
  case kB => decide
  case kC => rfl
  case kD => rfl
  case kE => rfl
  case kF => rfl
  case kG => intro C; rfl
  case kH => intro _; rfl
  case kI => rfl
  case m1 => exact .tail _ (.head _)
  case m2 => assumption
  case k4 =>
    intro Q' hq
    k_steps
    refine Halt.mk ?_
    refine call_enumerate_list (items := rs.toArray) ?_ hq
    exact ⟨_, (N1 _ (by repeat (first | exact hr | apply List.Mem.tail))).1, rfl, n, rfl⟩
  intro D2 h3 tk3 zs kz F4 N4 lD2 hzs
  clear F1 N1
  obtain ⟨zr, k0, t0, rfl, hk0⟩ := hits_head hM1 hM2 hzs
  k_steps
  refine h _ _ _ _ (by assumption) ?_ hk0
  rename News _ _ _ _ => N9
  refine news_re N9 fun q hq => ?_
  repeat (first | exact hq | apply List.Mem.tail)
end Mine
end

section
set_option autoImplicit false
set_option maxRecDepth 100000
namespace Mine
open PySem PySem.W PyProof.Rows PySem.Calls

structure HaltMark : Prop where
  out : True
theorem haltMark : HaltMark := ⟨trivial⟩

section
variable {prog : Program} {w : World} {A : Around} {E : Value → Shared → Prop} {s : Shared} {env : Env} {h₀ : Heap} {x : Str} {body : List Stmt} {Q : Flow → Shared → Prop}

/-- for x in range(n), with an invariant of one's own -/
theorem rng_loop {r : Addr} {b₀ : Int} {t₀ u₀ v₀ : Tok} {n : Nat} {m₀ : Str → Option Value} {news nx₀ : Led} (J : Nat → (Str → Option Value) → Led → Prop)
    (hh : A.handled = none) (hr : IsRange s.heap r 0 b₀ 1 t₀ u₀ v₀) (hsmall : Builtin.Range.small 0 b₀ 1 = true) (hsz : Builtin.Range.rangeSize 0 b₀ 1 = (n : Int)) (F : Fr h₀ env.locals s.heap m₀) (N : News h₀ env.locals s.heap news) (hn : ∀ p ∈ nx₀, p ∈ news) (hj : J 0 m₀ nx₀)
    (turn : ∀ i t m₁ nx h tk own, i < n → OwnOff own (nx.map (·.1)) → J i m₁ nx → Fr h₀ env.locals h (fun y => if y = x then some (.int (i : Nat) t) else m₁ y) → News h₀ env.locals h (nx ++ own) →
      wpAny (model prog w) A (execs body env) (InvPostG h₀ env.locals (J (i + 1)) own { s with heap := h, toks := tk } Q) E { s with heap := h, toks := tk })
    (done : ∀ m₁ nx h tk, J n m₁ nx → Fr h₀ env.locals h m₁ → News h₀ env.locals h nx → Q .next { s with heap := h, toks := tk }) :
    wpAny (model prog w) A (pyIter (.ref r)) (fun it s₂ => LoopAtV prog w A h₀ env x body Q E it s₂) E s := by
  refine wpAny_pyIter_range hr hsmall ?_
  have W : Walks prog w A s.heap.objs.size [s.heap.objs.size] [s.heap.objs.size] n (fun i v => i < n ∧ ∃ t, v = .int (0 + i * 1) t)
      (fun i h => IsRangeIter h s.heap.objs.size (0 + (i : Nat) * 1) ((n : Int) - (i : Nat)) 1) := (Walks.range hh _ 0 1 n).bound
  refine kdr_loop J W (fun _ h => h) (fun _ h => h) ?_ ?_ ?_ ?_ (by show IsRangeIter _ _ _ _ _; rw [hsz]; simpa using Heap.get?_push_size _ rfl) (F.push _) (fun p hp => ⟨Heap.get?_push_of_some _ (N p (hn p hp)).1, (N p (hn p hp)).2⟩) hj ?_ ?_
  · intro i h hi b hb
    rw [List.mem_singleton.mp hb]
    exact ⟨_, hi⟩
  · intro hm
    exact absurd F.ns.lt ((List.mem_singleton.mp hm) ▸ Nat.lt_irrefl _)
  · intro b hb
    rw [List.mem_singleton.mp hb]
    exact next_is_new F
  · intro p hp hI
    exact absurd (Heap.lt_size (N p (hn p hp)).1) ((List.mem_singleton.mp hI) ▸ Nat.lt_irrefl _)
  · rintro i v m₁ nx h tk own hi ⟨_, t, rfl⟩ hoff hJ F₁ N₁
    have e1 : (0 : Int) + (i : Int) * 1 = (i : Int) := by omega
    rw [e1] at F₁
    exact turn i t m₁ nx h tk own hi hoff hJ F₁ N₁
  · intro m₁ nx h tk hJ F₁ N₁
    exact done m₁ nx h tk hJ F₁ N₁

theorem fr_known {L : Addr} {h : Heap} {m : Str → Option Value} {y : Str} {v : Value} (F : Fr h₀ L h m) (e : m y = some v) : Fr h₀ L h (fun z => if z = y then some v else m z) := F.known0 e
end

/-- the pop of the heap is the row of the law -/
theorem spot_is {R R1 R2 : List Ent} {e : Ent} {k : Nat} (hR : R = R1 ++ e :: R2) (hmin : ∀ x ∈ R, le e x) (hinc : R.Pairwise (fun a b => a.2.1 < b.2.1))
    (hk : ∃ f, R[k]? = some f ∧ (∀ x ∈ R, f.1 ≤ x.1) ∧ ∀ j, j < k → ∀ x, R[j]? = some x → f.1 < x.1) : k = R1.length ∧ R[k]? = some e ∧ R1 = R.take k ∧ R2 = R.drop (k + 1) := by
  obtain ⟨f, hf, hle, hlt⟩ := hk
  have hkl : k < R.length := (List.getElem?_eq_some_iff.mp hf).1
  have he : R[R1.length]? = some e := by rw [hR]; simp
  have hel : R1.length < R.length := (List.getElem?_eq_some_iff.mp he).1
  have hfm : f ∈ R := List.mem_of_getElem? hf
  have hem : e ∈ R := List.mem_of_getElem? he
  have h1 := hmin f hfm
  have h2 := hle e hem
  have hk2 : k = R1.length := by
    rcases Nat.lt_trichotomy k R1.length with h | h | h
    · exfalso
      have h3 : f.2.1 < e.2.1 := by
        have := List.pairwise_iff_getElem.mp hinc k R1.length hkl hel h
        rw [(List.getElem?_eq_some_iff.mp hf).2, (List.getElem?_eq_some_iff.mp he).2] at this
        exact this
      unfold le at h1
      omega
    · exact h
    · exfalso
      have := hlt _ h _ he
      unfold le at h1
      omega
  subst hk2
  refine ⟨rfl, he, ?_, ?_⟩
  · rw [hR]; simp
  · rw [hR]; simp
end Mine
end

section
open PySem PySem.W PyProof.Rows
set_option Elab.async false
set_option autoImplicit false
set_option maxRecDepth 100000
set_option maxHeartbeats 8000000
namespace Mine

structure Parts where
  draw : Stmt
  pair : Stmt
  act : Stmt
  same : Stmt
  endRows : Stmt
  endBody : List Stmt
  endLen : Stmt
  scope : Scope
def lawSeek (p : Program) : Option Parts :=
  match p.main.body.getLast? with
  | some (.FunctionDef _ _ [_, .For _ _ [a, b, c, d] _ _, .For _ _ [e, .For _ _ f _ _, g] _ _, _] _ _ _ sc _ _ _) => some ⟨a, b, c, d, e, f, g, sc⟩
  | _ => none
def lawParts : { q : Parts // lawSeek PySem.Challenge.pw_bj0026_01 = some q } := ⟨_, rfl⟩
abbrev lawEnv (L fa : Addr) (cd : Value) : Env := envOfC (Str.ofString "law") lawParts.1.scope L fa cd

abbrev sideLed (w : World) (pb d st hp ct dc : Addr) (a1 a2 a3 t1 : Tok) (bv : Value) (es : Array (Int × Value)) (ep : Nat) (T : SetTable) (xs : Array Value) (nh : Nat) (cnt : Int) (ck : Tok) (l : Led) : Led :=
  (pb, instObj 147 d) :: (d, pbDict w a1 a2 a3 st hp ct) :: (st, setObj es ep T) :: (hp, W.listOf xs nh) :: (ct, cntObj dc bv t1 cnt ck) :: (dc, dictOf [] 0) :: l

abbrev allLed (w : World) (pb0 d0 st0 hp0 ct0 dc0 pb1 d1 st1 hp1 ct1 dc1 kp du ce : Addr) (a1 a2 a3 t1 b1 b2 b3 u1 : Tok) (bv0 bv1 : Value) (es0 : Array (Int × Value)) (ep0 : Nat) (T0 : SetTable) (xs0 : Array Value) (nh0 : Nat) (cnt0 : Int) (ck0 : Tok)
    (es1 : Array (Int × Value)) (ep1 : Nat) (T1 : SetTable) (xs1 : Array Value) (nh1 : Nat) (cnt1 : Int) (ck1 : Tok) (r0 r1 : Addr) (nk nd : Nat) (oc : Obj) (tl : Led) : Led :=
  sideLed w pb0 d0 st0 hp0 ct0 dc0 a1 a2 a3 t1 bv0 es0 ep0 T0 xs0 nh0 cnt0 ck0 (sideLed w pb1 d1 st1 hp1 ct1 dc1 b1 b2 b3 u1 bv1 es1 ep1 T1 xs1 nh1 cnt1 ck1
      ((kp, W.listOf #[.ref pb0, .ref pb1] nk) :: (du, W.listOf #[.ref r0, .ref r1] nd) :: (ce, oc) :: tl))

def J1 (w : World) (pb0 d0 st0 hp0 ct0 dc0 pb1 d1 st1 hp1 ct1 dc1 kp du ce : Addr) (a1 a2 a3 t1 b1 b2 b3 u1 : Tok) (bv0 bv1 : Value) (l : Addr) (m : Str → Option Value) (nx : Led) : Prop :=
  ∃ es0 ep0 T0 xs0 nh0 cnt0 ck0 es1 ep1 T1 xs1 nh1 cnt1 ck1 r0 r1 R0 R1 nk nd oc vc tl,
    nx = allLed w pb0 d0 st0 hp0 ct0 dc0 pb1 d1 st1 hp1 ct1 dc1 kp du ce a1 a2 a3 t1 b1 b2 b3 u1 bv0 bv1 es0 ep0 T0 xs0 nh0 cnt0 ck0 es1 ep1 T1 xs1 nh1 cnt1 ck1 r0 r1 nk nd oc tl ∧
    OwnOff tl [pb0, d0, st0, hp0, ct0, dc0, pb1, d1, st1, hp1, ct1, dc1, kp, du, ce] ∧ m (Str.ofString "kept") = some (.ref kp) ∧ m (Str.ofString "due") = some (.ref du) ∧ m (Str.ofString "script") = some (.ref l) ∧
    oc.data = .cell vc ∧ SideInv tl es0 T0 xs0 cnt0 R0 ∧ SideInv tl es1 T1 xs1 cnt1 R1 ∧ RowsIn tl r0 R0 ∧ RowsIn tl r1 R1

abbrev frm (kp du l r : Addr) (sv v : Int) (ts tv : Tok) (mm : Str → Option Value) : Str → Option Value := fun y =>
  if y = Str.ofString "rows" then some (.ref r) else if y = Str.ofString "side" then some (.int sv ts) else if y = Str.ofString "draw" then some (.int v tv) else
  if y = Str.ofString "kept" then some (.ref kp) else if y = Str.ofString "due" then some (.ref du) else if y = Str.ofString "script" then some (.ref l) else mm y

theorem side_two (v : Int) : Int.fmod (Int.fdiv v 2) 2 = 0 ∨ Int.fmod (Int.fdiv v 2) 2 = 1 := by
  have a := Int.fmod_nonneg_of_pos (Int.fdiv v 2) (b := 2) (by decide)
  have b := Int.fmod_lt_of_pos (Int.fdiv v 2) (b := 2) (by decide)
  omega
theorem way_nine (v : Int) : ∃ k : Nat, k < 9 ∧ Int.fmod (Int.fdiv v 4) 9 = (k : Int) := by
  have a := Int.fmod_nonneg_of_pos (Int.fdiv v 4) (b := 9) (by decide)
  have b := Int.fmod_lt_of_pos (Int.fdiv v 4) (b := 9) (by decide)
  exact ⟨(Int.fmod (Int.fdiv v 4) 9).toNat, by omega, by omega⟩

theorem all2_ne {tl : Led} {rs : List Value} {R : List Ent} (h : All2 (RowIn tl) rs R) (h0 : ¬ rs = []) : R ≠ [] := by
  rintro rfl
  cases h
  exact h0 rfl

theorem sub_cons {l l' : Led} {p : Addr × Obj} (h : p ∈ l) (hs : ∀ q ∈ l', q ∈ l) : ∀ q ∈ p :: l', q ∈ l := fun q hq => by
  rcases List.mem_cons.mp hq with rfl | hq
  · exact h
  · exact hs q hq
theorem sub_app {l a b : Led} (ha : ∀ q ∈ a, q ∈ l) (hb : ∀ q ∈ b, q ∈ l) : ∀ q ∈ a ++ b, q ∈ l := fun q hq => (List.mem_append.mp hq).elim (ha q) (hb q)
theorem off_cons {l : Led} {adr : List Addr} {x : Addr} {o : Obj} (h : ∀ a ∈ adr, @Ne Nat x a) (hs : OwnOff l adr) : OwnOff ((x, o) :: l) adr := fun q hq b hb => by
  rcases List.mem_cons.mp hq with rfl | hq
  · exact h b hb
  · exact hs q hq b hb
theorem off_app {l l' : Led} {adr : List Addr} (h : OwnOff l adr) (hs : OwnOff l' adr) : OwnOff (l ++ l') adr := fun q hq b hb => (List.mem_append.mp hq).elim (fun h1 => h q h1 b hb) (fun h1 => hs q h1 b hb)
theorem off_sub {l : Led} {adr adr' : List Addr} (h : OwnOff l adr) (hs : ∀ a ∈ adr', a ∈ adr) : OwnOff l adr' := fun q hq b hb => h q hq b (hs b hb)

theorem off_nil (adr : List Addr) : OwnOff [] adr := fun _ hq => (nomatch hq)
theorem ne_nil (x : Addr) : ∀ a ∈ ([] : List Addr), @Ne Nat x a := fun _ hq => (nomatch hq)
theorem ne_cons {x y : Addr} {adr : List Addr} (h : @Ne Nat x y) (hs : ∀ a ∈ adr, @Ne Nat x a) : ∀ a ∈ y :: adr, @Ne Nat x a := fun a ha => by
  rcases List.mem_cons.mp ha with rfl | ha
  · exact h
  · exact hs a ha
theorem off_back {l l' : Led} {p : Addr} (h : OwnOff l (l'.map (·.1))) : OwnOff l' (l.map (·.1)) := fun q hq b hb e => by
  obtain ⟨c, hc, rfl⟩ := List.mem_map.mp hb
  exact h c hc _ (List.mem_map.mpr ⟨q, hq, rfl⟩) e.symm

theorem own_cons {own : Led} {x : Addr} {adr : List Addr} (h : ∀ q ∈ own, q.1 ≠ x) (hs : OwnOff own adr) : OwnOff own (x :: adr) := fun q hq b hb => by
  rcases List.mem_cons.mp hb with rfl | hb
  · exact h q hq
  · exact hs q hq b hb
theorem own_all {w : World} {pb0 d0 st0 hp0 ct0 dc0 pb1 d1 st1 hp1 ct1 dc1 kp du ce r0 r1 : Addr} {a1 a2 a3 t1 b1 b2 b3 u1 ck0 ck1 : Tok} {bv0 bv1 : Value} {own tl : Led}
    {es0 es1 : Array (Int × Value)} {ep0 ep1 nh0 nh1 nk nd : Nat} {T0 T1 : SetTable} {xs0 xs1 : Array Value} {cnt0 cnt1 : Int} {oc : Obj}
    (h : OwnOff own [pb0, d0, st0, hp0, ct0, dc0, pb1, d1, st1, hp1, ct1, dc1, kp, du, ce]) (ht : OwnOff own (tl.map (·.1))) :
    OwnOff own ((allLed w pb0 d0 st0 hp0 ct0 dc0 pb1 d1 st1 hp1 ct1 dc1 kp du ce a1 a2 a3 t1 b1 b2 b3 u1 bv0 bv1 es0 ep0 T0 xs0 nh0 cnt0 ck0 es1 ep1 T1 xs1 nh1 cnt1 ck1 r0 r1 nk nd oc tl).map (·.1)) := by
  intro q hq b hb
  have e : ∀ x ∈ [pb0, d0, st0, hp0, ct0, dc0, pb1, d1, st1, hp1, ct1, dc1, kp, du, ce] ++ tl.map (·.1), q.1 ≠ x := fun x hx => (List.mem_append.mp hx).elim (h q hq x) (ht q hq x)
  exact e b hb

theorem k_addL {prog : Program} {w : World} {A : Around} {E : Value → Shared → Prop} {s : Shared} {h₀ : Heap} {L a b : Addr} {m : Str → Option Value} {news : Led} {vs ws : List Value} {n k : Nat} {Q : Value → Shared → Prop}
    (F : Fr h₀ L s.heap m) (N : News h₀ L s.heap news) (ha : (a, W.listOf vs.toArray n) ∈ news) (hb : (b, W.listOf ws.toArray k) ∈ news) (hz : vs.length + ws.length ≤ 16384)
    (h : ∀ D h', Fr h₀ L h' m → News h₀ L h' ((D, W.listOf (vs ++ ws).toArray 0) :: news) → (∀ p ∈ news, p.1 < D) → Q (.ref D) { s with heap := h' }) :
    wpAny (model prog w) A (binaryOp .Add (.ref a) (.ref b)) Q E s :=
  add_lists (hsz := by rw [sizeLine_eq]; omega) F N ⟨_, (N _ ha).1, rfl, n, rfl⟩ ⟨_, (N _ hb).1, rfl, k, rfl⟩ fun h' F' N' => h _ h' F' N' fun p hp => Heap.lt_size (N p hp).1

theorem k_setL {prog : Program} {w : World} {A : Around} {E : Value → Shared → Prop} {s : Shared} {h₀ : Heap} {L d : Addr} {m : Str → Option Value} {news : Led} {g : Obj → Led} {its q : Array Value} {n j : Nat} {k : Int} {t : Tok} {v : Value} {Q : Unit → Shared → Prop}
    (F : Fr h₀ L s.heap m) (N : News h₀ L s.heap news) (U : UpdF d (W.listOf its n) news g) (hk : k = (j : Int)) (hj : j < its.size) (hj2 : j < 1000) (e : its.setIfInBounds j v = q)
    (h : ∀ h', Fr h₀ L h' m → News h₀ L h' (g (W.listOf q n)) → Q () { s with heap := h' }) : wpAny (model prog w) A (setItem (.ref d) (.int k t) v) Q E s := by
  subst hk e
  have hd : s.heap.get? d = some (W.listOf its n) := upd_get N U
  have e2 : (Obj.mapSeq (·.setIfInBounds j v) (W.listOf its n)) = W.listOf (its.setIfInBounds j v) n := by simp [Obj.mapSeq]
  refine ki_setAt hd (by omega) (by omega) (by simpa using hj) ?_
  rw [show ((j : Int)).toNat = j by omega]
  obtain ⟨F', N'⟩ := news_same (h' := s.heap.update d (Obj.mapSeq (·.setIfInBounds j v))) (o' := W.listOf (its.setIfInBounds j v) n) F N U (Heap.SameBut.update ..) (by
    rw [Heap.get?_update_self _ hd (by rw [e2]; rfl), e2])
  exact h _ F' N'

theorem pick_take {vs : List Value} {k : Nat} : (slicePick vs.toArray none (some (k : Int)) none).toList = vs.take k := by
  have e : sliceBounds none (some (k : Int)) none vs.toArray.size = (((0 : Nat) : Int), ((min k vs.toArray.size : Nat) : Int), 1) := by
    simp only [sliceBounds, Option.getD_none, show (1 : Int) > 0 by decide, if_true, if_neg (show ¬ ((k : Int) < 0) by omega)]
    congr 1
    congr 1
    omega
  rw [kmk_pick_nat _ e]
  show (vs.drop 0).take (min k vs.toArray.size - 0) = _
  rw [List.drop_zero, Nat.sub_zero, List.size_toArray, kmk_take_min]
theorem pick_drop {vs : List Value} {x : Int} {k : Nat} (hx : x = (k : Int)) : (slicePick vs.toArray (some x) none none).toList = vs.drop k := by
  subst hx
  have e : sliceBounds (some (k : Int)) none none vs.toArray.size = (((min k vs.toArray.size : Nat) : Int), ((vs.toArray.size : Nat) : Int), 1) := by
    simp only [sliceBounds, Option.getD_none, show (1 : Int) > 0 by decide, if_true, if_neg (show ¬ ((k : Int) < 0) by omega)]
    congr 1
    omega
  rw [kmk_pick_nat _ e]
  show (vs.drop (min k vs.toArray.size)).take (vs.toArray.size - min k vs.toArray.size) = _
  rw [List.size_toArray, kmk_drop_min, List.take_of_length_le (by rw [List.length_drop]; omega)]

theorem all2_take {α β : Type} {P : α → β → Prop} {vs : List α} {R : List β} (h : All2 P vs R) (k : Nat) : All2 P (vs.take k) (R.take k) := by
  induction h generalizing k with
  | nil => rw [List.take_nil, List.take_nil]; exact .nil
  | cons q _ ih => cases k with
    | zero => exact .nil
    | succ k => exact .cons q (ih k)
theorem all2_drop {α β : Type} {P : α → β → Prop} {vs : List α} {R : List β} (h : All2 P vs R) (k : Nat) : All2 P (vs.drop k) (R.drop k) := by
  induction h generalizing k with
  | nil => rw [List.drop_nil, List.drop_nil]; exact .nil
  | cons q r ih => cases k with
    | zero => exact .cons q r
    | succ k => exact ih k

end Mine
end

section
open PySem PySem.W PyProof.Rows
set_option Elab.async false
set_option autoImplicit false
set_option maxRecDepth 100000
set_option maxHeartbeats 8000000
namespace Mine

local macro_rules | `(tactic| walk_at "mem!") => `(tactic| (repeat (first | exact List.Mem.head _ | exact List.mem_append_right _ (List.Mem.head _) | exact List.mem_append_right _ (List.mem_append_right _ (List.Mem.head _)) | apply List.Mem.tail)))
local macro_rules | `(tactic| walk_at "in!") => `(tactic| (intro q9 hq9; repeat (first | exact hq9 | exact List.mem_append_left _ hq9 | exact List.mem_append_right _ hq9 | exact List.mem_append_right _ (List.mem_append_left _ hq9) | exact List.mem_append_right _ (List.mem_append_right _ hq9) | exact List.mem_append_right _ (List.mem_append_right _ (.tail _ hq9)) | apply List.Mem.tail)))
local macro_rules | `(tactic| walk_at "sub!") => `(tactic| ((repeat' (first | refine sub_app ?_ ?_ | refine sub_cons ?_ ?_)); (all_goals first | walk_at "in!" | walk_at "mem!")))
local macro_rules | `(tactic| walk_at "ne!") => `(tactic| (repeat' (first | exact ne_nil _ | refine ne_cons (by omega) ?_)))
local macro_rules | `(tactic| walk_at "pyIter ref") => `(tactic| ((rename HaltMark => hmk); k_here; refine Halt.go ?_))
local macro_rules | `(tactic| walk_at "call ref") => `(tactic| (k_here; refine Halt.go ?_))
local macro_rules | `(tactic| walk_at "eval ListComp") => `(tactic| (k_here; refine Halt.go ?_))

local macro_rules | `(tactic| walk_at "compareOp NotEq ref ref") => `(tactic| (k_here; refine Halt.go ?_))
local macro_rules | `(tactic| walk_at "compareOp Eq ref ref") => `(tactic| (k_here; refine Halt.go ?_))

theorem act0_spec {w : World} {mean : ExcName → Option Value} {mg mb : Str → Option Value} {h₀ : Heap} {L fa l : Addr} {cd : Value} {mm : Str → Option Value} {s : Shared}
    {pb0 d0 st0 hp0 ct0 dc0 pb1 d1 st1 hp1 ct1 dc1 kp du r0 r1 : Addr} {a1 a2 a3 t1 b1 b2 b3 u1 ts tv ck0 ck1 : Tok} {bv0 bv1 : Value} {own tl : Led} {E : Value → Shared → Prop} 
    {es0 es1 : Array (Int × Value)} {ep0 ep1 nh0 nh1 nk nd : Nat} {T0 T1 : SetTable} {xs0 xs1 : Array Value} {cnt0 cnt1 v : Int} {R0 R1 : List Ent} {oc : Obj} {vc : Option Value}
    (C : Base w mean mg mb h₀) (K0 : Below callerA h₀ [] h₀)
    (q0 : @LT.lt Nat _ (L + 1) d0) (q1 : @LT.lt Nat _ d0 pb0) (q2 : @LT.lt Nat _ pb0 st0) (q3 : @LT.lt Nat _ st0 hp0) (q4 : @LT.lt Nat _ hp0 dc0) (q5 : @LT.lt Nat _ dc0 ct0)
    (q6 : @LT.lt Nat _ ct0 d1) (q7 : @LT.lt Nat _ d1 pb1) (q8 : @LT.lt Nat _ pb1 st1) (q9 : @LT.lt Nat _ st1 hp1) (qa : @LT.lt Nat _ hp1 dc1) (qb : @LT.lt Nat _ dc1 ct1) (qc : @LT.lt Nat _ ct1 kp) (qd : @LT.lt Nat _ kp du)
    (hoff : OwnOff tl [pb0, d0, st0, hp0, ct0, dc0, pb1, d1, st1, hp1, ct1, dc1, kp, du, L + 1]) (hown : OwnOff own [pb0, d0, st0, hp0, ct0, dc0, pb1, d1, st1, hp1, ct1, dc1, kp, du, L + 1]) (hot : OwnOff own (tl.map (·.1)))
    (hoc : oc.data = .cell vc) (S0 : SideInv tl es0 T0 xs0 cnt0 R0) (S1 : SideInv tl es1 T1 xs1 cnt1 R1) (W0 : RowsIn tl r0 R0) (W1 : RowsIn tl r1 R1) 
    (F : Fr h₀ L s.heap (frm kp du l r0 0 v ts tv mm))
    (N : News h₀ L s.heap (allLed w pb0 d0 st0 hp0 ct0 dc0 pb1 d1 st1 hp1 ct1 dc1 kp du (L + 1) a1 a2 a3 t1 b1 b2 b3 u1 bv0 bv1 es0 ep0 T0 xs0 nh0 cnt0 ck0 es1 ep1 T1 xs1 nh1 cnt1 ck1 r0 r1 nk nd oc (tl ++ own))) :
    wpAny (model PySem.Challenge.rw_bj0026_01.row.prog w) (callerA.deeper (lawEnv L fa cd)) (exec lawParts.1.act (lawEnv L fa cd))
      (fun f s' => Halt (f = .next ∧ InvEndG h₀ L (J1 w pb0 d0 st0 hp0 ct0 dc0 pb1 d1 st1 hp1 ct1 dc1 kp du (L + 1) a1 a2 a3 t1 b1 b2 b3 u1 bv0 bv1 l) own s s')) E s := by
  dsimp only [lawEnv, lawParts]
  dsimp only [allLed, sideLed] at N
  obtain ⟨X₀, T₀, G₀⟩ := id C
  revert X₀
  k_fill
  intro X₀
  have hMk := kstMark
  obtain ⟨k, hk9, hkv⟩ := way_nine v
  obtain ⟨rs, nr, hrm, hrs⟩ := id W0
  have hu : Around.units (callerA.deeper (lawEnv L fa cd)) + 64 < cLine := by units_room
  refine wpAny_If (wpAny_mono (Q := fun b s' => Halt ((b = false → R0 ≠ []) ∧ ∃ h' tk', s' = { s with heap := h', toks := tk' } ∧ Fr h₀ L h' (frm kp du l r0 0 v ts tv mm) ∧ News h₀ L h' (allLed w pb0 d0 st0 hp0 ct0 dc0 pb1 d1 st1 hp1 ct1 dc1 kp du (L + 1) a1 a2 a3 t1 b1 b2 b3 u1 bv0 bv1 es0 ep0 T0 xs0 nh0 cnt0 ck0 es1 ep1 T1 xs1 nh1 cnt1 ck1 r0 r1 nk nd oc (tl ++ own)))) ?_ ?_ fun _ _ h => h)
  · w_strict k_steps
    · refine Halt.mk ⟨fun h => ?_, _, _, rfl, by assumption, by assumption⟩
      simp at h
    · refine Halt.mk ?_
      rename News _ _ _ _ => N1
      refine eq_empty (xs := rs) (n := nr) ?_ (N1 _ (by repeat (first | exact List.mem_append_left _ hrm | apply List.Mem.tail))).1 (N1 _ (List.Mem.head _)).1 ?_
      · units_room
      · k_steps
        · rename News _ _ _ _ => N2
          exact Halt.mk ⟨fun h => (nomatch h), _, _, rfl, by assumption, news_re N2 fun q hq => .tail _ hq⟩
        · rename News _ _ _ _ => N2
          rename ¬ rs = [] => hrs0
          exact Halt.mk ⟨fun _ => all2_ne hrs hrs0, _, _, rfl, by assumption, news_re N2 fun q hq => .tail _ hq⟩
  · rintro b s' ⟨hb, h', tk', rfl, F1, N1⟩
    clear F N
    cases b with
    | true =>
      simp only [if_true]
      clear hb
      k_steps
      refine Halt.mk ?_
      rename Fr _ _ _ _ => F1
      rename News _ _ _ _ => N1
      rw [hkv]
      k_dflt (refine' way_spec C K0 F1 rfl rfl N1 hk9 ?_)
      intro h1 tk1 p ws F2 N2 hp hws
      clear F1 N1
      have hp' : ∀ q ∈ tl ++ own, @LT.lt Nat _ q.1 p := fun q hq => hp q (by repeat (first | exact hq | apply List.Mem.tail))
      k_lt hp
      k_steps
      refine Halt.mk ?_
      rename Fr _ _ _ _ => F1
      rename News _ _ _ _ => N1
      rename _ = Data.cell (some (Value.ref p)) => hcell
      obtain ⟨oc2, hoc2, N2⟩ : ∃ oc2 : Obj, oc2.data = Data.cell (some (Value.ref p)) ∧ News h₀ L _ (sideLed w pb0 d0 st0 hp0 ct0 dc0 a1 a2 a3 t1 bv0 es0 ep0 T0 xs0 nh0 cnt0 ck0 ((sideLed w pb1 d1 st1 hp1 ct1 dc1 b1 b2 b3 u1 bv1 es1 ep1 T1 xs1 nh1 cnt1 ck1
          ((kp, W.listOf #[.ref pb0, .ref pb1] nk) :: (du, W.listOf #[.ref r0, .ref r1] nd) :: (L + 1, oc2) :: own)) ++ ((p, W.listOf ws.toArray 0) :: tl))) := by
        refine ⟨_, hcell, news_re N1 ?_⟩
        walk_at "sub!"
      obtain ⟨hpa, hpb, hpc, hpd, hpe, hpf, hpg, hph, hpi, hpj, hpk, hpl, hpm, hpn, hpo, -⟩ := hp
      have hl9 := S0.le9
      have hw9 : ∀ e ∈ R0, e.2.2 < 9 := fun e he => (S0.lim e he).2
      have hsub1 : ∀ q ∈ tl, q ∈ (p, W.listOf ws.toArray 0) :: tl := fun q hq => .tail _ hq
      k_dflt (refine' push_spec (tl := (p, W.listOf ws.toArray 0) :: tl) (k := k) C K0 F1 rfl rfl N2 ?x1 ?x2 (by omega) (by omega) (by omega) (by omega) (by omega) (by omega) (by omega) (by omega) (by omega) (by omega) (by omega) (by omega) ⟨ws, 0, List.Mem.head _, hws⟩ hk9 (S0.mono hsub1) ?_)
      case x1 =>
        repeat' (first | refine off_cons (by walk_at "ne!") ?_ | refine off_app ?_ ?_)
        exact off_sub hown (by simp)
      case x2 =>
        refine off_cons (by walk_at "ne!") ?_
        exact off_sub hoff (by simp)
      intro h3 tk3 add es3 ep3 T3 xs3 n3 cnt3 tk4 R3 F3 N3 hadd S3 hR3
      clear F1 N1 N2
      obtain ⟨tl2, hoff2, hot2, N4, S4, S5, W4, hWp, hrm2⟩ : ∃ tl2, OwnOff tl2 [pb0, d0, st0, hp0, ct0, dc0, pb1, d1, st1, hp1, ct1, dc1, kp, du, L + 1] ∧ OwnOff own (tl2.map (·.1)) ∧
          News h₀ L h3 (allLed w pb0 d0 st0 hp0 ct0 dc0 pb1 d1 st1 hp1 ct1 dc1 kp du (L + 1) a1 a2 a3 t1 b1 b2 b3 u1 bv0 bv1 es3 ep3 T3 xs3 n3 cnt3 tk4 es1 ep1 T1 xs1 nh1 cnt1 ck1 r0 r1 nk nd oc2 (tl2 ++ own)) ∧
          SideInv tl2 es3 T3 xs3 cnt3 R3 ∧ SideInv tl2 es1 T1 xs1 cnt1 R1 ∧ RowsIn tl2 r1 R1 ∧ WayIn tl2 p k ∧ (∀ q ∈ tl, q ∈ tl2) := by
        refine ⟨add ++ ((p, W.listOf ws.toArray 0) :: tl), ?_, ?_, ?_, S3, S1.mono fun q hq => List.mem_append_right _ (.tail _ hq), W1.mono fun q hq => List.mem_append_right _ (.tail _ hq), ⟨ws, 0, List.mem_append_right _ (.head _), hws⟩, fun q hq => List.mem_append_right _ (.tail _ hq)⟩
        · refine off_app ?_ (off_cons (by walk_at "ne!") hoff)
          intro q hq
          obtain ⟨z1, z2, z3, z4, z5, z6, z7⟩ := hadd q hq
          have e1 : @LT.lt Nat _ du q.1 := z1 (du, W.listOf #[.ref r0, .ref r1] nd) (by walk_at "mem!")
          walk_at "ne!"
        · intro q hq b hb
          rw [List.map_append] at hb
          rcases List.mem_append.mp hb with hb | hb
          · obtain ⟨c, hc, rfl⟩ := List.mem_map.mp hb
            have : @LT.lt Nat _ q.1 c.1 := (hadd c hc).1 q (by repeat (first | exact hq | apply List.Mem.tail))
            show @Ne Nat _ _
            omega
          · rcases List.mem_cons.mp hb with e | hb
            · have : @LT.lt Nat _ q.1 p := hp' q (List.mem_append_right _ hq)
              have e' : @Eq Nat b p := e
              show @Ne Nat q.1 b
              omega
            · exact hot q hq b hb
        · refine news_re N3 ?_
          walk_at "sub!"
      dsimp only [allLed, sideLed] at N4
      clear N3 hadd S3 hp' hot hoff S1 W1
      k_steps
      refine Halt.mk ?_
      rename Fr _ _ _ _ => F1
      rename News _ _ _ _ => N1
      obtain ⟨vq, kq, hqm, hqi⟩ := id hWp
      k_dflt (refine' comp_same (r := r0) (rs := rs) (n := nr) (tl := tl) (R := R0) (c := L + 1) (oc := oc2) (q := p) (vq := vq) (kq := kq) (k := k) ?k1 ?k2 F1 N1 ?k3 ?k4 hrs hl9 hw9 ?k5 hoc2 ?k6 hqi hk9 ?k7 ?k8 ?k9 ?kA ?kB ?kC ?kD ?kE ?kF ?kG ?kH ?kI ?kJ ?_)
      case k1 => rfl
      case k2 => units_room
      case k3 => have hz := hrm2 _ hrm; (repeat (first | exact List.mem_append_left _ hz | apply List.Mem.tail))
      case k4 => intro q hq; have hz := hrm2 _ hq; (repeat (first | exact List.mem_append_left _ hz | apply List.Mem.tail))
      case k5 => walk_at "mem!"
      case k6 => repeat (first | exact List.mem_append_left _ hqm | apply List.Mem.tail)
      case k7 =>
        intro Q' hq
        walk1
        exact hq
      case k8 => rfl
      case k9 => decide
      case kA => rfl
      case kB => decide
      case kC => rfl
      case kD => rfl
      case kE => rfl
      case kF => rfl
      case kG => intro C; rfl
      case kH => intro C; rfl
      case kI => intro _; rfl
      case kJ => rfl
      intro D h5 tk5 ys k5 F5 N5 hD5 hys
      have nD : @Ne Nat du D := hD5 (du, W.listOf #[.ref r0, .ref r1] nd) (by walk_at "mem!")
      clear F1 N1
      k_steps
      refine Halt.mk ?_
      rename News _ _ _ _ => N1
      refine eq_empty (xs := ys) (n := k5) ?_ (N1 (D, _) (by walk_at "mem!")).1 (N1 _ (List.Mem.head _)).1 ?_
      · units_room
      k_steps
      · rename Fr _ _ _ _ => F1
        rename News _ _ _ _ => N1
        rename ys = [] => hys0
        have hkR := hys.mp hys0
        rw [if_neg hkR] at hR3
        subst hR3
        k_dflt (refine' k_addL (vs := rs) (n := nr) (ws := [_]) (k := 0) F1 N1 ?k1 (List.Mem.head _) ?k2 ?_)
        case k1 => have hz := hrm2 _ hrm; (repeat (first | exact List.mem_append_left _ hz | apply List.Mem.tail))
        case k2 => have := hrs.length; simp; omega
        intro D5 h6 F6 N6 l6
        k_lt l6
        clear F1 N1
        k_steps
        refine Halt.mk ⟨rfl, ?_⟩
        rename Fr _ _ _ _ => F1
        rename News _ _ _ _ => N1
        refine' InvEndG.intro F1 N1 (nx := allLed w pb0 d0 st0 hp0 ct0 dc0 pb1 d1 st1 hp1 ct1 dc1 kp du (L + 1) a1 a2 a3 t1 b1 b2 b3 u1 bv0 bv1 es3 ep3 T3 xs3 n3 cnt3 tk4 es1 ep1 T1 xs1 nh1 cnt1 ck1 D5 r1 nk nd oc2 ((D5, ?y1) :: (?y2, tupObj #[.int ?y3 ?y4, .ref p] ?y5) :: tl2)) ?z1 ?z2 ?z3 ?z4
        case z4 => walk_at "in!"
        case z3 => walk_at "sub!"
        case' z2 => refine own_all hown (own_cons (by k_all) (own_cons (by k_all) hot2))
        · refine ⟨es3, ep3, T3, xs3, n3, cnt3, tk4, es1, ep1, T1, xs1, nh1, cnt1, ck1, D5, r1, _, _, nk, nd, oc2, _, _, rfl, ?_, rfl, rfl, rfl, hoc2, S4.mono fun q hq => .tail _ (.tail _ hq), S5.mono fun q hq => .tail _ (.tail _ hq), ?_, W4.mono fun q hq => .tail _ (.tail _ hq)⟩
          · exact off_cons (by walk_at "ne!") (off_cons (by walk_at "ne!") hoff2)
          · refine ⟨_, _, .head _, (hrs.mono fun v e hve => hve.mono fun q hq => .tail _ (.tail _ (hrm2 q hq))).append (.cons ⟨_, _, p, _, rfl, .tail _ (.head _), hWp.mono fun q hq => .tail _ (.tail _ hq)⟩ .nil)⟩
      · refine Halt.mk ⟨rfl, ?_⟩
        rename Fr _ _ _ _ => F1
        rename News _ _ _ _ => N1
        rename ¬ ys = [] => hys0
        have hkR : k ∈ R0.map (·.2.2) := Classical.byContradiction fun z => hys0 (hys.mpr z)
        rw [if_pos hkR] at hR3
        subst hR3
        refine InvEndG.intro F1 N1 (nx := allLed w pb0 d0 st0 hp0 ct0 dc0 pb1 d1 st1 hp1 ct1 dc1 kp du (L + 1) a1 a2 a3 t1 b1 b2 b3 u1 bv0 bv1 es3 ep3 T3 xs3 n3 cnt3 tk4 es1 ep1 T1 xs1 nh1 cnt1 ck1 r0 r1 nk nd oc2 tl2) ?_ ?_ ?_ ?_
        · exact ⟨es3, ep3, T3, xs3, n3, cnt3, tk4, es1, ep1, T1, xs1, nh1, cnt1, ck1, r0, r1, _, _, nk, nd, oc2, _, tl2, rfl, hoff2, rfl, rfl, rfl, hoc2, S4, S5, W0.mono hrm2, W4⟩
        · exact own_all hown hot2
        · walk_at "sub!"
        · walk_at "in!"
    | false =>
      simp only [Bool.false_eq_true, if_false]
      have hne := hb rfl
      clear hb
      k_steps
      refine Halt.mk ?_
      rename Fr _ _ _ _ => F1
      rename News _ _ _ _ => N1
      k_dflt (refine' taken_spec (rs := rs) (n := nr) (tl := tl) (R := R0) C K0 F1 rfl rfl N1 ?k1 ?k2 hrs S0.le9 hne ?_)
      case k1 => repeat (first | exact List.mem_append_left _ hrm | apply List.Mem.tail)
      case k2 => walk_at "in!"
      intro h1 tk1 k tk2 F2 N2 hk
      clear F1 N1
      k_steps
      rename News _ _ _ _ => N1
      k_dflt (refine' item_listL (l := [.ref pb0, .ref pb1]) (x := .ref pb0) ⟨_, (N1 (kp, W.listOf #[.ref pb0, .ref pb1] nk) ?k1).1, rfl, nk, rfl⟩ (by decide) (by decide) rfl ?_)
      case k1 => walk_at "mem!"
      k_steps
      refine Halt.mk ?_
      rename Fr _ _ _ _ => F1
      rename News _ _ _ _ => N1
      have N2 := news_re (l' := sideLed w pb0 d0 st0 hp0 ct0 dc0 a1 a2 a3 t1 bv0 es0 ep0 T0 xs0 nh0 cnt0 ck0 ((sideLed w pb1 d1 st1 hp1 ct1 dc1 b1 b2 b3 u1 bv1 es1 ep1 T1 xs1 nh1 cnt1 ck1
          ((kp, W.listOf #[.ref pb0, .ref pb1] nk) :: (du, W.listOf #[.ref r0, .ref r1] nd) :: (L + 1, oc) :: own)) ++ tl)) N1 (by walk_at "sub!")
      k_dflt (refine' pop_spec (tl := tl) C K0 F1 rfl rfl N2 ?x1 ?x2 (by omega) (by omega) (by omega) (by omega) (by omega) (by omega) (by omega) (by omega) (by omega) (by omega) (by omega) (by omega) S0 hne ?_)
      case x1 =>
        repeat' (first | refine off_cons (by walk_at "ne!") ?_ | refine off_app ?_ ?_)
        exact off_sub hown (by simp)
      case x2 => exact off_sub hoff (by simp)
      intro h3 tk3 es3 ep3 T3 xs3 n3 p e R1a R2a F3 N3 hWp hRe hmin S3
      clear F1 N1 N2
      have N4 := news_re (l' := allLed w pb0 d0 st0 hp0 ct0 dc0 pb1 d1 st1 hp1 ct1 dc1 kp du (L + 1) a1 a2 a3 t1 b1 b2 b3 u1 bv0 bv1 es3 ep3 T3 xs3 n3 cnt0 ck0 es1 ep1 T1 xs1 nh1 cnt1 ck1 r0 r1 nk nd oc (tl ++ own)) N3 (by walk_at "sub!")
      obtain ⟨hk1, hk2, hk3, hk4⟩ := spot_is hRe hmin S0.inc hk
      clear N3
      dsimp only [allLed, sideLed] at N4
      k_steps
      rename News _ _ _ _ => N1
      have hkl : k < R0.length := (List.getElem?_eq_some_iff.mp hk2).1
      obtain ⟨vr, hvr, hrow⟩ := hrs.get hkl
      rw [(List.getElem?_eq_some_iff.mp hk2).2] at hrow
      obtain ⟨bb, tb, pr, nb, rfl, hbm, vpr, npr, hprm, hpri⟩ := id hrow
      obtain ⟨vpp, npp, hppm, hppi⟩ := id hWp
      have hl9 := S0.le9
      have inT : ∀ q ∈ tl, s.heap.get? q.1 = some q.2 → True := fun _ _ _ => trivial
      k_dflt (refine' item_listL (l := rs) (x := .ref bb) ⟨_, (N1 (r0, W.listOf rs.toArray nr) ?k1).1, rfl, nr, rfl⟩ (by omega) (by omega) (by simpa using hvr) ?_)
      case k1 => repeat (first | exact List.mem_append_left _ hrm | apply List.Mem.tail)
      k_steps
      rename News _ _ _ _ => N1
      k_dflt (refine' item_tupleT (t := bb) (l := [.int e.1 tb, .ref pr]) (j := 1) ⟨_, (N1 (bb, tupObj #[.int e.1 tb, .ref pr] nb) ?k1).1, rfl, nb, rfl⟩ (by decide) (by decide) rfl rfl ?_)
      case k1 => repeat (first | exact List.mem_append_left _ hbm | apply List.Mem.tail)
      k_steps
      refine Halt.mk ?_
      rename News _ _ _ _ => N1
      refine ne_intsK (vs := vpp) (us := vpr) (ns := wayInts e.2.2) (ms := wayInts e.2.2) ⟨_, (N1 (p, W.listOf vpp.toArray npp) ?_).1, rfl, npp, rfl⟩ hppi ⟨_, (N1 (pr, W.listOf vpr.toArray npr) ?_).1, rfl, npr, rfl⟩ hpri ?_ ?_
      · repeat (first | exact List.mem_append_left _ hppm | apply List.Mem.tail)
      · repeat (first | exact List.mem_append_left _ hprm | apply List.Mem.tail)
      · units_room
      rw [decide_eq_true rfl]
      k_steps
      rename Fr _ _ _ _ => F1
      rename News _ _ _ _ => N1
      have hrl : rs.length ≤ 9 := by have := hrs.length; omega
      k_dflt (refine' kmk_slice_lit (its := rs.toArray) F1 N1 ?s1 IsPart.none (IsPart.int _ _) pick_take ?_ ?s2 ?s3 ?s4)
      case s1 => exact ⟨_, (N1 (r0, W.listOf rs.toArray nr) (by repeat (first | exact List.mem_append_left _ hrm | apply List.Mem.tail))).1, rfl, nr, rfl⟩
      case s2 => with_unfolding_all rfl
      case s3 => intro _; with_unfolding_all rfl
      case s4 => rw [sizeLine_eq, List.size_toArray]; omega
      intro D1 h5 F5 N5 l5
      k_lt l5
      clear F1 N1
      k_steps
      rename Fr _ _ _ _ => F1
      rename News _ _ _ _ => N1
      k_dflt (refine' kmk_slice_lit (its := rs.toArray) F1 N1 ?s1 (IsPart.int _ _) IsPart.none (pick_drop (k := k + 1) ?s5) ?_ ?s2 ?s3 ?s4)
      case s1 => exact ⟨_, (N1 (r0, W.listOf rs.toArray nr) (by repeat (first | exact List.mem_append_left _ hrm | apply List.Mem.tail))).1, rfl, nr, rfl⟩
      case s2 => with_unfolding_all rfl
      case s3 => intro _; with_unfolding_all rfl
      case s4 => rw [sizeLine_eq, List.size_toArray]; omega
      case s5 => omega
      intro D2 h6 F6 N6 l6
      k_lt l6
      clear F1 N1
      k_steps
      rename Fr _ _ _ _ => F1
      rename News _ _ _ _ => N1
      k_dflt (refine' k_addL (vs := rs.take k) (n := 0) (ws := rs.drop (k + 1)) (k := 0) F1 N1 ?k1 ?k2 ?k3 ?_)
      case k1 => walk_at "mem!"
      case k2 => walk_at "mem!"
      case k3 => rw [List.length_take, List.length_drop]; omega
      intro D5 h7 F7 N7 l7
      k_lt l7
      clear F1 N1
      k_steps
      refine Halt.mk ⟨rfl, ?_⟩
      rename Fr _ _ _ _ => F1
      rename News _ _ _ _ => N1
      refine' InvEndG.intro F1 N1 (nx := allLed w pb0 d0 st0 hp0 ct0 dc0 pb1 d1 st1 hp1 ct1 dc1 kp du (L + 1) a1 a2 a3 t1 b1 b2 b3 u1 bv0 bv1 es3 ep3 T3 xs3 n3 cnt0 ck0 es1 ep1 T1 xs1 nh1 cnt1 ck1 D5 r1 nk nd oc ((D5, W.listOf (rs.take k ++ rs.drop (k + 1)).toArray 0) :: tl)) ?w1 ?w2 ?w3 ?w4
      case w4 => walk_at "in!"
      case w3 => walk_at "sub!"
      case w2 => exact own_all hown (own_cons (by k_all) hot)
      refine ⟨es3, ep3, T3, xs3, n3, cnt0, ck0, es1, ep1, T1, xs1, nh1, cnt1, ck1, D5, r1, R1a ++ R2a, R1, nk, nd, oc, _, _, rfl, off_cons (by walk_at "ne!") hoff, rfl, rfl, rfl, hoc, S3.mono fun q hq => .tail _ hq, S1.mono fun q hq => .tail _ hq, ⟨_, _, .head _, ?_⟩, W1.mono fun q hq => .tail _ hq⟩
      rw [hk3, hk4]
      exact ((all2_take hrs k).append (all2_drop hrs (k + 1))).mono fun v e hve => hve.mono fun q hq => .tail _ hq
end Mine
end

section
open PySem PySem.W PyProof.Rows
set_option Elab.async false
set_option autoImplicit false
set_option maxRecDepth 100000
set_option maxHeartbeats 8000000
namespace Mine

local macro_rules | `(tactic| walk_at "mem!") => `(tactic| (repeat (first | exact List.Mem.head _ | exact List.mem_append_right _ (List.Mem.head _) | exact List.mem_append_right _ (List.mem_append_right _ (List.Mem.head _)) | apply List.Mem.tail)))
local macro_rules | `(tactic| walk_at "in!") => `(tactic| (intro q9 hq9; repeat (first | exact hq9 | exact List.mem_append_left _ hq9 | exact List.mem_append_right _ hq9 | exact List.mem_append_right _ (List.mem_append_left _ hq9) | exact List.mem_append_right _ (List.mem_append_right _ hq9) | exact List.mem_append_right _ (List.mem_append_right _ (.tail _ hq9)) | apply List.Mem.tail)))
local macro_rules | `(tactic| walk_at "sub!") => `(tactic| ((repeat' (first | refine sub_app ?_ ?_ | refine sub_cons ?_ ?_)); (all_goals first | walk_at "in!" | walk_at "mem!")))
local macro_rules | `(tactic| walk_at "ne!") => `(tactic| (repeat' (first | exact ne_nil _ | refine ne_cons (by omega) ?_)))
local macro_rules | `(tactic| walk_at "pyIter ref") => `(tactic| ((rename HaltMark => hmk); k_here; refine Halt.go ?_))
local macro_rules | `(tactic| walk_at "call ref") => `(tactic| (k_here; refine Halt.go ?_))
local macro_rules | `(tactic| walk_at "eval ListComp") => `(tactic| (k_here; refine Halt.go ?_))

local macro_rules | `(tactic| walk_at "compareOp NotEq ref ref") => `(tactic| (k_here; refine Halt.go ?_))
local macro_rules | `(tactic| walk_at "compareOp Eq ref ref") => `(tactic| (k_here; refine Halt.go ?_))

theorem act1_spec {w : World} {mean : ExcName → Option Value} {mg mb : Str → Option Value} {h₀ : Heap} {L fa l : Addr} {cd : Value} {mm : Str → Option Value} {s : Shared}
    {pb0 d0 st0 hp0 ct0 dc0 pb1 d1 st1 hp1 ct1 dc1 kp du r0 r1 : Addr} {a1 a2 a3 t1 b1 b2 b3 u1 ts tv ck0 ck1 : Tok} {bv0 bv1 : Value} {own tl : Led} {E : Value → Shared → Prop} 
    {es0 es1 : Array (Int × Value)} {ep0 ep1 nh0 nh1 nk nd : Nat} {T0 T1 : SetTable} {xs0 xs1 : Array Value} {cnt0 cnt1 v : Int} {R0 R1 : List Ent} {oc : Obj} {vc : Option Value}
    (C : Base w mean mg mb h₀) (K0 : Below callerA h₀ [] h₀)
    (q0 : @LT.lt Nat _ (L + 1) d0) (q1 : @LT.lt Nat _ d0 pb0) (q2 : @LT.lt Nat _ pb0 st0) (q3 : @LT.lt Nat _ st0 hp0) (q4 : @LT.lt Nat _ hp0 dc0) (q5 : @LT.lt Nat _ dc0 ct0)
    (q6 : @LT.lt Nat _ ct0 d1) (q7 : @LT.lt Nat _ d1 pb1) (q8 : @LT.lt Nat _ pb1 st1) (q9 : @LT.lt Nat _ st1 hp1) (qa : @LT.lt Nat _ hp1 dc1) (qb : @LT.lt Nat _ dc1 ct1) (qc : @LT.lt Nat _ ct1 kp) (qd : @LT.lt Nat _ kp du)
    (hoff : OwnOff tl [pb0, d0, st0, hp0, ct0, dc0, pb1, d1, st1, hp1, ct1, dc1, kp, du, L + 1]) (hown : OwnOff own [pb0, d0, st0, hp0, ct0, dc0, pb1, d1, st1, hp1, ct1, dc1, kp, du, L + 1]) (hot : OwnOff own (tl.map (·.1)))
    (hoc : oc.data = .cell vc) (S0 : SideInv tl es0 T0 xs0 cnt0 R0) (S1 : SideInv tl es1 T1 xs1 cnt1 R1) (W0 : RowsIn tl r0 R0) (W1 : RowsIn tl r1 R1) 
    (F : Fr h₀ L s.heap (frm kp du l r1 1 v ts tv mm))
    (N : News h₀ L s.heap (allLed w pb0 d0 st0 hp0 ct0 dc0 pb1 d1 st1 hp1 ct1 dc1 kp du (L + 1) a1 a2 a3 t1 b1 b2 b3 u1 bv0 bv1 es0 ep0 T0 xs0 nh0 cnt0 ck0 es1 ep1 T1 xs1 nh1 cnt1 ck1 r0 r1 nk nd oc (tl ++ own))) :
    wpAny (model PySem.Challenge.rw_bj0026_01.row.prog w) (callerA.deeper (lawEnv L fa cd)) (exec lawParts.1.act (lawEnv L fa cd))
      (fun f s' => Halt (f = .next ∧ InvEndG h₀ L (J1 w pb0 d0 st0 hp0 ct0 dc0 pb1 d1 st1 hp1 ct1 dc1 kp du (L + 1) a1 a2 a3 t1 b1 b2 b3 u1 bv0 bv1 l) own s s')) E s := by
  dsimp only [lawEnv, lawParts]
  dsimp only [allLed, sideLed] at N
  obtain ⟨X₀, T₀, G₀⟩ := id C
  revert X₀
  k_fill
  intro X₀
  have hMk := kstMark
  obtain ⟨k, hk9, hkv⟩ := way_nine v
  obtain ⟨rs, nr, hrm, hrs⟩ := id W1
  have hu : Around.units (callerA.deeper (lawEnv L fa cd)) + 64 < cLine := by units_room
  refine wpAny_If (wpAny_mono (Q := fun b s' => Halt ((b = false → R1 ≠ []) ∧ ∃ h' tk', s' = { s with heap := h', toks := tk' } ∧ Fr h₀ L h' (frm kp du l r1 1 v ts tv mm) ∧ News h₀ L h' (allLed w pb0 d0 st0 hp0 ct0 dc0 pb1 d1 st1 hp1 ct1 dc1 kp du (L + 1) a1 a2 a3 t1 b1 b2 b3 u1 bv0 bv1 es0 ep0 T0 xs0 nh0 cnt0 ck0 es1 ep1 T1 xs1 nh1 cnt1 ck1 r0 r1 nk nd oc (tl ++ own)))) ?_ ?_ fun _ _ h => h)
  · w_strict k_steps
    · refine Halt.mk ⟨fun h => ?_, _, _, rfl, by assumption, by assumption⟩
      simp at h
    · refine Halt.mk ?_
      rename News _ _ _ _ => N1
      refine eq_empty (xs := rs) (n := nr) ?_ (N1 _ (by repeat (first | exact List.mem_append_left _ hrm | apply List.Mem.tail))).1 (N1 _ (List.Mem.head _)).1 ?_
      · units_room
      · k_steps
        · rename News _ _ _ _ => N2
          exact Halt.mk ⟨fun h => (nomatch h), _, _, rfl, by assumption, news_re N2 fun q hq => .tail _ hq⟩
        · rename News _ _ _ _ => N2
          rename ¬ rs = [] => hrs0
          exact Halt.mk ⟨fun _ => all2_ne hrs hrs0, _, _, rfl, by assumption, news_re N2 fun q hq => .tail _ hq⟩
  · rintro b s' ⟨hb, h', tk', rfl, F1, N1⟩
    clear F N
    cases b with
    | true =>
      simp only [if_true]
      clear hb
      k_steps
      refine Halt.mk ?_
      rename Fr _ _ _ _ => F1
      rename News _ _ _ _ => N1
      rw [hkv]
      k_dflt (refine' way_spec C K0 F1 rfl rfl N1 hk9 ?_)
      intro h1 tk1 p ws F2 N2 hp hws
      clear F1 N1
      have hp' : ∀ q ∈ tl ++ own, @LT.lt Nat _ q.1 p := fun q hq => hp q (by repeat (first | exact hq | apply List.Mem.tail))
      k_lt hp
      k_steps
      refine Halt.mk ?_
      rename Fr _ _ _ _ => F1
      rename News _ _ _ _ => N1
      rename _ = Data.cell (some (Value.ref p)) => hcell
      obtain ⟨oc2, hoc2, N2⟩ : ∃ oc2 : Obj, oc2.data = Data.cell (some (Value.ref p)) ∧ News h₀ L _ (sideLed w pb1 d1 st1 hp1 ct1 dc1 b1 b2 b3 u1 bv1 es1 ep1 T1 xs1 nh1 cnt1 ck1 ((sideLed w pb0 d0 st0 hp0 ct0 dc0 a1 a2 a3 t1 bv0 es0 ep0 T0 xs0 nh0 cnt0 ck0
          ((kp, W.listOf #[.ref pb0, .ref pb1] nk) :: (du, W.listOf #[.ref r0, .ref r1] nd) :: (L + 1, oc2) :: own)) ++ ((p, W.listOf ws.toArray 0) :: tl))) := by
        refine ⟨_, hcell, news_re N1 ?_⟩
        walk_at "sub!"
      obtain ⟨hpa, hpb, hpc, hpd, hpe, hpf, hpg, hph, hpi, hpj, hpk, hpl, hpm, hpn, hpo, -⟩ := hp
      have hl9 := S1.le9
      have hw9 : ∀ e ∈ R1, e.2.2 < 9 := fun e he => (S1.lim e he).2
      have hsub1 : ∀ q ∈ tl, q ∈ (p, W.listOf ws.toArray 0) :: tl := fun q hq => .tail _ hq
      k_dflt (refine' push_spec (tl := (p, W.listOf ws.toArray 0) :: tl) (k := k) C K0 F1 rfl rfl N2 ?x1 ?x2 (by omega) (by omega) (by omega) (by omega) (by omega) (by omega) (by omega) (by omega) (by omega) (by omega) (by omega) (by omega) ⟨ws, 0, List.Mem.head _, hws⟩ hk9 (S1.mono hsub1) ?_)
      case x1 =>
        repeat' (first | refine off_cons (by walk_at "ne!") ?_ | refine off_app ?_ ?_)
        exact off_sub hown (by simp)
      case x2 =>
        refine off_cons (by walk_at "ne!") ?_
        exact off_sub hoff (by simp)
      intro h3 tk3 add es3 ep3 T3 xs3 n3 cnt3 tk4 R3 F3 N3 hadd S3 hR3
      clear F1 N1 N2
      obtain ⟨tl2, hoff2, hot2, N4, S4, S5, W4, hWp, hrm2⟩ : ∃ tl2, OwnOff tl2 [pb0, d0, st0, hp0, ct0, dc0, pb1, d1, st1, hp1, ct1, dc1, kp, du, L + 1] ∧ OwnOff own (tl2.map (·.1)) ∧
          News h₀ L h3 (allLed w pb0 d0 st0 hp0 ct0 dc0 pb1 d1 st1 hp1 ct1 dc1 kp du (L + 1) a1 a2 a3 t1 b1 b2 b3 u1 bv0 bv1 es0 ep0 T0 xs0 nh0 cnt0 ck0 es3 ep3 T3 xs3 n3 cnt3 tk4 r0 r1 nk nd oc2 (tl2 ++ own)) ∧
          SideInv tl2 es3 T3 xs3 cnt3 R3 ∧ SideInv tl2 es0 T0 xs0 cnt0 R0 ∧ RowsIn tl2 r0 R0 ∧ WayIn tl2 p k ∧ (∀ q ∈ tl, q ∈ tl2) := by
        refine ⟨add ++ ((p, W.listOf ws.toArray 0) :: tl), ?_, ?_, ?_, S3, S0.mono fun q hq => List.mem_append_right _ (.tail _ hq), W0.mono fun q hq => List.mem_append_right _ (.tail _ hq), ⟨ws, 0, List.mem_append_right _ (.head _), hws⟩, fun q hq => List.mem_append_right _ (.tail _ hq)⟩
        · refine off_app ?_ (off_cons (by walk_at "ne!") hoff)
          intro q hq
          obtain ⟨z1, z2, z3, z4, z5, z6, z7⟩ := hadd q hq
          have e1 : @LT.lt Nat _ du q.1 := z1 (du, W.listOf #[.ref r0, .ref r1] nd) (by walk_at "mem!")
          walk_at "ne!"
        · intro q hq b hb
          rw [List.map_append] at hb
          rcases List.mem_append.mp hb with hb | hb
          · obtain ⟨c, hc, rfl⟩ := List.mem_map.mp hb
            have : @LT.lt Nat _ q.1 c.1 := (hadd c hc).1 q (by repeat (first | exact hq | apply List.Mem.tail))
            show @Ne Nat _ _
            omega
          · rcases List.mem_cons.mp hb with e | hb
            · have : @LT.lt Nat _ q.1 p := hp' q (List.mem_append_right _ hq)
              have e' : @Eq Nat b p := e
              show @Ne Nat q.1 b
              omega
            · exact hot q hq b hb
        · refine news_re N3 ?_
          walk_at "sub!"
      dsimp only [allLed, sideLed] at N4
      clear N3 hadd S3 hp' hot hoff S0 W0
      k_steps
      refine Halt.mk ?_
      rename Fr _ _ _ _ => F1
      rename News _ _ _ _ => N1
      obtain ⟨vq, kq, hqm, hqi⟩ := id hWp
      k_dflt (refine' comp_same (r := r1) (rs := rs) (n := nr) (tl := tl) (R := R1) (c := L + 1) (oc := oc2) (q := p) (vq := vq) (kq := kq) (k := k) ?k1 ?k2 F1 N1 ?k3 ?k4 hrs hl9 hw9 ?k5 hoc2 ?k6 hqi hk9 ?k7 ?k8 ?k9 ?kA ?kB ?kC ?kD ?kE ?kF ?kG ?kH ?kI ?kJ ?_)
      case k1 => rfl
      case k2 => units_room
      case k3 => have hz := hrm2 _ hrm; (repeat (first | exact List.mem_append_left _ hz | apply List.Mem.tail))
      case k4 => intro q hq; have hz := hrm2 _ hq; (repeat (first | exact List.mem_append_left _ hz | apply List.Mem.tail))
      case k5 => walk_at "mem!"
      case k6 => repeat (first | exact List.mem_append_left _ hqm | apply List.Mem.tail)
      case k7 =>
        intro Q' hq
        walk1
        exact hq
      case k8 => rfl
      case k9 => decide
      case kA => rfl
      case kB => decide
      case kC => rfl
      case kD => rfl
      case kE => rfl
      case kF => rfl
      case kG => intro C; rfl
      case kH => intro C; rfl
      case kI => intro _; rfl
      case kJ => rfl
      intro D h5 tk5 ys k5 F5 N5 hD5 hys
      have nD : @Ne Nat du D := hD5 (du, W.listOf #[.ref r0, .ref r1] nd) (by walk_at "mem!")
      clear F1 N1
      k_steps
      refine Halt.mk ?_
      rename News _ _ _ _ => N1
      refine eq_empty (xs := ys) (n := k5) ?_ (N1 (D, _) (by walk_at "mem!")).1 (N1 _ (List.Mem.head _)).1 ?_
      · units_room
      k_steps
      · rename Fr _ _ _ _ => F1
        rename News _ _ _ _ => N1
        rename ys = [] => hys0
        have hkR := hys.mp hys0
        rw [if_neg hkR] at hR3
        subst hR3
        k_dflt (refine' k_addL (vs := rs) (n := nr) (ws := [_]) (k := 0) F1 N1 ?k1 (List.Mem.head _) ?k2 ?_)
        case k1 => have hz := hrm2 _ hrm; (repeat (first | exact List.mem_append_left _ hz | apply List.Mem.tail))
        case k2 => have := hrs.length; simp; omega
        intro D5 h6 F6 N6 l6
        k_lt l6
        clear F1 N1
        k_steps
        refine Halt.mk ⟨rfl, ?_⟩
        rename Fr _ _ _ _ => F1
        rename News _ _ _ _ => N1
        refine' InvEndG.intro F1 N1 (nx := allLed w pb0 d0 st0 hp0 ct0 dc0 pb1 d1 st1 hp1 ct1 dc1 kp du (L + 1) a1 a2 a3 t1 b1 b2 b3 u1 bv0 bv1 es0 ep0 T0 xs0 nh0 cnt0 ck0 es3 ep3 T3 xs3 n3 cnt3 tk4 r0 D5 nk nd oc2 ((D5, ?y1) :: (?y2, tupObj #[.int ?y3 ?y4, .ref p] ?y5) :: tl2)) ?z1 ?z2 ?z3 ?z4
        case z4 => walk_at "in!"
        case z3 => walk_at "sub!"
        case' z2 => refine own_all hown (own_cons (by k_all) (own_cons (by k_all) hot2))
        · refine ⟨es0, ep0, T0, xs0, nh0, cnt0, ck0, es3, ep3, T3, xs3, n3, cnt3, tk4, r0, D5, _, _, nk, nd, oc2, _, _, rfl, ?_, rfl, rfl, rfl, hoc2, S5.mono fun q hq => .tail _ (.tail _ hq), S4.mono fun q hq => .tail _ (.tail _ hq), W4.mono fun q hq => .tail _ (.tail _ hq), ?_⟩
          · exact off_cons (by walk_at "ne!") (off_cons (by walk_at "ne!") hoff2)
          · refine ⟨_, _, .head _, (hrs.mono fun v e hve => hve.mono fun q hq => .tail _ (.tail _ (hrm2 q hq))).append (.cons ⟨_, _, p, _, rfl, .tail _ (.head _), hWp.mono fun q hq => .tail _ (.tail _ hq)⟩ .nil)⟩
      · refine Halt.mk ⟨rfl, ?_⟩
        rename Fr _ _ _ _ => F1
        rename News _ _ _ _ => N1
        rename ¬ ys = [] => hys0
        have hkR : k ∈ R1.map (·.2.2) := Classical.byContradiction fun z => hys0 (hys.mpr z)
        rw [if_pos hkR] at hR3
        subst hR3
        refine InvEndG.intro F1 N1 (nx := allLed w pb0 d0 st0 hp0 ct0 dc0 pb1 d1 st1 hp1 ct1 dc1 kp du (L + 1) a1 a2 a3 t1 b1 b2 b3 u1 bv0 bv1 es0 ep0 T0 xs0 nh0 cnt0 ck0 es3 ep3 T3 xs3 n3 cnt3 tk4 r0 r1 nk nd oc2 tl2) ?_ ?_ ?_ ?_
        · exact ⟨es0, ep0, T0, xs0, nh0, cnt0, ck0, es3, ep3, T3, xs3, n3, cnt3, tk4, r0, r1, _, _, nk, nd, oc2, _, tl2, rfl, hoff2, rfl, rfl, rfl, hoc2, S5, S4, W4, W1.mono hrm2⟩
        · exact own_all hown hot2
        · walk_at "sub!"
        · walk_at "in!"
    | false =>
      simp only [Bool.false_eq_true, if_false]
      have hne := hb rfl
      clear hb
      k_steps
      refine Halt.mk ?_
      rename Fr _ _ _ _ => F1
      rename News _ _ _ _ => N1
      k_dflt (refine' taken_spec (rs := rs) (n := nr) (tl := tl) (R := R1) C K0 F1 rfl rfl N1 ?k1 ?k2 hrs S1.le9 hne ?_)
      case k1 => repeat (first | exact List.mem_append_left _ hrm | apply List.Mem.tail)
      case k2 => walk_at "in!"
      intro h1 tk1 k tk2 F2 N2 hk
      clear F1 N1
      k_steps
      rename News _ _ _ _ => N1
      k_dflt (refine' item_listL (l := [.ref pb0, .ref pb1]) (x := .ref pb1) ⟨_, (N1 (kp, W.listOf #[.ref pb0, .ref pb1] nk) ?k1).1, rfl, nk, rfl⟩ (by decide) (by decide) rfl ?_)
      case k1 => walk_at "mem!"
      k_steps
      refine Halt.mk ?_
      rename Fr _ _ _ _ => F1
      rename News _ _ _ _ => N1
      have N2 := news_re (l' := sideLed w pb1 d1 st1 hp1 ct1 dc1 b1 b2 b3 u1 bv1 es1 ep1 T1 xs1 nh1 cnt1 ck1 ((sideLed w pb0 d0 st0 hp0 ct0 dc0 a1 a2 a3 t1 bv0 es0 ep0 T0 xs0 nh0 cnt0 ck0
          ((kp, W.listOf #[.ref pb0, .ref pb1] nk) :: (du, W.listOf #[.ref r0, .ref r1] nd) :: (L + 1, oc) :: own)) ++ tl)) N1 (by walk_at "sub!")
      k_dflt (refine' pop_spec (tl := tl) C K0 F1 rfl rfl N2 ?x1 ?x2 (by omega) (by omega) (by omega) (by omega) (by omega) (by omega) (by omega) (by omega) (by omega) (by omega) (by omega) (by omega) S1 hne ?_)
      case x1 =>
        repeat' (first | refine off_cons (by walk_at "ne!") ?_ | refine off_app ?_ ?_)
        exact off_sub hown (by simp)
      case x2 => exact off_sub hoff (by simp)
      intro h3 tk3 es3 ep3 T3 xs3 n3 p e R1a R2a F3 N3 hWp hRe hmin S3
      clear F1 N1 N2
      have N4 := news_re (l' := allLed w pb0 d0 st0 hp0 ct0 dc0 pb1 d1 st1 hp1 ct1 dc1 kp du (L + 1) a1 a2 a3 t1 b1 b2 b3 u1 bv0 bv1 es0 ep0 T0 xs0 nh0 cnt0 ck0 es3 ep3 T3 xs3 n3 cnt1 ck1 r0 r1 nk nd oc (tl ++ own)) N3 (by walk_at "sub!")
      obtain ⟨hk1, hk2, hk3, hk4⟩ := spot_is hRe hmin S1.inc hk
      clear N3
      dsimp only [allLed, sideLed] at N4
      k_steps
      rename News _ _ _ _ => N1
      have hkl : k < R1.length := (List.getElem?_eq_some_iff.mp hk2).1
      obtain ⟨vr, hvr, hrow⟩ := hrs.get hkl
      rw [(List.getElem?_eq_some_iff.mp hk2).2] at hrow
      obtain ⟨bb, tb, pr, nb, rfl, hbm, vpr, npr, hprm, hpri⟩ := id hrow
      obtain ⟨vpp, npp, hppm, hppi⟩ := id hWp
      have hl9 := S1.le9
      have inT : ∀ q ∈ tl, s.heap.get? q.1 = some q.2 → True := fun _ _ _ => trivial
      k_dflt (refine' item_listL (l := rs) (x := .ref bb) ⟨_, (N1 (r1, W.listOf rs.toArray nr) ?k1).1, rfl, nr, rfl⟩ (by omega) (by omega) (by simpa using hvr) ?_)
      case k1 => repeat (first | exact List.mem_append_left _ hrm | apply List.Mem.tail)
      k_steps
      rename News _ _ _ _ => N1
      k_dflt (refine' item_tupleT (t := bb) (l := [.int e.1 tb, .ref pr]) (j := 1) ⟨_, (N1 (bb, tupObj #[.int e.1 tb, .ref pr] nb) ?k1).1, rfl, nb, rfl⟩ (by decide) (by decide) rfl rfl ?_)
      case k1 => repeat (first | exact List.mem_append_left _ hbm | apply List.Mem.tail)
      k_steps
      refine Halt.mk ?_
      rename News _ _ _ _ => N1
      refine ne_intsK (vs := vpp) (us := vpr) (ns := wayInts e.2.2) (ms := wayInts e.2.2) ⟨_, (N1 (p, W.listOf vpp.toArray npp) ?_).1, rfl, npp, rfl⟩ hppi ⟨_, (N1 (pr, W.listOf vpr.toArray npr) ?_).1, rfl, npr, rfl⟩ hpri ?_ ?_
      · repeat (first | exact List.mem_append_left _ hppm | apply List.Mem.tail)
      · repeat (first | exact List.mem_append_left _ hprm | apply List.Mem.tail)
      · units_room
      rw [decide_eq_true rfl]
      k_steps
      rename Fr _ _ _ _ => F1
      rename News _ _ _ _ => N1
      have hrl : rs.length ≤ 9 := by have := hrs.length; omega
      k_dflt (refine' kmk_slice_lit (its := rs.toArray) F1 N1 ?s1 IsPart.none (IsPart.int _ _) pick_take ?_ ?s2 ?s3 ?s4)
      case s1 => exact ⟨_, (N1 (r1, W.listOf rs.toArray nr) (by repeat (first | exact List.mem_append_left _ hrm | apply List.Mem.tail))).1, rfl, nr, rfl⟩
      case s2 => with_unfolding_all rfl
      case s3 => intro _; with_unfolding_all rfl
      case s4 => rw [sizeLine_eq, List.size_toArray]; omega
      intro D1 h5 F5 N5 l5
      k_lt l5
      clear F1 N1
      k_steps
      rename Fr _ _ _ _ => F1
      rename News _ _ _ _ => N1
      k_dflt (refine' kmk_slice_lit (its := rs.toArray) F1 N1 ?s1 (IsPart.int _ _) IsPart.none (pick_drop (k := k + 1) ?s5) ?_ ?s2 ?s3 ?s4)
      case s1 => exact ⟨_, (N1 (r1, W.listOf rs.toArray nr) (by repeat (first | exact List.mem_append_left _ hrm | apply List.Mem.tail))).1, rfl, nr, rfl⟩
      case s2 => with_unfolding_all rfl
      case s3 => intro _; with_unfolding_all rfl
      case s4 => rw [sizeLine_eq, List.size_toArray]; omega
      case s5 => omega
      intro D2 h6 F6 N6 l6
      k_lt l6
      clear F1 N1
      k_steps
      rename Fr _ _ _ _ => F1
      rename News _ _ _ _ => N1
      k_dflt (refine' k_addL (vs := rs.take k) (n := 0) (ws := rs.drop (k + 1)) (k := 0) F1 N1 ?k1 ?k2 ?k3 ?_)
      case k1 => walk_at "mem!"
      case k2 => walk_at "mem!"
      case k3 => rw [List.length_take, List.length_drop]; omega
      intro D5 h7 F7 N7 l7
      k_lt l7
      clear F1 N1
      k_steps
      refine Halt.mk ⟨rfl, ?_⟩
      rename Fr _ _ _ _ => F1
      rename News _ _ _ _ => N1
      refine' InvEndG.intro F1 N1 (nx := allLed w pb0 d0 st0 hp0 ct0 dc0 pb1 d1 st1 hp1 ct1 dc1 kp du (L + 1) a1 a2 a3 t1 b1 b2 b3 u1 bv0 bv1 es0 ep0 T0 xs0 nh0 cnt0 ck0 es3 ep3 T3 xs3 n3 cnt1 ck1 r0 D5 nk nd oc ((D5, W.listOf (rs.take k ++ rs.drop (k + 1)).toArray 0) :: tl)) ?w1 ?w2 ?w3 ?w4
      case w4 => walk_at "in!"
      case w3 => walk_at "sub!"
      case w2 => exact own_all hown (own_cons (by k_all) hot)
      refine ⟨es0, ep0, T0, xs0, nh0, cnt0, ck0, es3, ep3, T3, xs3, n3, cnt1, ck1, r0, D5, R0, R1a ++ R2a, nk, nd, oc, _, _, rfl, off_cons (by walk_at "ne!") hoff, rfl, rfl, rfl, hoc, S0.mono fun q hq => .tail _ hq, S3.mono fun q hq => .tail _ hq, W0.mono fun q hq => .tail _ hq, ⟨_, _, .head _, ?_⟩⟩
      rw [hk3, hk4]
      exact ((all2_take hrs k).append (all2_drop hrs (k + 1))).mono fun v e hve => hve.mono fun q hq => .tail _ hq
end Mine
end

section
open PySem PySem.W PyProof.Rows
set_option Elab.async false
set_option autoImplicit false
set_option maxRecDepth 100000
set_option maxHeartbeats 8000000
namespace Mine
local macro_rules | `(tactic| walk_at "mem!") => `(tactic| (repeat (first | exact List.Mem.head _ | exact List.mem_append_right _ (List.Mem.head _) | exact List.mem_append_right _ (List.mem_append_right _ (List.Mem.head _)) | apply List.Mem.tail)))
local macro_rules | `(tactic| walk_at "in!") => `(tactic| (intro q9 hq9; repeat (first | exact hq9 | exact List.mem_append_left _ hq9 | exact List.mem_append_right _ hq9 | exact List.mem_append_right _ (List.mem_append_left _ hq9) | exact List.mem_append_right _ (List.mem_append_right _ hq9) | exact List.mem_append_right _ (List.mem_append_right _ (.tail _ hq9)) | apply List.Mem.tail)))
local macro_rules | `(tactic| walk_at "sub!") => `(tactic| ((repeat' (first | refine sub_app ?_ ?_ | refine sub_cons ?_ ?_)); (all_goals first | walk_at "in!" | walk_at "mem!")))
local macro_rules | `(tactic| walk_at "ne!") => `(tactic| (repeat' (first | exact ne_nil _ | refine ne_cons (by omega) ?_)))
local macro_rules | `(tactic| walk_at "compareOp NotEq ref ref") => `(tactic| (k_here; refine Halt.go ?_))

theorem isL {h₀ h : Heap} {L a : Addr} {news : Led} {vs : List Value} {n : Nat} (N : News h₀ L h news) (hm : (a, W.listOf vs.toArray n) ∈ news) : h.IsList a vs.toArray := ⟨_, (N _ hm).1, rfl, n, rfl⟩

theorem same_spec {w : World} {mean : ExcName → Option Value} {mg mb : Str → Option Value} {h₀ : Heap} {L fa : Addr} {cd : Value} {mm : Str → Option Value} {s : Shared}
    {pb0 d0 st0 hp0 ct0 dc0 pb1 d1 st1 hp1 ct1 dc1 kp du r0 r1 : Addr} {a1 a2 a3 t1 b1 b2 b3 u1 ck0 ck1 : Tok} {bv0 bv1 : Value} {own tl : Led} {E : Value → Shared → Prop} 
    {es0 es1 : Array (Int × Value)} {ep0 ep1 nh0 nh1 nk nd : Nat} {T0 T1 : SetTable} {xs0 xs1 : Array Value} {cnt0 cnt1 : Int} {R0 R1 : List Ent} {oc : Obj}
    (C : Base w mean mg mb h₀) (K0 : Below callerA h₀ [] h₀)
    (S0 : SideInv tl es0 T0 xs0 cnt0 R0) (S1 : SideInv tl es1 T1 xs1 cnt1 R1) (W0 : RowsIn tl r0 R0) (W1 : RowsIn tl r1 R1) 
    (F : Fr h₀ L s.heap (fun y => if y = Str.ofString "kept" then some (.ref kp) else if y = Str.ofString "due" then some (.ref du) else mm y))
    (N : News h₀ L s.heap (allLed w pb0 d0 st0 hp0 ct0 dc0 pb1 d1 st1 hp1 ct1 dc1 kp du (L + 1) a1 a2 a3 t1 b1 b2 b3 u1 bv0 bv1 es0 ep0 T0 xs0 nh0 cnt0 ck0 es1 ep1 T1 xs1 nh1 cnt1 ck1 r0 r1 nk nd oc (tl ++ own))) :
    wpAny (model PySem.Challenge.rw_bj0026_01.row.prog w) (callerA.deeper (lawEnv L fa cd)) (exec lawParts.1.same (lawEnv L fa cd))
      (fun f s' => Halt (f = .next ∧ ∃ h' tk', s' = { s with heap := h', toks := tk' } ∧ Fr h₀ L h' (fun y => if y = Str.ofString "kept" then some (.ref kp) else if y = Str.ofString "due" then some (.ref du) else mm y) ∧
        News h₀ L h' (allLed w pb0 d0 st0 hp0 ct0 dc0 pb1 d1 st1 hp1 ct1 dc1 kp du (L + 1) a1 a2 a3 t1 b1 b2 b3 u1 bv0 bv1 es0 ep0 T0 xs0 nh0 cnt0 ck0 es1 ep1 T1 xs1 nh1 cnt1 ck1 r0 r1 nk nd oc (tl ++ own)))) E s := by
  obtain ⟨rs0, n0, hm0, hr0⟩ := id W0
  obtain ⟨rs1, n1, hm1, hr1⟩ := id W1
  have hx0 := S0.xsize
  have hx1 := S1.xsize
  have hl0 := S0.le9
  have hl1 := S1.le9
  have hy0 := hr0.length
  have hy1 := hr1.length
  have hu : Around.units (callerA.deeper (lawEnv L fa cd)) + 64 < cLine := by units_room
  dsimp only [lawEnv, lawParts]
  have N1 := news_re (l' := (r0, W.listOf rs0.toArray n0) :: (r1, W.listOf rs1.toArray n1) :: allLed w pb0 d0 st0 hp0 ct0 dc0 pb1 d1 st1 hp1 ct1 dc1 kp du (L + 1) a1 a2 a3 t1 b1 b2 b3 u1 bv0 bv1 es0 ep0 T0 xs0 nh0 cnt0 ck0 es1 ep1 T1 xs1 nh1 cnt1 ck1 r0 r1 nk nd oc (tl ++ own)) N (by
    refine sub_cons ?_ (sub_cons ?_ fun q hq => hq)
    · repeat (first | exact List.mem_append_left _ hm0 | apply List.Mem.tail)
    · repeat (first | exact List.mem_append_left _ hm1 | apply List.Mem.tail))
  clear N
  dsimp only [allLed, sideLed] at N1
  obtain ⟨X₀, T₀, G₀⟩ := id C
  revert X₀
  k_fill
  intro X₀
  have hMk := kstMark
  w_strict k_steps
  rename News _ _ _ _ => N1
  refine kst_len N1 (us := rs0) (c := n0) (by walk_at "mem!") hy0 (by omega) ?_
  k_steps
  rename News _ _ _ _ => N1
  refine kst_len N1 (us := rs1) (c := n1) (by walk_at "mem!") hy1 (by omega) ?_
  k_steps
  refine Halt.mk ?_
  rename News _ _ _ _ => N1
  refine' ne_intsK (vs := [_, _]) (us := [_, _]) (ns := [_, _]) (ms := [_, _]) (isL (n := 0) N1 ?m1) (.cons _ _ (.cons _ _ .nil)) (isL (n := 0) N1 ?m2) (.cons _ _ (.cons _ _ .nil)) ?u1 ?_
  case m1 => walk_at "mem!"
  case m2 => walk_at "mem!"
  case u1 => units_room
  rw [decide_eq_true (by first | rfl | rw [hx0, hx1])]
  k_steps
  refine Halt.mk ⟨rfl, _, _, rfl, by assumption, ?_⟩
  rename News _ _ _ _ => N1
  exact news_re N1 (by walk_at "sub!")
end Mine
end

section
open PySem PySem.W PyProof.Rows
set_option Elab.async false
set_option autoImplicit false
set_option maxRecDepth 100000
set_option maxHeartbeats 8000000
namespace Mine
local macro_rules | `(tactic| walk_at "call ref") => `(tactic| (k_here; refine Halt.go ?_))
local macro_rules | `(tactic| walk_at "exec If") => `(tactic| (k_here; refine Halt.go ?_))

theorem turn_spec {w : World} {mean : ExcName → Option Value} {mg mb : Str → Option Value} {h₀ : Heap} {L fa l : Addr} {cd : Value} {vs : List Value} {ns : List Int} {m₁ : Str → Option Value} {s : Shared}
    {pb0 d0 st0 hp0 ct0 dc0 pb1 d1 st1 hp1 ct1 dc1 kp du : Addr} {a1 a2 a3 t1 b1 b2 b3 u1 t : Tok} {bv0 bv1 : Value} {own nx : Led} {i : Nat} {E : Value → Shared → Prop} {Q : Flow → Shared → Prop}
    (C : Base w mean mg mb h₀) (K0 : Below callerA h₀ [] h₀) (hL : h₀.IsList l vs.toArray) (hI : IntsAre vs ns) (hlen : ns.length ≤ 63) (hi : i < 24)
    (q0 : @LT.lt Nat _ (L + 1) d0) (q1 : @LT.lt Nat _ d0 pb0) (q2 : @LT.lt Nat _ pb0 st0) (q3 : @LT.lt Nat _ st0 hp0) (q4 : @LT.lt Nat _ hp0 dc0) (q5 : @LT.lt Nat _ dc0 ct0)
    (q6 : @LT.lt Nat _ ct0 d1) (q7 : @LT.lt Nat _ d1 pb1) (q8 : @LT.lt Nat _ pb1 st1) (q9 : @LT.lt Nat _ st1 hp1) (qa : @LT.lt Nat _ hp1 dc1) (qb : @LT.lt Nat _ dc1 ct1) (qc : @LT.lt Nat _ ct1 kp) (qd : @LT.lt Nat _ kp du)
    (hown : OwnOff own (nx.map (·.1))) (hJ : J1 w pb0 d0 st0 hp0 ct0 dc0 pb1 d1 st1 hp1 ct1 dc1 kp du (L + 1) a1 a2 a3 t1 b1 b2 b3 u1 bv0 bv1 l m₁ nx)
    (F : Fr h₀ L s.heap (fun y => if y = Str.ofString "at" then some (.int (i : Nat) t) else m₁ y)) (N : News h₀ L s.heap (nx ++ own)) :
    wpAny (model PySem.Challenge.rw_bj0026_01.row.prog w) (callerA.deeper (lawEnv L fa cd)) (execs [lawParts.1.draw, lawParts.1.pair, lawParts.1.act, lawParts.1.same] (lawEnv L fa cd))
      (InvPostG h₀ L (J1 w pb0 d0 st0 hp0 ct0 dc0 pb1 d1 st1 hp1 ct1 dc1 kp du (L + 1) a1 a2 a3 t1 b1 b2 b3 u1 bv0 bv1 l) own s Q) E s := by
  obtain ⟨es0, ep0, T0, xs0, nh0, cnt0, ck0, es1, ep1, T1, xs1, nh1, cnt1, ck1, r0, r1, R0, R1, nk, nd, oc, vc, tl, rfl, hoff, mk, md, ms, hoc, S0, S1, W0, W1⟩ := hJ
  have F1 := ((F.known ms).known (n := Str.ofString "due") (w := .ref du) (by rw [if_neg (by decide)]; exact md)).known (n := Str.ofString "kept") (w := .ref kp) (by rw [if_neg (by decide), if_neg (by decide)]; exact mk)
  have hown1 : OwnOff own [pb0, d0, st0, hp0, ct0, dc0, pb1, d1, st1, hp1, ct1, dc1, kp, du, L + 1] := off_sub hown (fun a ha => List.mem_append_left (List.map (fun p : Addr × Obj => p.1) tl) ha)
  have hot : OwnOff own (tl.map (·.1)) := off_sub hown (fun a ha => List.mem_append_right [pb0, d0, st0, hp0, ct0, dc0, pb1, d1, st1, hp1, ct1, dc1, kp, du, L + 1] ha)
  dsimp only [lawEnv, lawParts]
  dsimp only [allLed, sideLed, List.cons_append] at N
  clear F mk md ms
  obtain ⟨X₀, T₀, G₀⟩ := id C
  revert X₀
  k_fill
  intro X₀
  have hMk := kstMark
  w_strict k_steps
  refine Halt.mk ?_
  rename Fr _ _ _ _ => F1
  rename News _ _ _ _ => N1
  k_dflt (refine' cell_spec (vs := vs) (ns := ns) C K0 F1 rfl rfl N1 hL hI hlen hi ?_)
  intro h1 tk1 v tv F2 N2 hv0
  clear F1 N1
  have hside : Int.fmod (Int.fdiv v 2) 2 = 0 ∨ Int.fmod (Int.fdiv v 2) 2 = 1 := side_two v
  have fin : ∀ s', InvEndG h₀ L (J1 w pb0 d0 st0 hp0 ct0 dc0 pb1 d1 st1 hp1 ct1 dc1 kp du (L + 1) a1 a2 a3 t1 b1 b2 b3 u1 bv0 bv1 l) own s s' →
      wpAny (model PySem.Challenge.rw_bj0026_01.row.prog w) (callerA.deeper (lawEnv L fa cd)) (execs [lawParts.1.same] (lawEnv L fa cd)) (InvPostG h₀ L (J1 w pb0 d0 st0 hp0 ct0 dc0 pb1 d1 st1 hp1 ct1 dc1 kp du (L + 1) a1 a2 a3 t1 b1 b2 b3 u1 bv0 bv1 l) own s Q) E s' := by
    rintro s' ⟨h', tk', m', news', nx', rfl, F', N', hn, ho, ha, es0', ep0', T0', xs0', nh0', cnt0', ck0', es1', ep1', T1', xs1', nh1', cnt1', ck1', r0', r1', R0', R1', nk', nd', oc', vc', tl', rfl, hoff', mk', md', ms', hoc', S0', S1', W0', W1'⟩
    have N2' := news_re (l' := allLed w pb0 d0 st0 hp0 ct0 dc0 pb1 d1 st1 hp1 ct1 dc1 kp du (L + 1) a1 a2 a3 t1 b1 b2 b3 u1 bv0 bv1 es0' ep0' T0' xs0' nh0' cnt0' ck0' es1' ep1' T1' xs1' nh1' cnt1' ck1' r0' r1' nk' nd' oc' (tl' ++ own)) N' fun q hq =>
      (List.mem_append.mp (show q ∈ allLed w pb0 d0 st0 hp0 ct0 dc0 pb1 d1 st1 hp1 ct1 dc1 kp du (L + 1) a1 a2 a3 t1 b1 b2 b3 u1 bv0 bv1 es0' ep0' T0' xs0' nh0' cnt0' ck0' es1' ep1' T1' xs1' nh1' cnt1' ck1' r0' r1' nk' nd' oc' tl' ++ own from hq)).elim (hn q) (ho q)
    have F2' := (F'.known0 (n := Str.ofString "due") (w := .ref du) md').known0 (n := Str.ofString "kept") (w := .ref kp) (by rw [if_neg (by decide)]; exact mk')
    clear F2 N2 F' N'
    dsimp only [lawEnv, lawParts]
    w_strict k_steps
    refine Halt.mk ?_
    refine wpAny_mono (same_spec C K0 S0' S1' W0' W1' F2' N2') ?_ fun _ _ h => h
    rintro f s'' ⟨rfl, h'', tk'', rfl, F3, N3⟩
    clear F2' N2'
    k_steps
    refine InvEndG.intro F3 N3 (nx := allLed w pb0 d0 st0 hp0 ct0 dc0 pb1 d1 st1 hp1 ct1 dc1 kp du (L + 1) a1 a2 a3 t1 b1 b2 b3 u1 bv0 bv1 es0' ep0' T0' xs0' nh0' cnt0' ck0' es1' ep1' T1' xs1' nh1' cnt1' ck1' r0' r1' nk' nd' oc' tl') ?_ ha ?_ ?_
    · exact ⟨es0', ep0', T0', xs0', nh0', cnt0', ck0', es1', ep1', T1', xs1', nh1', cnt1', ck1', r0', r1', R0', R1', nk', nd', oc', vc', tl', rfl, hoff', rfl, rfl, (show (if Str.ofString "script" = Str.ofString "kept" then some (Value.ref kp) else if Str.ofString "script" = Str.ofString "due" then some (Value.ref du) else m' (Str.ofString "script")) = _ by rw [if_neg (by decide), if_neg (by decide)]; exact ms'), hoc', S0', S1', W0', W1'⟩
    · exact fun q hq => List.mem_append_left own hq
    · exact fun q hq => List.mem_append_right (allLed w pb0 d0 st0 hp0 ct0 dc0 pb1 d1 st1 hp1 ct1 dc1 kp du (L + 1) a1 a2 a3 t1 b1 b2 b3 u1 bv0 bv1 es0' ep0' T0' xs0' nh0' cnt0' ck0' es1' ep1' T1' xs1' nh1' cnt1' ck1' r0' r1' nk' nd' oc' tl') hq
  k_steps
  rcases hside with hside | hside
  · rw [hside]
    k_steps
    refine Halt.mk ?_
    rename Fr _ _ _ _ => F1
    rename News _ _ _ _ => N1
    have F2 := (((((F1.known0 (n := Str.ofString "script") (w := .ref l) rfl).known0 (n := Str.ofString "due") (w := .ref du) rfl).known0 (n := Str.ofString "kept") (w := .ref kp) rfl).known0 (n := Str.ofString "draw") (w := .int v _) rfl).known0 (n := Str.ofString "side") (w := .int 0 _) rfl).known0 (n := Str.ofString "rows") (w := .ref r0) rfl
    refine wpAny_mono (act0_spec C K0 q0 q1 q2 q3 q4 q5 q6 q7 q8 q9 qa qb qc qd hoff hown1 hot hoc S0 S1 W0 W1 F2 (news_re N1 fun q hq => .tail _ hq)) ?_ fun _ _ h => h
    rintro f s' ⟨rfl, h', tk', m', news', nx', rfl, F', N', hn, ho, ha, hj⟩
    exact fin _ ⟨h', tk', m', news', nx', rfl, F', N', hn, ho, ha, hj⟩
  · rw [hside]
    k_steps
    refine Halt.mk ?_
    rename Fr _ _ _ _ => F1
    rename News _ _ _ _ => N1
    have F2 := (((((F1.known0 (n := Str.ofString "script") (w := .ref l) rfl).known0 (n := Str.ofString "due") (w := .ref du) rfl).known0 (n := Str.ofString "kept") (w := .ref kp) rfl).known0 (n := Str.ofString "draw") (w := .int v _) rfl).known0 (n := Str.ofString "side") (w := .int 1 _) rfl).known0 (n := Str.ofString "rows") (w := .ref r1) rfl
    refine wpAny_mono (act1_spec C K0 q0 q1 q2 q3 q4 q5 q6 q7 q8 q9 qa qb qc qd hoff hown1 hot hoc S0 S1 W0 W1 F2 (news_re N1 fun q hq => .tail _ hq)) ?_ fun _ _ h => h
    rintro f s' ⟨rfl, h', tk', m', news', nx', rfl, F', N', hn, ho, ha, hj⟩
    exact fin _ ⟨h', tk', m', news', nx', rfl, F', N', hn, ho, ha, hj⟩
end Mine
end

section
open PySem PySem.W PyProof.Rows
set_option Elab.async false
set_option autoImplicit false
set_option maxRecDepth 100000
set_option maxHeartbeats 8000000
namespace Mine

local macro_rules | `(tactic| walk_at "mem!") => `(tactic| (repeat (first | exact List.Mem.head _ | exact List.mem_append_right _ (List.Mem.head _) | exact List.mem_append_right _ (List.mem_append_right _ (List.Mem.head _)) | apply List.Mem.tail)))
local macro_rules | `(tactic| walk_at "in!") => `(tactic| (intro q9 hq9; repeat (first | exact hq9 | exact List.mem_append_left _ hq9 | exact List.mem_append_right _ hq9 | exact List.mem_append_right _ (List.mem_append_left _ hq9) | exact List.mem_append_right _ (List.mem_append_right _ hq9) | exact List.mem_append_right _ (List.mem_append_right _ (.tail _ hq9)) | apply List.Mem.tail)))
local macro_rules | `(tactic| walk_at "sub!") => `(tactic| ((repeat' (first | refine sub_app ?_ ?_ | refine sub_cons ?_ ?_)); (all_goals first | walk_at "in!" | walk_at "mem!")))
local macro_rules | `(tactic| walk_at "ne!") => `(tactic| (repeat' (first | exact ne_nil _ | refine ne_cons (by omega) ?_)))
local macro_rules | `(tactic| walk_at "pyIter ref") => `(tactic| ((rename HaltMark => hmk); k_here; refine Halt.go ?_))
local macro_rules | `(tactic| walk_at "call ref") => `(tactic| (k_here; refine Halt.go ?_))
local macro_rules | `(tactic| walk_at "eval ListComp") => `(tactic| (k_here; refine Halt.go ?_))

local macro_rules | `(tactic| walk_at "compareOp NotEq ref ref") => `(tactic| (k_here; refine Halt.go ?_))
local macro_rules | `(tactic| walk_at "compareOp Eq ref ref") => `(tactic| (k_here; refine Halt.go ?_))


/-- the invariant of the last loop, side 0 -/
def J2a (w : World) (pb0 d0 st0 hp0 ct0 dc0 pb1 d1 st1 hp1 ct1 dc1 kp du ce : Addr) (a1 a2 a3 t1 b1 b2 b3 u1 : Tok) (bv0 bv1 : Value) (I : Addr) (it : Obj) (n i : Nat) (m : Str → Option Value) (nx : Led) : Prop :=
  ∃ es0 ep0 T0 xs0 nh0 cnt0 ck0 es1 ep1 T1 xs1 nh1 cnt1 ck1 r0 r1 R0 R1 nk nd oc tl r ts,
    nx = allLed w pb0 d0 st0 hp0 ct0 dc0 pb1 d1 st1 hp1 ct1 dc1 kp du ce a1 a2 a3 t1 b1 b2 b3 u1 bv0 bv1 es0 ep0 T0 xs0 nh0 cnt0 ck0 es1 ep1 T1 xs1 nh1 cnt1 ck1 r0 r1 nk nd oc ((I, it) :: tl) ∧
    OwnOff tl [pb0, d0, st0, hp0, ct0, dc0, pb1, d1, st1, hp1, ct1, dc1, kp, du, ce, I] ∧ m (Str.ofString "kept") = some (.ref kp) ∧ m (Str.ofString "due") = some (.ref du) ∧ m (Str.ofString "side") = some (.int 0 ts) ∧ m (Str.ofString "rows") = some (.ref r) ∧
    SideInv tl es0 T0 xs0 cnt0 R0 ∧ SideInv tl es1 T1 xs1 cnt1 R1 ∧ RowsIn tl r R0 ∧ RowsIn tl r1 R1 ∧ R0.length + i = n

/-- the invariant of the last loop, side 1 -/
def J2b (w : World) (pb0 d0 st0 hp0 ct0 dc0 pb1 d1 st1 hp1 ct1 dc1 kp du ce : Addr) (a1 a2 a3 t1 b1 b2 b3 u1 : Tok) (bv0 bv1 : Value) (I : Addr) (it : Obj) (n i : Nat) (m : Str → Option Value) (nx : Led) : Prop :=
  ∃ es0 ep0 T0 xs0 nh0 cnt0 ck0 es1 ep1 T1 xs1 nh1 cnt1 ck1 r0 r1 R0 R1 nk nd oc tl r ts,
    nx = allLed w pb0 d0 st0 hp0 ct0 dc0 pb1 d1 st1 hp1 ct1 dc1 kp du ce a1 a2 a3 t1 b1 b2 b3 u1 bv0 bv1 es0 ep0 T0 xs0 nh0 cnt0 ck0 es1 ep1 T1 xs1 nh1 cnt1 ck1 r0 r1 nk nd oc ((I, it) :: tl) ∧
    OwnOff tl [pb0, d0, st0, hp0, ct0, dc0, pb1, d1, st1, hp1, ct1, dc1, kp, du, ce, I] ∧ m (Str.ofString "kept") = some (.ref kp) ∧ m (Str.ofString "due") = some (.ref du) ∧ m (Str.ofString "side") = some (.int 1 ts) ∧ m (Str.ofString "rows") = some (.ref r) ∧
    SideInv tl es0 T0 xs0 cnt0 R0 ∧ SideInv tl es1 T1 xs1 cnt1 R1 ∧ RowsIn tl r R1 ∧ R1.length + i = n

theorem last0_spec {w : World} {mean : ExcName → Option Value} {mg mb : Str → Option Value} {h₀ : Heap} {L fa : Addr} {cd : Value} {m₁ : Str → Option Value} {s : Shared}
    {pb0 d0 st0 hp0 ct0 dc0 pb1 d1 st1 hp1 ct1 dc1 kp du : Addr} {a1 a2 a3 t1 b1 b2 b3 u1 t : Tok} {bv0 bv1 : Value} {own nx : Led} {n i : Nat} {I : Addr} {it : Obj} {E : Value → Shared → Prop} {Q : Flow → Shared → Prop}
    (C : Base w mean mg mb h₀) (K0 : Below callerA h₀ [] h₀) (hi : i < n) (qI : @LT.lt Nat _ du I)
    (q0 : @LT.lt Nat _ (L + 1) d0) (q1 : @LT.lt Nat _ d0 pb0) (q2 : @LT.lt Nat _ pb0 st0) (q3 : @LT.lt Nat _ st0 hp0) (q4 : @LT.lt Nat _ hp0 dc0) (q5 : @LT.lt Nat _ dc0 ct0)
    (q6 : @LT.lt Nat _ ct0 d1) (q7 : @LT.lt Nat _ d1 pb1) (q8 : @LT.lt Nat _ pb1 st1) (q9 : @LT.lt Nat _ st1 hp1) (qa : @LT.lt Nat _ hp1 dc1) (qb : @LT.lt Nat _ dc1 ct1) (qc : @LT.lt Nat _ ct1 kp) (qd : @LT.lt Nat _ kp du)
    (hown0 : OwnOff own (nx.map (·.1))) (hJ : J2a w pb0 d0 st0 hp0 ct0 dc0 pb1 d1 st1 hp1 ct1 dc1 kp du (L + 1) a1 a2 a3 t1 b1 b2 b3 u1 bv0 bv1 I it n i m₁ nx)
    (F : Fr h₀ L s.heap (fun y => if y = Str.ofString "turn" then some (.int (i : Nat) t) else m₁ y)) (N : News h₀ L s.heap (nx ++ own)) :
    wpAny (model PySem.Challenge.rw_bj0026_01.row.prog w) (callerA.deeper (lawEnv L fa cd)) (execs lawParts.1.endBody (lawEnv L fa cd))
      (InvPostG h₀ L (J2a w pb0 d0 st0 hp0 ct0 dc0 pb1 d1 st1 hp1 ct1 dc1 kp du (L + 1) a1 a2 a3 t1 b1 b2 b3 u1 bv0 bv1 I it n (i + 1)) own s Q) E s := by
  obtain ⟨es0, ep0, T0, xs0, nh0, cnt0, ck0, es1, ep1, T1, xs1, nh1, cnt1, ck1, r0, r1, R0, R1, nk, nd, oc, tl, r, ts, rfl, hoff, mk, md, ms, mr, S0, S1, W0, W1, hRn⟩ := hJ
  have F1 := (((F.known ms).known (n := Str.ofString "due") (w := .ref du) (by rw [if_neg (by decide)]; exact md)).known (n := Str.ofString "kept") (w := .ref kp) (by rw [if_neg (by decide), if_neg (by decide)]; exact mk)).known (n := Str.ofString "rows") (w := .ref r) (by rw [if_neg (by decide), if_neg (by decide), if_neg (by decide)]; exact mr)
  have hown : OwnOff own [pb0, d0, st0, hp0, ct0, dc0, pb1, d1, st1, hp1, ct1, dc1, kp, du, L + 1] := off_sub hown0 (fun a ha => List.mem_append_left (List.map (fun p : Addr × Obj => p.1) ((I, it) :: tl)) ha)
  have hot : OwnOff own (tl.map (·.1)) := off_sub hown0 (fun a ha => List.mem_append_right [pb0, d0, st0, hp0, ct0, dc0, pb1, d1, st1, hp1, ct1, dc1, kp, du, L + 1, I] ha)
  have hownI : ∀ q ∈ own, q.1 ≠ I := fun q hq => hown0 q hq I (List.mem_append_right [pb0, d0, st0, hp0, ct0, dc0, pb1, d1, st1, hp1, ct1, dc1, kp, du, L + 1] (List.Mem.head _))
  have hne : R0 ≠ [] := by
    rintro rfl
    simp at hRn
    omega
  obtain ⟨rs, nr, hrm, hrs⟩ := id W0
  have hu : Around.units (callerA.deeper (lawEnv L fa cd)) + 64 < cLine := by units_room
  dsimp only [lawEnv, lawParts]
  dsimp only [allLed, sideLed, List.cons_append] at N
  clear F mk md ms mr
  obtain ⟨X₀, T₀, G₀⟩ := id C
  revert X₀
  k_fill
  intro X₀
  have hMk := kstMark
  w_strict k_steps
  refine Halt.mk ?_
  rename Fr _ _ _ _ => F1
  rename News _ _ _ _ => N1
  k_dflt (refine' taken_spec (rs := rs) (n := nr) (tl := tl) (R := R0) C K0 F1 rfl rfl N1 ?k1 ?k2 hrs S0.le9 hne ?_)
  case k1 => repeat (first | exact List.mem_append_left _ hrm | apply List.Mem.tail)
  case k2 => walk_at "in!"
  intro h1 tk1 k tk2 F2 N2 hk
  clear F1 N1
  k_steps
  refine Halt.mk ?_
  rename Fr _ _ _ _ => F1
  rename News _ _ _ _ => N1
  have N2 := news_re (l' := sideLed w pb0 d0 st0 hp0 ct0 dc0 a1 a2 a3 t1 bv0 es0 ep0 T0 xs0 nh0 cnt0 ck0 ((sideLed w pb1 d1 st1 hp1 ct1 dc1 b1 b2 b3 u1 bv1 es1 ep1 T1 xs1 nh1 cnt1 ck1
      ((kp, W.listOf #[.ref pb0, .ref pb1] nk) :: (du, W.listOf #[.ref r0, .ref r1] nd) :: (L + 1, oc) :: (I, it) :: own)) ++ tl)) N1 (by walk_at "sub!")
  k_dflt (refine' pop_spec (tl := tl) C K0 F1 rfl rfl N2 ?x1 ?x2 (by omega) (by omega) (by omega) (by omega) (by omega) (by omega) (by omega) (by omega) (by omega) (by omega) (by omega) (by omega) S0 hne ?_)
  case x1 =>
    repeat' (first | refine off_cons (by walk_at "ne!") ?_ | refine off_app ?_ ?_)
    exact off_sub hown (by simp)
  case x2 => exact off_sub hoff (by simp)
  intro h3 tk3 es3 ep3 T3 xs3 n3 p e R1a R2a F3 N3 hWp hRe hmin S3
  clear F1 N1 N2
  have N4 := news_re (l' := allLed w pb0 d0 st0 hp0 ct0 dc0 pb1 d1 st1 hp1 ct1 dc1 kp du (L + 1) a1 a2 a3 t1 b1 b2 b3 u1 bv0 bv1 es3 ep3 T3 xs3 n3 cnt0 ck0 es1 ep1 T1 xs1 nh1 cnt1 ck1 r0 r1 nk nd oc ((I, it) :: (tl ++ own))) N3 (by walk_at "sub!")
  obtain ⟨hk1, hk2, hk3, hk4⟩ := spot_is hRe hmin S0.inc hk
  clear N3
  dsimp only [allLed, sideLed] at N4
  k_steps
  rename News _ _ _ _ => N1
  have hkl : k < R0.length := (List.getElem?_eq_some_iff.mp hk2).1
  obtain ⟨vr, hvr, hrow⟩ := hrs.get hkl
  rw [(List.getElem?_eq_some_iff.mp hk2).2] at hrow
  obtain ⟨bb, tb, pr, nb, rfl, hbm, vpr, npr, hprm, hpri⟩ := id hrow
  obtain ⟨vpp, npp, hppm, hppi⟩ := id hWp
  have hl9 := S0.le9
  have inT : ∀ q ∈ tl, s.heap.get? q.1 = some q.2 → True := fun _ _ _ => trivial
  k_dflt (refine' item_listL (l := rs) (x := .ref bb) ⟨_, (N1 (r, W.listOf rs.toArray nr) ?k1).1, rfl, nr, rfl⟩ (by omega) (by omega) (by simpa using hvr) ?_)
  case k1 => repeat (first | exact List.mem_append_left _ hrm | apply List.Mem.tail)
  k_steps
  rename News _ _ _ _ => N1
  k_dflt (refine' item_tupleT (t := bb) (l := [.int e.1 tb, .ref pr]) (j := 1) ⟨_, (N1 (bb, tupObj #[.int e.1 tb, .ref pr] nb) ?k1).1, rfl, nb, rfl⟩ (by decide) (by decide) rfl rfl ?_)
  case k1 => repeat (first | exact List.mem_append_left _ hbm | apply List.Mem.tail)
  k_steps
  refine Halt.mk ?_
  rename News _ _ _ _ => N1
  refine ne_intsK (vs := vpp) (us := vpr) (ns := wayInts e.2.2) (ms := wayInts e.2.2) ⟨_, (N1 (p, W.listOf vpp.toArray npp) ?_).1, rfl, npp, rfl⟩ hppi ⟨_, (N1 (pr, W.listOf vpr.toArray npr) ?_).1, rfl, npr, rfl⟩ hpri ?_ ?_
  · repeat (first | exact List.mem_append_left _ hppm | apply List.Mem.tail)
  · repeat (first | exact List.mem_append_left _ hprm | apply List.Mem.tail)
  · units_room
  rw [decide_eq_true rfl]
  k_steps
  rename Fr _ _ _ _ => F1
  rename News _ _ _ _ => N1
  have hrl : rs.length ≤ 9 := by have := hrs.length; omega
  k_dflt (refine' kmk_slice_lit (its := rs.toArray) F1 N1 ?s1 IsPart.none (IsPart.int _ _) pick_take ?_ ?s2 ?s3 ?s4)
  case s1 => exact ⟨_, (N1 (r, W.listOf rs.toArray nr) (by repeat (first | exact List.mem_append_left _ hrm | apply List.Mem.tail))).1, rfl, nr, rfl⟩
  case s2 => with_unfolding_all rfl
  case s3 => intro _; with_unfolding_all rfl
  case s4 => rw [sizeLine_eq, List.size_toArray]; omega
  intro D1 h5 F5 N5 l5
  k_lt l5
  clear F1 N1
  k_steps
  rename Fr _ _ _ _ => F1
  rename News _ _ _ _ => N1
  k_dflt (refine' kmk_slice_lit (its := rs.toArray) F1 N1 ?s1 (IsPart.int _ _) IsPart.none (pick_drop (k := k + 1) ?s5) ?_ ?s2 ?s3 ?s4)
  case s1 => exact ⟨_, (N1 (r, W.listOf rs.toArray nr) (by repeat (first | exact List.mem_append_left _ hrm | apply List.Mem.tail))).1, rfl, nr, rfl⟩
  case s2 => with_unfolding_all rfl
  case s3 => intro _; with_unfolding_all rfl
  case s4 => rw [sizeLine_eq, List.size_toArray]; omega
  case s5 => omega
  intro D2 h6 F6 N6 l6
  k_lt l6
  clear F1 N1
  k_steps
  rename Fr _ _ _ _ => F1
  rename News _ _ _ _ => N1
  k_dflt (refine' k_addL (vs := rs.take k) (n := 0) (ws := rs.drop (k + 1)) (k := 0) F1 N1 ?k1 ?k2 ?k3 ?_)
  case k1 => walk_at "mem!"
  case k2 => walk_at "mem!"
  case k3 => rw [List.length_take, List.length_drop]; omega
  intro D5 h7 F7 N7 l7
  k_lt l7
  clear F1 N1
  k_steps
  rename Fr _ _ _ _ => F1
  rename News _ _ _ _ => N1
  refine' InvEndG.intro F1 N1 (nx := allLed w pb0 d0 st0 hp0 ct0 dc0 pb1 d1 st1 hp1 ct1 dc1 kp du (L + 1) a1 a2 a3 t1 b1 b2 b3 u1 bv0 bv1 es3 ep3 T3 xs3 n3 cnt0 ck0 es1 ep1 T1 xs1 nh1 cnt1 ck1 r0 r1 nk nd oc ((I, it) :: (D5, W.listOf (rs.take k ++ rs.drop (k + 1)).toArray 0) :: tl)) ?w1 ?w2 ?w3 ?w4
  case w4 => walk_at "in!"
  case w3 => walk_at "sub!"
  case w2 => exact own_all hown (own_cons hownI (own_cons (by k_all) hot))
  refine ⟨es3, ep3, T3, xs3, n3, cnt0, ck0, es1, ep1, T1, xs1, nh1, cnt1, ck1, r0, r1, R1a ++ R2a, R1, nk, nd, oc, _, D5, ts, rfl, off_cons (by walk_at "ne!") hoff, rfl, rfl, rfl, rfl, S3.mono fun q hq => .tail _ hq, S1.mono fun q hq => .tail _ hq, ⟨_, _, .head _, ?_⟩, W1.mono fun q hq => .tail _ hq, ?_⟩
  · rw [hk3, hk4]
    exact ((all2_take hrs k).append (all2_drop hrs (k + 1))).mono fun v e hve => hve.mono fun q hq => .tail _ hq
  · rw [hRe] at hRn
    simp at hRn ⊢
    omega
end Mine
end

section
open PySem PySem.W PyProof.Rows
set_option Elab.async false
set_option autoImplicit false
set_option maxRecDepth 100000
set_option maxHeartbeats 8000000
namespace Mine

local macro_rules | `(tactic| walk_at "mem!") => `(tactic| (repeat (first | exact List.Mem.head _ | exact List.mem_append_right _ (List.Mem.head _) | exact List.mem_append_right _ (List.mem_append_right _ (List.Mem.head _)) | apply List.Mem.tail)))
local macro_rules | `(tactic| walk_at "in!") => `(tactic| (intro q9 hq9; repeat (first | exact hq9 | exact List.mem_append_left _ hq9 | exact List.mem_append_right _ hq9 | exact List.mem_append_right _ (List.mem_append_left _ hq9) | exact List.mem_append_right _ (List.mem_append_right _ hq9) | exact List.mem_append_right _ (List.mem_append_right _ (.tail _ hq9)) | apply List.Mem.tail)))
local macro_rules | `(tactic| walk_at "sub!") => `(tactic| ((repeat' (first | refine sub_app ?_ ?_ | refine sub_cons ?_ ?_)); (all_goals first | walk_at "in!" | walk_at "mem!")))
local macro_rules | `(tactic| walk_at "ne!") => `(tactic| (repeat' (first | exact ne_nil _ | refine ne_cons (by omega) ?_)))
local macro_rules | `(tactic| walk_at "pyIter ref") => `(tactic| ((rename HaltMark => hmk); k_here; refine Halt.go ?_))
local macro_rules | `(tactic| walk_at "call ref") => `(tactic| (k_here; refine Halt.go ?_))
local macro_rules | `(tactic| walk_at "eval ListComp") => `(tactic| (k_here; refine Halt.go ?_))

local macro_rules | `(tactic| walk_at "compareOp NotEq ref ref") => `(tactic| (k_here; refine Halt.go ?_))
local macro_rules | `(tactic| walk_at "compareOp Eq ref ref") => `(tactic| (k_here; refine Halt.go ?_))


theorem last1_spec {w : World} {mean : ExcName → Option Value} {mg mb : Str → Option Value} {h₀ : Heap} {L fa : Addr} {cd : Value} {m₁ : Str → Option Value} {s : Shared}
    {pb0 d0 st0 hp0 ct0 dc0 pb1 d1 st1 hp1 ct1 dc1 kp du : Addr} {a1 a2 a3 t1 b1 b2 b3 u1 t : Tok} {bv0 bv1 : Value} {own nx : Led} {n i : Nat} {I : Addr} {it : Obj} {E : Value → Shared → Prop} {Q : Flow → Shared → Prop}
    (C : Base w mean mg mb h₀) (K0 : Below callerA h₀ [] h₀) (hi : i < n) (qI : @LT.lt Nat _ du I)
    (q0 : @LT.lt Nat _ (L + 1) d0) (q1 : @LT.lt Nat _ d0 pb0) (q2 : @LT.lt Nat _ pb0 st0) (q3 : @LT.lt Nat _ st0 hp0) (q4 : @LT.lt Nat _ hp0 dc0) (q5 : @LT.lt Nat _ dc0 ct0)
    (q6 : @LT.lt Nat _ ct0 d1) (q7 : @LT.lt Nat _ d1 pb1) (q8 : @LT.lt Nat _ pb1 st1) (q9 : @LT.lt Nat _ st1 hp1) (qa : @LT.lt Nat _ hp1 dc1) (qb : @LT.lt Nat _ dc1 ct1) (qc : @LT.lt Nat _ ct1 kp) (qd : @LT.lt Nat _ kp du)
    (hown0 : OwnOff own (nx.map (·.1))) (hJ : J2b w pb0 d0 st0 hp0 ct0 dc0 pb1 d1 st1 hp1 ct1 dc1 kp du (L + 1) a1 a2 a3 t1 b1 b2 b3 u1 bv0 bv1 I it n i m₁ nx)
    (F : Fr h₀ L s.heap (fun y => if y = Str.ofString "turn" then some (.int (i : Nat) t) else m₁ y)) (N : News h₀ L s.heap (nx ++ own)) :
    wpAny (model PySem.Challenge.rw_bj0026_01.row.prog w) (callerA.deeper (lawEnv L fa cd)) (execs lawParts.1.endBody (lawEnv L fa cd))
      (InvPostG h₀ L (J2b w pb0 d0 st0 hp0 ct0 dc0 pb1 d1 st1 hp1 ct1 dc1 kp du (L + 1) a1 a2 a3 t1 b1 b2 b3 u1 bv0 bv1 I it n (i + 1)) own s Q) E s := by
  obtain ⟨es0, ep0, T0, xs0, nh0, cnt0, ck0, es1, ep1, T1, xs1, nh1, cnt1, ck1, r0, r1, R0, R1, nk, nd, oc, tl, r, ts, rfl, hoff, mk, md, ms, mr, S0, S1, W1, hRn⟩ := hJ
  have F1 := (((F.known ms).known (n := Str.ofString "due") (w := .ref du) (by rw [if_neg (by decide)]; exact md)).known (n := Str.ofString "kept") (w := .ref kp) (by rw [if_neg (by decide), if_neg (by decide)]; exact mk)).known (n := Str.ofString "rows") (w := .ref r) (by rw [if_neg (by decide), if_neg (by decide), if_neg (by decide)]; exact mr)
  have hown : OwnOff own [pb0, d0, st0, hp0, ct0, dc0, pb1, d1, st1, hp1, ct1, dc1, kp, du, L + 1] := off_sub hown0 (fun a ha => List.mem_append_left (List.map (fun p : Addr × Obj => p.1) ((I, it) :: tl)) ha)
  have hot : OwnOff own (tl.map (·.1)) := off_sub hown0 (fun a ha => List.mem_append_right [pb0, d0, st0, hp0, ct0, dc0, pb1, d1, st1, hp1, ct1, dc1, kp, du, L + 1, I] ha)
  have hownI : ∀ q ∈ own, q.1 ≠ I := fun q hq => hown0 q hq I (List.mem_append_right [pb0, d0, st0, hp0, ct0, dc0, pb1, d1, st1, hp1, ct1, dc1, kp, du, L + 1] (List.Mem.head _))
  have hne : R1 ≠ [] := by
    rintro rfl
    simp at hRn
    omega
  obtain ⟨rs, nr, hrm, hrs⟩ := id W1
  have hu : Around.units (callerA.deeper (lawEnv L fa cd)) + 64 < cLine := by units_room
  dsimp only [lawEnv, lawParts]
  dsimp only [allLed, sideLed, List.cons_append] at N
  clear F mk md ms mr
  obtain ⟨X₀, T₀, G₀⟩ := id C
  revert X₀
  k_fill
  intro X₀
  have hMk := kstMark
  w_strict k_steps
  refine Halt.mk ?_
  rename Fr _ _ _ _ => F1
  rename News _ _ _ _ => N1
  k_dflt (refine' taken_spec (rs := rs) (n := nr) (tl := tl) (R := R1) C K0 F1 rfl rfl N1 ?k1 ?k2 hrs S1.le9 hne ?_)
  case k1 => repeat (first | exact List.mem_append_left _ hrm | apply List.Mem.tail)
  case k2 => walk_at "in!"
  intro h1 tk1 k tk2 F2 N2 hk
  clear F1 N1
  k_steps
  refine Halt.mk ?_
  rename Fr _ _ _ _ => F1
  rename News _ _ _ _ => N1
  have N2 := news_re (l' := sideLed w pb1 d1 st1 hp1 ct1 dc1 b1 b2 b3 u1 bv1 es1 ep1 T1 xs1 nh1 cnt1 ck1 ((sideLed w pb0 d0 st0 hp0 ct0 dc0 a1 a2 a3 t1 bv0 es0 ep0 T0 xs0 nh0 cnt0 ck0
      ((kp, W.listOf #[.ref pb0, .ref pb1] nk) :: (du, W.listOf #[.ref r0, .ref r1] nd) :: (L + 1, oc) :: (I, it) :: own)) ++ tl)) N1 (by walk_at "sub!")
  k_dflt (refine' pop_spec (tl := tl) C K0 F1 rfl rfl N2 ?x1 ?x2 (by omega) (by omega) (by omega) (by omega) (by omega) (by omega) (by omega) (by omega) (by omega) (by omega) (by omega) (by omega) S1 hne ?_)
  case x1 =>
    repeat' (first | refine off_cons (by walk_at "ne!") ?_ | refine off_app ?_ ?_)
    exact off_sub hown (by simp)
  case x2 => exact off_sub hoff (by simp)
  intro h3 tk3 es3 ep3 T3 xs3 n3 p e R1a R2a F3 N3 hWp hRe hmin S3
  clear F1 N1 N2
  have N4 := news_re (l' := allLed w pb0 d0 st0 hp0 ct0 dc0 pb1 d1 st1 hp1 ct1 dc1 kp du (L + 1) a1 a2 a3 t1 b1 b2 b3 u1 bv0 bv1 es0 ep0 T0 xs0 nh0 cnt0 ck0 es3 ep3 T3 xs3 n3 cnt1 ck1 r0 r1 nk nd oc ((I, it) :: (tl ++ own))) N3 (by walk_at "sub!")
  obtain ⟨hk1, hk2, hk3, hk4⟩ := spot_is hRe hmin S1.inc hk
  clear N3
  dsimp only [allLed, sideLed] at N4
  k_steps
  rename News _ _ _ _ => N1
  have hkl : k < R1.length := (List.getElem?_eq_some_iff.mp hk2).1
  obtain ⟨vr, hvr, hrow⟩ := hrs.get hkl
  rw [(List.getElem?_eq_some_iff.mp hk2).2] at hrow
  obtain ⟨bb, tb, pr, nb, rfl, hbm, vpr, npr, hprm, hpri⟩ := id hrow
  obtain ⟨vpp, npp, hppm, hppi⟩ := id hWp
  have hl9 := S1.le9
  have inT : ∀ q ∈ tl, s.heap.get? q.1 = some q.2 → True := fun _ _ _ => trivial
  k_dflt (refine' item_listL (l := rs) (x := .ref bb) ⟨_, (N1 (r, W.listOf rs.toArray nr) ?k1).1, rfl, nr, rfl⟩ (by omega) (by omega) (by simpa using hvr) ?_)
  case k1 => repeat (first | exact List.mem_append_left _ hrm | apply List.Mem.tail)
  k_steps
  rename News _ _ _ _ => N1
  k_dflt (refine' item_tupleT (t := bb) (l := [.int e.1 tb, .ref pr]) (j := 1) ⟨_, (N1 (bb, tupObj #[.int e.1 tb, .ref pr] nb) ?k1).1, rfl, nb, rfl⟩ (by decide) (by decide) rfl rfl ?_)
  case k1 => repeat (first | exact List.mem_append_left _ hbm | apply List.Mem.tail)
  k_steps
  refine Halt.mk ?_
  rename News _ _ _ _ => N1
  refine ne_intsK (vs := vpp) (us := vpr) (ns := wayInts e.2.2) (ms := wayInts e.2.2) ⟨_, (N1 (p, W.listOf vpp.toArray npp) ?_).1, rfl, npp, rfl⟩ hppi ⟨_, (N1 (pr, W.listOf vpr.toArray npr) ?_).1, rfl, npr, rfl⟩ hpri ?_ ?_
  · repeat (first | exact List.mem_append_left _ hppm | apply List.Mem.tail)
  · repeat (first | exact List.mem_append_left _ hprm | apply List.Mem.tail)
  · units_room
  rw [decide_eq_true rfl]
  k_steps
  rename Fr _ _ _ _ => F1
  rename News _ _ _ _ => N1
  have hrl : rs.length ≤ 9 := by have := hrs.length; omega
  k_dflt (refine' kmk_slice_lit (its := rs.toArray) F1 N1 ?s1 IsPart.none (IsPart.int _ _) pick_take ?_ ?s2 ?s3 ?s4)
  case s1 => exact ⟨_, (N1 (r, W.listOf rs.toArray nr) (by repeat (first | exact List.mem_append_left _ hrm | apply List.Mem.tail))).1, rfl, nr, rfl⟩
  case s2 => with_unfolding_all rfl
  case s3 => intro _; with_unfolding_all rfl
  case s4 => rw [sizeLine_eq, List.size_toArray]; omega
  intro D1 h5 F5 N5 l5
  k_lt l5
  clear F1 N1
  k_steps
  rename Fr _ _ _ _ => F1
  rename News _ _ _ _ => N1
  k_dflt (refine' kmk_slice_lit (its := rs.toArray) F1 N1 ?s1 (IsPart.int _ _) IsPart.none (pick_drop (k := k + 1) ?s5) ?_ ?s2 ?s3 ?s4)
  case s1 => exact ⟨_, (N1 (r, W.listOf rs.toArray nr) (by repeat (first | exact List.mem_append_left _ hrm | apply List.Mem.tail))).1, rfl, nr, rfl⟩
  case s2 => with_unfolding_all rfl
  case s3 => intro _; with_unfolding_all rfl
  case s4 => rw [sizeLine_eq, List.size_toArray]; omega
  case s5 => omega
  intro D2 h6 F6 N6 l6
  k_lt l6
  clear F1 N1
  k_steps
  rename Fr _ _ _ _ => F1
  rename News _ _ _ _ => N1
  k_dflt (refine' k_addL (vs := rs.take k) (n := 0) (ws := rs.drop (k + 1)) (k := 0) F1 N1 ?k1 ?k2 ?k3 ?_)
  case k1 => walk_at "mem!"
  case k2 => walk_at "mem!"
  case k3 => rw [List.length_take, List.length_drop]; omega
  intro D5 h7 F7 N7 l7
  k_lt l7
  clear F1 N1
  k_steps
  rename Fr _ _ _ _ => F1
  rename News _ _ _ _ => N1
  refine' InvEndG.intro F1 N1 (nx := allLed w pb0 d0 st0 hp0 ct0 dc0 pb1 d1 st1 hp1 ct1 dc1 kp du (L + 1) a1 a2 a3 t1 b1 b2 b3 u1 bv0 bv1 es0 ep0 T0 xs0 nh0 cnt0 ck0 es3 ep3 T3 xs3 n3 cnt1 ck1 r0 r1 nk nd oc ((I, it) :: (D5, W.listOf (rs.take k ++ rs.drop (k + 1)).toArray 0) :: tl)) ?w1 ?w2 ?w3 ?w4
  case w4 => walk_at "in!"
  case w3 => walk_at "sub!"
  case w2 => exact own_all hown (own_cons hownI (own_cons (by k_all) hot))
  refine ⟨es0, ep0, T0, xs0, nh0, cnt0, ck0, es3, ep3, T3, xs3, n3, cnt1, ck1, r0, r1, R0, R1a ++ R2a, nk, nd, oc, _, D5, ts, rfl, off_cons (by walk_at "ne!") hoff, rfl, rfl, rfl, rfl, S0.mono fun q hq => .tail _ hq, S3.mono fun q hq => .tail _ hq, ⟨_, _, .head _, ?_⟩, ?_⟩
  · rw [hk3, hk4]
    exact ((all2_take hrs k).append (all2_drop hrs (k + 1))).mono fun v e hve => hve.mono fun q hq => .tail _ hq
  · rw [hRe] at hRn
    simp at hRn ⊢
    omega
end Mine
end

section
open PySem PySem.W PyProof.Rows
set_option Elab.async false
set_option autoImplicit false
set_option maxRecDepth 100000
set_option maxHeartbeats 8000000
namespace Mine

local macro_rules | `(tactic| walk_at "mem!") => `(tactic| (repeat (first | exact List.Mem.head _ | exact List.mem_append_right _ (List.Mem.head _) | exact List.mem_append_right _ (List.mem_append_right _ (List.Mem.head _)) | apply List.Mem.tail)))
local macro_rules | `(tactic| walk_at "in!") => `(tactic| (intro q9 hq9; repeat (first | exact hq9 | exact List.mem_append_left _ hq9 | exact List.mem_append_right _ hq9 | exact List.mem_append_right _ (List.mem_append_left _ hq9) | exact List.mem_append_right _ (List.mem_append_right _ hq9) | exact List.mem_append_right _ (List.mem_append_right _ (.tail _ hq9)) | apply List.Mem.tail)))
local macro_rules | `(tactic| walk_at "sub!") => `(tactic| ((repeat' (first | refine sub_app ?_ ?_ | refine sub_cons ?_ ?_)); (all_goals first | walk_at "in!" | walk_at "mem!")))
local macro_rules | `(tactic| walk_at "ne!") => `(tactic| (repeat' (first | exact ne_nil _ | refine ne_cons (by omega) ?_)))

theorem loop1_spec {w : World} {mean : ExcName → Option Value} {mg mb : Str → Option Value} {h₀ : Heap} {L fa l rr : Addr} {cd : Value} {vs : List Value} {ns : List Int} {m₀ : Str → Option Value} {s : Shared}
    {pb0 d0 st0 hp0 ct0 dc0 pb1 d1 st1 hp1 ct1 dc1 kp du r0 r1 Dx : Addr} {a1 a2 a3 t1 b1 b2 b3 u1 ck0 ck1 t₀ u₀ v₀ : Tok} {bv0 bv1 : Value} {b cnt0 cnt1 : Int} {led0 led1 : Bool} {ox oc : Obj} {vc : Option Value} {E : Value → Shared → Prop} {Q : Flow → Shared → Prop}
    (C : Base w mean mg mb h₀) (K0 : Below callerA h₀ [] h₀) (hL : h₀.IsList l vs.toArray) (hI : IntsAre vs ns) (hlen : ns.length ≤ 63)
    (hR : IsRange s.heap rr 0 b 1 t₀ u₀ v₀) (hb0 : 0 ≤ b) (hb1 : b ≤ 24) (F : Fr h₀ L s.heap m₀) (mk : m₀ (Str.ofString "kept") = some (.ref kp)) (md : m₀ (Str.ofString "due") = some (.ref du)) (ms : m₀ (Str.ofString "script") = some (.ref l))
    (N : News h₀ L s.heap ((Dx, ox) :: (du, W.listOf #[.ref r0, .ref r1] 0) :: (r1, W.listOf #[] 0) :: (r0, W.listOf #[] 0) :: (kp, W.listOf #[.ref pb0, .ref pb1] 0) ::
      (ct1, cntObj dc1 bv1 u1 cnt1 ck1) :: (dc1, dictOf [] 0) :: (hp1, W.listOf #[] 0) :: (st1, setObj #[] 0 (SetTable.fresh 0 0 led1)) :: (pb1, instObj 147 d1) :: (d1, pbDict w b1 b2 b3 st1 hp1 ct1) ::
      (ct0, cntObj dc0 bv0 t1 cnt0 ck0) :: (dc0, dictOf [] 0) :: (hp0, W.listOf #[] 0) :: (st0, setObj #[] 0 (SetTable.fresh 0 0 led0)) :: (pb0, instObj 147 d0) :: (d0, pbDict w a1 a2 a3 st0 hp0 ct0) :: (L + 1, oc) :: []))
    (hoc : oc.data = .cell vc) (hc0 : cnt0 = 0) (hc1 : cnt1 = 0)
    (q0 : @LT.lt Nat _ (L + 1) d0) (q1 : @LT.lt Nat _ d0 pb0) (q2 : @LT.lt Nat _ pb0 st0) (q3 : @LT.lt Nat _ st0 hp0) (q4 : @LT.lt Nat _ hp0 dc0) (q5 : @LT.lt Nat _ dc0 ct0)
    (q6 : @LT.lt Nat _ ct0 d1) (q7 : @LT.lt Nat _ d1 pb1) (q8 : @LT.lt Nat _ pb1 st1) (q9 : @LT.lt Nat _ st1 hp1) (qa : @LT.lt Nat _ hp1 dc1) (qb : @LT.lt Nat _ dc1 ct1) (qc : @LT.lt Nat _ ct1 kp) (qd : @LT.lt Nat _ kp du)
    (qe : @LT.lt Nat _ kp r0) (qf : @LT.lt Nat _ r0 r1) (qg : @LT.lt Nat _ r1 du)
    (done : ∀ m₁ nx h tk, J1 w pb0 d0 st0 hp0 ct0 dc0 pb1 d1 st1 hp1 ct1 dc1 kp du (L + 1) a1 a2 a3 t1 b1 b2 b3 u1 bv0 bv1 l m₁ nx → Fr h₀ L h m₁ → News h₀ L h nx → Q .next { s with heap := h, toks := tk }) :
    wpAny (model PySem.Challenge.rw_bj0026_01.row.prog w) (callerA.deeper (lawEnv L fa cd)) (pyIter (.ref rr))
      (fun it s₂ => LoopAtV PySem.Challenge.rw_bj0026_01.row.prog w (callerA.deeper (lawEnv L fa cd)) h₀ (lawEnv L fa cd) (Str.ofString "at") [lawParts.1.draw, lawParts.1.pair, lawParts.1.act, lawParts.1.same] Q E it s₂) E s := by
  subst hc0 hc1
  have hbn : b = ((b - 0).toNat : Int) := by omega
  refine rng_loop (n := (b - 0).toNat) (fun _ m nx => J1 w pb0 d0 st0 hp0 ct0 dc0 pb1 d1 st1 hp1 ct1 dc1 kp du (L + 1) a1 a2 a3 t1 b1 b2 b3 u1 bv0 bv1 l m nx) rfl hR (small_one (by omega) (by omega) (by omega) (by omega)) (rangeSize_nat _ _) F N
    (nx₀ := allLed w pb0 d0 st0 hp0 ct0 dc0 pb1 d1 st1 hp1 ct1 dc1 kp du (L + 1) a1 a2 a3 t1 b1 b2 b3 u1 bv0 bv1 #[] 0 (SetTable.fresh 0 0 led0) #[] 0 0 ck0 #[] 0 (SetTable.fresh 0 0 led1) #[] 0 0 ck1 r0 r1 0 0 oc [(r1, W.listOf #[] 0), (r0, W.listOf #[] 0)]) (by walk_at "sub!") ?_ ?_ done
  · refine ⟨_, _, _, _, _, _, _, _, _, _, _, _, _, _, r0, r1, [], [], _, _, _, _, _, rfl, ?_, mk, md, ms, hoc, SideInv.nil, SideInv.nil, ⟨[], 0, .tail _ (.head _), .nil⟩, ⟨[], 0, .head _, .nil⟩⟩
    exact off_cons (by walk_at "ne!") (off_cons (by walk_at "ne!") (off_nil _))
  · intro i t m₁ nx h tk own hi hown hJ F1 N1
    exact turn_spec C K0 hL hI hlen (by omega) q0 q1 q2 q3 q4 q5 q6 q7 q8 q9 qa qb qc qd hown hJ F1 N1

theorem off_snoc {l : Led} {adr : List Addr} {x : Addr} (h : OwnOff l adr) (h2 : ∀ q ∈ l, q.1 ≠ x) : OwnOff l (adr ++ [x]) := fun q hq b hb => by
  rcases List.mem_append.mp hb with hb | hb
  · exact h q hq b hb
  · rw [List.mem_singleton.mp hb]; exact h2 q hq

theorem loop2a_spec {w : World} {mean : ExcName → Option Value} {mg mb : Str → Option Value} {h₀ : Heap} {L fa rr I : Addr} {it : Obj} {cd : Value} {m₀ : Str → Option Value} {s : Shared}
    {pb0 d0 st0 hp0 ct0 dc0 pb1 d1 st1 hp1 ct1 dc1 kp du r0 r1 r : Addr} {a1 a2 a3 t1 b1 b2 b3 u1 ck0 ck1 t₀ u₀ v₀ ts : Tok} {bv0 bv1 : Value} {b cnt0 cnt1 : Int} {oc : Obj} {E : Value → Shared → Prop} {Q : Flow → Shared → Prop}
    {es0 es1 : Array (Int × Value)} {ep0 ep1 nh0 nh1 nk nd : Nat} {T0 T1 : SetTable} {xs0 xs1 : Array Value} {R0 R1 : List Ent} {tl news : Led}
    (C : Base w mean mg mb h₀) (K0 : Below callerA h₀ [] h₀)
    (hR : IsRange s.heap rr 0 b 1 t₀ u₀ v₀) (hb : b = (R0.length : Int)) (F : Fr h₀ L s.heap m₀) (mk : m₀ (Str.ofString "kept") = some (.ref kp)) (md : m₀ (Str.ofString "due") = some (.ref du)) (ms : m₀ (Str.ofString "side") = some (.int 0 ts)) (mr : m₀ (Str.ofString "rows") = some (.ref r))
    (N : News h₀ L s.heap news) (hsub : ∀ q ∈ allLed w pb0 d0 st0 hp0 ct0 dc0 pb1 d1 st1 hp1 ct1 dc1 kp du (L + 1) a1 a2 a3 t1 b1 b2 b3 u1 bv0 bv1 es0 ep0 T0 xs0 nh0 cnt0 ck0 es1 ep1 T1 xs1 nh1 cnt1 ck1 r0 r1 nk nd oc ((I, it) :: tl), q ∈ news)
    (hoff : OwnOff tl [pb0, d0, st0, hp0, ct0, dc0, pb1, d1, st1, hp1, ct1, dc1, kp, du, L + 1, I]) (qI : @LT.lt Nat _ du I) (S0 : SideInv tl es0 T0 xs0 cnt0 R0) (S1 : SideInv tl es1 T1 xs1 cnt1 R1) (W0 : RowsIn tl r R0) (W1 : RowsIn tl r1 R1)
    (q0 : @LT.lt Nat _ (L + 1) d0) (q1 : @LT.lt Nat _ d0 pb0) (q2 : @LT.lt Nat _ pb0 st0) (q3 : @LT.lt Nat _ st0 hp0) (q4 : @LT.lt Nat _ hp0 dc0) (q5 : @LT.lt Nat _ dc0 ct0)
    (q6 : @LT.lt Nat _ ct0 d1) (q7 : @LT.lt Nat _ d1 pb1) (q8 : @LT.lt Nat _ pb1 st1) (q9 : @LT.lt Nat _ st1 hp1) (qa : @LT.lt Nat _ hp1 dc1) (qb : @LT.lt Nat _ dc1 ct1) (qc : @LT.lt Nat _ ct1 kp) (qd : @LT.lt Nat _ kp du)
    (done : ∀ m₁ nx h tk, J2a w pb0 d0 st0 hp0 ct0 dc0 pb1 d1 st1 hp1 ct1 dc1 kp du (L + 1) a1 a2 a3 t1 b1 b2 b3 u1 bv0 bv1 I it R0.length R0.length m₁ nx → Fr h₀ L h m₁ → News h₀ L h nx → Q .next { s with heap := h, toks := tk }) :
    wpAny (model PySem.Challenge.rw_bj0026_01.row.prog w) (callerA.deeper (lawEnv L fa cd)) (pyIter (.ref rr))
      (fun it s₂ => LoopAtV PySem.Challenge.rw_bj0026_01.row.prog w (callerA.deeper (lawEnv L fa cd)) h₀ (lawEnv L fa cd) (Str.ofString "turn") lawParts.1.endBody Q E it s₂) E s := by
  have hl0 := S0.le9
  have hl1 := S1.le9
  refine rng_loop (n := R0.length) (fun i m nx => J2a w pb0 d0 st0 hp0 ct0 dc0 pb1 d1 st1 hp1 ct1 dc1 kp du (L + 1) a1 a2 a3 t1 b1 b2 b3 u1 bv0 bv1 I it R0.length i m nx) rfl hR (small_one (by omega) (by omega) (by omega) (by omega)) (by rw [rangeSize_nat, hb]; omega) F N hsub ?_ ?_ done
  · exact ⟨es0, ep0, T0, xs0, nh0, cnt0, ck0, es1, ep1, T1, xs1, nh1, cnt1, ck1, r0, r1, R0, R1, nk, nd, oc, tl, r, ts, rfl, hoff, mk, md, ms, mr, S0, S1, W0, W1, rfl⟩
  · intro i t m₁ nx h tk own hi hown hJ F1 N1
    exact last0_spec C K0 hi qI q0 q1 q2 q3 q4 q5 q6 q7 q8 q9 qa qb qc qd hown hJ F1 N1

theorem loop2b_spec {w : World} {mean : ExcName → Option Value} {mg mb : Str → Option Value} {h₀ : Heap} {L fa rr I : Addr} {it : Obj} {cd : Value} {m₀ : Str → Option Value} {s : Shared}
    {pb0 d0 st0 hp0 ct0 dc0 pb1 d1 st1 hp1 ct1 dc1 kp du r0 r1 r : Addr} {a1 a2 a3 t1 b1 b2 b3 u1 ck0 ck1 t₀ u₀ v₀ ts : Tok} {bv0 bv1 : Value} {b cnt0 cnt1 : Int} {oc : Obj} {E : Value → Shared → Prop} {Q : Flow → Shared → Prop}
    {es0 es1 : Array (Int × Value)} {ep0 ep1 nh0 nh1 nk nd : Nat} {T0 T1 : SetTable} {xs0 xs1 : Array Value} {R0 R1 : List Ent} {tl news : Led}
    (C : Base w mean mg mb h₀) (K0 : Below callerA h₀ [] h₀)
    (hR : IsRange s.heap rr 0 b 1 t₀ u₀ v₀) (hb : b = (R1.length : Int)) (F : Fr h₀ L s.heap m₀) (mk : m₀ (Str.ofString "kept") = some (.ref kp)) (md : m₀ (Str.ofString "due") = some (.ref du)) (ms : m₀ (Str.ofString "side") = some (.int 1 ts)) (mr : m₀ (Str.ofString "rows") = some (.ref r))
    (N : News h₀ L s.heap news) (hsub : ∀ q ∈ allLed w pb0 d0 st0 hp0 ct0 dc0 pb1 d1 st1 hp1 ct1 dc1 kp du (L + 1) a1 a2 a3 t1 b1 b2 b3 u1 bv0 bv1 es0 ep0 T0 xs0 nh0 cnt0 ck0 es1 ep1 T1 xs1 nh1 cnt1 ck1 r0 r1 nk nd oc ((I, it) :: tl), q ∈ news)
    (hoff : OwnOff tl [pb0, d0, st0, hp0, ct0, dc0, pb1, d1, st1, hp1, ct1, dc1, kp, du, L + 1, I]) (qI : @LT.lt Nat _ du I) (S0 : SideInv tl es0 T0 xs0 cnt0 R0) (S1 : SideInv tl es1 T1 xs1 cnt1 R1) (W1 : RowsIn tl r R1)
    (q0 : @LT.lt Nat _ (L + 1) d0) (q1 : @LT.lt Nat _ d0 pb0) (q2 : @LT.lt Nat _ pb0 st0) (q3 : @LT.lt Nat _ st0 hp0) (q4 : @LT.lt Nat _ hp0 dc0) (q5 : @LT.lt Nat _ dc0 ct0)
    (q6 : @LT.lt Nat _ ct0 d1) (q7 : @LT.lt Nat _ d1 pb1) (q8 : @LT.lt Nat _ pb1 st1) (q9 : @LT.lt Nat _ st1 hp1) (qa : @LT.lt Nat _ hp1 dc1) (qb : @LT.lt Nat _ dc1 ct1) (qc : @LT.lt Nat _ ct1 kp) (qd : @LT.lt Nat _ kp du)
    (done : ∀ m₁ nx h tk, J2b w pb0 d0 st0 hp0 ct0 dc0 pb1 d1 st1 hp1 ct1 dc1 kp du (L + 1) a1 a2 a3 t1 b1 b2 b3 u1 bv0 bv1 I it R1.length R1.length m₁ nx → Fr h₀ L h m₁ → News h₀ L h nx → Q .next { s with heap := h, toks := tk }) :
    wpAny (model PySem.Challenge.rw_bj0026_01.row.prog w) (callerA.deeper (lawEnv L fa cd)) (pyIter (.ref rr))
      (fun it s₂ => LoopAtV PySem.Challenge.rw_bj0026_01.row.prog w (callerA.deeper (lawEnv L fa cd)) h₀ (lawEnv L fa cd) (Str.ofString "turn") lawParts.1.endBody Q E it s₂) E s := by
  have hl0 := S0.le9
  have hl1 := S1.le9
  refine rng_loop (n := R1.length) (fun i m nx => J2b w pb0 d0 st0 hp0 ct0 dc0 pb1 d1 st1 hp1 ct1 dc1 kp du (L + 1) a1 a2 a3 t1 b1 b2 b3 u1 bv0 bv1 I it R1.length i m nx) rfl hR (small_one (by omega) (by omega) (by omega) (by omega)) (by rw [rangeSize_nat, hb]; omega) F N hsub ?_ ?_ done
  · exact ⟨es0, ep0, T0, xs0, nh0, cnt0, ck0, es1, ep1, T1, xs1, nh1, cnt1, ck1, r0, r1, R0, R1, nk, nd, oc, tl, r, ts, rfl, hoff, mk, md, ms, mr, S0, S1, W1, rfl⟩
  · intro i t m₁ nx h tk own hi hown hJ F1 N1
    exact last1_spec C K0 hi qI q0 q1 q2 q3 q4 q5 q6 q7 q8 q9 qa qb qc qd hown hJ F1 N1
end Mine
end

section
open PySem PySem.W PyProof.Rows
set_option Elab.async false
set_option autoImplicit false
set_option maxRecDepth 100000
set_option maxHeartbeats 8000000
namespace Mine

local macro_rules | `(tactic| walk_at "mem!") => `(tactic| (repeat (first | exact List.Mem.head _ | exact List.mem_append_right _ (List.Mem.head _) | exact List.mem_append_right _ (List.mem_append_right _ (List.Mem.head _)) | apply List.Mem.tail)))
local macro_rules | `(tactic| walk_at "in!") => `(tactic| (intro q9 hq9; repeat (first | exact hq9 | exact List.mem_append_left _ hq9 | exact List.mem_append_right _ hq9 | exact List.mem_append_right _ (List.mem_append_left _ hq9) | exact List.mem_append_right _ (List.mem_append_right _ hq9) | exact List.mem_append_right _ (List.mem_append_right _ (.tail _ hq9)) | apply List.Mem.tail)))
local macro_rules | `(tactic| walk_at "sub!") => `(tactic| ((repeat' (first | refine sub_app ?_ ?_ | refine sub_cons ?_ ?_)); (all_goals first | walk_at "in!" | walk_at "mem!")))
local macro_rules | `(tactic| walk_at "ne!") => `(tactic| (repeat' (first | exact ne_nil _ | refine ne_cons (by omega) ?_)))


def lawSeek2 (p : Program) : Option Stmt :=
  match p.main.body.getLast? with
  | some (.FunctionDef _ _ [_, _, x, _] _ _ _ _ _ _ _) => some x
  | _ => none
def lawFin : { q : Stmt // lawSeek2 PySem.Challenge.pw_bj0026_01 = some q } := ⟨_, rfl⟩

local macro_rules | `(tactic| walk_at "pyIter ref") => `(tactic| ((rename HaltMark => hmk); k_here; refine Halt.go ?_))

theorem off_to {l : Led} {x : Addr} (h : OwnOff l [x]) : ∀ p ∈ l, p.1 ≠ x := fun p hp => h p hp x (List.Mem.head _)

theorem fin_spec {w : World} {mean : ExcName → Option Value} {mg mb : Str → Option Value} {h₀ : Heap} {L fa l : Addr} {cd : Value} {m₁ : Str → Option Value} {s : Shared}
    {pb0 d0 st0 hp0 ct0 dc0 pb1 d1 st1 hp1 ct1 dc1 kp du : Addr} {a1 a2 a3 t1 b1 b2 b3 u1 : Tok} {bv0 bv1 : Value} {nx : Led}
    (C : Base w mean mg mb h₀) (K0 : Below callerA h₀ [] h₀)
    (q0 : @LT.lt Nat _ (L + 1) d0) (q1 : @LT.lt Nat _ d0 pb0) (q2 : @LT.lt Nat _ pb0 st0) (q3 : @LT.lt Nat _ st0 hp0) (q4 : @LT.lt Nat _ hp0 dc0) (q5 : @LT.lt Nat _ dc0 ct0)
    (q6 : @LT.lt Nat _ ct0 d1) (q7 : @LT.lt Nat _ d1 pb1) (q8 : @LT.lt Nat _ pb1 st1) (q9 : @LT.lt Nat _ st1 hp1) (qa : @LT.lt Nat _ hp1 dc1) (qb : @LT.lt Nat _ dc1 ct1) (qc : @LT.lt Nat _ ct1 kp) (qd : @LT.lt Nat _ kp du)
    (hJ : J1 w pb0 d0 st0 hp0 ct0 dc0 pb1 d1 st1 hp1 ct1 dc1 kp du (L + 1) a1 a2 a3 t1 b1 b2 b3 u1 bv0 bv1 l m₁ nx) (F : Fr h₀ L s.heap m₁) (N : News h₀ L s.heap nx) :
    wpAny (model PySem.Challenge.rw_bj0026_01.row.prog w) (callerA.deeper (lawEnv L fa cd)) (exec lawFin.1 (lawEnv L fa cd))
      (fun f s' => Halt (f = .next ∧ ∃ h' tk' m' news', s' = { s with heap := h', toks := tk' } ∧ Fr h₀ L h' m' ∧ News h₀ L h' news')) (fun _ _ => False) s := by
  obtain ⟨es0, ep0, T0, xs0, nh0, cnt0, ck0, es1, ep1, T1, xs1, nh1, cnt1, ck1, r0, r1, R0, R1, nk, nd, oc, vc, tl, rfl, hoff, mk, md, ms, hoc, S0, S1, W0, W1⟩ := hJ
  obtain ⟨rs0, n0, hm0, hr0⟩ := id W0
  have hl0 := S0.le9
  have hy0 := hr0.length
  have F1 := (F.known0 (n := Str.ofString "due") (w := .ref du) md).known0 (n := Str.ofString "kept") (w := .ref kp) (by rw [if_neg (by decide)]; exact mk)
  have N1 := news_re (l' := (r0, W.listOf rs0.toArray n0) :: allLed w pb0 d0 st0 hp0 ct0 dc0 pb1 d1 st1 hp1 ct1 dc1 kp du (L + 1) a1 a2 a3 t1 b1 b2 b3 u1 bv0 bv1 es0 ep0 T0 xs0 nh0 cnt0 ck0 es1 ep1 T1 xs1 nh1 cnt1 ck1 r0 r1 nk nd oc tl) N (by
    refine sub_cons ?_ fun q hq => hq
    repeat (first | exact hm0 | apply List.Mem.tail))
  clear F N mk md ms W0
  dsimp only [lawEnv, lawFin, lawParts]
  dsimp only [allLed, sideLed] at N1
  obtain ⟨X₀, T₀, G₀⟩ := id C
  revert X₀
  k_fill
  intro X₀
  have hMk := kstMark
  w_strict k_steps
  rename News _ _ _ _ => N1
  refine kst_len N1 (us := rs0) (c := n0) (by walk_at "mem!") hy0 (by omega) ?_
  have hmk := haltMark
  k_steps
  refine Halt.mk ?_
  rename HaltMark => hmk9
  clear hmk9
  rename IsRange _ _ _ _ _ _ _ _ => hR
  rename Fr _ _ _ _ => F1
  rename News _ _ _ _ => N1
  refine' loop2a_spec (nk := nk) (nd := nd) (oc := oc) (r0 := r0) (it := itR _ _) C K0 hR rfl F1 ?fk ?fd ?fs ?fr N1 ?sb (off_snoc hoff ?oi) ?qI S0 S1 ⟨rs0, n0, hm0, hr0⟩ W1 q0 q1 q2 q3 q4 q5 q6 q7 q8 q9 qa qb qc qd ?done
  case fk => rfl
  case fd => rfl
  case fs => rfl
  case fr => rfl
  case sb => walk_at "sub!"
  case oi => k_all
  case qI => omega
  case done =>
    clear F1 N1 hR S0 S1 W1 hr0 hm0 hoff hoc hl0 hy0
    rintro m₁ nx h tk ⟨es0, ep0, T0, xs0, nh0, cnt0, ck0, es1, ep1, T1, xs1, nh1, cnt1, ck1, r0, r1, R0', R1, nk, nd, oc, tl, r, ts, rfl, hoff, mk, md, ms, mr, S0, S1, W0, W1, hRn⟩ F N
    have hx0 := S0.xsize
    have hx1 : xs0 = #[] := by
      apply Array.eq_empty_of_size_eq_zero
      omega
    subst hx1
    obtain ⟨rs1, n1, hm1, hr1⟩ := id W1
    have hl1 := S1.le9
    have hy1 := hr1.length
    have F1 := ((F.known0 (n := Str.ofString "due") (w := .ref du) md).known0 (n := Str.ofString "kept") (w := .ref kp) (by rw [if_neg (by decide)]; exact mk)).known0 (n := Str.ofString "side") (w := .int 0 ts) (by rw [if_neg (by decide), if_neg (by decide)]; exact ms)
    have N1 := news_re (l' := (r1, W.listOf rs1.toArray n1) :: _) N (by
      refine sub_cons ?_ fun q hq => hq
      repeat (first | exact hm1 | apply List.Mem.tail))
    clear F N mk md ms W1 mr
    dsimp only [allLed, sideLed] at N1
    k_steps
    rename Fr _ _ _ _ => F1
    rename News _ _ _ _ => N1
    refine' UnrEnd.intro F1 N1 (allLed w pb0 d0 st0 hp0 ct0 dc0 pb1 d1 st1 hp1 ct1 dc1 kp du (L + 1) a1 a2 a3 t1 b1 b2 b3 u1 bv0 bv1 es0 ep0 T0 #[] nh0 cnt0 ck0 es1 ep1 T1 xs1 nh1 cnt1 ck1 r0 r1 nk nd oc tl) ?ub ?uo ?_
    case ub => walk_at "sub!"
    case uo =>
      refine off_to ?_
      (repeat (refine off_cons (by walk_at "ne!") ?_))
      exact off_sub hoff (by simp)
    k_steps
    rename News _ _ _ _ => N1
    have N2 := news_re (l' := (r1, W.listOf rs1.toArray n1) :: _) N1 (sub_cons (by repeat (first | exact hm1 | apply List.Mem.tail)) fun q hq => hq)
    clear N1
    dsimp only [allLed, sideLed] at N2
    k_steps
    rename News _ _ _ _ => N1
    refine kst_len N1 (us := rs1) (c := n1) (by walk_at "mem!") hy1 (by omega) ?_
    have hmk := haltMark
    k_steps
    refine Halt.mk ?_
    rename HaltMark => hmk9
    clear hmk9
    rename IsRange _ _ _ _ _ _ _ _ => hR
    rename Fr _ _ _ _ => F1
    rename News _ _ _ _ => N1
    refine' loop2b_spec (nk := nk) (nd := nd) (oc := oc) (r0 := r0) (r1 := r1) (it := itR _ _) C K0 hR rfl F1 ?gk ?gd ?gs ?gr N1 ?gb hoff ?gI S0 S1 ⟨rs1, n1, hm1, hr1⟩ q0 q1 q2 q3 q4 q5 q6 q7 q8 q9 qa qb qc qd ?gone
    case gk => rfl
    case gd => rfl
    case gs => rfl
    case gr => rfl
    case gb => walk_at "sub!"
    case gI => omega
    case gone =>
      clear F1 N1 hR S0 S1 hr1 hm1 hoff hl1 hy1
      rintro m₁ nx h tk ⟨es0, ep0, T0, xs0, nh0, cnt0, ck0, es1, ep1, T1, xs1, nh1, cnt1, ck1, r0, r1, R0', R1', nk, nd, oc, tl, r, ts, rfl, hoff, mk, md, ms, mr, S0, S1, W1, hRn2⟩ F N
      have hx0 := S1.xsize
      have hx1 : xs1 = #[] := by
        apply Array.eq_empty_of_size_eq_zero
        omega
      subst hx1
      have F1 := ((F.known0 (n := Str.ofString "due") (w := .ref du) md).known0 (n := Str.ofString "kept") (w := .ref kp) (by rw [if_neg (by decide)]; exact mk)).known0 (n := Str.ofString "side") (w := .int 1 ts) (by rw [if_neg (by decide), if_neg (by decide)]; exact ms)
      clear F mk md ms W1 mr
      dsimp only [allLed, sideLed] at N
      k_steps
      rename Fr _ _ _ _ => F1
      rename News _ _ _ _ => N1
      refine' UnrEnd.intro F1 N1 (allLed w pb0 d0 st0 hp0 ct0 dc0 pb1 d1 st1 hp1 ct1 dc1 kp du (L + 1) a1 a2 a3 t1 b1 b2 b3 u1 bv0 bv1 es0 ep0 T0 xs0 nh0 cnt0 ck0 es1 ep1 T1 #[] nh1 cnt1 ck1 r0 r1 nk nd oc tl) ?ub ?uo ?_
      case ub => walk_at "sub!"
      case uo =>
        refine off_to ?_
        (repeat (refine off_cons (by walk_at "ne!") ?_))
        exact off_sub hoff (by simp)
      k_steps
      exact Halt.mk ⟨rfl, _, _, _, _, rfl, by assumption, by assumption⟩
end Mine
end

section
open PySem PySem.W PyProof.Rows
set_option Elab.async false
set_option autoImplicit false
set_option maxRecDepth 100000
set_option maxHeartbeats 8000000
namespace Mine
structure HaltFor : Prop where
  out : True
theorem haltFor : HaltFor := ⟨trivial⟩
local macro_rules | `(tactic| walk_at "pyIter ref") => `(tactic| ((rename HaltMark => hmk); k_here; refine Halt.go ?_))
local macro_rules | `(tactic| walk_at "exec For Name Call cons nil") => `(tactic| ((rename HaltFor => hmk); k_here; refine Halt.go ?_))

theorem row : PySem.Challenge.rw_bj0026_01.Holds := hd (by
  w_strict (
    k_go0; (all_goals try k_fold); have hmk := haltMark; k_steps
    refine Halt.mk ?_
    rename HaltMark => hmk9
    clear hmk9
    rename IsRange _ _ _ _ _ _ _ _ => hR
    rename Fr _ _ _ _ => F1
    rename News _ _ _ _ => N1
    rename Below _ _ [] _ => K0
    refine' loop1_spec ⟨?cX, ?cT, ?cG⟩ K0 ?cL ?cI ?cl hR ?cb0 ?cb1 F1 ?ck ?cd ?cs N1 ?co ?cc0 ?cc1 ?q0 ?q1 ?q2 ?q3 ?q4 ?q5 ?q6 ?q7 ?q8 ?q9 ?qa ?qb ?qc ?qd ?qe ?qf ?qg ?done
    case ck => rfl
    case cd => rfl
    case cs => rfl
    case cX => assumption
    case cT => assumption
    case cG => assumption
    case cL => assumption
    case cI => assumption
    case cl => omega
    case cb0 => (repeat' split) <;> omega
    case cb1 => (repeat' split) <;> omega
    case co => assumption
    case cc0 => rfl
    case cc1 => rfl
    case q0 => omega
    case q1 => omega
    case q2 => omega
    case q3 => omega
    case q4 => omega
    case q5 => omega
    case q6 => omega
    case q7 => omega
    case q8 => omega
    case q9 => omega
    case qa => omega
    case qb => omega
    case qc => omega
    case qd => omega
    case qe => omega
    case qf => omega
    case qg => omega
    case done =>
      clear F1 N1 hR
      intro m₁ nx h tk hJ F N
      have hmf := haltFor
      k_steps
      refine Halt.mk ?_
      rename HaltFor => hmk9
      clear hmk9
      refine' wpAny_mono (fin_spec ⟨?dX, ?dT, ?dG⟩ K0 ?e0 ?e1 ?e2 ?e3 ?e4 ?e5 ?e6 ?e7 ?e8 ?e9 ?ea ?eb ?ec ?ed hJ F N) ?_ (fun _ _ hf => hf.elim)
      case dX => assumption
      case dT => assumption
      case dG => assumption
      case e0 => omega
      case e1 => omega
      case e2 => omega
      case e3 => omega
      case e4 => omega
      case e5 => omega
      case e6 => omega
      case e7 => omega
      case e8 => omega
      case e9 => omega
      case ea => omega
      case eb => omega
      case ec => omega
      case ed => omega
      rintro f s' ⟨rfl, h', tk', m', news', rfl, F', N'⟩
      clear F N hJ
      k_steps
      all_goals w_report))
end Mine
end

theorem PySem.Challenge.cw_bj0026_01_holds : PySem.Challenge.rw_bj0026_01.Holds :=
  Mine.row
