import PyProof.Rows.All
import Wide.All
import OpenK.AllK
import Wide.FinOn
import PySem.Challenge.RW_dn0018_02
open PySem PySem.W PyProof.Rows
set_option Elab.async false
set_option maxRecDepth 100000
set_option linter.all false

namespace Mine

/-! ### a set's table: its places rise -/
def Up (xs : Array Nat) : Prop := ∀ i k, i < k → k < xs.size → xs.getD i 0 < xs.getD k 0
structure Bel (xs : Array Nat) (j b : Nat) : Prop where
  le : b ≤ xs.size
  lo : ∀ k, k < b → xs.getD k 0 < j
  hi : ∀ k, b ≤ k → k < xs.size → j ≤ xs.getD k 0

theorem getD_default {xs : Array Nat} {k a b : Nat} (h : k < xs.size) : xs.getD k a = xs.getD k b := by
  simp [Array.getD, h]

theorem below_go {xs : Array Nat} {j : Nat} (hu : Up xs) : ∀ (fuel lo hi : Nat), lo ≤ hi → hi ≤ xs.size → hi - lo ≤ fuel → (∀ k, k < lo → xs.getD k 0 < j) → (∀ k, hi ≤ k → k < xs.size → j ≤ xs.getD k 0) → Bel xs j (SetTable.below.go xs j fuel lo hi)
  | 0, lo, hi, h1, h2, h3, h4, h5 => by
    have : lo = hi := by omega
    subst this
    exact ⟨h2, h4, h5⟩
  | fuel + 1, lo, hi, h1, h2, h3, h4, h5 => by
    unfold SetTable.below.go
    by_cases hlt : lo < hi
    · rw [if_pos hlt]
      have hmid : (lo + hi) / 2 < xs.size := by omega
      by_cases hc : xs.getD ((lo + hi) / 2) j < j
      · simp only [hc, if_true]
        refine below_go hu fuel _ _ (by omega) h2 (by omega) (fun k hk => ?_) h5
        rw [getD_default hmid (b := 0)] at hc
        by_cases e : k = (lo + hi) / 2
        · rw [e]; exact hc
        · have := hu k ((lo + hi) / 2) (by omega) hmid; omega
      · simp only [hc, if_false]
        refine below_go hu fuel _ _ (by omega) (by omega) (by omega) h4 (fun k hk hks => ?_)
        rw [getD_default hmid (b := 0)] at hc
        by_cases e : k = (lo + hi) / 2
        · rw [e]; omega
        · have := hu ((lo + hi) / 2) k (by omega) hks; omega
    · rw [if_neg hlt]
      have : lo = hi := by omega
      subst this
      exact ⟨h2, h4, h5⟩
theorem below_ok {xs : Array Nat} {j : Nat} (hu : Up xs) : Bel xs j (SetTable.below xs j) := below_go hu _ _ _ (Nat.zero_le _) (Nat.le_refl _) (Nat.le_refl _) nofun fun k h1 h2 => by omega
theorem Bel.uniq {xs : Array Nat} {j b c : Nat} (h1 : Bel xs j b) (h2 : Bel xs j c) : b = c := by
  rcases Nat.lt_trichotomy b c with q | q | q
  · have := h1.hi b (Nat.le_refl _) (by have := h2.le; omega); have := h2.lo b q; omega
  · exact q
  · have := h2.hi c (Nat.le_refl _) (by have := h1.le; omega); have := h1.lo c q; omega

theorem size_insertAt {α : Type} (xs : Array α) (p : Nat) (x : α) (hp : p ≤ xs.size) : (SetTable.insertAt xs p x).size = xs.size + 1 := by
  unfold SetTable.insertAt; simp; omega
theorem getD_insertAt {xs : Array Nat} {p x k : Nat} (hp : p ≤ xs.size) : (SetTable.insertAt xs p x).getD k 0 = if k < p then xs.getD k 0 else if k = p then x else xs.getD (k - 1) 0 := by
  unfold SetTable.insertAt
  rw [Array.getD_eq_getD_getElem?, Array.getElem?_append, Array.size_push, Array.size_extract]
  have hmin : min p xs.size - 0 = p := by omega
  rw [hmin]
  by_cases h1 : k < p
  · rw [if_pos (by omega), if_pos h1, Array.getElem?_push, Array.size_extract, hmin, if_neg (by omega), Array.getElem?_extract, if_pos (by omega), Array.getD_eq_getD_getElem?]
    simp
  · by_cases h2 : k = p
    · subst h2
      rw [if_pos (by omega), if_neg h1, if_pos rfl, Array.getElem?_push, Array.size_extract, hmin, if_pos rfl]; rfl
    · rw [if_neg (by omega), if_neg h1, if_neg h2, Array.getElem?_extract]
      rw [Array.getD_eq_getD_getElem?]
      have e : p + (k - (p + 1)) = k - 1 := by omega
      split
      · rw [e]
      · rw [Array.getElem?_eq_none (by omega)]
theorem Up.insert {xs : Array Nat} {j : Nat} (hu : Up xs) (hn : xs[SetTable.below xs j]? ≠ some j) : Up (SetTable.insertAt xs (SetTable.below xs j) j) := by
  have B := below_ok (j := j) hu
  generalize SetTable.below xs j = p at B hn
  intro i k hik hk
  rw [size_insertAt _ _ _ B.le] at hk
  rw [getD_insertAt B.le, getD_insertAt B.le]
  have hp : ∀ q, p ≤ q → q < xs.size → j < xs.getD q 0 := fun q h1 h2 => by
    have h3 := B.hi q h1 h2
    by_cases e : q = p
    · subst e
      rcases Nat.lt_or_eq_of_le h3 with h4 | h4
      · exact h4
      · exact absurd (by rw [Array.getElem?_eq_getElem h2, h4]; simp [Array.getD, h2]) hn
    · have := hu p q (by omega) h2
      have := B.hi p (Nat.le_refl _) (by omega)
      omega
  by_cases h1 : i < p
  · rw [if_pos h1]
    by_cases h2 : k < p
    · rw [if_pos h2]; exact hu i k hik (by have := B.le; omega)
    · rw [if_neg h2]
      by_cases h3 : k = p
      · rw [if_pos h3]; exact B.lo i h1
      · rw [if_neg h3]; exact hu i (k - 1) (by omega) (by omega)
  · rw [if_neg h1]
    by_cases h2 : i = p
    · rw [if_pos h2, if_neg (by omega), if_neg (by omega)]
      exact hp (k - 1) (by omega) (by omega)
    · rw [if_neg h2, if_neg (by omega), if_neg (by omega)]
      exact hu (i - 1) (k - 1) (by omega) (by omega)
end Mine

namespace Mine

/-! ### the search for a place reaches every place -/
def lcg (m i : Nat) : Nat := (i * 5 + 1) % (m + 1)
def lcgN (m : Nat) : Nat → Nat → Nat
  | 0, i => i
  | k + 1, i => lcgN m k (lcg m i)
theorem lcgN_add (m : Nat) : ∀ (a b i : Nat), lcgN m (a + b) i = lcgN m b (lcgN m a i)
  | 0, b, i => by simp [lcgN]
  | a + 1, b, i => by rw [Nat.add_right_comm]; exact lcgN_add m a b _
def orb (m : Nat) : Nat → Nat → List Nat
  | 0, _ => []
  | k + 1, i => i :: orb m k (lcg m i)
theorem mem_orb {m : Nat} : ∀ {k i b : Nat}, b ∈ orb m k i → ∃ j, j < k ∧ lcgN m j i = b
  | 0, _, _, h => by cases h
  | k + 1, i, b, h => by
    rcases List.mem_cons.mp h with rfl | h
    · exact ⟨0, Nat.succ_pos _, rfl⟩
    · obtain ⟨j, hj, e⟩ := mem_orb h
      exact ⟨j + 1, by omega, e⟩
def Size (m : Nat) : Prop := m = 7 ∨ m = 31 ∨ m = 127
theorem orb_all {m : Nat} (h : Size m) : ((List.range (m + 1)).all fun b => (orb m (m + 1) 0).contains b) = true ∧ lcgN m (m + 1) 0 = 0 := by
  rcases h with rfl | rfl | rfl
  · exact ⟨by decide +kernel, by decide +kernel⟩
  · exact ⟨by decide +kernel, by decide +kernel⟩
  · exact ⟨by decide +kernel, by decide +kernel⟩
theorem lcg_reach {m a b : Nat} (h : Size m) (ha : a ≤ m) (hb : b ≤ m) : ∃ j, j ≤ m ∧ lcgN m j a = b := by
  obtain ⟨h1, h2⟩ := orb_all h
  rw [List.all_eq_true] at h1
  have get : ∀ c, c ≤ m → ∃ j, j < m + 1 ∧ lcgN m j 0 = c := fun c hc => by
    have := h1 c (List.mem_range.mpr (by omega))
    exact mem_orb (by simpa using this)
  obtain ⟨p, hp, ep⟩ := get a ha
  obtain ⟨q, hq, eq⟩ := get b hb
  by_cases hpq : p ≤ q
  · refine ⟨q - p, by omega, ?_⟩
    rw [← ep, ← lcgN_add, Nat.add_sub_cancel' hpq, eq]
  · refine ⟨m + 1 - p + q, by omega, ?_⟩
    rw [← ep, ← lcgN_add, ← Nat.add_assoc, Nat.add_sub_cancel' (by omega), lcgN_add, h2, eq]

def heads (m : Nat) : Nat → Nat → Nat → Nat
  | 0, i, _ => i
  | k + 1, i, p => heads m k (SetTable.leap m i p).1 (SetTable.leap m i p).2
theorem heads_zero {m : Nat} : ∀ (k i : Nat), heads m k i 0 = lcgN m k i
  | 0, _ => rfl
  | k + 1, i => by
    show heads m k ((i * 5 + 1 + 0 / 32) % (m + 1)) (0 / 32) = _
    rw [Nat.zero_div, heads_zero k]; rfl
theorem heads_le {m : Nat} : ∀ (k i p : Nat), i ≤ m → heads m k i p ≤ m
  | 0, _, _, h => h
  | k + 1, i, p, _ => heads_le k _ _ (Nat.le_of_lt_succ (Nat.mod_lt _ (Nat.succ_pos _)))
theorem heads_add {m : Nat} : ∀ (a b i p : Nat), heads m (a + b) i p = heads m b (heads m a i p) (p / 32 ^ a)
  | 0, b, i, p => by simp [heads]
  | a + 1, b, i, p => by
    rw [Nat.add_right_comm]
    show heads m (a + b) (SetTable.leap m i p).1 (p / 32) = _
    rw [heads_add a b]
    show _ = heads m b (heads m a (SetTable.leap m i p).1 (p / 32)) (p / 32 ^ (a + 1))
    rw [Nat.div_div_eq_div_mul, Nat.pow_succ, Nat.mul_comm]
theorem bits_lt (h : Int) : SetTable.bits h < 2 ^ 64 := by
  unfold SetTable.bits
  have := Int.emod_lt_of_pos h (show (0 : Int) < 2 ^ 64 by decide)
  have h2 := Int.emod_nonneg h (show (2 ^ 64 : Int) ≠ 0 by decide)
  omega
theorem heads_reach {m i p b : Nat} (hs : Size m) (hi : i ≤ m) (hp : p < 2 ^ 64) (hb : b ≤ m) : ∃ k, k ≤ m + 13 ∧ heads m k i p = b := by
  have h13 : p / 32 ^ 13 = 0 := Nat.div_eq_of_lt (Nat.lt_trans hp (by decide))
  obtain ⟨j, hj, e⟩ := lcg_reach hs (heads_le 13 i p hi) hb
  exact ⟨13 + j, by omega, by rw [heads_add, h13, heads_zero, e]⟩

/-- of m+1 places fewer are taken -/
theorem length_le_of_subset : ∀ {l s : List Nat}, l.Nodup → (∀ x ∈ l, x ∈ s) → l.length ≤ s.length
  | [], _, _, _ => Nat.zero_le _
  | x :: l, s, nd, h => by
    obtain ⟨hx, nd⟩ := List.nodup_cons.mp nd
    have : l.length ≤ (s.erase x).length := length_le_of_subset nd fun y hy => by
      have hne : y ≠ x := fun q => hx (q ▸ hy)
      exact (List.mem_erase_of_ne hne).mpr (h y (.tail _ hy))
    have hm := h x (.head _)
    rw [List.length_erase_of_mem hm] at this
    have := List.length_pos_of_mem hm
    simp only [List.length_cons]; omega
theorem free_place {s : List Nat} {m : Nat} (h : s.length ≤ m) : ∃ b, b ≤ m ∧ b ∉ s := by
  apply Classical.byContradiction
  intro hn
  have : (List.range (m + 1)).length ≤ s.length := length_le_of_subset List.nodup_range fun x hx => by
    apply Classical.byContradiction
    intro q
    exact hn ⟨x, by have := List.mem_range.mp hx; omega, q⟩
  simp at this; omega

theorem has_empty (j : Nat) : SetTable.has #[] j = false := by simp [SetTable.has]
theorem mem_iff_below {xs : Array Nat} {j : Nat} (hu : Up xs) : j ∈ xs.toList ↔ xs[SetTable.below xs j]? = some j := by
  have B := below_ok (j := j) hu
  constructor
  · intro hm
    obtain ⟨i, hi, e⟩ := List.getElem_of_mem hm
    have hi' : i < xs.size := by simpa using hi
    have e' : xs[i] = j := by simpa using e
    have hg : xs.getD i 0 = j := by simp [Array.getD, hi', e']
    have : SetTable.below xs j = i := by
      rcases Nat.lt_trichotomy (SetTable.below xs j) i with q | q | q
      · have h1 := B.hi _ (Nat.le_refl _) (by omega)
        have h2 := hu _ _ q hi'
        omega
      · exact q
      · have := B.lo i q; omega
    rw [this, Array.getElem?_eq_getElem hi', e']
  · intro h
    obtain ⟨hlt, e⟩ := Array.getElem?_eq_some_iff.mp h
    have := Array.getElem_mem_toList hlt
    rw [e] at this; exact this
theorem slot_empty {t : SetTable} {j : Nat} (hu : Up t.place) (hd : t.dummies = #[]) (hj : j ∉ t.place.toList) : t.slot j = .empty := by
  unfold SetTable.slot
  rw [mem_iff_below hu] at hj
  simp only [hd, has_empty]
  simp [hj]
theorem slot_cases {t : SetTable} (hd : t.dummies = #[]) (j : Nat) : t.slot j = .empty ∨ ∃ i, t.slot j = .live i := by
  unfold SetTable.slot
  simp only [hd, has_empty]
  split
  · exact .inr ⟨_, rfl⟩
  · exact .inl (by simp)

/-- where the search goes from the end of a run -/
def lept (t : SetTable) (p : SetTable.Probe) : SetTable.Probe :=
  { p with j := (SetTable.leap t.mask p.i p.perturb).1, more := SetTable.runEnd t.mask (SetTable.leap t.mask p.i p.perturb).1 - (SetTable.leap t.mask p.i p.perturb).1, i := (SetTable.leap t.mask p.i p.perturb).1, perturb := (SetTable.leap t.mask p.i p.perturb).2 }
theorem go_empty {t : SetTable} {ha : Nat → Int} {h : Int} {fuel : Nat} {p : SetTable.Probe} (e : t.slot p.j = .empty) : SetTable.probe.go t ha h (fuel + 1) p = some (.empty p.j p.dummy) := by
  conv => lhs; unfold SetTable.probe.go
  rw [e]
theorem go_live {t : SetTable} {h : Int} {fuel i : Nat} {p : SetTable.Probe} (e : t.slot p.j = .live i) : SetTable.probe.go t (fun _ => h + 1) h (fuel + 1) p = SetTable.probe.go t (fun _ => h + 1) h fuel (t.advance p) := by
  have hne : (h + 1 == h) = false := by rw [beq_eq_false_iff_ne]; omega
  conv => lhs; unfold SetTable.probe.go
  rw [e]
  simp only [hne, Bool.false_eq_true, if_false]
theorem go_run {t : SetTable} {h : Int} (hd : t.dummies = #[]) : ∀ (r fuel : Nat) (p : SetTable.Probe), p.more = r → p.dummy = none →
    (∃ j, SetTable.probe.go t (fun _ => h + 1) h (fuel + r + 1) p = some (.empty j none)) ∨ SetTable.probe.go t (fun _ => h + 1) h (fuel + r + 1) p = SetTable.probe.go t (fun _ => h + 1) h fuel (lept t p)
  | r, fuel, p, hr, hn => by
    rcases slot_cases hd p.j with e | ⟨i, e⟩
    · left; rw [go_empty e]; exact ⟨p.j, by simp [hn]⟩
    · rw [go_live e]
      cases r with
      | zero =>
        right
        have : t.advance p = lept t p := by unfold SetTable.advance lept; rw [if_neg (by omega)]
        rw [this]; rfl
      | succ r =>
        have ha : t.advance p = { p with j := p.j + 1, more := p.more - 1 } := by unfold SetTable.advance; rw [if_pos (by omega)]
        rw [ha]
        exact go_run (h := h) hd r fuel { p with j := p.j + 1, more := p.more - 1 } (by show p.more - 1 = r; omega) hn
theorem runEnd_le (m i : Nat) : SetTable.runEnd m i - i ≤ 9 := by unfold SetTable.runEnd; split <;> omega
theorem go_heads {t : SetTable} {h : Int} (hd : t.dummies = #[]) : ∀ (k fuel : Nat) (p : SetTable.Probe), p.more = SetTable.runEnd t.mask p.i - p.i → p.j = p.i → p.dummy = none → t.slot (heads t.mask k p.i p.perturb) = .empty → 10 * k + 1 ≤ fuel →
    ∃ j, SetTable.probe.go t (fun _ => h + 1) h fuel p = some (.empty j none)
  | 0, fuel, p, hm, hj, hn, he, hf => by
    cases fuel with
    | zero => omega
    | succ fuel =>
      have he : t.slot p.j = .empty := by rw [hj]; exact he
      rw [go_empty he]; exact ⟨p.j, by simp [hn]⟩
  | k + 1, fuel, p, hm, hj, hn, he, hf => by
    have hr := runEnd_le t.mask p.i
    obtain ⟨f', rfl⟩ : ∃ f', fuel = f' + p.more + 1 := ⟨fuel - p.more - 1, by omega⟩
    rcases go_run (h := h) hd p.more f' p rfl hn with r | r
    · exact r
    · rw [r]
      exact go_heads hd k f' (lept t p) rfl rfl hn he (by omega)
theorem freeSlot_some {t : SetTable} (h : Int) (hs : Size t.mask) (hu : Up t.place) (hd : t.dummies = #[]) (hn : t.place.size ≤ t.mask) : ∃ j, t.freeSlot h = some (j, false) := by
  obtain ⟨b, hb, hnb⟩ := free_place (s := t.place.toList) (m := t.mask) (by simpa using hn)
  have hi : SetTable.bits h % (t.mask + 1) ≤ t.mask := Nat.le_of_lt_succ (Nat.mod_lt _ (Nat.succ_pos _))
  obtain ⟨k, hk, e⟩ := heads_reach hs hi (bits_lt h) hb
  obtain ⟨j, hj⟩ := go_heads (h := h) hd k (10 * SetTable.turns t.mask) (t.probeStart h) rfl rfl rfl (by
    show t.slot (heads t.mask k (SetTable.bits h % (t.mask + 1)) (SetTable.bits h)) = _
    rw [e]; exact slot_empty hu hd hnb) (by unfold SetTable.turns; omega)
  refine ⟨j, ?_⟩
  unfold SetTable.freeSlot SetTable.probe
  rw [hj]; rfl
end Mine

namespace Mine

/-! ### a table laid anew -/
theorem none_mem : ∀ {L : List (Option Nat)}, (L.filterMap id).length < L.length → none ∈ L
  | [], h => by simp at h
  | none :: L, h => .head _
  | some x :: L, h => by
    simp only [List.filterMap_cons, id, List.length_cons] at h
    exact .tail _ (none_mem (by omega))
theorem set_perm : ∀ {L : List (Option Nat)} {j k : Nat}, L[j]? = some none → ((L.set j (some k)).filterMap id).Perm (k :: L.filterMap id)
  | [], j, k, h => by simp at h
  | x :: L, 0, k, h => by
    obtain rfl : x = none := by simpa using h
    simp
  | x :: L, j + 1, k, h => by
    have ih := set_perm (L := L) (j := j) (k := k) (by simpa using h)
    cases x with
    | none => simpa using ih
    | some y =>
      simp only [List.set_cons_succ, List.filterMap_cons, id]
      exact (List.Perm.cons y ih).trans (List.Perm.swap ..)

theorem free_ok {m : Nat} {owner : Array (Option Nat)} : ∀ (k fuel i p : Nat), owner.getD (heads m k i p) (some 0) = none → k + 1 ≤ fuel → ∃ j, SetTable.layClean.free m owner fuel i p = some j ∧ owner.getD j (some 0) = none
  | k, 0, i, p, he, hf => by omega
  | k, fuel + 1, i, p, he, hf => by
    conv => enter [1, j, 1, 1]; unfold SetTable.layClean.free
    cases q : (List.range (SetTable.runEnd m i + 1 - i)).find? (fun k => (owner.getD (i + k) (some 0)).isNone) with
    | some x =>
      have := List.find?_some q
      exact ⟨i + x, by simp, by simpa using this⟩
    | none =>
      cases k with
      | zero =>
        have h0 : 0 ∈ List.range (SetTable.runEnd m i + 1 - i) := by
          rw [List.mem_range]; unfold SetTable.runEnd; split <;> omega
        have := List.find?_eq_none.mp q 0 h0
        have he : owner.getD i (some 0) = none := he
        simp [he] at this
      | succ k =>
        obtain ⟨j, hj, hn⟩ := free_ok k fuel (SetTable.leap m i p).1 (SetTable.leap m i p).2 he (by omega)
        exact ⟨j, by simpa using hj, hn⟩

structure Owned (m : Nat) (owner : Array (Option Nat)) (k : Nat) : Prop where
  size : owner.size = m + 1
  all : (owner.toList.filterMap id).Perm (List.range k)

theorem Owned.free {m : Nat} {owner : Array (Option Nat)} {k : Nat} (O : Owned m owner k) (hs : Size m) (hk : k ≤ m) (h : Int) :
    ∃ j, SetTable.layClean.free m owner (SetTable.turns m) (SetTable.bits h % (m + 1)) (SetTable.bits h) = some j ∧ Owned m (owner.setIfInBounds j (some k)) (k + 1) := by
  have hl : (owner.toList.filterMap id).length = k := by rw [O.all.length_eq, List.length_range]
  have hlen : owner.toList.length = m + 1 := by rw [Array.length_toList, O.size]
  obtain ⟨b, hb, e⟩ := List.getElem_of_mem (none_mem (L := owner.toList) (by omega))
  have hbm : b ≤ m := by omega
  have hb' : b < owner.size := by rw [O.size]; omega
  have hi : SetTable.bits h % (m + 1) ≤ m := Nat.le_of_lt_succ (Nat.mod_lt _ (Nat.succ_pos _))
  obtain ⟨q, hq, eq⟩ := heads_reach hs hi (bits_lt h) hbm
  obtain ⟨j, hj, hn⟩ := free_ok (owner := owner) q (SetTable.turns m) _ _ (by
    rw [eq]; simp only [Array.getD, hb', dif_pos]; simpa using e) (by unfold SetTable.turns; omega)
  refine ⟨j, hj, by rw [Array.size_setIfInBounds]; exact O.size, ?_⟩
  have hjs : j < owner.size := by
    apply Classical.byContradiction
    intro hge
    simp [Array.getD, hge] at hn
  have hjn : owner.toList[j]? = some none := by
    simp only [Array.getD, hjs, dif_pos] at hn
    rw [Array.getElem?_toList, Array.getElem?_eq_getElem hjs]
    simpa using hn
  rw [Array.toList_setIfInBounds]
  refine (set_perm hjn).trans ?_
  rw [List.range_succ]
  exact (List.Perm.cons k O.all).trans (by simpa using List.perm_append_comm (l₁ := [k]) (l₂ := List.range k))

def layStep (m : Nat) (acc : Option (Array (Option Nat) × Nat)) (h : Int) : Option (Array (Option Nat) × Nat) := do
  let (owner, k) ← acc
  let j ← SetTable.layClean.free m owner (SetTable.turns m) (SetTable.bits h % (m + 1)) (SetTable.bits h)
  pure (owner.setIfInBounds j (some k), k + 1)
theorem layClean_eq (m : Nat) (hs : Array Int) : SetTable.layClean m hs = (hs.toList.foldl (layStep m) (some (Array.replicate (m + 1) none, 0))).map (·.1) := by
  rw [Array.foldl_toList]; rfl
theorem lay_fold {m : Nat} (hs : Size m) : ∀ (l : List Int) (owner : Array (Option Nat)) (k : Nat), Owned m owner k → k + l.length ≤ m + 1 → ∃ owner', l.foldl (layStep m) (some (owner, k)) = some (owner', k + l.length) ∧ Owned m owner' (k + l.length)
  | [], owner, k, O, _ => ⟨owner, rfl, O⟩
  | h :: l, owner, k, O, hk => by
    simp only [List.length_cons] at hk
    obtain ⟨j, hj, O'⟩ := O.free hs (by omega) h
    obtain ⟨owner', e, O''⟩ := lay_fold hs l _ _ O' (by omega)
    have e1 : k + 1 + l.length = k + (h :: l).length := by simp; omega
    rw [e1] at e O''
    refine ⟨owner', ?_, O''⟩
    rw [List.foldl_cons]
    have : layStep m (some (owner, k)) h = some (owner.setIfInBounds j (some k), k + 1) := by
      unfold layStep
      show (SetTable.layClean.free m owner (SetTable.turns m) (SetTable.bits h % (m + 1)) (SetTable.bits h)).bind _ = _
      rw [hj]; rfl
    rw [this, e]
theorem layClean_some {m : Nat} (hs : Size m) (l : Array Int) (hl : l.size ≤ m + 1) : ∃ owner, SetTable.layClean m l = some owner ∧ Owned m owner l.size := by
  obtain ⟨owner, e, O⟩ := lay_fold hs l.toList (Array.replicate (m + 1) none) 0 ⟨by simp, by
    have : ((Array.replicate (m + 1) (none : Option Nat)).toList.filterMap id) = [] := by
      rw [Array.toList_replicate, List.filterMap_eq_nil_iff]
      intro a ha; rw [List.eq_of_mem_replicate ha]; rfl
    rw [this]; exact .nil⟩ (by simpa using hl)
  rw [layClean_eq, e]
  refine ⟨owner, rfl, ?_⟩
  simpa using O

theorem range_get {owner : Array (Option Nat)} : ((List.range owner.size).filterMap fun j => owner.getD j none) = owner.toList.filterMap id := by
  have : owner.toList = (List.range owner.size).map fun j => owner.getD j none := by
    apply List.ext_getElem
    · simp
    · intro i h1 h2
      have : i < owner.size := by simpa using h1
      simp [Array.getD, this]
  rw [this, List.filterMap_map]
  rfl
end Mine

namespace Mine

theorem up_of_pairwise {l : List Nat} (h : l.Pairwise (· < ·)) : Up l.toArray := fun i k h1 h2 => by
  have h2' : k < l.length := by simpa using h2
  have := List.pairwise_iff_getElem.mp h i k (by omega) h2' h1
  simp [Array.getD, h2', show i < l.length by omega]; exact this

theorem slot_free {t : SetTable} {j : Nat} (h : t.slot j = .empty ∨ t.slot j = .dummy) : t.place[SetTable.below t.place j]? ≠ some j := fun q => by
  unfold SetTable.slot at h
  simp only [q, beq_self_eq_true, if_true] at h
  rcases h with h | h <;> cases h

theorem probe_go {t : SetTable} {ha : Nat → Int} {h : Int} : ∀ (fuel : Nat) (p : SetTable.Probe) {j : Nat} {dm : Option Nat}, (∀ d, p.dummy = some d → t.slot d = .dummy) → SetTable.probe.go t ha h fuel p = some (.empty j dm) → t.slot j = .empty ∧ ∀ d, dm = some d → t.slot d = .dummy
  | 0, p, j, dm, _, e => by cases e
  | fuel + 1, p, j, dm, hp, e => by
    have adv : ∀ q : SetTable.Probe, (t.advance q).dummy = q.dummy := fun q => by unfold SetTable.advance; split <;> rfl
    unfold SetTable.probe.go at e
    cases hs : t.slot p.j with
    | empty => rw [hs] at e; simp only [Option.some.injEq, SetTable.Met.empty.injEq] at e; obtain ⟨rfl, rfl⟩ := e; exact ⟨hs, hp⟩
    | dummy =>
      rw [hs] at e
      exact probe_go fuel _ (fun d hd => by rw [adv] at hd; cases hd; exact hs) e
    | live i =>
      rw [hs] at e
      simp only at e
      split at e
      · cases e
      · exact probe_go fuel _ (fun d hd => by rw [adv] at hd; exact hp d hd) e

theorem freeSlot_ok {t : SetTable} {h : Int} {j : Nat} {w : Bool} (e : t.freeSlot h = some (j, w)) : t.place[SetTable.below t.place j]? ≠ some j := by
  unfold SetTable.freeSlot at e
  split at e
  · rename_i j' dm hp
    obtain ⟨h1, h2⟩ := probe_go _ _ (fun d hd => by cases hd) hp
    simp only [Option.some.injEq, Prod.mk.injEq] at e
    obtain ⟨rfl, _⟩ := e
    cases dm with
    | none => exact slot_free (.inl h1)
    | some d => exact slot_free (.inr (h2 d rfl))
  · cases e

/-- what is kept of a set's table while a number is laid in -/
structure Tm (t : SetTable) (led : Bool) (n : Nat) : Prop where
  led : t.led = led
  up : Up t.place
  plain : t.plain = true
  dum : t.dummies = #[]
  size : t.place.size = n
  mask : Size t.mask
  le : n ≤ t.mask
/-- what is kept of a set's table -/
structure Tb (t : SetTable) (led : Bool) (n : Nat) : Prop extends Tm t led n where
  room : n * 5 < t.mask * 3

theorem Tb.layNew {t : SetTable} {b : Bool} {n : Nat} (h : Tb t b n) (es : Array (Int × Value)) (he : es.size = n) (hh : Int) (x : Value) :
    Tm (layNew t es hh x).2.1 b (n + 1) ∧ (layNew t es hh x).2.2.1 = false ∧ (layNew t es hh x).2.1.mask = t.mask := by
  obtain ⟨j, hj⟩ := freeSlot_some hh h.mask h.up h.dum (by rw [h.size]; exact h.le)
  unfold PySem.layNew
  simp only [hj]
  have hroom := h.room
  have hm : n + 1 ≤ t.mask := by
    rcases h.mask with q | q | q <;> omega
  have hp : Tm (t.put j).1 b (n + 1) := ⟨h.led, h.up.insert (freeSlot_ok hj), h.plain, by
    show (if SetTable.has t.dummies j then _ else t.dummies) = #[]
    rw [h.dum, has_empty]; rfl, by
    show (SetTable.insertAt t.place _ j).size = _
    rw [size_insertAt _ _ _ (below_ok h.up).le, h.size], h.mask, hm⟩
  have hes : (SetTable.insertAt es (t.put j).2 (hh, x)).size = n + 1 := by
    rw [size_insertAt, he]
    show SetTable.below t.place j ≤ _
    have := (below_ok (j := j) h.up).le
    rw [h.size] at this; omega
  have hf : (t.put j).1.fits (SetTable.insertAt es (t.put j).2 (hh, x)).size = true := by
    unfold SetTable.fits SetTable.fill
    rw [hes, hp.size, hp.dum]
    simp
    exact hp.le
  have ho : (t.put j).1.orStandIn (SetTable.insertAt es (t.put j).2 (hh, x)).size = (t.put j).1 := by unfold SetTable.orStandIn; rw [if_pos hf]
  refine ⟨?_, trivial, ?_⟩
  · rw [ho]; exact hp
  · rw [ho]; rfl

theorem sizeAbove_20 : SetTable.sizeAbove 20 = 32 := by decide
theorem sizeAbove_76 : SetTable.sizeAbove 76 = 128 := by decide

theorem Tm.relayAll {t : SetTable} {b : Bool} {n : Nat} (h : Tm t b n) (es : Array (Int × Value)) (he : es.size = n) {k : Nat} (hs : Size (SetTable.sizeAbove k - 1)) (hk : n * 5 < (SetTable.sizeAbove k - 1) * 3) : Tb (relayAll t es k).2.1 b n := by
  have hn : n ≤ SetTable.sizeAbove k - 1 := by omega
  obtain ⟨owner, e, O⟩ := layClean_some hs (es.map (·.1)) (by simp [he]; omega)
  have hsz : (es.map (·.1)).size = n := by simp [he]
  rw [hsz] at O
  unfold PySem.relayAll SetTable.relaid SetTable.laid
  simp only [e, Option.bind_eq_bind, Option.bind_some, Option.pure_def]
  have hord : ((((List.range (SetTable.sizeAbove k - 1 + 1)).filterMap fun j => (owner.getD j none).map (j, ·)).map (·.2))).Perm (List.range n) := by
    rw [List.map_filterMap]
    have : ((List.range (SetTable.sizeAbove k - 1 + 1)).filterMap fun j => ((owner.getD j none).map fun x => (j, x)).map (·.2)) = owner.toList.filterMap id := by
      rw [← range_get, O.size]
      congr 1
      funext j
      rw [Option.map_map]
      cases owner.getD j none <;> rfl
    rw [this]; exact O.all
  generalize hlive : ((List.range (SetTable.sizeAbove k - 1 + 1)).filterMap fun j => (owner.getD j none).map (j, ·)) = live at hord ⊢
  have hll : live.length = n := by have := hord.length_eq; simpa using this
  have hc : coversAll (live.map (·.2)).toArray es.size = true := by unfold coversAll; rw [he]; exact List.isPerm_iff.mpr (by simpa using hord)
  have hes : ((live.map (·.2)).toArray.filterMap (es[·]?)).size = n := by
    rw [← Array.length_toList, Array.toList_filterMap]
    have := (show List.Perm ((live.map (·.2)).toArray.toList) (List.range n) by simpa using hord).filterMap (es[·]?)
    rw [this.length_eq, ← he, filterMap_getElem?_range, Array.length_toList]
  have hf : SetTable.fits { mask := SetTable.sizeAbove k - 1, place := (live.map (·.1)).toArray, dummies := #[], finger := t.finger, led := t.led, moves := t.movedTo (SetTable.sizeAbove k - 1), plain := t.plain } ((live.map (·.2)).toArray.filterMap (es[·]?)).size = true := by
    rw [hes]
    unfold SetTable.fits SetTable.fill
    simp [hll]; exact hn
  rw [if_pos (by rw [hc, hf]; rfl)]
  refine ⟨⟨h.led, up_of_pairwise ?_, h.plain, rfl, by simp [hll], hs, hn⟩, hk⟩
  rw [List.pairwise_map, ← hlive]
  refine List.Pairwise.filterMap (R := (· < ·)) _ ?_ List.pairwise_lt_range
  intro a a' haa b1 hb1 b2 hb2
  simp only [Option.map_eq_some_iff] at hb1 hb2
  obtain ⟨_, _, rfl⟩ := hb1
  obtain ⟨_, _, rfl⟩ := hb2
  exact haa

/-- the table after a number more: as it is, or laid anew -/
theorem Tm.grow {t : SetTable} {b : Bool} {n : Nat} {m : Nat} (h : Tm t b (n + 1)) (hm : t.mask = m) (hr : n * 5 < m * 3) (hn : n + 1 ≤ 63) (es : Array (Int × Value)) (he : es.size = n + 1) :
    (t.tooFull = false → Tb t b (n + 1)) ∧ (t.tooFull = true → Tb (PySem.relayAll t es (SetTable.grown (n + 1))).2.1 b (n + 1)) := by
  have hfill : t.fill = n + 1 := by unfold SetTable.fill; rw [h.size, h.dum]; rfl
  constructor
  · intro hf
    refine ⟨h, ?_⟩
    unfold SetTable.tooFull at hf
    rw [hfill] at hf
    simpa using hf
  · intro hf
    unfold SetTable.tooFull at hf
    rw [hfill] at hf
    have hf : t.mask * 3 ≤ (n + 1) * 5 := by simpa using hf
    have hg : SetTable.grown (n + 1) = (n + 1) * 4 := by unfold SetTable.grown; rw [if_neg (by omega)]
    rw [hg]
    rcases h.mask with q | q | q
    · have : n = 4 := by omega
      subst this
      exact h.relayAll es he (by show Size (SetTable.sizeAbove 20 - 1); rw [sizeAbove_20]; exact .inr (.inl rfl)) (by show _ < (SetTable.sizeAbove 20 - 1) * 3; rw [sizeAbove_20]; decide)
    · have : n = 18 := by omega
      subst this
      exact h.relayAll es he (by show Size (SetTable.sizeAbove 76 - 1); rw [sizeAbove_76]; exact .inr (.inr rfl)) (by show _ < (SetTable.sizeAbove 76 - 1) * 3; rw [sizeAbove_76]; decide)
    · omega
end Mine

namespace Mine

def byText (w : World) : Bool := w.params.followText "set-order"
/-- a set of numbers whose table is in order -/
def SetX (prog : Program) (w : World) (h : Heap) (a : Addr) (S : Int → Bool) (n : Nat) : Prop :=
  ∃ o es ep t, h.get? a = some o ∧ o.ExactSet ∧ o.data = .set es ep t ∧ ElemsOf (intKind prog w) es.toList ∧ (∀ k, S k = true ↔ ∃ e ∈ es.toList, (intKind prog w).is k e.2 = true) ∧ es.size < scanBound ∧ t.fits es.size = true ∧ es.size = n ∧ Tb t (!byText w) n

section
variable {prog : Program} {w : World} {A : Around} {E : Value → Shared → Prop} {s : Shared}

theorem setX_store {h : Heap} {a : Addr} {o : Obj} {es : Array (Int × Value)} {ep : Nat} {t : SetTable} (ho : h.get? a = some o) (hex : o.ExactSet) (hd : o.data = .set es ep t) {es' : Array (Int × Value)} {t' : SetTable} {S' : Int → Bool}
    (hel : ElemsOf (intKind prog w) es'.toList) (hmem : ∀ k, S' k = true ↔ ∃ e ∈ es'.toList, (intKind prog w).is k e.2 = true) (hb : es'.size < scanBound) (hf : t'.fits es'.size = true) (ht : Tb t' (!byText w) es'.size) :
    (h.update a (Obj.putSet es' t')).get? a = some { o with data := .set es' (ep + 1) t' } ∧ SetX prog w (h.update a (Obj.putSet es' t')) a S' es'.size := by
  have hg : (h.update a (Obj.putSet es' t')).get? a = some { o with data := .set es' (ep + 1) t' } := (SetOf_store (knd := intKind prog w) ho hex hd hel hmem hb hf).1
  exact ⟨hg, _, es', ep + 1, t', hg, hex, rfl, hel, hmem, hb, hf, rfl, ht⟩

theorem addTailX {g : Bool → Sem Unit} (hg : ∀ (b : Bool) (s₁ : Shared) (Q' : Unit → Shared → Prop), Q' () s₁ → wpAny (model prog w) A (g b) Q' E s₁)
    {a : Addr} {o : Obj} {es : Array (Int × Value)} {ep : Nat} {t : SetTable} (ho : s.heap.get? a = some o) (hex : o.ExactSet) (hd : o.data = .set es ep t)
    {es1 : Array (Int × Value)} {t2 : SetTable} {S' : Int → Bool} (hel1 : ElemsOf (intKind prog w) es1.toList) (hmem1 : ∀ k', S' k' = true ↔ ∃ e ∈ es1.toList, (intKind prog w).is k' e.2 = true)
    (hb1 : es1.size < scanBound) (hf2 : t2.fits es1.size = true) (ht2 : t2.tooFull = false → Tb t2 (!byText w) es1.size) (ht3 : t2.tooFull = true → Tb (relayAll t2 es1 (SetTable.grown es1.size)).2.1 (!byText w) es1.size) {R : Option Bool → Shared → Prop}
    (h : ∀ h', Heap.SameBut a s.heap h' → SetX prog w h' a S' es1.size → R (some true) { s with heap := h' }) :
    wpAny (model prog w) A (do
        storeSet a es1 t2
        if (!false && t2.tooFull) = true then do
            g (relayAll t2 es1 (SetTable.grown es1.size)).2.2
            storeSet a (relayAll t2 es1 (SetTable.grown es1.size)).1 (relayAll t2 es1 (SetTable.grown es1.size)).2.1
            pure (some true)
          else pure (some true)) R E s := by
  refine wpAny_bind (wpAny_storeSet_of ho hd ?_ (fits_of_scanBound hb1))
  have hsb1 := Heap.SameBut.update s.heap a (Obj.putSet es1 t2)
  have ho1 : (s.heap.update a (Obj.putSet es1 t2)).get? a = some { o with data := .set es1 (ep + 1) t2 } := (SetOf_store (knd := intKind prog w) ho hex hd hel1 hmem1 hb1 hf2).1
  split
  · rename_i hfull
    have htr := ht3 (by simpa using hfull)
    have hp := relayAll_perm t2 es1 (SetTable.grown es1.size)
    have hfr := relayAll_fits t2 es1 (SetTable.grown es1.size)
    generalize relayAll t2 es1 (SetTable.grown es1.size) = Rl at hp hfr htr ⊢
    obtain ⟨es2, t3, gave2⟩ := Rl
    dsimp only at hp hfr htr ⊢
    have hsz : es2.size = es1.size := by rw [← Array.length_toList, hp.length_eq, Array.length_toList]
    refine wpAny_bind (hg _ _ _ ?_)
    refine wpAny_bind (wpAny_storeSet_of ho1 rfl ?_ (fits_of_scanBound (by rw [hsz]; exact hb1)))
    obtain ⟨_, hS2⟩ := setX_store (S' := S') ho1 hex rfl (hel1.perm hp) (fun k' => (hmem1 k').trans ⟨fun ⟨e, he, q⟩ => ⟨e, hp.mem_iff.mpr he, q⟩, fun ⟨e, he, q⟩ => ⟨e, hp.mem_iff.mp he, q⟩⟩) (by rw [hsz]; exact hb1) hfr (by rw [hsz]; exact htr)
    rw [hsz] at hS2
    exact wpAny_pure (h _ (hsb1.trans (Heap.SameBut.update _ a _)) hS2)
  · rename_i hfull
    obtain ⟨_, hS1⟩ := setX_store ho hex hd hel1 hmem1 hb1 hf2 (ht2 (by simpa using hfull))
    exact wpAny_pure (h _ hsb1 hS1)

theorem addX {a : Addr} {S : Int → Bool} {n : Nat} {k : Int} {tk : Tok} {Q : Bool → Shared → Prop} (hS : SetX prog w s.heap a S n) (hroom : S k = false → n + 1 ≤ 63)
    (h : ∀ h', Heap.SameBut a s.heap h' → SetX prog w h' a (fun k' => S k' || decide (k' = k)) (if S k then n else n + 1) → Q (!S k) { s with heap := h' }) :
    wpAny (model prog w) A (setAddHashed a (.int k tk) ((intKind prog w).hash k)) Q E s := by
  have hkey : (intKind prog w).is k (.int k tk) = true := intKind_is ..
  have hsc : (Value.int k tk).scannable = true := rfl
  obtain ⟨o, es, ep, t, ho, hex, hd, hel, hmem, hb, hf, hn, ht⟩ := hS
  unfold setAddHashed setAddHashedIn
  refine wpAny_holding (wpAny_bind (wpAny_setState_of ho hd hf ?_))
  dsimp only
  rw [byScan_of hsc hb hel]
  simp only [↓reduceIte]
  unfold setAddByScan
  refine wpAny_bind (wpAny_bind (wpAny_rule (wpAny_bind (wpAny_setScan_of hkey ho hd hf hel ?_))))
  cases hr : List.findIdx? (fun e => (intKind prog w).is k e.2) es.toList with
  | some j =>
    dsimp only
    obtain ⟨hj, hpj, _⟩ := List.findIdx?_eq_some_iff_getElem.mp hr
    have hSk : S k = true := (hmem k).mpr ⟨es.toList[j], List.getElem_mem hj, hpj⟩
    refine wpAny_pure (wpAny_pure ?_)
    have e : s = { s with heap := s.heap } := by cases s; rfl
    have := h s.heap (Heap.SameBut.refl a s.heap) ⟨o, es, ep, t, ho, hex, hd, hel, fun k' => by
      rw [Bool.or_eq_true, decide_eq_true_eq, ← hmem k']
      exact ⟨fun hk => hk.elim id (fun e => e ▸ hSk), .inl⟩, hb, hf, by rw [hSk]; exact hn, by rw [hSk]; exact ht⟩
    rw [hSk] at this; rw [e]; exact this
  | none =>
    dsimp only
    have hSk : S k = false := by
      cases hk : S k with
      | false => rfl
      | true => obtain ⟨e, he, hp⟩ := (hmem k).mp hk; have := List.findIdx?_eq_none_iff.mp hr e he; rw [hp] at this; exact Bool.noConfusion this
    have hroom := hroom hSk
    have hperm := layNew_perm t es ((intKind prog w).hash k) (.int k tk)
    have hfits := layNew_fits t es ((intKind prog w).hash k) (.int k tk)
    obtain ⟨htm, hwd, hmk⟩ := ht.layNew es hn ((intKind prog w).hash k) (.int k tk)
    generalize layNew t es ((intKind prog w).hash k) (.int k tk) = L at hperm hfits htm hwd hmk ⊢
    obtain ⟨es1, t1, wasDummy, gave⟩ := L
    dsimp only at hperm hfits htm hwd hmk ⊢
    subst hwd
    rw [Array.toList_push] at hperm
    have hel1 : ElemsOf (intKind prog w) es1.toList := (hel.push hkey hsc).perm hperm
    have hmem1 : ∀ k', (S k' || decide (k' = k)) = true ↔ ∃ e ∈ es1.toList, (intKind prog w).is k' e.2 = true := mem_push_iff hkey hmem hperm
    have hsz1 : es1.size = n + 1 := by rw [← Array.length_toList, hperm.length_eq, List.length_append, Array.length_toList, hn]; rfl
    have hb1' : es1.size < scanBound := by rw [hsz1]; unfold scanBound; omega
    obtain ⟨hg1, hg2⟩ := htm.grow hmk ht.room hroom es1 hsz1
    rw [← hsz1] at hg1 hg2
    have hgw : ∀ (b : Bool) {s₁ : Shared} {Q' : Unit → Shared → Prop}, Q' () s₁ → wpAny (model prog w) A (match b with | true => rule "set.scan.the-table-gave-way" | false => pure ()) Q' E s₁ :=
      fun b s₁ Q' hq => by cases b <;> first | exact wpAny_pure hq | exact wpAny_rule hq
    refine wpAny_bind (hgw _ ?_)
    have hend : ∀ h', Heap.SameBut a s.heap h' → SetX prog w h' a (fun k' => S k' || decide (k' = k)) es1.size → Q true { s with heap := h' } := by
      intro h' hsb hS'; have := h h' hsb; rw [hSk] at this; rw [hsz1] at hS'; exact this hS'
    split
    · refine wpAny_bind ?_
      rw [hashByValue_scannable 8 hsc]
      refine wpAny_pure ?_
      rw [if_pos (show plainKind (.int k tk) = true from rfl)]
      refine addTailX ?_ ho hex hd hel1 hmem1 hb1' hfits hg1 hg2 ?_
      · intro b s₁ Q' hq; cases b <;> first | exact wpAny_pure hq | exact wpAny_rule hq
      · intro h' hsb hS'; dsimp only; exact wpAny_pure (hend h' hsb hS')
    · refine wpAny_bind (wpAny_pure ?_)
      simp only [↓reduceIte]
      refine addTailX ?_ ho hex hd hel1 hmem1 hb1' hfits hg1 hg2 ?_
      · intro b s₁ Q' hq; cases b <;> first | exact wpAny_pure hq | exact wpAny_rule hq
      · intro h' hsb hS'; dsimp only; exact wpAny_pure (hend h' hsb hS')
end
end Mine

namespace Mine

section
variable {prog : Program} {w : World} {A : Around} {E : Value → Shared → Prop} {s : Shared}

theorem SetX.congr {h : Heap} {a : Addr} {S S' : Int → Bool} {n n' : Nat} (hS : SetX prog w h a S n) (e : ∀ k, S k = S' k) (en : n = n') : SetX prog w h a S' n' := by
  have : S = S' := funext e
  subst this; subst en; exact hS

theorem firstMet_mono (f : Nat → Int) : ∀ {i k : Nat}, i ≤ k → (firstMet f i).length ≤ (firstMet f k).length
  | i, 0, h => by obtain rfl : i = 0 := by omega
                  exact Nat.le_refl _
  | i, k + 1, h => by
    by_cases q : i = k + 1
    · subst q; exact Nat.le_refl _
    · refine Nat.le_trans (firstMet_mono f (show i ≤ k by omega)) ?_
      rw [firstMet_succ, step_length]; split <;> omega

theorem loopX {R : Result → Shared → Prop} {I l : Addr} {items : Array Value} {ns : List Int} (hh : A.in1.handled = none) (hne : l ≠ I) (hi : IntsAre items.toList ns) (S : Addr) (hSI : S ≠ I) (hSl : S ≠ l) (hb : (firstMet (fun i => ns.getD i 0) items.size).length ≤ 63) :
    ∀ (k i : Nat) (s : Shared), items.size - i = k → i ≤ items.size → (s.heap.IsListIter I l i ∧ s.heap.IsList l items) →
      SetX prog w s.heap S (fun k' => (firstMet (fun i => ns.getD i 0) i).any (· == k')) (firstMet (fun i => ns.getD i 0) i).length →
      (∀ h' tk, (∀ b o, b ≠ S → b ≠ I → s.heap.get? b = some o → h'.get? b = some o) → SetX prog w h' S (fun k' => (firstMet (fun i => ns.getD i 0) items.size).any (· == k')) (firstMet (fun i => ns.getD i 0) items.size).length → R (.ok (.ret .none)) { s with heap := h', toks := tk }) →
      codeAny (model prog w) A (.builtin "set.update.loop" ⟨[.ref S, .ref I], []⟩) R s := by
  have W := Walks.list (prog := prog) (w := w) hh I l hne items
  intro k
  induction k with
  | zero =>
    intro i s hk hi' hst hS hR
    have hin : i = items.size := by omega
    subst hin
    refine codeAny_builtin PyProof.Rows.F.entry_set_update_loop ?_
    rw [Around.under_plainId PyProof.Rows.F.plain_set_update_loop _]
    show wpAny _ A.in1 (pyNext (.ref I) >>= _) _ _ s
    refine wpAny_bind (W.done s _ _ hst fun h' tk hm => ?_)
    show wpAny _ A.in1 (ret Value.none) _ _ _
    refine wpAny_pure (hR h' tk (fun b o h1 h2 => hm b o (by simpa using h2)) ?_)
    obtain ⟨o, es, ep, t, ho, rest⟩ := hS
    exact ⟨o, es, ep, t, hm S _ (by simpa using hSI) ho, rest⟩
  | succ k ih =>
    intro i s hk hi' hst hS hR
    have hlt : i < items.size := by omega
    refine codeAny_builtin PyProof.Rows.F.entry_set_update_loop ?_
    rw [Around.under_plainId PyProof.Rows.F.plain_set_update_loop _]
    show wpAny _ A.in1 (pyNext (.ref I) >>= _) _ _ s
    refine wpAny_bind (W.item i s _ _ hlt hst fun v h₁ tk₁ hP hst₁ hm₁ => ?_)
    obtain ⟨t, rfl⟩ := IntsAre.int_at hi i v (by rw [Array.getElem?_toList]; exact hP)
    have hS₁ : SetX prog w h₁ S (fun k' => (firstMet (fun i => ns.getD i 0) i).any (· == k')) (firstMet (fun i => ns.getD i 0) i).length := by
      obtain ⟨o, es, ep, tb, ho, rest⟩ := hS
      exact ⟨o, es, ep, tb, hm₁ S _ (by simpa using hSI) ho, rest⟩
    show wpAny _ A.in1 (holding [Value.int (ns.getD i 0) t] (setAdd S (.int (ns.getD i 0) t)) >>= _) _ _ _
    refine wpAny_bind (wpAny_holding ?_)
    unfold setAdd
    refine wpAny_holding (wpAny_bind ((intKind prog w).pyHash (k := ns.getD i 0) (intKind_is _ _ _ _) ?_))
    have hroom : (firstMet (fun i => ns.getD i 0) i).any (· == ns.getD i 0) = false → (firstMet (fun i => ns.getD i 0) i).length + 1 ≤ 63 := fun q => by
      have h1 := firstMet_mono (fun i => ns.getD i 0) (show i + 1 ≤ items.size by omega)
      rw [firstMet_succ, step_length, q] at h1
      simp only [Bool.false_eq_true, if_false] at h1
      omega
    refine addX (s := { s with heap := h₁, toks := tk₁ + 1 }) hS₁ hroom fun h₂ hsb hS₂ => ?_
    have hSi : SetX prog w h₂ S (fun k' => (firstMet (fun i => ns.getD i 0) (i + 1)).any (· == k')) (firstMet (fun i => ns.getD i 0) (i + 1)).length :=
      hS₂.congr (fun k' => by rw [firstMet_succ, step_any]) (by rw [firstMet_succ, step_length])
    refine wpAny_pure ⟨plainId_quiet PyProof.Rows.F.plain_set_update_loop _, ih (i + 1) _ (by omega) hlt (W.frame _ h₁ _ hst₁ fun b hb o e => ?_) hSi fun h' tk hk' hS' => ?_⟩
    · refine (hsb.2 b fun q => ?_).trans e
      rcases List.mem_cons.mp hb with e' | e'
      · exact hSI (q ▸ e')
      · exact hSl (q ▸ List.mem_singleton.mp e')
    · exact hR h' tk (fun b o h1 h2 e => hk' b o h1 h2 ((hsb.2 b h1).trans (hm₁ b o (by simpa using h2) e))) hS'
end
end Mine

namespace Mine

section
variable {prog : Program} {w : World} {A : Around} {E : Value → Shared → Prop} {s : Shared}

theorem newX (a : Value) {Q₁ : Value → Shared → Prop}
    (h : Q₁ (.ref s.heap.objs.size) { s with heap := s.heap.push { cls := .type "set", dict := none, data := .set #[] 0 (.fresh 0 0 (!byText w)) } }) :
    codeAny (model prog w) A (.call (.builtin "set.__new__") ⟨[.type "set", a], []⟩) (wants Q₁ E) s := by
  refine codeAny_of_tree ?_
  show wpAny _ A.in1 (do checkBuiltinCall "set.__new__" ⟨[.type "set", a], []⟩; again (.builtin "set.__new__" ⟨[.type "set", a], []⟩)) _ _ s
  refine wpAny_bind (wpAny_of_eq (PySem.F.newCall_set_1 a) (wpAny_pure ⟨plainId_quiet PySem.F.plain_set_new _, codeAny_builtin PySem.F.entry_set_new ?_⟩))
  rw [Around.under_plainId PySem.F.plain_set_new _]
  unfold Builtin.«set.__new__» Builtin.Frozenset.newClass
  have hsub := sub_set_self
  obtain ⟨hp, g, d, tk, os⟩ := s
  dsimp only
  wp_walk
  refine wpAny_askSetting (wpAny_pure ?_)
  dsimp only
  simp only [newObj]
  refine wpAny_bind (wpAny_alloc (wpAny_pure ?_))
  exact wpAny_pure h

theorem freshX {h : Heap} {a : Addr} (hg : h.get? a = some { cls := .type "set", dict := none, data := .set #[] 0 (.fresh 0 0 (!byText w)) }) : SetX prog w h a (fun _ => false) 0 := by
  obtain ⟨o, es, ep, t, h1, h2, h3, h4, h5, h6, h7, h8⟩ := (PyProof.Rows.setObjOf_fresh (knd := intKind prog w) (!byText w)).setOf hg (by unfold scanBound; omega)
  rw [hg] at h1; cases h1
  injection h3 with e1 e2 e3
  subst e1; subst e2; subst e3
  exact ⟨_, _, _, _, hg, h2, rfl, h4, h5, h6, h7, h8, ⟨⟨rfl, (fun i k _ hk => by simp [SetTable.fresh] at hk), rfl, rfl, rfl, .inl rfl, Nat.zero_le _⟩, by show 0 < 21; decide⟩⟩

set_option maxHeartbeats 3200000 in
theorem call_setX {l : Addr} {items : Array Value} {ns : List Int} {Q : Value → Shared → Prop} (hh : A.handled = none) (hl : s.heap.IsList l items) (hi : IntsAre items.toList ns) (hb : (firstMet (fun i => ns.getD i 0) items.size).length ≤ 63)
    (h : ∀ (h' : Heap) (tk : Nat), SetX prog w h' s.heap.objs.size (fun k' => (firstMet (fun i => ns.getD i 0) items.size).any (· == k')) (firstMet (fun i => ns.getD i 0) items.size).length →
      (∀ b o, b < s.heap.objs.size → s.heap.get? b = some o → h'.get? b = some o) → Q (.ref s.heap.objs.size) { s with heap := h', toks := tk }) :
    wpAny (model prog w) A (call (.type "set") [.ref l]) Q E s := by
  obtain ⟨c, tl, hmro⟩ := PySem.F.called_set.mro
  have hmade := PySem.F.called_set.made
  have hsub := PySem.F.called_set.sub
  refine wpAny_call (codeAny_of_tree ?_)
  show wpAny _ _ (callAny (.type "set") _) _ _ _
  refine wpAny_pure ⟨Code.quiet_builtin _ (by decide +kernel), codeAny_builtin PySem.F.entry_type_call ?_⟩
  rw [Around.under_plain (weight_type_call_type "set" [.ref l] []) rfl]
  have h1 := PySem.F.called_set.notType
  have h2 := PySem.F.called_set.canCreate
  have hct := PySem.F.typeCall_set_1 (.ref l)
  repeat (any_goals (first | assumption | wp_step))
  refine codeAny_mono (newX (.ref l) (E := E) (Q₁ := fun obj s₁ => obj = .ref s.heap.objs.size ∧ s₁ = { s with heap := s.heap.push { cls := .type "set", dict := none, data := .set #[] 0 (.fresh 0 0 (!byText w)) } }) ⟨rfl, rfl⟩) fun r s₁ hr => ?_
  cases r with
  | error e => exact hr
  | ok fl =>
    cases fl with
    | ret obj =>
      obtain ⟨rfl, rfl⟩ := hr
      have hS : (s.heap.push { cls := .type "set", dict := none, data := .set #[] 0 (.fresh 0 0 (!byText w)) }).get? s.heap.objs.size = some { cls := .type "set", dict := none, data := .set #[] 0 (.fresh 0 0 (!byText w)) } := Heap.get?_push_size _ rfl
      have hT : Shared.TypeIs { s with heap := s.heap.push { cls := .type "set", dict := none, data := .set #[] 0 (.fresh 0 0 (!byText w)) } } (.ref s.heap.objs.size) "set" := ⟨_, hS, rfl⟩
      have hli := PySem.F.called_set.init.lookup
      have hbi := PySem.F.called_set.init.bind (.ref s.heap.objs.size)
      repeat (any_goals (first | assumption | wp_step))
      refine codeAny_mono (codeAny_call_builtin (R := wants (fun r s₂ => r = .none ∧ ∃ h' tk, s₂ = { s with heap := h', toks := tk } ∧
          SetX prog w h' s.heap.objs.size (fun k' => (firstMet (fun i => ns.getD i 0) items.size).any (· == k')) (firstMet (fun i => ns.getD i 0) items.size).length ∧
          (∀ b o, b < s.heap.objs.size → s.heap.get? b = some o → h'.get? b = some o)) E) PySem.F.called_set.init.plain PySem.F.entry_set_init (check_set_init_1 hT ?_)) fun r₂ s₂ hr₂ => ?_
      · obtain ⟨ol, hol, hcl, nl, hdl⟩ := hl
        obtain ⟨ocls, odict, odata, oslots⟩ := ol
        simp only at hcl hdl
        subst hcl; subst hdl
        have hol' : (s.heap.push { cls := .type "set", dict := none, data := .set #[] 0 (.fresh 0 0 (!byText w)) }).get? l = some { cls := .type "list", dict := odict, data := .seq items nl, slots := oslots } := Heap.get?_push_of_some _ hol
        have hsls := PySem.F.sub_list_set
        have hslf := PySem.F.sub_list_frozenset
        have hne : (Value.type "list" == Value.type "dict") = false := by decide
        have hl1 : (s.heap.push { cls := .type "set", dict := none, data := .set #[] 0 (.fresh 0 0 (!byText w)) }).IsList l items := ⟨_, hol', rfl, nl, rfl⟩
        unfold Builtin.«set.__init__» noKeywords Builtin.Frozenset.updateFrom
        generalize hPI : pyIter = PI
        wp_walk
        subst hPI
        refine wpAny_pyIter_list hl1 ?_
        refine wpAny_bind (wpAny_runValue ?_)
        have hlS : l < s.heap.objs.size := Heap.lt_size hol
        have hh3 : A.in1.in1.in1.handled = none := by simp [hh]
        have hneI : l ≠ (s.heap.push { cls := .type "set", dict := none, data := .set #[] 0 (.fresh 0 0 (!byText w)) }).objs.size := by
          rw [Heap.size_push]; exact Nat.ne_of_lt (Nat.lt_succ_of_lt hlS)
        refine loopX hh3 hneI hi s.heap.objs.size (by rw [Heap.size_push]; exact Nat.ne_of_lt (Nat.lt_succ_self _)) (Nat.ne_of_gt hlS) hb (items.size - 0) 0 _ (by omega) (Nat.zero_le _)
          ⟨⟨_, Heap.get?_push_size _ rfl, rfl, rfl⟩, (hl1.push _)⟩ ?_ ?_
        · exact (freshX (Heap.get?_push_of_some _ hS)).congr (fun _ => rfl) rfl
        · intro h' tk' hk hS'
          show wpAny _ _ _ _ _ _
          refine wpAny_pure ?_
          show wpAny _ _ (ret Value.none) _ _ _
          refine wpAny_pure ⟨rfl, h', tk', rfl, hS', fun b o hb' e => ?_⟩
          exact hk b o (Nat.ne_of_lt hb') (by rw [Heap.size_push]; exact Nat.ne_of_lt (Nat.lt_succ_of_lt hb')) (Heap.get?_push_of_some _ (Heap.get?_push_of_some _ e))
      · cases r₂ with
        | error e => exact hr₂
        | ok fl₂ =>
          cases fl₂ with
          | ret r =>
            obtain ⟨rfl, h', tk, rfl, hS', hk'⟩ := hr₂
            repeat (any_goals (first | assumption | wp_step))
            exact h _ _ hS' hk'
          | _ => exact hr₂.elim
    | _ => exact hr.elim
end
end Mine

namespace Mine

def Ext (h h' : Heap) : Prop := ∀ b o, h.get? b = some o → h'.get? b = some o
theorem Ext.refl (h : Heap) : Ext h h := fun _ _ e => e
theorem Ext.trans {h₁ h₂ h₃ : Heap} (a : Ext h₁ h₂) (b : Ext h₂ h₃) : Ext h₁ h₃ := fun x o e => b x o (a x o e)
theorem Ext.push (h : Heap) (o : Obj) : Ext h (h.push o) := fun _ _ e => Heap.get?_push_of_some _ e
theorem Ext.none {h h' : Heap} {a : Addr} (x : Ext h h') (e : h'.get? a = none) : h.get? a = none := by
  cases q : h.get? a with
  | none => rfl
  | some o => rw [x a o q] at e; cases e
theorem push_new (h : Heap) : h.get? h.objs.size = none := by
  cases q : h.get? h.objs.size with
  | none => rfl
  | some o => exact absurd (Heap.lt_size q) (Nat.lt_irrefl _)

mutual
inductive Rd (h : Heap) : Value → PyData → List Addr → Prop
  | none : Rd h .none .none []
  | bool (b) : Rd h (.bool b) (.bool b) []
  | int (i t) : Rd h (.int i t) (.int i) []
  | str (x t) : Rd h (.str x t) (.str x) []
  | list {a : Addr} {vs : List Value} {n : Nat} {ds as} : h.get? a = some { cls := .type "list", data := .seq vs.toArray n } → RdAll h vs ds as → Rd h (.ref a) (.list ds) (a :: as)
  | tuple {a : Addr} {vs : List Value} {n : Nat} {ds as} : h.get? a = some { cls := .type "tuple", data := .seq vs.toArray n } → RdAll h vs ds as → Rd h (.ref a) (.tuple ds) as
inductive RdAll (h : Heap) : List Value → List PyData → List Addr → Prop
  | nil : RdAll h [] [] []
  | cons {v vs d ds as bs} : Rd h v d as → RdAll h vs ds bs → RdAll h (v :: vs) (d :: ds) (as ++ bs)
end

mutual
theorem Rd.reads {h : Heap} : ∀ {v d as}, Rd h v d as → Reads h v d as
  | _, _, _, .none => .none
  | _, _, _, .bool b => .bool b
  | _, _, _, .int i t => .int i t
  | _, _, _, .str x t => .str x t
  | _, _, _, .list e r => .list e rfl rfl (by simpa using r.reads)
  | _, _, _, .tuple e r => .tuple e rfl rfl (by simpa using r.reads)
theorem RdAll.reads {h : Heap} : ∀ {vs ds as}, RdAll h vs ds as → ReadsAll h vs ds as
  | _, _, _, .nil => .nil
  | _, _, _, .cons a b => .cons a.reads b.reads
end

/-- a change of the heap that a value read off `as` does not see -/
def Off (h h' : Heap) (as : List Addr) : Prop :=
  (∀ b ∈ as, ∀ o, h.get? b = some o → h'.get? b = some o) ∧ ∀ b xs n, h.get? b = some { cls := .type "tuple", data := .seq xs n } → h'.get? b = some { cls := .type "tuple", data := .seq xs n }
theorem Ext.off {h h' : Heap} (x : Ext h h') (as : List Addr) : Off h h' as := ⟨fun b _ o e => x b o e, fun b _ _ e => x b _ e⟩
theorem Off.mono {h h' : Heap} {as bs : List Addr} (x : Off h h' as) (s : ∀ b ∈ bs, b ∈ as) : Off h h' bs := ⟨fun b hb => x.1 b (s b hb), x.2⟩

mutual
theorem Rd.off {h h' : Heap} : ∀ {v d as}, Rd h v d as → Off h h' as → Rd h' v d as
  | _, _, _, .none, _ => .none
  | _, _, _, .bool b, _ => .bool b
  | _, _, _, .int i t, _ => .int i t
  | _, _, _, .str x t, _ => .str x t
  | _, _, _, .list e r, k => .list (k.1 _ (.head _) _ e) (r.off (k.mono fun _ hb => .tail _ hb))
  | _, _, _, .tuple e r, k => .tuple (k.2 _ _ _ e) (r.off k)
theorem RdAll.off {h h' : Heap} : ∀ {vs ds as}, RdAll h vs ds as → Off h h' as → RdAll h' vs ds as
  | _, _, _, .nil, _ => .nil
  | _, _, _, .cons a b, k => .cons (a.off (k.mono fun _ hb => List.mem_append_left _ hb)) (b.off (k.mono fun _ hb => List.mem_append_right _ hb))
end
theorem Rd.ext {h h' : Heap} {v d as} (r : Rd h v d as) (x : Ext h h') : Rd h' v d as := r.off (x.off as)
theorem RdAll.ext {h h' : Heap} {v d as} (r : RdAll h v d as) (x : Ext h h') : RdAll h' v d as := r.off (x.off as)

mutual
theorem Rd.dom {h : Heap} : ∀ {v d as}, Rd h v d as → ∀ a ∈ as, ∃ o, h.get? a = some o
  | _, _, _, .none, _, ha => by cases ha
  | _, _, _, .bool b, _, ha => by cases ha
  | _, _, _, .int i t, _, ha => by cases ha
  | _, _, _, .str x t, _, ha => by cases ha
  | _, _, _, .list e r, a, ha => by
    rcases List.mem_cons.mp ha with rfl | ha
    · exact ⟨_, e⟩
    · exact r.dom a ha
  | _, _, _, .tuple e r, a, ha => r.dom a ha
theorem RdAll.dom {h : Heap} : ∀ {vs ds as}, RdAll h vs ds as → ∀ a ∈ as, ∃ o, h.get? a = some o
  | _, _, _, .nil, _, ha => by cases ha
  | _, _, _, .cons x y, a, ha => by
    rcases List.mem_append.mp ha with ha | ha
    · exact x.dom a ha
    · exact y.dom a ha
end

theorem RdAll.length {h : Heap} : ∀ {vs ds as}, RdAll h vs ds as → vs.length = ds.length
  | _, _, _, .nil => rfl
  | _, _, _, .cons _ b => by simp [b.length]

theorem RdAll.append {h : Heap} : ∀ {vs ds as ws es bs}, RdAll h vs ds as → RdAll h ws es bs → RdAll h (vs ++ ws) (ds ++ es) (as ++ bs)
  | _, _, _, _, _, _, .nil, k => k
  | _, _, _, _, _, _, .cons a b, k => by rw [List.append_assoc]; exact .cons a (b.append k)

theorem RdAll.one {h : Heap} {v d as} (r : Rd h v d as) : RdAll h [v] [d] as := by simpa using RdAll.cons r .nil

theorem RdAll.get {h : Heap} : ∀ {vs ds as}, RdAll h vs ds as → ∀ {i : Nat} {v}, vs[i]? = some v → ∃ d bs, ds[i]? = some d ∧ Rd h v d bs ∧ ∀ b ∈ bs, b ∈ as
  | _, _, _, .nil, i, v, e => by simp at e
  | _, _, _, .cons a b, 0, v, e => by simp at e; subst e; exact ⟨_, _, rfl, a, fun b hb => List.mem_append_left _ hb⟩
  | _, _, _, .cons a b, i + 1, v, e => by
    obtain ⟨d, bs, h1, h2, h3⟩ := b.get (i := i) (v := v) (by simpa using e)
    exact ⟨d, bs, by simpa using h1, h2, fun b hb => List.mem_append_right _ (h3 b hb)⟩

theorem RdAll.get' {h : Heap} {vs ds as} (r : RdAll h vs ds as) {i : Nat} {d} (e : ds[i]? = some d) : ∃ v bs, vs[i]? = some v ∧ Rd h v d bs ∧ ∀ b ∈ bs, b ∈ as := by
  have hi : i < vs.length := by rw [r.length]; exact (List.getElem?_eq_some_iff.mp e).1
  obtain ⟨d', bs, h1, h2, h3⟩ := r.get (i := i) (v := vs[i]) (by simp [hi])
  rw [e] at h1; cases h1
  exact ⟨vs[i], bs, by simp [hi], h2, h3⟩

/-- data that holds no list -/
def Flat : PyData → Prop
  | .none | .bool _ | .int _ | .str _ => True
  | _ => False
theorem Rd.flat {h : Heap} {v d as} (r : Rd h v d as) (f : Flat d) : as = [] := by cases r <;> first | rfl | cases f

def iL (xs : List Int) : PyData := .list (xs.map .int)
theorem RdAll.iL_nil {h : Heap} : ∀ {vs : List Value} {xs : List Int} {as}, RdAll h vs (xs.map .int) as → as = []
  | [], [], _, .nil => rfl
  | _ :: _, _ :: _, _, .cons a b => by rw [a.flat trivial, b.iL_nil]; rfl
theorem RdAll.intsAre {h : Heap} : ∀ {vs : List Value} {xs : List Int} {as}, RdAll h vs (xs.map .int) as → IntsAre vs xs
  | [], [], _, .nil => .nil
  | _ :: _, _ :: _, _, .cons a b => by cases a; exact .cons _ _ b.intsAre

/-! ### the frame -/
def VarAt (h : Heap) (env : Env) (x : Str) (v : Value) : Prop :=
  (env.kindOf x = some .local ∧ ∃ m, h.Ns env.locals m ∧ m x = some v) ∨
  ((env.kindOf x = some .cell ∨ env.kindOf x = some .free) ∧ ∃ c, env.cells.lookup x = some c ∧ h.IsCell c (some v))

theorem VarAt.ext {h h' : Heap} {env : Env} {x : Str} {v : Value} (r : VarAt h env x v) (e : Ext h h') : VarAt h' env x v := by
  rcases r with ⟨k, m, hn, hm⟩ | ⟨k, c, hc, hv⟩
  · exact .inl ⟨k, m, hn.keeps e, hm⟩
  · exact .inr ⟨k, c, hc, hv.keeps e⟩

def FrameAddr (env : Env) (a : Addr) : Prop := a = env.locals ∨ ∃ n, env.cells.lookup n = some a

structure EnvOk (env : Env) : Prop where
  kind : env.scope.kind = .function
  globals : env.globals = mainGlobals
  builtins : env.builtins = builtinsNs
  apart : env.cells.Pairwise fun x y => x.2 ≠ y.2
  all : ∀ n, (env.kindOf n = some .cell ∨ env.kindOf n = some .free) → ∃ c, env.cells.lookup n = some c

/-- the frame's own objects: the names' dict and the cells -/
structure FrameOk (h : Heap) (env : Env) : Prop where
  ns : ∃ m, h.Ns env.locals m
  cells : ∀ n c, env.cells.lookup n = some c → ∃ v, h.IsCell c v

theorem FrameOk.ext {h h' : Heap} {env : Env} (F : FrameOk h env) (e : Ext h h') : FrameOk h' env :=
  ⟨let ⟨m, hn⟩ := F.ns; ⟨m, hn.keeps e⟩, fun n c hc => let ⟨v, hv⟩ := F.cells n c hc; ⟨v, hv.keeps e⟩⟩

/-- an object that holds no items -/
def NoSeq (h : Heap) (a : Addr) : Prop := ∃ o, h.get? a = some o ∧ ∀ xs n, o.data ≠ .seq xs n
theorem FrameOk.noSeq {h : Heap} {env : Env} (F : FrameOk h env) {a : Addr} (x : FrameAddr env a) : NoSeq h a := by
  rcases x with rfl | ⟨n, hc⟩
  · obtain ⟨m, o, es, ep, ho, hd, _⟩ := F.ns; exact ⟨o, ho, fun _ _ q => by rw [hd] at q; cases q⟩
  · obtain ⟨v, o, ho, hd⟩ := F.cells n a hc; exact ⟨o, ho, fun _ _ q => by rw [hd] at q; cases q⟩
end Mine

namespace Mine

/-- a statement that is not unfolded by itself -/
structure Hide (p : Prop) : Prop where
  run : p

structure Cx where
  prog : Program
  w : World
  h₀ : Heap
  mg : Str → Option Value
  mb : Str → Option Value

structure Cx.Ok (K : Cx) (h : Heap) : Prop where
  g : K.h₀.Ns mainGlobals K.mg
  b : K.h₀.Ns builtinsNs K.mb
  lim : K.h₀.NoLimit
  ext : Ext K.h₀ h
theorem Cx.Ok.mono {K : Cx} {h h' : Heap} (o : K.Ok h) (e : Ext h h') : K.Ok h' := ⟨o.g, o.b, o.lim, o.ext.trans e⟩

structure Room (A : Around) (n : Nat) : Prop where
  quiet : A.handled = none
  depth : A.depth + n < recursionLimit
  units : A.units + 8 * n + 200 < cLine

inductive D where
  | py (d : PyData)
  | set (xs : List Int)
  | dict (kvs : List (Int × PyData))

def RdD (K : Cx) (h : Heap) (v : Value) : D → List Addr → Prop
  | .py d, as => Rd h v d as
  | .set xs, as => ∃ a, v = .ref a ∧ as = [a] ∧ xs.Nodup ∧ SetX K.prog K.w h a (fun k => decide (k ∈ xs)) xs.length
  | .dict kvs, as => ∃ a vs as', v = .ref a ∧ as = a :: as' ∧ (a == sysModules) = false ∧ vs.length = kvs.length ∧
      h.DictOf (intKind K.prog K.w) a ((kvs.map (·.1)).zip vs) ∧ RdAll h vs (kvs.map (·.2)) as'

theorem RdD.off {K : Cx} {h h' : Heap} {v : Value} {d : D} {as : List Addr} (r : RdD K h v d as) (k : Off h h' as) : RdD K h' v d as := by
  cases d with
  | py d => exact Rd.off r k
  | set xs =>
    obtain ⟨a, rfl, rfl, hn, o, es, ep, t, ho, r⟩ := r
    exact ⟨a, rfl, rfl, hn, o, es, ep, t, k.1 a (.head _) o ho, r⟩
  | dict kvs =>
    obtain ⟨a, vs, as', rfl, rfl, hs, hl, hd, hr⟩ := r
    refine ⟨a, vs, as', rfl, rfl, hs, hl, ?_, hr.off (k.mono fun _ hb => .tail _ hb)⟩
    obtain ⟨o, es, ep, ho, r⟩ := hd
    exact ⟨o, es, ep, k.1 a (.head _) o ho, r⟩
theorem RdD.ext {K : Cx} {h h' : Heap} {v : Value} {d : D} {as : List Addr} (r : RdD K h v d as) (x : Ext h h') : RdD K h' v d as := r.off (x.off as)
theorem RdD.dom {K : Cx} {h : Heap} {v : Value} {d : D} {as : List Addr} (r : RdD K h v d as) : ∀ a ∈ as, ∃ o, h.get? a = some o := by
  cases d with
  | py d => exact Rd.dom r
  | set xs =>
    obtain ⟨a, rfl, rfl, hn, o, es, ep, t, ho, r⟩ := r
    intro b hb; rw [List.mem_singleton.mp hb]; exact ⟨_, ho⟩
  | dict kvs =>
    obtain ⟨a, vs, as', rfl, rfl, hs, hl, ⟨o, es, ep, ho, _⟩, hr⟩ := r
    intro b hb
    rcases List.mem_cons.mp hb with rfl | hb
    · exact ⟨_, ho⟩
    · exact hr.dom b hb

structure In (K : Cx) (n : Nat) (sc : Scope) (X : Addr → Prop) (ρ : List (Str × D)) (A : Around) (env : Env) (h : Heap) : Prop where
  room : Room A n
  ok : K.Ok h
  hsc : env.scope = sc
  henv : EnvOk env
  frame : FrameOk h env
  dom : ∀ a, X a → ∃ o, h.get? a = some o
  vars : ∀ x d, ρ.lookup x = some d → ∃ v as, VarAt h env x v ∧ RdD K h v d as ∧ ∀ a ∈ as, ¬ X a

theorem In.ext {K n sc X ρ A env h h'} (I : In K n sc X ρ A env h) (e : Ext h h') : In K n sc X ρ A env h' :=
  ⟨I.room, I.ok.mono e, I.hsc, I.henv, I.frame.ext e, fun a ha => let ⟨o, ho⟩ := I.dom a ha; ⟨o, e a o ho⟩,
    fun x d hx => let ⟨v, as, h1, h2, h3⟩ := I.vars x d hx; ⟨v, as, h1.ext e, h2.ext e, h3⟩⟩

/-- what is so when a tree has come to a value that reads as `d`: the heap has only grown -/
structure Got (K : Cx) (h : Heap) (X : Addr → Prop) (d : D) (fr : Bool) (v : Value) (h' : Heap) (as : List Addr) : Prop where
  ext : Ext h h'
  rd : RdD K h' v d as
  off : ∀ a ∈ as, ¬ X a
  new : fr = true → as.Nodup ∧ ∀ a ∈ as, h.get? a = none

def Post (K : Cx) (s : Shared) (X : Addr → Prop) (d : D) (fr : Bool) (v : Value) (s' : Shared) : Prop :=
  ∃ h' tk as, s' = { s with heap := h', toks := tk } ∧ Got K s.heap X d fr v h' as

def Ev (K : Cx) (n : Nat) (sc : Scope) (ρ : List (Str × D)) (e : Expr) (d : D) (fr : Bool) : Prop := Hide <|
  ∀ {A : Around} {env : Env} {s : Shared} {X : Addr → Prop} {E : Value → Shared → Prop}, In K n sc X ρ A env s.heap →
    wpAny (model K.prog K.w) A (eval e env) (Post K s X d fr) E s

/-- a test comes out as b -/
def Tr (K : Cx) (n : Nat) (sc : Scope) (ρ : List (Str × D)) (e : Expr) (b : Bool) : Prop := Hide <|
  ∀ {A : Around} {env : Env} {s : Shared} {X : Addr → Prop} {E : Value → Shared → Prop}, In K n sc X ρ A env s.heap →
    wpAny (model K.prog K.w) A (isTrue e env (eval e env)) (fun b' s' => b' = b ∧ ∃ h' tk, s' = { s with heap := h', toks := tk } ∧ Ext s.heap h') E s

theorem Ev.cast {K n sc ρ e d d' fr} (h : Ev K n sc ρ e d fr) (q : d = d') : Ev K n sc ρ e d' fr := q ▸ h
theorem Ev.weak {K n sc ρ e d fr} (h : Ev K n sc ρ e d fr) : Ev K n sc ρ e d false := Hide.mk fun I =>
  wpAny_mono (h.run I) (fun _ _ ⟨h', tk, as, e, g⟩ => ⟨h', tk, as, e, g.ext, g.rd, g.off, nofun⟩) fun _ _ x => x
theorem Tr.cast {K n sc ρ e b b'} (h : Tr K n sc ρ e b) (q : b = b') : Tr K n sc ρ e b' := q ▸ h

/-- a tree that comes to plain data: no heap object is named -/
theorem Got.flat {K : Cx} {h h' : Heap} {X : Addr → Prop} {d : PyData} {fr : Bool} {v : Value} (e : Ext h h') (r : Rd h' v d []) : Got K h X (.py d) fr v h' [] :=
  ⟨e, r, nofun, fun _ => ⟨.nil, nofun⟩⟩

theorem shared_eta (s : Shared) : s = { s with heap := s.heap, toks := s.toks } := by cases s; rfl

theorem Post.flat {K : Cx} {s : Shared} {X : Addr → Prop} {d : PyData} {fr : Bool} {v : Value} {h' : Heap} {tk : Nat} (e : Ext s.heap h') (r : Rd h' v d []) : Post K s X (.py d) fr v { s with heap := h', toks := tk } :=
  ⟨h', tk, [], rfl, .flat e r⟩
theorem Post.flat0 {K : Cx} {s : Shared} {X : Addr → Prop} {d : PyData} {fr : Bool} {v : Value} (r : Rd s.heap v d []) : Post K s X (.py d) fr v s := by
  rw [shared_eta s] at r ⊢; exact .flat (.refl _) r

/-! ### names and constants -/
theorem loadName_at {M : Model} {A : Around} {E : Value → Shared → Prop} {s : Shared} {env : Env} {x : Str} {v : Value} {Q : Value → Shared → Prop}
    (k : EnvOk env) (r : VarAt s.heap env x v) (h : Q v s) (hx : (x == ("__classdict__" : Str)) = false) : wpAny M A (loadName env x) Q E s := by
  rcases r with ⟨hl, m, hn, hm⟩ | ⟨hl | hl, c, hc, hv⟩
  · exact wpAny_loadName_local k.kind hl hn hm h
  · exact wpAny_loadName_cell k.kind hl hc hv h
  · exact wpAny_loadName_free k.kind hl hc hv h hx

theorem Ev.name {K n sc ρ} {x : Str} {pos : Pos} {d : D} (hx : ρ.lookup x = some d) (hd : (x == ("__debug__" : Str)) = false := by decide) (hc : (x == ("__classdict__" : Str)) = false := by decide) :
    Ev K n sc ρ (.Name x pos) d false := Hide.mk fun {A env s X E} I => by
  obtain ⟨v, as, h1, h2, h3⟩ := I.vars x d hx
  refine wpAny_Name (loadName_at I.henv h1 ?_ hc) hd
  exact ⟨s.heap, s.toks, as, shared_eta s, .refl _, h2, h3, nofun⟩
theorem Ev.cInt {K n sc ρ} {i : Int} {k : Nat} {pos : Pos} : Ev K n sc ρ (.Constant (.int i) k pos) (.py (.int i)) true :=
  Hide.mk fun {A env s X E} _ => wpAny_Constant_int (Post.flat (.refl _) (.int ..))
theorem Ev.cBool {K n sc ρ} {b : Bool} {k : Nat} {pos : Pos} : Ev K n sc ρ (.Constant (.bool b) k pos) (.py (.bool b)) true :=
  Hide.mk fun {A env s X E} _ => wpAny_pure (Post.flat0 (.bool b))
theorem Ev.cNone {K n sc ρ} {k : Nat} {pos : Pos} : Ev K n sc ρ (.Constant .none k pos) (.py .none) true :=
  Hide.mk fun {A env s X E} _ => wpAny_pure (Post.flat0 .none)
/-! ### two trees one behind the other -/
theorem Ev.then {K n sc ρ} {a b : Expr} {da db : D} {fa fb : Bool} {A : Around} {env : Env} {s : Shared} {X : Addr → Prop} {E : Value → Shared → Prop} {Q : Value → Value → Shared → Prop}
    (ha : Ev K n sc ρ a da fa) (hb : Ev K n sc ρ b db fb) (I : In K n sc X ρ A env s.heap)
    (k : ∀ va vb h₁ h₂ tk as bs, Got K s.heap X da fa va h₁ as → Got K h₁ X db fb vb h₂ bs → Q va vb { s with heap := h₂, toks := tk }) :
    wpAny (model K.prog K.w) A (eval a env) (fun va s₁ => wpAny (model K.prog K.w) A (eval b env) (fun vb s₂ => Q va vb s₂) E s₁) E s := by
  refine wpAny_mono (ha.run I) (fun va s₁ p => ?_) fun _ _ x => x
  obtain ⟨h₁, tk₁, as, rfl, ga⟩ := p
  refine wpAny_mono (hb.run (s := { s with heap := h₁, toks := tk₁ }) (X := X) (I.ext ga.ext)) (fun vb s₂ p => ?_) fun _ _ x => x
  obtain ⟨h₂, tk₂, bs, rfl, gb⟩ := p
  exact k va vb h₁ h₂ tk₂ as bs ga gb
end Mine

namespace Mine

def Eff (W : Addr → Prop) (h h' : Heap) : Prop := ∀ b o, ¬ W b → h.get? b = some o → h'.get? b = some o
theorem Eff.refl (W : Addr → Prop) (h : Heap) : Eff W h h := fun _ _ _ e => e
theorem Eff.trans {W : Addr → Prop} {h₁ h₂ h₃ : Heap} (a : Eff W h₁ h₂) (b : Eff W h₂ h₃) : Eff W h₁ h₃ := fun x o hx e => b x o hx (a x o hx e)
theorem Eff.mono {W W' : Addr → Prop} {h h' : Heap} (a : Eff W h h') (s : ∀ b, W b → W' b) : Eff W' h h' := fun x o hx e => a x o (fun w => hx (s x w)) e
theorem Ext.eff {h h' : Heap} (e : Ext h h') (W : Addr → Prop) : Eff W h h' := fun b o _ x => e b o x
theorem Eff.of_sameBut {a : Addr} {h h' : Heap} (x : Heap.SameBut a h h') : Eff (· = a) h h' := fun b o hb e => (x.2 b hb).trans e
theorem Eff.ext {W : Addr → Prop} {b h h' : Heap} (x : Eff W h h') (e : Ext b h) (n : ∀ a, W a → b.get? a = none) : Ext b h' := fun a o ha =>
  x a o (fun w => by rw [n a w] at ha; cases ha) (e a o ha)

def NoTup (h : Heap) (a : Addr) : Prop := ∀ xs n, h.get? a ≠ some { cls := .type "tuple", data := .seq xs n }
theorem Eff.off {W : Addr → Prop} {h h' : Heap} {as : List Addr} (x : Eff W h h') (n : ∀ a ∈ as, ¬ W a) (t : ∀ a, W a → NoTup h a) : Off h h' as :=
  ⟨fun b hb o e => x b o (n b hb) e, fun b xs m e => x b _ (fun w => t b w xs m e) e⟩
theorem NoSeq.noTup {h : Heap} {a : Addr} (x : NoSeq h a) : NoTup h a := fun xs n e => by
  obtain ⟨o, ho, hd⟩ := x; rw [ho] at e; cases e; exact hd _ _ rfl
theorem PlainList.noTup {h : Heap} {a : Addr} {xs} (x : h.PlainList a xs) : NoTup h a := fun ys n e => by
  obtain ⟨m, ho⟩ := x; rw [ho] at e; exact absurd (congrArg Obj.cls (Option.some.inj e)) (show ¬ (Value.type "list" = Value.type "tuple") by decide)
theorem NoTup.of_none {h : Heap} {a : Addr} (x : h.get? a = none) : NoTup h a := fun xs n e => by rw [x] at e; cases e

/-- the address that a store of x changes -/
def StoreAddr (env : Env) (x : Str) (a : Addr) : Prop :=
  (env.kindOf x = some .local ∧ a = env.locals) ∨ (env.kindOf x = some .cell ∧ env.cells.lookup x = some a)
theorem StoreAddr.frame {env : Env} {x : Str} {a : Addr} (s : StoreAddr env x a) : FrameAddr env a := by
  rcases s with ⟨_, rfl⟩ | ⟨_, h⟩
  · exact .inl rfl
  · exact .inr ⟨_, h⟩

theorem ns_ne_cell {h : Heap} {a c : Addr} {m : Str → Option Value} {v : Option Value} (hn : h.Ns a m) (hc : h.IsCell c v) : a ≠ c := by
  rintro rfl
  obtain ⟨o, es, ep, ho, hd, _⟩ := hn
  obtain ⟨o', ho', hd'⟩ := hc
  rw [ho] at ho'; cases ho'; rw [hd] at hd'; cases hd'

structure Stored (env : Env) (x : Str) (v : Value) (h h' : Heap) : Prop where
  frame : FrameOk h' env
  at_ : VarAt h' env x v
  others : ∀ y u, y ≠ x → VarAt h env y u → VarAt h' env y u

theorem store_at {M : Model} {A : Around} {E : Value → Shared → Prop} {s : Shared} {env : Env} {x : Str} {v : Value} {a : Addr} {Q : Unit → Shared → Prop}
    (k : EnvOk env) (F : FrameOk s.heap env) (sa : StoreAddr env x a)
    (h : ∀ h' tk, Heap.SameBut a s.heap h' → Stored env x v s.heap h' → Q () { s with heap := h', toks := tk }) : wpAny M A (storeName env x v) Q E s := by
  obtain ⟨m, hm⟩ := F.ns
  rcases sa with ⟨hl, rfl⟩ | ⟨hl, hc⟩
  · refine wpAny_storeName_local hl hm (fun h' hn hs => h h' _ hs ⟨⟨⟨_, hn⟩, fun n c hc => ?_⟩, .inl ⟨hl, _, hn, by simp⟩, fun y u hy r => ?_⟩) (by rw [k.kind]; rfl)
    · obtain ⟨u, hu⟩ := F.cells n c hc
      exact ⟨u, hu.sameBut hs (ns_ne_cell hm hu).symm⟩
    · rcases r with ⟨hly, m', hn', hm'⟩ | ⟨hly, c, hc, hv⟩
      · refine .inl ⟨hly, _, hn, ?_⟩
        have e : m y = m' y := by
          obtain ⟨o1, es1, ep1, ho1, hd1, _, q1⟩ := hm
          obtain ⟨o2, es2, ep2, ho2, hd2, _, q2⟩ := hn'
          rw [ho1] at ho2; cases ho2
          rw [hd1] at hd2; cases hd2
          rw [← q1 y, ← q2 y]
        show (if y = x then _ else m y) = some u
        rw [if_neg hy, e, hm']
      · exact .inr ⟨hly, c, hc, hv.sameBut hs (ns_ne_cell hm hv).symm⟩
  · obtain ⟨u₀, hu₀⟩ := F.cells x a hc
    refine wpAny_storeName_cell k.kind hl hc hu₀ fun h' hv hs => ?_
    have := h h' s.toks hs ⟨⟨⟨m, hm.sameBut hs (ns_ne_cell hm hu₀)⟩, fun n c hc' => ?_⟩, .inr ⟨.inl hl, a, hc, hv⟩, fun y u hy r => ?_⟩
    · exact this
    · by_cases q : c = a
      · subst q; exact ⟨_, hv⟩
      · obtain ⟨w, hw⟩ := F.cells n c hc'; exact ⟨w, hw.sameBut hs q⟩
    · rcases r with ⟨hly, m', hn', hm'⟩ | ⟨hly, c, hc', hv'⟩
      · exact .inl ⟨hly, m', hn'.sameBut hs (ns_ne_cell hn' hu₀), hm'⟩
      · refine .inr ⟨hly, c, hc', hv'.sameBut hs fun q => hy ?_⟩
        subst q
        exact name_of_addr k.apart (mem_of_lookup hc') (mem_of_lookup hc)

theorem In.stored {K n sc X ρ A env h h' x v d a as} (I : In K n sc X ρ A env h) (F : FrameOk h env) (sa : StoreAddr env x a) (st : Stored env x v h h') (hs : Heap.SameBut a h h')
    (hX : X a) (hK : K.h₀.get? a = none) (rd : RdD K h v d as) (off : ∀ b ∈ as, ¬ X b) : In K n sc X ((x, d) :: ρ) A env h' := by
  have hT : ∀ b, b = a → NoTup h b := fun b q => q ▸ (F.noSeq sa.frame).noTup
  have eff := Eff.of_sameBut hs
  refine ⟨I.room, ⟨I.ok.g, I.ok.b, I.ok.lim, eff.ext I.ok.ext fun b q => q ▸ hK⟩, I.hsc, I.henv, st.frame, fun b hb => ?_, fun y d' hy => ?_⟩
  · by_cases q : b = a
    · subst q; obtain ⟨o, ho, _⟩ := st.frame.noSeq sa.frame; exact ⟨o, ho⟩
    · obtain ⟨o, ho⟩ := I.dom b hb; exact ⟨o, eff b o q ho⟩
  · rw [List.lookup_cons] at hy
    by_cases q : y = x
    · subst q
      simp only [beq_self_eq_true] at hy; cases hy
      exact ⟨v, as, st.at_, rd.off (eff.off (fun b hb q => off b hb (q ▸ hX)) hT), off⟩
    · have : (y == x) = false := by simpa using q
      simp only [this] at hy
      obtain ⟨u, bs, h1, h2, h3⟩ := I.vars y d' hy
      exact ⟨u, bs, st.others y u q h1, h2.off (eff.off (fun b hb q => h3 b hb (q ▸ hX)) hT), h3⟩

/-- forget names -/
theorem In.sub {K n sc X ρ ρ' A env h} (I : In K n sc X ρ A env h) (s : ∀ x d, ρ'.lookup x = some d → ρ.lookup x = some d) : In K n sc X ρ' A env h :=
  ⟨I.room, I.ok, I.hsc, I.henv, I.frame, I.dom, fun x d hx => I.vars x d (s x d hx)⟩
end Mine

namespace Mine

/-! ### things that are gone through one by one -/
def plainIter (h : Heap) (a : Addr) : Prop :=
  ∃ o nm vs, h.get? a = some o ∧ o.cls = .type nm ∧ ["enumerate", "zip", "dict_itemiterator", "dict_reverseitemiterator", "odict_iterator", "itertools.zip_longest", "itertools.pairwise"].contains nm = false ∧ o.data = .fields vs
theorem plainIter.noTup {h : Heap} {a : Addr} (x : plainIter h a) : NoTup h a := fun xs n e => by
  obtain ⟨o, nm, vs, ho, _, _, hd⟩ := x; rw [ho] at e; cases e; cases hd
theorem plainIter.some {h : Heap} {a : Addr} (x : plainIter h a) : ∃ o, h.get? a = some o := let ⟨o, _, _, ho, _⟩ := x; ⟨o, ho⟩
theorem plainIter.not_frame {h : Heap} {a : Addr} {env : Env} (x : plainIter h a) (F : FrameOk h env) : ¬ FrameAddr env a := by
  obtain ⟨o, nm, vs, ho, _, _, hd⟩ := x
  rintro (rfl | ⟨n, hc⟩)
  · obtain ⟨m, o', es, ep, ho', hd', _⟩ := F.ns; rw [ho] at ho'; cases ho'; rw [hd] at hd'; cases hd'
  · obtain ⟨v, o', ho', hd'⟩ := F.cells n a hc; rw [ho] at ho'; cases ho'; rw [hd] at hd'; cases hd'
theorem plainIter.not_list {h : Heap} {a : Addr} {xs} (x : plainIter h a) : ¬ h.PlainList a xs := by
  obtain ⟨o, nm, vs, ho, _, _, hd⟩ := x
  rintro ⟨n, e⟩; rw [ho] at e; cases e; cases hd

structure It (K : Cx) (A : Around) where
  I : Addr
  fp : List Addr
  n : Nat
  P : Nat → Value → Prop
  St : Nat → Heap → Prop
  W : Walks K.prog K.w A I fp [I] n P St
  plain : ∀ i h, St i h → plainIter h I

structure ItAt {K : Cx} {A : Around} (t : It K A) (i : Nat) (b h : Heap) (X : Addr → Prop) (ds : List PyData) : Prop where
  st : t.St i h
  len : t.n = ds.length
  off : ∀ a ∈ t.fp, ¬ X a
  new : b.get? t.I = none
  dom : ∀ a ∈ t.fp, ∃ o, h.get? a = some o
  items : ∀ j v, t.P j v → ∃ d as, ds[j]? = some d ∧ Rd h v d as ∧ ∀ a ∈ as, ¬ X a ∧ a ≠ t.I

/-- the heap changes where neither the thing gone through nor its items lie -/
theorem ItAt.eff {K : Cx} {A : Around} {t : It K A} {i : Nat} {b h h' : Heap} {X W : Addr → Prop} {ds : List PyData} (x : ItAt t i b h X ds) (e : Eff W h h') (sub : ∀ a, W a → X a) (nt : ∀ a, W a → NoTup h a) :
    ItAt t i b h' X ds where
  st := t.W.frame i h h' x.st fun a ha o ho => e a o (fun w => x.off a ha (sub a w)) ho
  len := x.len
  off := x.off
  new := x.new
  dom := fun a ha => let ⟨o, ho⟩ := x.dom a ha; ⟨o, e a o (fun w => x.off a ha (sub a w)) ho⟩
  items := fun j v hv => let ⟨d, as, h1, h2, h3⟩ := x.items j v hv
    ⟨d, as, h1, h2.off (e.off (fun a ha w => (h3 a ha).1 (sub a w)) nt), h3⟩

/-- what a thing's items are -/
def EvIt (K : Cx) (n : Nat) (sc : Scope) (ρ : List (Str × D)) (e : Expr) (ds : List PyData) : Prop := Hide <|
  ∀ {A : Around} {env : Env} {s : Shared} {X : Addr → Prop} {E : Value → Shared → Prop} {Q : Value → Shared → Prop}, In K n sc X ρ A env s.heap →
    (∀ (t : It K A) h' tk, Ext s.heap h' → ItAt t 0 s.heap h' X ds → Q (.ref t.I) { s with heap := h', toks := tk }) →
    wpAny (model K.prog K.w) A (eval e env) (fun x s₁ => wpAny (model K.prog K.w) A (pyIter x) Q E s₁) E s

def listIt (K : Cx) {A : Around} (hh : A.handled = none) (I ax : Addr) (hne : ax ≠ I) (items : Array Value) : It K A where
  I := I
  fp := [I, ax]
  n := items.size
  P := fun i v => items[i]? = some v
  St := fun i h => h.IsListIter I ax i ∧ h.IsList ax items
  W := Walks.list hh I ax hne items
  plain := fun i h st => by
    obtain ⟨⟨o, ho, hc, hd⟩, _⟩ := st
    exact ⟨o, "list_iterator", _, ho, hc, by decide, hd⟩

/-- one item more is taken -/
theorem ItAt.next {K : Cx} {A : Around} {t : It K A} {i : Nat} {b h h' : Heap} {X : Addr → Prop} {ds : List PyData} (x : ItAt t i b h X ds) (st : t.St (i + 1) h') (e : Eff (· = t.I) h h') : ItAt t (i + 1) b h' X ds where
  st := st
  len := x.len
  off := x.off
  new := x.new
  dom := fun a ha => by
    by_cases q : a = t.I
    · subst q; exact (t.plain _ _ st).some
    · let ⟨o, ho⟩ := x.dom a ha; exact ⟨o, e a o q ho⟩
  items := fun j v hv => let ⟨d, as, h1, h2, h3⟩ := x.items j v hv
    ⟨d, as, h1, h2.off (e.off (fun a ha q => (h3 a ha).2 q) fun a ha => ha ▸ (t.plain _ _ x.st).noTup), h3⟩

theorem Ev.iter {K n sc ρ e ds fr} (h : Ev K n sc ρ e (.py (.list ds)) fr) : EvIt K n sc ρ e ds := Hide.mk fun {A env s X E Q} I k => by
  refine wpAny_mono (h.run I) (fun v s₁ p => ?_) fun _ _ x => x
  obtain ⟨h₁, tk, as, rfl, g⟩ := p
  have rd : Rd h₁ v (.list ds) as := g.rd
  cases rd with
  | @list a vs m ds as e r =>
    have hne : a ≠ h₁.objs.size := Nat.ne_of_lt (Heap.lt_size e)
    refine wpAny_pyIter_list (items := vs.toArray) ⟨_, e, rfl, _, rfl⟩ ?_
    refine k (listIt K I.room.quiet h₁.objs.size a hne vs.toArray) _ _ (g.ext.trans (Ext.push _ _)) ⟨?_, ?_, ?_, ?_, ?_, ?_⟩
    · exact ⟨⟨_, Heap.get?_push_size _ rfl, rfl, rfl⟩, ⟨_, Heap.get?_push_of_some _ e, rfl, _, rfl⟩⟩
    · show vs.toArray.size = _; simp [r.length]
    · intro b hb
      rcases List.mem_cons.mp hb with rfl | hb
      · intro hx; obtain ⟨o, ho⟩ := I.dom _ hx; have := g.ext _ _ ho; rw [push_new] at this; cases this
      · rw [List.mem_singleton.mp hb]; exact g.off a (.head _)
    · exact g.ext.none (push_new _)
    · intro b hb
      rcases List.mem_cons.mp hb with rfl | hb
      · exact ⟨_, Heap.get?_push_size _ rfl⟩
      · rw [List.mem_singleton.mp hb]; exact ⟨_, Heap.get?_push_of_some _ e⟩
    · intro j v hv
      have hv' : vs[j]? = some v := by
        have : vs.toArray[j]? = some v := hv
        simpa using this
      obtain ⟨d, bs, h1, h2, h3⟩ := r.get hv'
      refine ⟨d, bs, h1, h2.ext (Ext.push _ _), fun b hb => ⟨g.off b (.tail _ (h3 b hb)), ?_⟩⟩
      intro hm'
      obtain ⟨o, ho⟩ := h2.dom b hb
      have hm' : b = h₁.objs.size := hm'
      rw [hm', push_new] at ho; cases ho
end Mine

namespace Mine

def testsT (ifs : List Expr) (env : Env) : Sem Bool :=
  forIn ifs true fun c r => if r = true then do let ok ← isTrue c env (eval c env); pure (ForInStep.yield ok) else pure (ForInStep.yield r)

/-- what follows behind the clauses ahead of the k-th: a clause more, or the element -/
def BodyWp (M : Model) (A : Around) (elt : Expr) (gens : List Comprehension) (scope : Scope) (pos : Pos) (k : Nat) (acc : Value) (env : Env) (Q : Shared → Prop) (E : Value → Shared → Prop) (s : Shared) : Prop :=
  match gens[k]? with
  | some g => wpAny M A (eval g.iter env) (fun x s₁ => wpAny M A (pyIter x) (fun it s₂ =>
      wpAny M A (runOwn (.compStart (.ListComp elt gens scope pos) k it acc env) env) (fun _ s₃ => Q s₃) E s₂) E s₁) E s
  | none => wpAny M A (eval elt env) (fun x s₁ => wpAny M A (call (.builtin "list.append") [acc, x]) (fun _ s₂ => Q s₂) E s₁) E s

def GensOk (gens : List Comprehension) : Prop := ∀ g ∈ gens, g.is_async = 0 ∧ ∀ env x, foldedSetIterable g.iter env x = pure x

theorem wpAny_compTurn {M : Model} {A : Around} {E : Value → Shared → Prop} {s : Shared} {elt : Expr} {gens : List Comprehension} {scope : Scope} {pos : Pos} {k : Nat} {it acc : Value} {env : Env} {tgt iter : Expr} {ifs : List Expr} {Q : Fin → Shared → Prop}
    (hk : gens[k]? = some ⟨tgt, iter, ifs, 0⟩) (hn : GensOk gens)
    (h : wpAny M A (pyNext it) (fun r s₁ => match r with
      | none => Q (.done .next) s₁
      | some v => wpAny M A (letOwnedTupleGo tgt it v) (fun _ s₁' => wpAny M A (assign tgt env v) (fun _ s₂ => wpAny M A (testsT ifs env) (fun ok s₃ =>
          if ok = true then BodyWp M A elt gens scope pos (k + 1) acc env (fun s₄ => Q (.again (.compLoop (.ListComp elt gens scope pos) k it acc env)) s₄) E s₃
          else Q (.again (.compLoop (.ListComp elt gens scope pos) k it acc env)) s₃) E s₂) E s₁') E s₁) E s) :
    wpAny M A (compTurn (.ListComp elt gens scope pos) k it acc env) Q E s := by
  unfold compTurn
  simp only [hk]
  refine wpAny_bind (wpAny_standAt (wpAny_bind (wpAny_mono h (fun r s₁ h₁ => ?_) fun _ _ x => x)))
  cases r with
  | none => exact wpAny_pure h₁
  | some v =>
    refine wpAny_bind (wpAny_mono h₁ (fun _ s₁' h₁' => wpAny_bind (wpAny_mono h₁' (fun _ s₂ h₂ => wpAny_bind (wpAny_mono h₂ (fun ok s₃ h₃ => ?_) fun _ _ x => x)) fun _ _ x => x)) fun _ _ x => x)
    cases ok with
    | false => exact wpAny_pure h₃
    | true =>
      simp only [if_true] at h₃ ⊢
      unfold BodyWp at h₃
      cases hg : gens[k + 1]? with
      | none =>
        simp only [hg] at h₃ ⊢
        exact wpAny_bind (wpAny_bind (wpAny_mono h₃ (fun x s₄ h₄ => wpAny_bind (wpAny_mono h₄ (fun _ s₅ h₅ => wpAny_pure (wpAny_pure h₅)) fun _ _ x => x)) fun _ _ x => x))
      | some g =>
        simp only [hg] at h₃ ⊢
        obtain ⟨h0, hs⟩ := hn g (List.mem_of_getElem? hg)
        simp only [h0] at h₃ ⊢
        refine wpAny_bind (wpAny_mono h₃ (fun x s₄ h₄ => wpAny_bind (wpAny_standAt ?_)) fun _ _ x => x)
        show wpAny M A (foldedSetIterable g.iter env x >>= fun x => holding [x] (pyIter x) >>= fun it' => runOwn (Code.compStart (elt.ListComp gens scope pos) (k + 1) it' acc env) env >>= fun _ => again (Code.compLoop (elt.ListComp gens scope pos) k it acc env)) Q E s₄
        exact wpAny_bind (wpAny_of_eq (hs env x) (wpAny_bind (wpAny_holding (wpAny_mono h₄ (fun it' s₅ h₅ => wpAny_bind (wpAny_mono h₅ (fun _ s₆ h₆ => wpAny_pure h₆) fun _ _ x => x)) fun _ _ x => x))))

theorem codeAny_compStart {prog : Program} {w : World} {A : Around} {R : Result → Shared → Prop} {s : Shared} {elt : Expr} {gens : List Comprehension} {scope : Scope} {pos : Pos} {k : Nat} {it acc : Value} {env : Env} {g : Comprehension}
    (hk : gens[k]? = some g) (hn : g.is_async = 0)
    (h0 : codeAny (model prog w) A (.compLoop (.ListComp elt gens scope pos) k it acc env) R s)
    (hit : ∀ Q E, Q it s → wpAny (model prog w) A (pyIter it) Q E s) :
    codeAny (model prog w) A (.compStart (.ListComp elt gens scope pos) k it acc env) R s := by
  refine codeAny_of_tree ?_
  show wpAny _ A ((compStart (.ListComp elt gens scope pos) k it acc env).onRaise (fun x => do noteFrame x env; standAt theWindowsPlace)) _ _ s
  refine wpAny_notedAt ?_
  unfold compStart
  simp only [clausesOf, hk, Option.elim_some, hn]
  refine wpAny_bind (wpAny_askSetting (wpAny_ite ?_))
  split
  · first
      | exact wpAny_bind (wpAny_pure (wpAny_pure (And.intro rfl h0)))
      | exact wpAny_pure (And.intro rfl h0)
  · first
      | exact wpAny_bind (wpAny_rule (wpAny_bind (wpAny_standAt (wpAny_bind (hit _ _ (wpAny_pure (And.intro rfl h0)))))))
      | (refine wpAny_bind (wpAny_rule ?_); exact wpAny_bind (wpAny_standAt (wpAny_bind (hit _ _ (wpAny_pure (And.intro rfl h0))))))
end Mine

namespace Mine

theorem FrameOk.at1 {h h' : Heap} {env : Env} {c : Addr} (F : FrameOk h env) (e : Eff (· = c) h h') (nf : ¬ FrameAddr env c) : FrameOk h' env :=
  ⟨let ⟨m, hn⟩ := F.ns; ⟨m, hn.at' fun o ho => e _ o (fun q => nf (q ▸ .inl rfl)) ho⟩,
   fun n c' hc => let ⟨v, o, ho, hd⟩ := F.cells n c' hc; ⟨v, o, e c' o (fun q => nf (q ▸ .inr ⟨n, hc⟩)) ho, hd⟩⟩
theorem In.more {K n sc X ρ A env h h'} {c : Addr} (I : In K n sc X ρ A env h) (e : Ext h h') (hw : h.get? c = none) (hw' : ∃ o, h'.get? c = some o) :
    In K n sc (fun a => X a ∨ a = c) ρ A env h' :=
  ⟨I.room, I.ok.mono e, I.hsc, I.henv, I.frame.ext e, fun a ha => ha.elim (fun hx => let ⟨o, ho⟩ := I.dom a hx; ⟨o, e a o ho⟩) fun hx => hx ▸ hw',
    fun x d hx => let ⟨v, as, h1, h2, h3⟩ := I.vars x d hx
      ⟨v, as, h1.ext e, h2.ext e, fun a ha q => q.elim (h3 a ha) fun hx => by obtain ⟨o, ho⟩ := h2.dom a ha; rw [hx, hw] at ho; cases ho⟩⟩

/-- the heap changes at one address that no name sees -/
theorem In.at1 {K n sc X ρ A env h h'} {c : Addr} (I : In K n sc X ρ A env h) (e : Eff (· = c) h h') (hc : ∃ o, h'.get? c = some o) (hX : X c) (hK : K.h₀.get? c = none) (nt : NoTup h c) (nf : ¬ FrameAddr env c) : In K n sc X ρ A env h' := by
  have nt' : ∀ a, a = c → NoTup h a := fun a ha => ha ▸ nt
  refine ⟨I.room, ⟨I.ok.g, I.ok.b, I.ok.lim, e.ext I.ok.ext fun a ha => ha ▸ hK⟩, I.hsc, I.henv, I.frame.at1 e nf, fun a ha => ?_, fun x d hx => ?_⟩
  · by_cases q : a = c
    · exact q ▸ hc
    · obtain ⟨o, ho⟩ := I.dom a ha; exact ⟨o, e a o q ho⟩
  · obtain ⟨u, bs, h1, h2, h3⟩ := I.vars x d hx
    refine ⟨u, bs, ?_, h2.off (e.off (fun a ha q => h3 a ha (q ▸ hX)) nt'), h3⟩
    rcases h1 with ⟨hl, m, hn, hm⟩ | ⟨hl, c', hc', hv⟩
    · exact .inl ⟨hl, m, hn.at' fun o ho => e _ o (fun q => nf (q ▸ .inl rfl)) ho, hm⟩
    · obtain ⟨o, ho, hd⟩ := hv
      exact .inr ⟨hl, c', hc', o, e c' o (fun q => nf (q ▸ .inr ⟨_, hc'⟩)) ho, hd⟩
theorem In.drop1 {K n sc X ρ A env h h'} {c : Addr} (I : In K n sc (fun a => X a ∨ a = c) ρ A env h) (e : Eff (· = c) h h') (hX : ¬ X c) (hK : K.h₀.get? c = none) (nt : NoTup h c) (nf : ¬ FrameAddr env c) : In K n sc X ρ A env h' := by
  have nt' : ∀ a, a = c → NoTup h a := fun a ha => ha ▸ nt
  refine ⟨I.room, ⟨I.ok.g, I.ok.b, I.ok.lim, e.ext I.ok.ext fun a ha => ha ▸ hK⟩, I.hsc, I.henv, I.frame.at1 e nf, fun a ha => ?_, fun x d hx => ?_⟩
  · obtain ⟨o, ho⟩ := I.dom a (.inl ha); exact ⟨o, e a o (fun q => hX (q ▸ ha)) ho⟩
  · obtain ⟨u, bs, h1, h2, h3⟩ := I.vars x d hx
    refine ⟨u, bs, ?_, h2.off (e.off (fun a ha q => h3 a ha (.inr q)) nt'), fun a ha q => h3 a ha (.inl q)⟩
    rcases h1 with ⟨hl, m, hn, hm⟩ | ⟨hl, c', hc', hv⟩
    · exact .inl ⟨hl, m, hn.at' fun o ho => e _ o (fun q => nf (q ▸ .inl rfl)) ho, hm⟩
    · obtain ⟨o, ho, hd⟩ := hv
      exact .inr ⟨hl, c', hc', o, e c' o (fun q => nf (q ▸ .inr ⟨_, hc'⟩)) ho, hd⟩
theorem PlainList.not_frame {h : Heap} {a : Addr} {env : Env} {xs} (x : h.PlainList a xs) (F : FrameOk h env) : ¬ FrameAddr env a := by
  obtain ⟨n, ho⟩ := x
  rintro (rfl | ⟨n, hc⟩)
  · obtain ⟨m, o', es, ep, ho', hd', _⟩ := F.ns; rw [ho] at ho'; cases ho'; cases hd'
  · obtain ⟨v, o', ho', hd'⟩ := F.cells n a hc; rw [ho] at ho'; cases ho'; cases hd'
structure FrameIn (K : Cx) (b : Heap) (X : Addr → Prop) (own : List Str) (env : Env) (h : Heap) : Prop where
  frame : FrameOk h env
  base : Ext K.h₀ b
  ownX : ∀ a, b.get? a = none → FrameAddr env a → X a
  has : ∀ x ∈ own, ∃ a, StoreAddr env x a ∧ b.get? a = none
theorem FrameIn.at {K b X own env h h'} (F : FrameIn K b X own env h) (f : FrameOk h' env) : FrameIn K b X own env h' := ⟨f, F.base, F.ownX, F.has⟩
theorem FrameIn.moreX {K b own env h} {X X' : Addr → Prop} (F : FrameIn K b X own env h) (s : ∀ a, X a → X' a) : FrameIn K b X' own env h := ⟨F.frame, F.base, fun a h1 h2 => s a (F.ownX a h1 h2), F.has⟩

def Wf (b : Heap) (env : Env) (a : Addr) : Prop := b.get? a = none ∧ FrameAddr env a
theorem FrameIn.noTup {K b X own env h} (F : FrameIn K b X own env h) : ∀ a, Wf b env a → NoTup h a := fun a ha => (F.frame.noSeq ha.2).noTup
/-- a target takes a value that reads as d: the map ρ becomes ρ' -/
def Asg (K : Cx) (n : Nat) (sc : Scope) (own : List Str) (tgt : Expr) (d : PyData) (ρ ρ' : List (Str × D)) : Prop := Hide <|
  ∀ {A : Around} {env : Env} {s : Shared} {X : Addr → Prop} {b : Heap} {v : Value} {as : List Addr} {Q : Unit → Shared → Prop} {E : Value → Shared → Prop},
    In K n sc X ρ A env s.heap → FrameIn K b X own env s.heap → Rd s.heap v d as → (∀ a ∈ as, ¬ X a) →
    (∀ h' tk, Eff (Wf b env) s.heap h' → FrameOk h' env → In K n sc X ρ' A env h' → Q () { s with heap := h', toks := tk }) →
    wpAny (model K.prog K.w) A (assign tgt env v) Q E s

theorem Asg.name {K n sc own ρ d} {x : Str} {pos : Pos} (hx : x ∈ own) : Asg K n sc own (.Name x pos) d ρ ((x, .py d) :: ρ) := Hide.mk fun {A env s X b v as Q E} I F rd off k => by
  obtain ⟨a, sa, ha⟩ := F.has x hx
  refine wpAny_assign_Name (store_at I.henv F.frame sa fun h' tk hs st => k h' tk ?_ st.frame ?_)
  · exact (Eff.of_sameBut hs).mono fun c hc => hc ▸ ⟨ha, sa.frame⟩
  · exact I.stored F.frame sa st hs (F.ownX a ha sa.frame) (F.base.none ha) rd off

def TrAll (K : Cx) (n : Nat) (sc : Scope) (ρ : List (Str × D)) (ifs : List Expr) (c : Bool) : Prop := Hide <|
  ∀ {A : Around} {env : Env} {s : Shared} {X : Addr → Prop} {E : Value → Shared → Prop}, In K n sc X ρ A env s.heap →
    wpAny (model K.prog K.w) A (testsT ifs env) (fun b' s' => b' = c ∧ ∃ h' tk, s' = { s with heap := h', toks := tk } ∧ Ext s.heap h') E s
theorem TrAll.nil {K n sc ρ} : TrAll K n sc ρ [] true := Hide.mk fun {A env s X E} _ => wpAny_pure ⟨rfl, s.heap, s.toks, shared_eta s, .refl _⟩
theorem TrAll.one {K n sc ρ e c} (h : Tr K n sc ρ e c) : TrAll K n sc ρ [e] c := Hide.mk fun I => wpAny_tests_one (h.run I)

structure CompIn (K : Cx) (b : Heap) (X : Addr → Prop) (own : List Str) (env : Env) (D : Addr) (h : Heap) : Prop extends FrameIn K b X own env h where
  newD : b.get? D = none
  XD : X D
  ext : Ext b h

def Wc (b : Heap) (env : Env) (D a : Addr) : Prop := b.get? a = none ∧ (a = D ∨ FrameAddr env a)
theorem CompIn.sub {K b X own env D h} (C : CompIn K b X own env D h) : ∀ a, Wc b env D a → X a := fun a ha => ha.2.elim (fun q => q ▸ C.XD) (C.ownX a ha.1)
theorem CompIn.noTup {K b X own env D h ys} (C : CompIn K b X own env D h) (p : h.PlainList D ys) : ∀ a, Wc b env D a → NoTup h a := fun a ha => ha.2.elim (fun q => q ▸ PlainList.noTup p) fun q => (C.frame.noSeq q).noTup
theorem CompIn.at {K b X own env D h h'} (C : CompIn K b X own env D h) (f : FrameOk h' env) (e : Eff (Wc b env D) h h') : CompIn K b X own env D h' :=
  { toFrameIn := C.toFrameIn.at f, newD := C.newD, XD := C.XD, ext := e.ext C.ext fun a ha => ha.1 }
theorem CompIn.moreX {K b own env D h} {X X' : Addr → Prop} (C : CompIn K b X own env D h) (s : ∀ a, X a → X' a) : CompIn K b X' own env D h :=
  { toFrameIn := C.toFrameIn.moreX s, newD := C.newD, XD := s _ C.XD, ext := C.ext }

def BodyOk (K : Cx) (n : Nat) (sc : Scope) (own : List Str) (elt : Expr) (gens : List Comprehension) (scope : Scope) (pos : Pos) (k : Nat) (ρ : List (Str × D)) (out : List PyData) (fr : Bool) : Prop := Hide <|
  ∀ {A : Around} {env : Env} {s : Shared} {X : Addr → Prop} {b : Heap} {D : Addr} {ys : List Value} {Q : Shared → Prop} {E : Value → Shared → Prop},
    In K n sc X ρ A env s.heap → CompIn K b X own env D s.heap → s.heap.PlainList D ys.toArray → ys.length + out.length ≤ sizeLine →
    (∀ h' tk zs as, Eff (Wc b env D) s.heap h' → CompIn K b X own env D h' → In K n sc X ρ A env h' → h'.PlainList D (ys ++ zs).toArray → RdAll h' zs out as → (∀ a ∈ as, ¬ X a) →
      (fr = true → as.Nodup ∧ ∀ a ∈ as, s.heap.get? a = none) → Q { s with heap := h', toks := tk }) →
    BodyWp (model K.prog K.w) A elt gens scope pos k (.ref D) env Q E s

/-- in.eff: the map is kept where the heap changes at the comprehension's own addresses and its names are as they were -/
theorem BodyOk.elt {K n sc own elt gens scope pos k ρ d fr} (hk : gens[k]? = none) (h : Ev K n sc ρ elt (.py d) fr) : BodyOk K n sc own elt gens scope pos k ρ [d] fr :=
  Hide.mk fun {A env s X b D ys Q E} I C P hsz q => by
  unfold BodyWp
  rw [hk]
  refine wpAny_mono (h.run I) (fun v s₁ p => ?_) fun _ _ x => x
  obtain ⟨h₁, tk, as, rfl, g⟩ := p
  have P₁ : h₁.PlainList D ys.toArray := P.at fun o e => g.ext _ _ e
  refine wpAny_list_append_plain (hsz := by simp at hsz ⊢; omega) P₁ fun h₂ P₂ hs => ?_
  have rd : Rd h₁ v d as := g.rd
  have nf := PlainList.not_frame P₁ (C.frame.ext g.ext)
  have F₂ : FrameOk h₂ env := (C.frame.ext g.ext).at1 (Eff.of_sameBut hs) nf
  have e₂ : Eff (Wc b env D) s.heap h₂ := (g.ext.eff _).trans ((Eff.of_sameBut hs).mono fun a ha => by cases ha; exact ⟨C.newD, .inl rfl⟩)
  have C₂ := C.at F₂ e₂
  have nt : ∀ a, a = D → NoTup h₁ a := fun a ha => ha ▸ PlainList.noTup P₁
  have eD := Eff.of_sameBut hs
  refine q h₂ tk [v] as e₂ C₂ ?_ (by simpa using P₂) (.one (rd.off (eD.off (fun a ha e => g.off a ha (e ▸ C.XD)) nt))) g.off g.new
  exact (I.ext g.ext).at1 eD (let ⟨_, ho⟩ := P₂; ⟨_, ho⟩) C.XD (C.base.none C.newD) (PlainList.noTup P₁) nf
end Mine

namespace Mine

theorem letOwned_ok {M : Model} {A : Around} {E : Value → Shared → Prop} {s : Shared} {tgt : Expr} {I : Addr} {v : Value} {Q : Unit → Shared → Prop} (p : plainIter s.heap I) (h : Q () s) :
    wpAny M A (letOwnedTupleGo tgt (.ref I) v) Q E s := by
  obtain ⟨o, nm, vs, ho, hc, hn, hd⟩ := p
  have key : wpAny M A (do
      let (.ref r, .ref a) := ((Value.ref I, v) : Value × Value) | return
      let o ← load r
      match o.cls, o.data with
      | .type n, .fields vs =>
        if ["enumerate", "zip", "dict_itemiterator", "dict_reverseitemiterator", "odict_iterator", "itertools.zip_longest", "itertools.pairwise"].contains n && vs[0]? == some (rawInt a) then
          rule "for.unpacks-the-owned-tuple"
          updateField r 0 .none
      | _, _ => pure ()) Q E s := by
    cases v <;> first | exact wpAny_pure h | skip
    refine wpAny_bind (wpAny_load ho ?_)
    rw [hc, hd]
    dsimp only
    rw [hn]
    exact wpAny_pure h
  cases tgt <;> first | exact wpAny_pure h | exact key

def TurnOk (K : Cx) (n : Nat) (sc : Scope) (own : List Str) (elt : Expr) (gens : List Comprehension) (scope : Scope) (pos : Pos) (k : Nat) (tgt : Expr) (ifs : List Expr) (ρ : List (Str × D)) (d : PyData) (out : List PyData) (fr : Bool) : Prop :=
  ∃ ρ' c, Asg K n sc own tgt d ρ ρ' ∧ (∀ x e, ρ.lookup x = some e → ρ'.lookup x = some e) ∧ TrAll K n sc ρ' ifs c ∧
    (c = true → BodyOk K n sc own elt gens scope pos (k + 1) ρ' out fr) ∧ (c = false → out = [])

theorem nodup_append {α : Type} {as bs : List α} (h1 : as.Nodup) (h2 : bs.Nodup) (h3 : ∀ a ∈ as, a ∉ bs) : (as ++ bs).Nodup :=
  List.nodup_append.mpr ⟨h1, h2, fun a ha b hb q => h3 a ha (q ▸ hb)⟩

section
variable {K : Cx} {n : Nat} {sc : Scope} {own : List Str} {elt : Expr} {gens : List Comprehension} {scope : Scope} {pos : Pos} {k : Nat} {tgt iter : Expr} {ifs : List Expr} {ρ : List (Str × D)} {fr : Bool}
  {A : Around} {env : Env} {X₀ : Addr → Prop} {b b₀ : Heap} {D : Addr} {F : List (PyData × List PyData)} {s : Shared} {ys : List Value} {R : Result → Shared → Prop}
set_option maxHeartbeats 1000000 in
theorem loop_ok (hk : gens[k]? = some ⟨tgt, iter, ifs, 0⟩) (hG : GensOk gens) (turns : ∀ p ∈ F, TurnOk K n sc own elt gens scope pos k tgt ifs ρ p.1 p.2 fr)
    (t : It K A) (I : In K n sc (fun a => X₀ a ∨ a = t.I) ρ A env s.heap) (C : CompIn K b (fun a => X₀ a ∨ a = t.I) own env D s.heap) (P : s.heap.PlainList D ys.toArray)
    (T : ItAt t 0 b₀ s.heap X₀ (F.map (·.1))) (hW : ∀ a, Wc b env D a → X₀ a) (hI : b.get? t.I = none) (hsz : ys.length + (F.flatMap (·.2)).length ≤ sizeLine)
    (q : ∀ h' tk zs as, Eff (fun a => Wc b env D a ∨ a = t.I) s.heap h' → CompIn K b X₀ own env D h' → In K n sc X₀ ρ A env h' →
      h'.PlainList D (ys ++ zs).toArray → RdAll h' zs (F.flatMap (·.2)) as → (∀ a ∈ as, ¬ X₀ a ∧ a ≠ t.I) → (fr = true → as.Nodup ∧ ∀ a ∈ as, s.heap.get? a = none) →
      R (.ok .next) { s with heap := h', toks := tk }) :
    codeAny (model K.prog K.w) A (.compLoop (.ListComp elt gens scope pos) k (.ref t.I) (.ref D) env) R s := by
  refine codeAny_loop rfl (fun m s' => ∃ pre post h tk zs as, F = pre ++ post ∧ m = post.length + 1 ∧ s' = { s with heap := h, toks := tk } ∧ Eff (fun a => Wc b env D a ∨ a = t.I) s.heap h ∧
    CompIn K b (fun a => X₀ a ∨ a = t.I) own env D h ∧ In K n sc (fun a => X₀ a ∨ a = t.I) ρ A env h ∧ h.PlainList D (ys ++ zs).toArray ∧ RdAll h zs (pre.flatMap (·.2)) as ∧ (∀ a ∈ as, ¬ X₀ a ∧ a ≠ t.I) ∧
    (fr = true → as.Nodup ∧ ∀ a ∈ as, s.heap.get? a = none) ∧ ItAt t pre.length b₀ h X₀ (F.map (·.1))) (fun m s' hI' => ?_) (F.length + 1)
    ⟨[], F, s.heap, s.toks, [], [], rfl, rfl, shared_eta s, .refl _ _, C, I, by simpa using P, .nil, nofun, fun _ => ⟨.nil, nofun⟩, T⟩
  obtain ⟨pre, post, h, tk, zs, as, hF, rfl, rfl, e₀, C₀, I₀, P₀, rd₀, off₀, new₀, T₀⟩ := hI'
  show wpAny _ A ((compTurn (.ListComp elt gens scope pos) k (.ref t.I) (.ref D) env).onRaise (fun x => do noteFrame x env; theTreesLotGoes x)) _ _ _
  refine wpAny_noted (wpAny_compTurn hk hG ?_)
  have pI := t.plain _ _ T₀.st
  have hKI : K.h₀.get? t.I = none := C.base.none hI
  cases post with
  | nil =>
    rw [List.append_nil] at hF; subst hF
    refine t.W.done _ _ _ (by rw [T₀.len, List.length_map]; exact T₀.st) fun h₁ tk₁ hk₁ => ?_
    have e₁ : Eff (· = t.I) h h₁ := fun a o ha ho => hk₁ a o (by simpa using ha) ho
    have nf := pI.not_frame C₀.frame
    have nX : ¬ X₀ t.I := fun hx => T₀.off t.I (t.W.sub _ (.head _)) hx
    have nD : D ≠ t.I := fun q => pI.not_list (q ▸ P₀)
    have eA : Eff (fun a => Wc b env D a ∨ a = t.I) s.heap h₁ := e₀.trans (e₁.mono fun a ha => .inr ha)
    refine q h₁ tk₁ zs as eA ?_ (I₀.drop1 e₁ nX hKI pI.noTup nf) (P₀.at fun o ho => e₁ _ o nD ho) (rd₀.off (e₁.off (fun a ha q => (off₀ a ha).2 q) fun a ha => ha ▸ pI.noTup)) off₀ new₀
    exact { frame := C₀.frame.at1 e₁ nf, base := C₀.base, ownX := fun a h1 h2 => hW a ⟨h1, .inr h2⟩, has := C₀.has, newD := C₀.newD, XD := hW D ⟨C₀.newD, .inl rfl⟩, ext := eA.ext (C.ext) fun a ha => ha.elim (fun w => w.1) fun w => w ▸ hI }
  | cons p post =>
    have hlt : pre.length < t.n := by rw [T₀.len, hF]; simp
    obtain ⟨ρ', c, asg, back, tests, body, stop⟩ := turns p (by rw [hF]; simp)
    refine t.W.item pre.length _ _ _ hlt T₀.st fun v h₁ tk₁ hv st₁ hk₁ => ?_
    have e₁ : Eff (· = t.I) h h₁ := fun a o ha ho => hk₁ a o (by simpa using ha) ho
    have nf := pI.not_frame C₀.frame
    have nX : ¬ X₀ t.I := fun hx => T₀.off t.I (t.W.sub _ (.head _)) hx
    have nD : D ≠ t.I := fun q => pI.not_list (q ▸ P₀)
    have T₁ := T₀.next st₁ e₁
    have pI₁ := t.plain _ _ st₁
    have I₁ := I₀.at1 e₁ pI₁.some (.inr rfl) hKI pI.noTup nf
    have P₁ : h₁.PlainList D (ys ++ zs).toArray := P₀.at fun o ho => e₁ _ o nD ho
    have rd₁ := rd₀.off (e₁.off (fun a ha q => (off₀ a ha).2 q) fun a ha => ha ▸ pI.noTup)
    have eA : Eff (fun a => Wc b env D a ∨ a = t.I) s.heap h₁ := e₀.trans (e₁.mono fun a ha => .inr ha)
    have C₁ : CompIn K b (fun a => X₀ a ∨ a = t.I) own env D h₁ :=
      { frame := C₀.frame.at1 e₁ nf, base := C₀.base, ownX := C₀.ownX, has := C₀.has, newD := C₀.newD, XD := C₀.XD, ext := eA.ext (C.ext) fun a ha => ha.elim (fun w => w.1) fun w => w ▸ hI }
    obtain ⟨d, bs, hd, rdv, offv⟩ := T₁.items _ v hv
    have hd' : d = p.1 := by
      rw [hF] at hd; simp at hd; exact hd.symm
    subst hd'
    refine letOwned_ok pI₁ ?_
    refine asg.run (s := { s with heap := h₁, toks := tk₁ }) I₁ C₁.toFrameIn rdv (fun a ha hx => hx.elim (offv a ha).1 (offv a ha).2) fun h₂ tk₂ e₂ F₂ I₂ => ?_
    have e₂' : Eff (Wc b env D) h₁ h₂ := Eff.mono e₂ fun a ha => ⟨ha.1, .inr ha.2⟩
    have C₂ := C₁.at F₂ e₂'
    have nDf : ¬ Wf b env D := fun w => PlainList.not_frame P₁ C₁.frame w.2
    have P₂ : h₂.PlainList D (ys ++ zs).toArray := P₁.at fun o ho => e₂ _ o nDf ho
    have nt₁ : ∀ a, Wf b env a → NoTup h₁ a := C₁.toFrameIn.noTup
    have subX : ∀ a, Wf b env a → X₀ a := fun a ha => hW a ⟨ha.1, .inr ha.2⟩
    have rd₂ := rd₁.off (Eff.off e₂ (fun a ha w => (off₀ a ha).1 (subX a w)) nt₁)
    have T₂ := T₁.eff e₂ subX nt₁
    refine wpAny_mono (tests.run (s := { s with heap := h₂, toks := tk₂ }) I₂) (fun ok s₃ hok => ?_) fun _ _ x => x
    obtain ⟨rfl, h₃, tk₃, rfl, x₃⟩ := hok
    have hF' : F = (pre ++ [p]) ++ post := by rw [hF]; simp
    have hlen : (pre ++ [p]).length = pre.length + 1 := by simp
    have hfm : (pre ++ [p]).flatMap (·.2) = pre.flatMap (·.2) ++ p.2 := by simp
    have I₃ := I₂.ext x₃
    have C₃ := C₂.at (F₂.ext x₃) (x₃.eff _)
    have P₃ : h₃.PlainList D (ys ++ zs).toArray := P₂.at fun o ho => x₃ _ o ho
    have rd₃ := rd₂.ext x₃
    have T₃ := T₂.eff (x₃.eff fun _ => False) (fun _ => False.elim) (fun _ => False.elim)
    have e₃ : Eff (fun a => Wc b env D a ∨ a = t.I) s.heap h₃ := (eA.trans (e₂'.mono fun a ha => .inl ha)).trans (x₃.eff _)
    cases ok with
    | false =>
      rw [if_neg Bool.false_ne_true]
      have hp2 := stop rfl
      refine ⟨rfl, post.length + 1, by simp, pre ++ [p], post, h₃, tk₃, zs, as, hF', rfl, rfl, e₃, C₃, I₃.sub back, P₃, ?_, off₀, new₀, ?_⟩
      · rw [hfm, hp2, List.append_nil]; exact rd₃
      · rw [hlen]; exact T₃
    | true =>
      rw [if_pos rfl]
      have hsz' : (ys ++ zs).length + p.2.length ≤ sizeLine := by
        have e1 := rd₀.length
        have e2 : (F.flatMap (·.2)).length = (pre.flatMap (·.2)).length + (p.2.length + (post.flatMap (·.2)).length) := by rw [hF]; simp
        rw [List.length_append]
        omega
      refine (body rfl).run (s := { s with heap := h₃, toks := tk₃ }) I₃ C₃ P₃ hsz' fun h₄ tk₄ zs' bs' e₄ C₄ I₄ P₄ rd₄ off₄ new₄ => ?_
      have nt₃ := C₃.noTup P₃
      have rd₄' := rd₃.off (Eff.off e₄ (fun a ha w => (off₀ a ha).1 (hW a w)) nt₃)
      have T₄ := T₃.eff e₄ hW nt₃
      refine ⟨rfl, post.length + 1, by simp, pre ++ [p], post, h₄, tk₄, zs ++ zs', as ++ bs', hF', rfl, rfl, e₃.trans (Eff.mono e₄ fun a ha => .inl ha), C₄, I₄.sub back, ?_, ?_, ?_, ?_, ?_⟩
      · rw [← List.append_assoc]; exact P₄
      · rw [hfm]; exact rd₄'.append rd₄
      · intro a ha
        rcases List.mem_append.mp ha with ha | ha
        · exact off₀ a ha
        · exact ⟨fun hx => off₄ a ha (.inl hx), fun hx => off₄ a ha (.inr hx)⟩
      · intro hfr
        obtain ⟨n1, m1⟩ := new₀ hfr
        obtain ⟨n2, m2⟩ := new₄ hfr
        refine ⟨nodup_append n1 n2 fun a ha hb => ?_, fun a ha => ?_⟩
        · obtain ⟨o, ho⟩ := rd₃.dom a ha; rw [m2 a hb] at ho; cases ho
        · rcases List.mem_append.mp ha with ha | ha
          · exact m1 a ha
          · cases hq : s.heap.get? a with
            | none => rfl
            | some o =>
              have hm2 := m2 a ha
              have hx : ¬ (Wc b env D a ∨ a = t.I) := fun w => w.elim (fun w => off₄ a ha (.inl (hW a w))) fun w => off₄ a ha (.inr w)
              have := e₃ a o hx hq
              rw [this] at hm2; cases hm2
      · rw [hlen]; exact T₄
end
end Mine

namespace Mine

theorem BodyOk.gen {K n sc own elt gens scope pos k ρ fr tgt iter ifs} {F : List (PyData × List PyData)} (hk : gens[k]? = some ⟨tgt, iter, ifs, 0⟩) (hG : GensOk gens)
    (hit : EvIt K n sc ρ iter (F.map (·.1))) (turns : ∀ p ∈ F, TurnOk K n sc own elt gens scope pos k tgt ifs ρ p.1 p.2 fr) :
    BodyOk K n sc own elt gens scope pos k ρ (F.flatMap (·.2)) fr :=
  Hide.mk fun {A env s X b D ys Q E} I C P hsz q => by
  unfold BodyWp
  rw [hk]
  refine hit.run I fun t h₁ tk x₁ T => ?_
  have pI := t.plain _ _ T.st
  refine wpAny_runOwn ?_
  show codeAny (model K.prog K.w) A _ _ _
  refine codeAny_compStart hk rfl ?_ fun Q' E' hq => t.W.self 0 _ _ _ T.st hq
  have C₁ : CompIn K b (fun a => X a ∨ a = t.I) own env D h₁ := (C.at (C.frame.ext x₁) (x₁.eff _)).moreX fun a ha => .inl ha
  have hI : b.get? t.I = none := C.ext.none T.new
  refine loop_ok (s := { s with heap := h₁, toks := tk }) (X₀ := X) hk hG turns t (I.more x₁ T.new pI.some) C₁ (P.at fun o ho => x₁ _ o ho) T C.sub hI hsz fun h' tk' zs as e' C' I' P' rd off new => ?_
  refine q h' tk' zs as (fun a o ha ho => ?_) C' I' P' rd (fun a ha => (off a ha).1) fun hfr => ⟨(new hfr).1, fun a ha => x₁.none ((new hfr).2 a ha)⟩
  refine e' a o (fun w => w.elim ha fun w => ?_) (x₁ a o ho)
  rw [w, T.new] at ho; cases ho

/-! ### the comprehension's own frame -/
def relabelS (scope sc : Scope) : Scope :=
  { scope with names := scope.names.map fun (n, k) => if (k == .free && sc.kind == .function && sc.names.lookup n == some .cell) then (n, .cell) else (n, k) }
def closureL (env : Env) : List (Str × NameKind) → List (Str × Addr) → List (Str × Addr)
  | [], acc => acc
  | (n, k) :: r, acc => closureL env r (if k == .free then (n, (env.cells.lookup n).getD 0) :: acc else acc)

theorem closureFor_eq {scope : Scope} {env : Env} (h : ∀ n, (n, NameKind.free) ∈ scope.names → ∃ c, env.cells.lookup n = some c) : closureFor scope env = pure (closureL env scope.names []) := by
  unfold closureFor
  have key : ∀ (names : List (Str × NameKind)) (acc : List (Str × Addr)), (∀ n, (n, NameKind.free) ∈ names → ∃ c, env.cells.lookup n = some c) →
      (forIn names acc (fun (x : Str × NameKind) (cs : List (Str × Addr)) => (match x with | (name, kind) => (if (kind == NameKind.free) = true then (do let a ← cellOf env name; pure (ForInStep.yield ((name, a) :: cs))) else pure (ForInStep.yield cs) : Sem (ForInStep (List (Str × Addr))))))) = (pure (closureL env names acc) : Sem (List (Str × Addr))) := by
    intro names
    induction names with
    | nil => intro acc _; rfl
    | cons x r ih =>
      intro acc hn
      obtain ⟨n, k⟩ := x
      rw [List.forIn_cons]
      have hr : ∀ m, (m, NameKind.free) ∈ r → ∃ c, env.cells.lookup m = some c := fun m hm => hn m (.tail _ hm)
      by_cases hk : k = .free
      · subst hk
        obtain ⟨c, hc⟩ := hn n (.head _)
        simp only [beq_self_eq_true, if_true, cellOf, hc, pure_bind, closureL, Option.getD_some]
        exact ih _ hr
      · have hb : (k == NameKind.free) = false := by simpa using hk
        simp only [hb, Bool.false_eq_true, if_false, pure_bind, closureL]
        exact ih _ hr
  exact (congrArg (fun m : Sem (List (Str × Addr)) => m >>= fun cs => pure cs) (key scope.names [] h)).trans rfl
end Mine

namespace Mine

theorem cellsFrom_append : ∀ (names : List (Str × NameKind)) (n : Nat) (acc : List (Str × Addr)), cellsFrom n names acc = cellsFrom n names [] ++ acc
  | [], _, _ => rfl
  | (name, kind) :: r, n, acc => by
    unfold cellsFrom
    split
    · rw [cellsFrom_append r (n + 1) ((name, n) :: acc), cellsFrom_append r (n + 1) [(name, n)]]; simp
    · exact cellsFrom_append r n acc

theorem cellsFrom_mem : ∀ (names : List (Str × NameKind)) (n : Nat) {x : Str} {c : Addr}, (x, c) ∈ cellsFrom n names [] → (x, NameKind.cell) ∈ names
  | [], _, _, _, h => by cases h
  | (name, kind) :: r, n, x, c, h => by
    unfold cellsFrom at h
    split at h
    · rename_i hk
      rw [cellsFrom_append] at h
      rcases List.mem_append.mp h with h | h
      · exact .tail _ (cellsFrom_mem r _ h)
      · have := List.mem_singleton.mp h
        cases this
        have : kind = .cell := by simpa using hk
        subst this; exact .head _
    · exact .tail _ (cellsFrom_mem r _ h)

theorem lookup_isSome_of_mem {α : Type} : ∀ {l : List (Str × α)} {x : Str} {c : α}, (x, c) ∈ l → ∃ c', l.lookup x = some c'
  | (k, v) :: r, x, c, h => by
    rw [List.lookup_cons]
    cases hb : x == k with
    | true => exact ⟨_, rfl⟩
    | false =>
      rcases List.mem_cons.mp h with e | h
      · cases e; simp at hb
      · exact lookup_isSome_of_mem h

theorem cellsFrom_has : ∀ (names : List (Str × NameKind)) (n : Nat) {x : Str}, (x, NameKind.cell) ∈ names → ∃ c, (x, c) ∈ cellsFrom n names []
  | (name, kind) :: r, n, x, h => by
    unfold cellsFrom
    rcases List.mem_cons.mp h with e | h
    · cases e
      simp only [beq_self_eq_true, if_true]
      rw [cellsFrom_append]
      exact ⟨n, List.mem_append_right _ (.head _)⟩
    · split
      · rw [cellsFrom_append]
        obtain ⟨c, hc⟩ := cellsFrom_has r (n + 1) h
        exact ⟨c, List.mem_append_left _ hc⟩
      · exact cellsFrom_has r n h

theorem lookup_append {α : Type} : ∀ (l l' : List (Str × α)) (x : Str), (l ++ l').lookup x = (l.lookup x).or (l'.lookup x)
  | [], l', x => by simp
  | (k, v) :: r, l', x => by
    rw [List.cons_append, List.lookup_cons, List.lookup_cons]
    cases x == k with
    | true => simp
    | false => exact lookup_append r l' x

theorem lookup_none_of_not_mem {α : Type} : ∀ {l : List (Str × α)} {x : Str}, (∀ c, (x, c) ∉ l) → l.lookup x = none
  | [], x, _ => rfl
  | (k, v) :: r, x, h => by
    rw [List.lookup_cons]
    cases hb : x == k with
    | true => have : x = k := by simpa using hb
              subst this; exact absurd (.head _) (h v)
    | false => exact lookup_none_of_not_mem fun c hc => h c (.tail _ hc)

theorem lookup_map_kind {g : Str → NameKind → NameKind} : ∀ (l : List (Str × NameKind)) (x : Str), (l.map fun p => (p.1, g p.1 p.2)).lookup x = (l.lookup x).map (g x)
  | [], x => rfl
  | (k, v) :: r, x => by
    rw [List.map_cons, List.lookup_cons, List.lookup_cons]
    cases hb : x == k with
    | true => have : x = k := by simpa using hb
              subst this; rfl
    | false => exact lookup_map_kind r x

theorem relabelS_lookup (scope sc : Scope) (x : Str) : (relabelS scope sc).names.lookup x =
    (scope.names.lookup x).map fun k => if (k == .free && sc.kind == .function && sc.names.lookup x == some .cell) then .cell else k := by
  have : (relabelS scope sc).names = scope.names.map fun p => (p.1, (fun (n : Str) (k : NameKind) => if (k == .free && sc.kind == .function && sc.names.lookup n == some .cell) then NameKind.cell else k) p.1 p.2) := by
    show scope.names.map _ = _
    refine List.map_congr_left fun p _ => ?_
    obtain ⟨n, k⟩ := p
    dsimp only
    split <;> rfl
  rw [this]
  exact lookup_map_kind (g := fun (n : Str) (k : NameKind) => if (k == .free && sc.kind == .function && sc.names.lookup n == some .cell) then NameKind.cell else k) _ _

theorem closureL_append (env : Env) : ∀ (names : List (Str × NameKind)) (acc : List (Str × Addr)), closureL env names acc = closureL env names [] ++ acc
  | [], _ => rfl
  | (n, k) :: r, acc => by
    unfold closureL
    split
    · rw [closureL_append env r (_ :: acc), closureL_append env r [_]]; simp
    · exact closureL_append env r acc
theorem closureL_mem (env : Env) : ∀ (names : List (Str × NameKind)) {x : Str} {c : Addr}, (x, c) ∈ closureL env names [] → (x, NameKind.free) ∈ names ∧ c = (env.cells.lookup x).getD 0
  | [], _, _, h => by cases h
  | (n, k) :: r, x, c, h => by
    unfold closureL at h
    split at h
    · rename_i hk
      rw [closureL_append] at h
      rcases List.mem_append.mp h with h | h
      · exact ⟨.tail _ (closureL_mem env r h).1, (closureL_mem env r h).2⟩
      · have := List.mem_singleton.mp h
        cases this
        have : k = .free := by simpa using hk
        subst this; exact ⟨.head _, rfl⟩
    · exact ⟨.tail _ (closureL_mem env r h).1, (closureL_mem env r h).2⟩
theorem closureL_has (env : Env) : ∀ (names : List (Str × NameKind)) {x : Str}, (x, NameKind.free) ∈ names → (x, (env.cells.lookup x).getD 0) ∈ closureL env names []
  | (n, k) :: r, x, h => by
    unfold closureL
    rcases List.mem_cons.mp h with e | h
    · cases e
      simp only [beq_self_eq_true, if_true]
      rw [closureL_append]
      exact List.mem_append_right _ (.head _)
    · split
      · rw [closureL_append]; exact List.mem_append_left _ (closureL_has env r h)
      · exact closureL_has env r h
theorem closureL_lookup (env : Env) {names : List (Str × NameKind)} {x : Str} (h : (x, NameKind.free) ∈ names) : (closureL env names []).lookup x = some ((env.cells.lookup x).getD 0) := by
  obtain ⟨c, hc⟩ := lookup_isSome_of_mem (closureL_has env names h)
  rw [hc, (closureL_mem env names (mem_of_lookup hc)).2]

theorem closureL_apart {env : Env} (ok : EnvOk env) : ∀ {names : List (Str × NameKind)}, (names.map (·.1)).Nodup → (∀ n, (n, NameKind.free) ∈ names → ∃ c, env.cells.lookup n = some c) →
    (closureL env names []).Pairwise fun x y => x.2 ≠ y.2
  | [], _, _ => List.Pairwise.nil
  | (n, k) :: r, hnd, hf => by
    rw [List.map_cons, List.nodup_cons] at hnd
    have ih := closureL_apart ok hnd.2 fun m hm => hf m (.tail _ hm)
    unfold closureL
    split
    · rename_i hk
      have hk : k = .free := by simpa using hk
      subst hk
      rw [closureL_append]
      refine List.pairwise_append.mpr ⟨ih, List.pairwise_singleton _ _, fun a ha b hb => ?_⟩
      have := List.mem_singleton.mp hb
      subst this
      obtain ⟨m, c⟩ := a
      obtain ⟨hm, rfl⟩ := closureL_mem env r ha
      obtain ⟨c1, h1⟩ := hf m (.tail _ hm)
      obtain ⟨c2, h2⟩ := hf n (.head _)
      show (env.cells.lookup m).getD 0 ≠ (env.cells.lookup n).getD 0
      rw [h1, h2]
      intro q
      have q : c1 = c2 := q
      subst q
      have : m = n := name_of_addr ok.apart (mem_of_lookup h1) (mem_of_lookup h2)
      subst this
      exact hnd.1 (List.mem_map.mpr ⟨_, hm, rfl⟩)
    · exact ih

/-- the frame of a comprehension -/
def compEnvM (scope : Scope) (C : Addr) (env : Env) : Env :=
  { scope := relabel scope env, locals := C, globals := env.globals, cells := cellsFrom (C + 1) scope.names (closureL env scope.names []), qual := env.qual, func := none, code := env.code, frame := env.frame, builtins := env.builtins }

theorem wpAny_newCompEnv {M : Model} {A : Around} {E : Value → Shared → Prop} {s : Shared} {scope : Scope} {cl : List (Str × Addr)} {env : Env} {Q : Env → Shared → Prop}
    (h : Q (newEnv scope s.heap.objs.size env.globals (cellsFrom (s.heap.objs.size + 1) scope.names cl) env.qual none .none (some env) builtinsNs)
      { s with heap := pushCells (s.heap.push { cls := .type "dict", data := .dict #[] }) scope.names }) :
    wpAny M A (newFunctionEnv scope env.globals cl [] env.qual none .none (some env)) Q E s := by
  simp only [newFunctionEnv, Option.isSome_some, if_true]
  refine wpAny_bind (wpAny_alloc ?_)
  refine wpAny_bind (wpAny_layCells _ (fun name kind cells => by cases hkc : kind == NameKind.cell <;> simp [hkc]) _ _ _ _ ?_)
  rw [show ({ s with heap := s.heap.push { cls := .type "dict", data := .dict #[] } } : Shared).heap.objs.size = s.heap.objs.size + 1 from Heap.size_push ..]
  exact wpAny_bind (wpAny_pure (wpAny_pure h))
end Mine

namespace Mine

structure ScopeOk (scope sc : Scope) (own : List Str) : Prop where
  kind : scope.kind = .function
  nodup : (scope.names.map (·.1)).Nodup
  free : ∀ n, (n, NameKind.free) ∈ scope.names → sc.names.lookup n = some .cell ∨ sc.names.lookup n = some .free
  own : ∀ x ∈ own, scope.names.lookup x = some .local ∨ scope.names.lookup x = some .cell

def scopeOk (scope sc : Scope) (own : List Str) : Bool :=
  decide (scope.kind = .function) && decide ((scope.names.map (·.1)).Nodup) &&
    (scope.names.all fun p => p.2 != .free || (sc.names.lookup p.1 == some .cell || sc.names.lookup p.1 == some .free)) &&
    own.all fun x => scope.names.lookup x == some .local || scope.names.lookup x == some .cell

theorem ScopeOk.of {scope sc : Scope} {own : List Str} (h : scopeOk scope sc own = true) : ScopeOk scope sc own := by
  simp only [scopeOk, Bool.and_eq_true, decide_eq_true_eq, List.all_eq_true, Bool.or_eq_true, beq_iff_eq, bne_iff_ne, ne_eq] at h
  obtain ⟨⟨⟨h1, h2⟩, h3⟩, h4⟩ := h
  refine ⟨h1, h2, fun n hn => ?_, h4⟩
  rcases h3 _ hn with h | h
  · exact absurd rfl h
  · exact h

theorem lookup_of_mem_nodup' {α : Type} : ∀ {l : List (Str × α)} {x : Str} {c : α}, (l.map (·.1)).Nodup → (x, c) ∈ l → l.lookup x = some c
  | (k, v) :: r, x, c, hnd, hm => by
    rw [List.map_cons, List.nodup_cons] at hnd
    rw [List.lookup_cons]
    rcases List.mem_cons.mp hm with e | hm
    · cases e; simp
    · have hne : x ≠ k := fun e => hnd.1 (e ▸ List.mem_map.mpr ⟨_, hm, rfl⟩)
      have : (x == k) = false := by simpa using hne
      rw [this]
      exact lookup_of_mem_nodup' hnd.2 hm

structure CompFrame (scope : Scope) (env : Env) (own : List Str) (h h₃ h₄ : Heap) (cenv : Env) : Prop where
  cok : EnvOk cenv
  frame : FrameOk h₄ cenv
  ext : Ext h₃ h₄
  new : ∀ a, h.get? a = none → FrameAddr cenv a → h₃.get? a = none
  has : ∀ x ∈ own, ∃ a, StoreAddr cenv x a ∧ h₃.get? a = none
  vars : ∀ x v, scope.names.lookup x = some .free → VarAt h env x v → VarAt h₄ cenv x v
  locals : h₃.get? cenv.locals = none

theorem get_none_of_ge {h : Heap} {a : Addr} (x : h.objs.size ≤ a) : h.get? a = none := by
  cases q : h.get? a with
  | none => rfl
  | some o => exact absurd (Heap.lt_size q) (Nat.not_lt.mpr x)

theorem compFrame {K n sc X ρ A env h scope own} (I : In K n sc X ρ A env h) (S : ScopeOk scope sc own) {h₃ : Heap} (x₃ : Ext h h₃) :
    CompFrame scope env own h h₃ (pushCells (h₃.push { cls := .type "dict", data := .dict #[] }) scope.names) (compEnvM scope h₃.objs.size env) := by
  have hsc := I.hsc
  have hfree : ∀ n, (n, NameKind.free) ∈ scope.names → ∃ c, env.cells.lookup n = some c := fun m hm => by
    refine I.henv.all m ?_
    show env.scope.names.lookup m = _ ∨ env.scope.names.lookup m = _
    rw [hsc]; exact S.free m hm
  have hcell : ∀ n, (n, NameKind.free) ∈ scope.names → ∀ c, env.cells.lookup n = some c → ∃ v, h.IsCell c v := fun m hm c hc => I.frame.cells m c hc
  generalize hH : h₃.push { cls := .type "dict", data := .dict #[] } = H
  have hHs : H.objs.size = h₃.objs.size + 1 := by rw [← hH, Heap.size_push]
  have xH : Ext h₃ H := hH ▸ Ext.push _ _
  have x4 : Ext H (pushCells H scope.names) := fun b o e => pushCells_keeps scope.names H b o e
  have ok := cellsFrom_ok scope.names H (h₃.objs.size + 1) [] ⟨fun _ _ hm => (nomatch hm), List.Pairwise.nil⟩ (by rw [hHs]; exact Nat.le_refl _)
  rw [hHs] at ok
  have hcells : (compEnvM scope h₃.objs.size env).cells = cellsFrom (h₃.objs.size + 1) scope.names [] ++ closureL env scope.names [] := cellsFrom_append ..
  have hclo : ∀ m c, (m, c) ∈ closureL env scope.names [] → (m, NameKind.free) ∈ scope.names ∧ env.cells.lookup m = some c := fun m c hm => by
    obtain ⟨h1, h2⟩ := closureL_mem env scope.names hm
    obtain ⟨c', hc'⟩ := hfree m h1
    rw [hc'] at h2
    have : c = c' := h2
    subst this
    exact ⟨h1, hc'⟩
  have hlt : ∀ m c, (m, c) ∈ closureL env scope.names [] → c < h₃.objs.size ∧ ∃ o, h.get? c = some o := fun m c hm => by
    obtain ⟨v, o, ho, _⟩ := hcell m (hclo m c hm).1 c (hclo m c hm).2
    exact ⟨Heap.lt_size (x₃ c o ho), o, ho⟩
  have hkind : ∀ x, (compEnvM scope h₃.objs.size env).kindOf x = (scope.names.lookup x).map fun k => if (k == .free && sc.kind == .function && sc.names.lookup x == some .cell) then .cell else k := fun x => by
    show (relabelS scope env.scope).names.lookup x = _
    rw [hsc]; exact relabelS_lookup scope sc x
  have ownCell : ∀ x, scope.names.lookup x = some .cell → ∃ c, (cellsFrom (h₃.objs.size + 1) scope.names []).lookup x = some c := fun x hx => by
    obtain ⟨c, hc⟩ := cellsFrom_has scope.names (h₃.objs.size + 1) (mem_of_lookup hx)
    exact lookup_isSome_of_mem hc
  have ownNone : ∀ x, scope.names.lookup x = some .free → (cellsFrom (h₃.objs.size + 1) scope.names []).lookup x = none := fun x hx => by
    refine lookup_none_of_not_mem fun c hc => ?_
    have := lookup_of_mem_nodup' S.nodup (cellsFrom_mem scope.names _ hc)
    rw [hx] at this; cases this
  refine ⟨⟨?_, I.henv.globals, I.henv.builtins, ?_, fun x hx => ?_⟩, ⟨?_, fun x c hc => ?_⟩, xH.trans x4, fun a ha hf => ?_, fun x hx => ?_, fun x v hx hv => ?_, push_new _⟩
  · exact S.kind
  · rw [hcells]
    refine List.pairwise_append.mpr ⟨ok.apart, closureL_apart I.henv S.nodup hfree, fun a ha b hb q => ?_⟩
    have h1 := (ok.empty a.1 a.2 ha).2
    have h2 := (hlt b.1 b.2 hb).1
    rw [q] at h1
    exact absurd (Nat.lt_of_lt_of_le h2 (Nat.le_of_succ_le h1)) (Nat.lt_irrefl _)
  · rw [hcells, lookup_append]
    rw [hkind] at hx
    cases hl : scope.names.lookup x with
    | none => rw [hl] at hx; rcases hx with hx | hx <;> cases hx
    | some k =>
      rw [hl] at hx
      have hk : k = .cell ∨ k = .free := by
        simp only [Option.map_some, Option.some.injEq] at hx
        cases k <;> simp_all
      rcases hk with rfl | rfl
      · obtain ⟨c, hc⟩ := ownCell x hl
        exact ⟨c, by rw [hc]; rfl⟩
      · rw [ownNone x hl, closureL_lookup env (mem_of_lookup hl)]
        exact ⟨_, rfl⟩
  · exact ⟨_, Heap.Ns.keeps (hH ▸ Heap.Ns.new h₃ (.type "dict")) x4⟩
  · rw [hcells, lookup_append] at hc
    cases hl : (cellsFrom (h₃.objs.size + 1) scope.names []).lookup x with
    | some c' =>
      rw [hl] at hc
      have : c' = c := by simpa using hc
      subst this
      exact ⟨_, (ok.empty x c' (mem_of_lookup hl)).1⟩
    | none =>
      rw [hl] at hc
      have hm := mem_of_lookup (show (closureL env scope.names []).lookup x = some c by simpa using hc)
      obtain ⟨v, hv⟩ := hcell x (hclo x c hm).1 c (hclo x c hm).2
      exact ⟨v, hv.keeps (x₃.trans (xH.trans x4))⟩
  · rcases hf with rfl | ⟨m, hc⟩
    · exact push_new _
    · rw [hcells, lookup_append] at hc
      cases hl : (cellsFrom (h₃.objs.size + 1) scope.names []).lookup m with
      | some c' =>
        rw [hl] at hc
        have : c' = a := by simpa using hc
        subst this
        exact get_none_of_ge (Nat.le_of_succ_le (ok.empty m c' (mem_of_lookup hl)).2)
      | none =>
        rw [hl] at hc
        have hm := mem_of_lookup (show (closureL env scope.names []).lookup m = some a by simpa using hc)
        obtain ⟨o, ho⟩ := (hlt m a hm).2
        rw [ha] at ho; cases ho
  · rcases S.own x hx with hl | hl
    · refine ⟨h₃.objs.size, .inl ⟨?_, rfl⟩, push_new _⟩
      rw [hkind, hl]; rfl
    · obtain ⟨c, hc⟩ := ownCell x hl
      refine ⟨c, .inr ⟨?_, ?_⟩, get_none_of_ge (Nat.le_of_succ_le (ok.empty x c (mem_of_lookup hc)).2)⟩
      · rw [hkind, hl]; rfl
      · rw [hcells, lookup_append, hc]; rfl
  · have hm := mem_of_lookup hx
    rcases hv with ⟨hl, _⟩ | ⟨_, c, hc, hv⟩
    · have := S.free x hm
      have hl' : sc.names.lookup x = some .local := by rw [← hsc]; exact hl
      rw [hl'] at this; rcases this with h | h <;> cases h
    · refine .inr ⟨?_, c, ?_, hv.keeps (x₃.trans (xH.trans x4))⟩
      · rw [hkind, hx]
        simp only [Option.map_some]
        split
        · exact .inl rfl
        · exact .inr rfl
      · rw [hcells, lookup_append, ownNone x hx, closureL_lookup env hm, hc]; rfl
end Mine

namespace Mine



section
variable {K : Cx} {n : Nat} {sc : Scope} {own : List Str} {elt : Expr} {gens rest : List Comprehension} {scope : Scope} {pos pos' : Pos} {tgt iter : Expr} {ifs : List Expr} {ρ ρ' : List (Str × D)} {fr : Bool}
  {A : Around} {env : Env} {X : Addr → Prop} {F : List (PyData × List PyData)} {s : Shared} {E : Value → Shared → Prop} {Q : Value → Shared → Prop} {use : Option (Value → Sem Unit)}
set_option maxHeartbeats 1000000 in
theorem comp_core (hg : gens = ⟨tgt, iter, ifs, 0⟩ :: rest) (hG : GensOk gens) (S : ScopeOk scope sc own)
    (hm : ∀ x d, ρ'.lookup x = some d → scope.names.lookup x = some .free ∧ ρ.lookup x = some d)
    (hit : EvIt K n sc ρ iter (F.map (·.1))) (turns : ∀ p ∈ F, TurnOk K n (relabelS scope sc) own elt gens scope pos 0 tgt ifs ρ' p.1 p.2 fr) (hsz : (F.flatMap (·.2)).length ≤ sizeLine)
    (I : In K n sc X ρ A env s.heap)
    (q : ∀ h' tk D C as m, Ext s.heap h' → Rd h' (.ref D) (.list (F.flatMap (·.2))) (D :: as) → (∀ a ∈ D :: as, ¬ X a ∧ a ≠ C) → s.heap.get? D = none →
      (fr = true → (D :: as).Nodup ∧ ∀ a ∈ D :: as, s.heap.get? a = none) → h'.Ns C m → s.heap.get? C = none →
      compPost (model K.prog K.w) A E use Q (.ref D) C (.ok .next) { s with heap := h', toks := tk }) :
    wpAny (model K.prog K.w) A (comprehension (.ListComp elt gens scope pos) scope env pos' (newList []) false (eval iter env) use) Q E s := by
  have hfree : ∀ n, (n, NameKind.free) ∈ scope.names → ∃ c, env.cells.lookup n = some c := fun m hm => by
    refine I.henv.all m ?_
    show env.scope.names.lookup m = _ ∨ env.scope.names.lookup m = _
    rw [I.hsc]; exact S.free m hm
  have h0 : gens[0]? = some ⟨tgt, iter, ifs, 0⟩ := by rw [hg]; rfl
  refine wpAny_comprehension_free (use := use) (show clausesOf (.ListComp elt gens scope pos) = ⟨tgt, iter, ifs, 0⟩ :: rest from hg) (fun x => (hG _ (by rw [hg]; exact .head _)).2 env x) (closureFor_eq hfree) S.kind
    (fun x hx hl => lookup_of_mem_nodup' S.nodup (by rw [← hl]; exact hx)) ?_
  refine hit.run I fun t h₂ tk x₂ T => ?_
  refine wpAny_newObj_type ?_
  generalize hh3 : h₂.push { cls := .type "list", dict := none, data := .seq ([] : List Value).toArray } = h₃
  have x₃ : Ext h₂ h₃ := hh3 ▸ Ext.push _ _
  have hD2 : h₂.get? h₂.objs.size = none := push_new _
  have hD3 : h₃.PlainList h₂.objs.size ([] : List Value).toArray := ⟨0, hh3 ▸ Heap.get?_push_size _ rfl⟩
  generalize h₂.objs.size = D at hD2 hD3 ⊢
  refine wpAny_newCompEnv ?_
  have CF := compFrame I S (x₂.trans x₃)
  show codeAny _ A (.compStart (.ListComp elt gens scope pos) 0 (.ref t.I) (.ref D) (compEnvM scope h₃.objs.size env)) _ _
  show codeAny _ A _ (compPost _ A E use Q (.ref D) (compEnvM scope h₃.objs.size env).locals) { s with heap := pushCells (h₃.push { cls := .type "dict", data := .dict #[] }) scope.names, toks := tk }
  generalize hcenv : compEnvM scope h₃.objs.size env = cenv at CF ⊢
  have hscC : cenv.scope = relabelS scope sc := by rw [← hcenv, ← I.hsc]; rfl
  generalize pushCells (h₃.push { cls := .type "dict", data := .dict #[] }) scope.names = h₄ at CF ⊢
  have x₄ := CF.ext
  have P₄ : h₄.PlainList D ([] : List Value).toArray := hD3.at fun o ho => x₄ _ o ho
  have bD : s.heap.get? D = none := x₂.none hD2
  -- what is the comprehension's own
  let X₀ : Addr → Prop := fun a => X a ∨ Wc s.heap cenv D a
  have new3 : ∀ a, Wc s.heap cenv D a → h₂.get? a = none := fun a ha => ha.2.elim (fun q => q ▸ hD2) fun q => x₃.none (CF.new a ha.1 q)
  have dom4 : ∀ a, Wc s.heap cenv D a → ∃ o, h₄.get? a = some o := fun a ha => ha.2.elim (fun q => by obtain ⟨_, ho⟩ := P₄; exact ⟨_, q ▸ ho⟩) fun q => by
    obtain ⟨o, ho, _⟩ := CF.frame.noSeq q; exact ⟨o, ho⟩
  have xx := x₂.trans (x₃.trans x₄)
  have pI := t.plain _ _ T.st
  have T₄ : ItAt t 0 s.heap h₄ X₀ (F.map (·.1)) := by
    have T' := T.eff ((x₃.trans x₄).eff fun _ => False) (fun _ => False.elim) (fun _ => False.elim)
    refine ⟨T'.st, T'.len, fun a ha hx => hx.elim (T.off a ha) fun w => ?_, T'.new, T'.dom, fun j v hv => ?_⟩
    · obtain ⟨o, ho⟩ := T.dom a ha; rw [new3 a w] at ho; cases ho
    · obtain ⟨d, as, h1, h2, h3⟩ := T.items j v hv
      refine ⟨d, as, h1, h2.ext (x₃.trans x₄), fun a ha => ⟨fun hx => hx.elim (h3 a ha).1 fun w => ?_, (h3 a ha).2⟩⟩
      obtain ⟨o, ho⟩ := h2.dom a ha; rw [new3 a w] at ho; cases ho
  have nXI : ¬ X₀ t.I := T₄.off t.I (t.W.sub _ (.head _))
  have I₄ : In K n (relabelS scope sc) (fun a => X₀ a ∨ a = t.I) ρ' A cenv h₄ := by
    refine ⟨I.room, I.ok.mono xx, hscC, CF.cok, CF.frame, fun a ha => ?_, fun x d hx => ?_⟩
    · rcases ha with (ha | ha) | ha
      · obtain ⟨o, ho⟩ := I.dom a ha; exact ⟨o, xx a o ho⟩
      · exact dom4 a ha
      · rw [ha]; obtain ⟨o, ho⟩ := pI.some; exact ⟨o, x₄ _ _ (x₃ _ _ ho)⟩
    · obtain ⟨h1, h2⟩ := hm x d hx
      obtain ⟨v, as, hv, hr, ho⟩ := I.vars x d h2
      refine ⟨v, as, CF.vars x v h1 hv, hr.ext xx, fun a ha hx => ?_⟩
      obtain ⟨o, hd⟩ := hr.dom a ha
      rcases hx with (hx | hx) | hx
      · exact ho a ha hx
      · rw [hx.1] at hd; cases hd
      · rw [hx, T.new] at hd; cases hd
  have C₄ : CompIn K s.heap (fun a => X₀ a ∨ a = t.I) own cenv D h₄ :=
    { frame := CF.frame, base := I.ok.ext, ownX := fun a h1 h2 => .inl (.inr ⟨h1, .inr h2⟩), has := fun x hx => let ⟨a, h1, h2⟩ := CF.has x hx; ⟨a, h1, x₂.none (x₃.none h2)⟩,
      newD := bD, XD := .inl (.inr ⟨bD, .inl rfl⟩), ext := xx }
  refine codeAny_compStart h0 rfl ?_ fun Q' E' hq => t.W.self 0 _ _ _ T₄.st hq
  refine loop_ok (s := { s with heap := h₄, toks := tk }) (X₀ := X₀) (b := s.heap) (b₀ := s.heap) h0 hG turns t I₄ C₄ P₄ T₄ (fun a ha => .inr ha) T.new (by simpa using hsz) fun h' tk' zs as e' C' I' P' rd off new => ?_
  obtain ⟨m, hmC⟩ := C'.frame.ns
  have hCl : s.heap.get? cenv.locals = none := x₂.none (x₃.none CF.locals)
  have hDC : D ≠ cenv.locals := fun q => PlainList.not_frame P' C'.frame (q ▸ .inl rfl)
  have xe : Ext s.heap h' := fun a o ho => e' a o (fun w => w.elim (fun w => by rw [w.1] at ho; cases ho) fun w => by rw [w, T.new] at ho; cases ho) (xx a o ho)
  refine q h' tk' D cenv.locals as m xe ?_ (fun a ha => ?_) bD (fun hfr => ?_) hmC hCl
  · obtain ⟨n', ho⟩ := P'
    exact .list (by simpa using ho) rd
  · rcases List.mem_cons.mp ha with rfl | ha
    · refine ⟨fun hx => ?_, hDC⟩
      obtain ⟨o, ho⟩ := I.dom _ hx; rw [bD] at ho; cases ho
    · exact ⟨fun hx => (off a ha).1 (.inl hx), fun e => (off a ha).1 (.inr ⟨e ▸ hCl, .inr (.inl e)⟩)⟩
  · obtain ⟨n1, n2⟩ := new hfr
    refine ⟨List.nodup_cons.mpr ⟨fun hm => (off D hm).1 (.inr ⟨bD, .inl rfl⟩), n1⟩, fun a ha => ?_⟩
    rcases List.mem_cons.mp ha with rfl | ha
    · exact bD
    · exact xx.none (n2 a ha)
end

theorem Ev.comp {K n sc own elt gens rest scope pos tgt iter ifs ρ ρ' fr} {F : List (PyData × List PyData)} (hg : gens = ⟨tgt, iter, ifs, 0⟩ :: rest) (hG : GensOk gens) (S : ScopeOk scope sc own)
    (hm : ∀ x d, ρ'.lookup x = some d → scope.names.lookup x = some .free ∧ ρ.lookup x = some d)
    (hit : EvIt K n sc ρ iter (F.map (·.1))) (turns : ∀ p ∈ F, TurnOk K n (relabelS scope sc) own elt gens scope pos 0 tgt ifs ρ' p.1 p.2 fr) (hsz : (F.flatMap (·.2)).length ≤ sizeLine) :
    Ev K n sc ρ (.ListComp elt gens scope pos) (.py (.list (F.flatMap (·.2)))) fr := Hide.mk fun {A env s X E} I => by
  rw [eval_ListComp]
  have e1 : firstAsync gens = false := by rw [hg]; rfl
  have e2 : firstIter gens env = eval iter env := by rw [hg]; rfl
  rw [e1, e2]
  refine comp_core (use := none) hg hG S hm hit turns hsz I fun h' tk D C as m xe rd off bD new hn hC => ?_
  refine ⟨m, hn, fun h'' hs => ?_⟩
  have eC := Eff.of_sameBut hs
  have nt : ∀ a, a = C → NoTup h' a := fun a ha xs k e => by
    subst ha; obtain ⟨o, es, ep, ho, hd, _⟩ := hn; rw [ho] at e; cases e; cases hd
  refine ⟨h'', tk, D :: as, rfl, eC.ext xe fun a ha => ha ▸ hC, Rd.off rd (eC.off (fun a ha e => (off a ha).2 e) nt), fun a ha => (off a ha).1, new⟩
end Mine

namespace Mine

section
variable {K : Cx} {n : Nat} {sc : Scope} {ρ : List (Str × D)} {a b : Expr} {pos : Pos} {fa fb : Bool} {x y : Int}

theorem Ev.op2 {op : Operator} {da db : PyData} {d : PyData} (ha : Ev K n sc ρ a (.py da) fa) (hb : Ev K n sc ρ b (.py db) fb)
    (h : ∀ {A : Around} {s : Shared} {X : Addr → Prop} {E} {va vb as bs}, Room A n → K.Ok s.heap → Rd s.heap va da as → Rd s.heap vb db bs →
      (∀ a, X a → ∃ o, s.heap.get? a = some o) → (∀ a ∈ as, ¬ X a) → (∀ a ∈ bs, ¬ X a) →
      wpAny (model K.prog K.w) A (binaryOp op va vb) (Post K s X (.py d) true) E s) :
    Ev K n sc ρ (.BinOp a op b pos) (.py d) true := Hide.mk fun {A env s X E} I => by
  refine wpAny_BinOp (Ev.then ha hb I fun va vb h₁ h₂ tk as bs ga gb => ?_)
  have x₂ := ga.ext.trans gb.ext
  refine wpAny_mono (h (s := { s with heap := h₂, toks := tk }) (X := X) I.room (I.ok.mono x₂) (Rd.ext ga.rd gb.ext) gb.rd (fun a ha => let ⟨o, ho⟩ := I.dom a ha; ⟨o, x₂ a o ho⟩) ga.off gb.off) (fun v s' p => ?_) fun _ _ x => x
  obtain ⟨h', tk', cs, rfl, g⟩ := p
  exact ⟨h', tk', cs, rfl, x₂.trans g.ext, g.rd, g.off, fun hf => ⟨(g.new hf).1, fun c hc => x₂.none ((g.new hf).2 c hc)⟩⟩

theorem Ev.addI (ha : Ev K n sc ρ a (.py (.int x)) fa) (hb : Ev K n sc ρ b (.py (.int y)) fb) : Ev K n sc ρ (.BinOp a .Add b pos) (.py (.int (x + y))) true :=
  Ev.op2 ha hb fun {A s X E va vb as bs} _ _ ra rb _ _ _ => by cases ra; cases rb; exact add_int (Post.flat (.refl _) (.int ..))
theorem Ev.subI (ha : Ev K n sc ρ a (.py (.int x)) fa) (hb : Ev K n sc ρ b (.py (.int y)) fb) : Ev K n sc ρ (.BinOp a .Sub b pos) (.py (.int (x - y))) true :=
  Ev.op2 ha hb fun {A s X E va vb as bs} _ _ ra rb _ _ _ => by cases ra; cases rb; exact sub_int (Post.flat (.refl _) (.int ..))
theorem Ev.mulI (ha : Ev K n sc ρ a (.py (.int x)) fa) (hb : Ev K n sc ρ b (.py (.int y)) fb) (hm : IntMulOk x y) : Ev K n sc ρ (.BinOp a .Mult b pos) (.py (.int (x * y))) true :=
  Ev.op2 ha hb fun {A s X E va vb as bs} _ _ ra rb _ _ _ => by cases ra; cases rb; exact mul_int (Post.flat (.refl _) (.int ..)) hm
theorem Ev.divI (ha : Ev K n sc ρ a (.py (.int x)) fa) (hb : Ev K n sc ρ b (.py (.int y)) fb) (hy : 0 < y) (hs : y < 1073741824) : Ev K n sc ρ (.BinOp a .FloorDiv b pos) (.py (.int (x / y))) true :=
  Ev.op2 ha hb fun {A s X E va vb as bs} _ _ ra rb _ _ _ => by
    cases ra; cases rb
    refine floordiv_int (by omega) ?_ (.inl (PyProof.noPylong_small (by omega)))
    rw [Int.fdiv_eq_ediv_of_nonneg _ (by omega)]
    exact Post.flat (.refl _) (.int ..)
theorem Ev.modI (ha : Ev K n sc ρ a (.py (.int x)) fa) (hb : Ev K n sc ρ b (.py (.int y)) fb) (hy : 0 < y) : Ev K n sc ρ (.BinOp a .Mod b pos) (.py (.int (x % y))) true :=
  Ev.op2 ha hb fun {A s X E va vb as bs} _ _ ra rb _ _ _ => by
    cases ra; cases rb
    refine mod_int' (by omega) ?_
    rw [Int.fmod_eq_emod_of_nonneg _ (by omega)]
    exact Post.flat (.refl _) (.int ..)

/-- lists of ints put together: the new one is its own -/
theorem Ev.addLI {xs ys : List Int} (ha : Ev K n sc ρ a (.py (iL xs)) fa) (hb : Ev K n sc ρ b (.py (iL ys)) fb) (hsz : xs.length + ys.length ≤ sizeLine) :
    Ev K n sc ρ (.BinOp a .Add b pos) (.py (iL (xs ++ ys))) true :=
  Ev.op2 ha hb fun {A s X E va vb as bs} _ _ ra rb hX _ _ => by
    cases ra with
    | @list l vs k _ as ea ra =>
    cases rb with
    | @list r ws k' _ bs eb rb =>
      obtain rfl := ra.iL_nil
      obtain rfl := rb.iL_nil
      have e1 := ra.length; have e2 := rb.length
      simp only [List.length_map] at e1 e2
      refine P.add_list (n := k) (n2 := k') ea eb ?_ (by simp [e1, e2]; exact hsz)
      refine ⟨_, s.toks, [s.heap.objs.size], rfl, Ext.push _ _, ?_, fun c hc hx => ?_, fun _ => ⟨by simp, fun c hc => ?_⟩⟩
      · show Rd _ _ (.list ((xs ++ ys).map .int)) _
        rw [List.map_append]
        refine Rd.list (vs := vs ++ ws) (n := 0) ?_ (by simpa using (ra.ext (Ext.push _ _)).append (rb.ext (Ext.push _ _)))
        have := Heap.get?_push_size s.heap (o := { cls := .type "list", data := .seq (vs.toArray ++ ws.toArray) }) rfl
        simpa using this
      · rw [List.mem_singleton.mp hc] at hx; obtain ⟨o, ho⟩ := hX _ hx; rw [push_new] at ho; cases ho
      · rw [List.mem_singleton.mp hc]; exact push_new _

theorem Ev.negI (ha : Ev K n sc ρ a (.py (.int x)) fa) : Ev K n sc ρ (.UnaryOp .USub a pos) (.py (.int (-x))) true := Hide.mk fun {A env s X E} I => by
  refine UnaryOp_ (wpAny_mono (ha.run I) (fun v s₁ p => ?_) fun _ _ x => x)
  obtain ⟨h₁, tk, as, rfl, g⟩ := p
  have ra : Rd h₁ v (.int x) as := g.rd
  cases ra
  exact neg_int (Post.flat g.ext (.int ..))
end
end Mine

namespace Mine

/-! ### comparisons -/
def CmpOk (K : Cx) (n : Nat) (op : CmpOp) (da db : D) (r : Bool) : Prop := Hide <|
  ∀ {A : Around} {s : Shared} {E : Value → Shared → Prop} {Q : Value → Shared → Prop} {va vb : Value} {as bs : List Addr}, Room A n → K.Ok s.heap → RdD K s.heap va da as → RdD K s.heap vb db bs →
    (∀ tk, Q (.bool r) { s with toks := tk }) → wpAny (model K.prog K.w) A (compareOp op va vb) Q E s

section
variable {K : Cx} {n : Nat} {sc : Scope} {ρ : List (Str × D)} {a b : Expr} {pos : Pos} {fa fb : Bool} {x y : Int} {op : CmpOp} {da db : D} {r : Bool}

theorem Ev.cmp (ha : Ev K n sc ρ a da fa) (hb : Ev K n sc ρ b db fb) (h : CmpOk K n op da db r) (hm : behindInMarks op b = false := by rfl) : Ev K n sc ρ (.Compare a [op] [b] pos) (.py (.bool r)) true :=
  Hide.mk fun {A env s X E} I => by
  refine wpAny_Compare1 (Ev.then ha hb I fun va vb h₁ h₂ tk as bs ga gb => ?_) hm
  have x₂ := ga.ext.trans gb.ext
  exact h.run (s := { s with heap := h₂, toks := tk }) I.room (I.ok.mono x₂) (ga.rd.ext gb.ext) gb.rd fun tk' => Post.flat x₂ (.bool r)
theorem Tr.cmp (ha : Ev K n sc ρ a da fa) (hb : Ev K n sc ρ b db fb) (h : CmpOk K n op da db r) (hm : behindInMarks op b = false := by rfl) : Tr K n sc ρ (.Compare a [op] [b] pos) r :=
  Hide.mk fun {A env s X E} I => by
  refine wpAny_isTrue_Compare1 (Ev.then ha hb I fun va vb h₁ h₂ tk as bs ga gb => ?_) hm
  have x₂ := ga.ext.trans gb.ext
  exact h.run (s := { s with heap := h₂, toks := tk }) I.room (I.ok.mono x₂) (ga.rd.ext gb.ext) gb.rd fun tk' => wpAny_truthy_bool ⟨rfl, h₂, tk', rfl, x₂⟩

theorem CmpOk.cast {r' : Bool} (h : CmpOk K n op da db r) (q : r = r') : CmpOk K n op da db r' := q ▸ h
theorem CmpOk.eqI : CmpOk K n .Eq (.py (.int x)) (.py (.int y)) (x == y) := Hide.mk fun {A s E Q va vb as bs} _ _ ra rb h => by
  cases ra; cases rb; exact eq_int (h s.toks)
theorem CmpOk.geI : CmpOk K n .GtE (.py (.int x)) (.py (.int y)) (decide (y ≤ x)) := Hide.mk fun {A s E Q va vb as bs} _ _ ra rb h => by
  cases ra; cases rb; exact ge_int (h s.toks)

def Shp (d : PyData) : Prop := SeqAt.shaped d = true
theorem CmpOk.eqD {p q : PyData} (hp : Shp p) (hq : Shp q) : CmpOk K n .Eq (.py p) (.py q) (PyData.eqv p q) := Hide.mk fun {A s E Q va vb as bs} ro _ ra rb h =>
  SeqAt.compareEq_shaped (Rd.reads ra) (Rd.reads rb) hp hq (by have := ro.units; omega) (h s.toks)
theorem CmpOk.neD {p q : PyData} (hp : Shp p) (hq : Shp q) : CmpOk K n .NotEq (.py p) (.py q) (!PyData.eqv p q) := Hide.mk fun {A s E Q va vb as bs} ro _ ra rb h =>
  SeqAt.compareNe_shaped (Rd.reads ra) (Rd.reads rb) hp hq (by have := ro.units; omega) (h s.toks)
theorem CmpOk.inL {p : PyData} {ds : List PyData} (hp : Shp p) (hq : Shp (.list ds)) : CmpOk K n .In (.py p) (.py (.list ds)) (ds.any fun y => PyData.eqv y p) := Hide.mk fun {A s E Q va vb as bs} ro _ ra rb h => by
  refine SeqAt.in_list_reads (Rd.reads rb) (Rd.reads ra) (by have := SeqAt.canLay_of_shaped hq; simpa [PyData.canLay0] using this) (SeqAt.canLay_of_shaped hp) ?_ (h s.toks)
  have h1 := SeqAt.depth_of_shaped hp
  have h2 := ro.units
  have := Nat.min_le_right (PyData.depthAll ds) p.depth
  omega
theorem CmpOk.notInL {p : PyData} {ds : List PyData} (hp : Shp p) (hq : Shp (.list ds)) : CmpOk K n .NotIn (.py p) (.py (.list ds)) (!ds.any fun y => PyData.eqv y p) := Hide.mk fun {A s E Q va vb as bs} ro _ ra rb h => by
  refine SeqAt.notIn_list_reads (Rd.reads rb) (Rd.reads ra) (by have := SeqAt.canLay_of_shaped hq; simpa [PyData.canLay0] using this) (SeqAt.canLay_of_shaped hp) ?_ (h s.toks)
  have h1 := SeqAt.depth_of_shaped hp
  have h2 := ro.units
  have := Nat.min_le_right (PyData.depthAll ds) p.depth
  omega

theorem valueAt_zip_isSome (ks : List Int) (vs : List Value) (h : vs.length = ks.length) (x : Int) : (valueAt (ks.zip vs) x).isSome = decide (x ∈ ks) := by
  induction ks generalizing vs with
  | nil => simp [valueAt]
  | cons k ks ih =>
    cases vs with
    | nil => simp at h
    | cons v vs =>
      have := ih vs (by simpa using h)
      simp only [valueAt, List.zip_cons_cons, List.find?_cons] at this ⊢
      by_cases e : k = x
      · subst e; simp
      · simp only [e, decide_false, List.mem_cons]
        rw [this]
        have e' : ¬ x = k := fun q => e q.symm
        simp [e']
theorem CmpOk.notInD {kvs : List (Int × PyData)} : CmpOk K n .NotIn (.py (.int x)) (.dict kvs) (!decide (x ∈ kvs.map (·.1))) := Hide.mk fun {A s E Q va vb as bs} ro _ ra rb h => by
  cases ra
  obtain ⟨a, vs, as', rfl, _, hs, hl, hd, _⟩ := rb
  refine wpAny_notIn_of (knd := intKind K.prog K.w) (intKind_is _ _ _ _) hs hd.mapOf ?_
  rw [valueAt_zip_isSome _ _ (by simpa using hl)]
  exact h _

def isNoneD : PyData → Bool | .none => true | _ => false
theorem CmpOk.isNone {p : PyData} : CmpOk K n .Is (.py p) (.py .none) (isNoneD p) := Hide.mk fun {A s E Q va vb as bs} ro _ ra rb h => by
  cases rb
  refine is_none_gen ?_
  have e : (va == Value.none) = isNoneD p := by cases ra <;> rfl
  rw [e]; exact h s.toks

/-! ### tests -/
def TruthOk (K : Cx) (n : Nat) (d : D) (r : Bool) : Prop := Hide <|
  ∀ {A : Around} {s : Shared} {E : Value → Shared → Prop} {Q : Bool → Shared → Prop} {v : Value} {as : List Addr}, Room A n → K.Ok s.heap → RdD K s.heap v d as →
    (∀ tk, Q r { s with toks := tk }) → wpAny (model K.prog K.w) A (truthy v) Q E s
theorem TruthOk.bool {b : Bool} : TruthOk K n (.py (.bool b)) b := Hide.mk fun {A s E Q v as} _ _ r h => by cases r; exact wpAny_truthy_bool (h s.toks)
theorem Tr.val {d : D} {r : Bool} (h : Ev K n sc ρ a d fa) (t : TruthOk K n d r)
    (he : ∀ env whole, isTrue a env whole = (do let v ← whole; standAt a.pos; holding [v] (truthy v)) := by intro _ _; rfl) : Tr K n sc ρ a r := Hide.mk fun {A env s X E} I => by
  refine isTrue_plain (wpAny_mono (h.run I) (fun v s₁ p => ?_) fun _ _ x => x) (he _ _)
  obtain ⟨h₁, tk, as, rfl, g⟩ := p
  exact t.run (s := { s with heap := h₁, toks := tk }) I.room (I.ok.mono g.ext) g.rd fun tk' => ⟨rfl, h₁, tk', rfl, g.ext⟩

/-- a list of tests, all of them (and) or one of them (or) -/
theorem Tr.andNil : Tr K n sc ρ (.BoolOp .And [] pos) true := Hide.mk fun {A env s X E} I => isTrue_and_nil ⟨rfl, s.heap, s.toks, shared_eta s, .refl _⟩
theorem Tr.orNil : Tr K n sc ρ (.BoolOp .Or [] pos) false := Hide.mk fun {A env s X E} I => isTrue_or_nil ⟨rfl, s.heap, s.toks, shared_eta s, .refl _⟩
theorem Tr.andCons {b c : Bool} {rest : List Expr} (h : Tr K n sc ρ a b) (h' : b = true → Tr K n sc ρ (.BoolOp .And rest pos) c) : Tr K n sc ρ (.BoolOp .And (a :: rest) pos) (b && c) := Hide.mk fun {A env s X E} I => by
  refine isTrue_and (wpAny_mono (h.run I) (fun b' s' p => ?_) fun _ _ x => x)
  obtain ⟨rfl, h₁, tk, rfl, x₁⟩ := p
  cases b' with
  | false => exact ⟨rfl, h₁, tk, rfl, x₁⟩
  | true =>
    rw [if_pos rfl]
    refine wpAny_mono ((h' rfl).run (s := { s with heap := h₁, toks := tk }) (I.ext x₁)) (fun c' s' p => ?_) fun _ _ x => x
    obtain ⟨rfl, h₂, tk', rfl, x₂⟩ := p
    exact ⟨by simp, h₂, tk', rfl, x₁.trans x₂⟩
theorem Tr.orCons {b c : Bool} {rest : List Expr} (h : Tr K n sc ρ a b) (h' : b = false → Tr K n sc ρ (.BoolOp .Or rest pos) c) : Tr K n sc ρ (.BoolOp .Or (a :: rest) pos) (b || c) := Hide.mk fun {A env s X E} I => by
  refine isTrue_or (wpAny_mono (h.run I) (fun b' s' p => ?_) fun _ _ x => x)
  obtain ⟨rfl, h₁, tk, rfl, x₁⟩ := p
  cases b' with
  | true => exact ⟨rfl, h₁, tk, rfl, x₁⟩
  | false =>
    rw [if_neg Bool.false_ne_true]
    refine wpAny_mono ((h' rfl).run (s := { s with heap := h₁, toks := tk }) (I.ext x₁)) (fun c' s' p => ?_) fun _ _ x => x
    obtain ⟨rfl, h₂, tk', rfl, x₂⟩ := p
    exact ⟨by simp, h₂, tk', rfl, x₁.trans x₂⟩
end
end Mine

namespace Mine

section
variable {K : Cx} {n : Nat} {sc : Scope} {ρ : List (Str × D)} {a b c : Expr} {pos : Pos} {fa fb fr : Bool} {x y : Int}

/-! ### and, or, not, if as values -/
theorem Ev.and {p q : Bool} (ha : Ev K n sc ρ a (.py (.bool p)) fa) (hb : p = true → Ev K n sc ρ b (.py (.bool q)) fb) : Ev K n sc ρ (.BoolOp .And [a, b] pos) (.py (.bool (p && q))) true := Hide.mk fun {A env s X E} I => by
  refine BoolOp_and (wpAny_mono (ha.run I) (fun v s₁ t => ?_) fun _ _ x => x)
  obtain ⟨h₁, tk, as, rfl, g⟩ := t
  have ra : Rd h₁ v (.bool p) as := g.rd
  cases ra
  refine wpAny_truthy_bool ?_
  cases p with
  | false => exact Post.flat g.ext (.bool _)
  | true =>
    rw [if_pos rfl]
    refine BoolOp_one (wpAny_mono ((hb rfl).run (s := { s with heap := h₁, toks := tk }) (I.ext g.ext)) (fun v s₂ t => ?_) fun _ _ x => x)
    obtain ⟨h₂, tk', bs, rfl, g'⟩ := t
    have rb : Rd h₂ v (.bool q) bs := g'.rd
    cases rb
    exact Post.flat (g.ext.trans g'.ext) (.bool _)
theorem Post.after {s : Shared} {X : Addr → Prop} {d : D} {v : Value} {s' : Shared} {h₁ : Heap} {tk : Nat} (x : Ext s.heap h₁) (p : Post K { s with heap := h₁, toks := tk } X d fr v s') : Post K s X d fr v s' := by
  obtain ⟨h₂, tk', as, rfl, g⟩ := p
  exact ⟨h₂, tk', as, rfl, x.trans g.ext, g.rd, g.off, fun hf => ⟨(g.new hf).1, fun c hc => x.none ((g.new hf).2 c hc)⟩⟩

/-! ### rows of expressions: displays, arguments -/
def EvAll (K : Cx) (n : Nat) (sc : Scope) (ρ : List (Str × D)) (es : List Expr) (ds : List PyData) (fr : Bool) : Prop := Hide <|
  ∀ {A : Around} {env : Env} {s : Shared} {X : Addr → Prop} {E : Value → Shared → Prop} {Q : List Value → Shared → Prop} {pos : Pos}, In K n sc X ρ A env s.heap →
    (∀ vs h' tk as, Ext s.heap h' → RdAll h' vs ds as → (∀ a ∈ as, ¬ X a) → (fr = true → as.Nodup ∧ ∀ a ∈ as, s.heap.get? a = none) → Q vs { s with heap := h', toks := tk }) →
    wpAny (model K.prog K.w) A (spliced (backTo pos (starEach es env))) Q E s
theorem EvAll.nil : EvAll K n sc ρ [] [] true := Hide.mk fun {A env s X E Q pos} I k => by
  refine args_nil ?_
  have := k [] s.heap s.toks [] (.refl _) .nil nofun fun _ => ⟨.nil, nofun⟩
  exact this
theorem EvAll.cons {e : Expr} {es : List Expr} {d : PyData} {ds : List PyData} {f g : Bool} (h : Ev K n sc ρ e (.py d) f) (hs : EvAll K n sc ρ es ds g)
    (he : ∀ env, starEach (e :: es) env = (false, eval e env) :: starEach es env := by intro _; rfl) : EvAll K n sc ρ (e :: es) (d :: ds) (f && g) := Hide.mk fun {A env s X E Q pos} I k => by
  refine args_cons (wpAny_mono (h.run I) (fun v s₁ p => ?_) fun _ _ x => x) (he env)
  obtain ⟨h₁, tk, as, rfl, ga⟩ := p
  refine hs.run (s := { s with heap := h₁, toks := tk }) (I.ext ga.ext) fun vs h₂ tk' bs x₂ rd off new => ?_
  refine k (v :: vs) h₂ tk' (as ++ bs) (ga.ext.trans x₂) (.cons (Rd.ext ga.rd x₂) rd) (fun c hc => ?_) fun hf => ?_
  · rcases List.mem_append.mp hc with hc | hc
    · exact ga.off c hc
    · exact off c hc
  · rw [Bool.and_eq_true] at hf
    obtain ⟨n1, m1⟩ := ga.new hf.1
    obtain ⟨n2, m2⟩ := new hf.2
    refine ⟨nodup_append n1 n2 fun c hc hd => ?_, fun c hc => ?_⟩
    · obtain ⟨o, ho⟩ := Rd.dom ga.rd c hc; rw [m2 c hd] at ho; cases ho
    · rcases List.mem_append.mp hc with hc | hc
      · exact m1 c hc
      · exact ga.ext.none (m2 c hc)

theorem Ev.list {es : List Expr} {ds : List PyData} (h : EvAll K n sc ρ es ds fr) (hsz : ds.length ≤ sizeLine := by first | decide | simp [sizeLine]) : Ev K n sc ρ (.List es pos) (.py (.list ds)) fr := Hide.mk fun {A env s X E} I => by
  refine List_ (h.run I fun vs h' tk as x rd off new => ?_)
  refine wpAny_newObj_type ?_ (by show vs.toArray.size ≤ sizeLine; rw [List.size_toArray, rd.length]; exact hsz)
  refine ⟨_, tk, h'.objs.size :: as, rfl, x.trans (Ext.push _ _), ?_, fun c hc => ?_, fun hf => ?_⟩
  · exact Rd.list (vs := vs) (n := 0) (Heap.get?_push_size _ rfl) (rd.ext (Ext.push _ _))
  · rcases List.mem_cons.mp hc with rfl | hc
    · intro hx; obtain ⟨o, ho⟩ := I.dom _ hx; have := x _ _ ho; rw [push_new] at this; cases this
    · exact off c hc
  · obtain ⟨n1, m1⟩ := new hf
    refine ⟨List.nodup_cons.mpr ⟨fun hm => ?_, n1⟩, fun c hc => ?_⟩
    · obtain ⟨o, ho⟩ := rd.dom _ hm; rw [push_new] at ho; cases ho
    · rcases List.mem_cons.mp hc with rfl | hc
      · exact x.none (push_new _)
      · exact m1 c hc
theorem Ev.tuple {es : List Expr} {ds : List PyData} {k : Nat} (h : EvAll K n sc ρ es ds fr) (hsz : ds.length ≤ sizeLine := by first | decide | simp [sizeLine]) : Ev K n sc ρ (.Tuple es k pos) (.py (.tuple ds)) fr := Hide.mk fun {A env s X E} I => by
  refine Tuple_ (h.run I fun vs h' tk as x rd off new => ?_)
  refine wpAny_newObj_type ?_ (by show vs.toArray.size ≤ sizeLine; rw [List.size_toArray, rd.length]; exact hsz)
  refine ⟨_, tk, as, rfl, x.trans (Ext.push _ _), ?_, off, new⟩
  exact Rd.tuple (vs := vs) (n := 0) (Heap.get?_push_size _ rfl) (rd.ext (Ext.push _ _))

/-! ### items -/
theorem Ev.item {ds : List PyData} {i : Int} {d : PyData} (ha : Ev K n sc ρ a (.py (.list ds)) fa) (hb : Ev K n sc ρ b (.py (.int i)) fb) (h0 : 0 ≤ i) (hi : ds[i.toNat]? = some d) (hsz : ds.length ≤ sizeLine)
    (hs : ∀ o j, subscripted b false o j = operate [o, j] (getItem o j) := by intro _ _; rfl) : Ev K n sc ρ (.Subscript a b pos) (.py d) false := Hide.mk fun {A env s X E} I => by
  refine Subscript_ (Ev.then ha hb I fun va vb h₁ h₂ tk as bs ga gb => ?_)
  have x₂ := ga.ext.trans gb.ext
  have ra : Rd h₂ va (.list ds) as := Rd.ext ga.rd gb.ext
  have rb : Rd h₂ vb (.int i) bs := gb.rd
  have oa := ga.off
  cases rb
  cases ra with
  | @list l vs k _ as ea ra =>
    obtain ⟨v, cs, h1, h2, h3⟩ := ra.get' hi
    have hl : ({ s with heap := h₂, toks := tk } : Shared).heap.IsList l vs.toArray := ⟨_, ea, rfl, _, rfl⟩
    have hlt : i.toNat < ds.length := (List.getElem?_eq_some_iff.mp hi).1
    refine tail_any hl.typeIs slot_list_getitem.lookup (wpAny_getItem_list hl h0 (by rw [sizeLine_eq] at hsz; omega) (by simpa using h1) ?_) (hs _ _)
    exact ⟨h₂, tk, cs, rfl, x₂, h2, fun c hc => oa c (.tail _ (h3 c hc)), nofun⟩
theorem Ev.itemNeg {ds : List PyData} {i : Int} {d : PyData} (ha : Ev K n sc ρ a (.py (.list ds)) fa) (hb : Ev K n sc ρ b (.py (.int i)) fb) (h0 : i < 0) (h1 : -(ds.length : Int) ≤ i) (hi : ds[(i + ds.length).toNat]? = some d) (hsz : ds.length ≤ sizeLine)
    (hs : ∀ o j, subscripted b false o j = operate [o, j] (getItem o j) := by intro _ _; rfl) : Ev K n sc ρ (.Subscript a b pos) (.py d) false := Hide.mk fun {A env s X E} I => by
  refine Subscript_ (Ev.then ha hb I fun va vb h₁ h₂ tk as bs ga gb => ?_)
  have x₂ := ga.ext.trans gb.ext
  have ra : Rd h₂ va (.list ds) as := Rd.ext ga.rd gb.ext
  have rb : Rd h₂ vb (.int i) bs := gb.rd
  have oa := ga.off
  cases rb
  cases ra with
  | @list l vs k _ as ea ra =>
    obtain ⟨v, cs, h1', h2, h3⟩ := ra.get' hi
    have hl : ({ s with heap := h₂, toks := tk } : Shared).heap.IsList l vs.toArray := ⟨_, ea, rfl, _, rfl⟩
    have hlen := ra.length
    refine tail_any hl.typeIs slot_list_getitem.lookup (wpAny_getItem_list_neg hl h0 (by simp [hlen]; exact h1) (by rw [sizeLine_eq] at hsz; omega) (by simp [hlen]; exact h1') ?_) (hs _ _)
    exact ⟨h₂, tk, cs, rfl, x₂, h2, fun c hc => oa c (.tail _ (h3 c hc)), nofun⟩
end
end Mine

namespace Mine

theorem RdAll.flat_nil {h : Heap} : ∀ {vs : List Value} {ds : List PyData} {as}, RdAll h vs ds as → (∀ d ∈ ds, Flat d) → as = []
  | [], [], _, .nil, _ => rfl
  | _ :: _, _ :: _, _, .cons a b, f => by rw [a.flat (f _ (.head _)), b.flat_nil fun d hd => f d (.tail _ hd)]; rfl

/-- some of the items, picked by place -/
theorem RdAll.drop {h : Heap} : ∀ {vs : List Value} {ds : List PyData} {as} (k : Nat), RdAll h vs ds as → ∃ bs, RdAll h (vs.drop k) (ds.drop k) bs ∧ ∀ b ∈ bs, b ∈ as
  | vs, ds, as, 0, r => ⟨as, r, fun _ h => h⟩
  | _, _, _, k + 1, .nil => ⟨[], .nil, fun _ h => h⟩
  | _, _, _, k + 1, .cons a b => let ⟨bs, r, s⟩ := b.drop k; ⟨bs, r, fun c hc => List.mem_append_right _ (s c hc)⟩
theorem RdAll.take {h : Heap} : ∀ {vs : List Value} {ds : List PyData} {as} (k : Nat), RdAll h vs ds as → ∃ bs, RdAll h (vs.take k) (ds.take k) bs ∧ ∀ b ∈ bs, b ∈ as
  | _, _, _, 0, _ => ⟨[], .nil, nofun⟩
  | _, _, _, k + 1, .nil => ⟨[], .nil, fun _ h => h⟩
  | _, _, _, k + 1, .cons a b => let ⟨bs, r, s⟩ := b.take k
    ⟨_, .cons a r, fun c hc => (List.mem_append.mp hc).elim (fun h => List.mem_append_left _ h) fun h => List.mem_append_right _ (s c h)⟩
section
variable {K : Cx} {n : Nat} {sc : Scope} {ρ : List (Str × D)} {a b c : Expr} {pos p : Pos} {fa fb fc fr : Bool} {i j : Int} {ds : List PyData}

def EvPart (K : Cx) (n : Nat) (sc : Scope) (ρ : List (Str × D)) (o : Option Expr) (k : Option Int) : Prop := Hide <|
  ∀ {A : Around} {env : Env} {s : Shared} {X : Addr → Prop} {E : Value → Shared → Prop} {Q : Value → Shared → Prop}, In K n sc X ρ A env s.heap →
    (∀ v h' tk, Ext s.heap h' → IsPart v k → Q v { s with heap := h', toks := tk }) → wpAny (model K.prog K.w) A (evalPart o env) Q E s
theorem EvPart.none : EvPart K n sc ρ none none := Hide.mk fun {A env s X E Q} I k => by
  rw [evalPart_none]
  have := k .none s.heap s.toks (.refl _) .none
  exact wpAny_pure this
theorem EvPart.some (h : Ev K n sc ρ a (.py (.int i)) fa) : EvPart K n sc ρ (some a) (some i) := Hide.mk fun {A env s X E Q} I k => by
  rw [evalPart_some]
  refine wpAny_mono (h.run I) (fun v s₁ p => ?_) fun _ _ x => x
  obtain ⟨h₁, tk, as, rfl, g⟩ := p
  have r : Rd h₁ v (.int i) as := g.rd
  cases r
  exact k _ h₁ tk g.ext (.int i _)

theorem Ev.slice {es : List PyData} {lo hi st : Option Expr} {l u t : Option Int} (ha : Ev K n sc ρ a (.py (.list ds)) fa) (hl : EvPart K n sc ρ lo l) (hu : EvPart K n sc ρ hi u) (ht : EvPart K n sc ρ st t) (h0 : t ≠ some 0)
    (hsz : ds.length ≤ sizeLine)
    (pick : ∀ {h : Heap} {vs : List Value} {as}, RdAll h vs ds as → ∃ bs, RdAll h (slicePick vs.toArray l u t).toList es bs ∧ ∀ b ∈ bs, b ∈ as)
    (hf : fr = true → ∀ d ∈ es, Flat d) : Ev K n sc ρ (.Subscript a (.Slice lo hi st p) pos) (.py (.list es)) fr := Hide.mk fun {A env s X E} I => by
  refine Subscript_ (wpAny_mono (ha.run I) (fun va s₁ q => ?_) fun _ _ x => x)
  obtain ⟨h₁, tk, as, rfl, ga⟩ := q
  have I₁ := I.ext ga.ext
  refine wpAny_Slice (hl.run (s := { s with heap := h₁, toks := tk }) I₁ fun vl h₂ tk₂ x₂ pl => hu.run (s := { s with heap := h₂, toks := tk₂ }) (I₁.ext x₂) fun vu h₃ tk₃ x₃ pu => ht.run (s := { s with heap := h₃, toks := tk₃ }) ((I₁.ext x₂).ext x₃) fun vt h₄ tk₄ x₄ pt => ?_)
  have ra : Rd h₁ va (.list ds) as := ga.rd
  have oa := ga.off
  cases ra with
  | @list r vs k _ as ea ra =>
    have xx := x₂.trans (x₃.trans x₄)
    generalize hh5 : h₄.push { cls := .type "slice", data := .fields #[vl, vu, vt] } = h₅
    have x₅ : Ext h₄ h₅ := hh5 ▸ Ext.push _ _
    have hS : h₅.IsSliceOf h₄.objs.size vl vu vt := hh5 ▸ Heap.IsSliceOf.new ..
    have x15 := xx.trans x₅
    have hL : ({ s with heap := h₅, toks := tk₄ } : Shared).heap.IsList r vs.toArray := ⟨_, x15 _ _ ea, rfl, _, rfl⟩
    have ops : ∃ ops, subscripted (.Slice lo hi st p) false (.ref r) (.ref h₄.objs.size) = operate ops (getItem (.ref r) (.ref h₄.objs.size)) := by
      cases st with
      | none => exact ⟨_, rfl⟩
      | some e => exact ⟨_, rfl⟩
    obtain ⟨ops, hops⟩ := ops
    refine tail_any hL.typeIs slot_list_getitem.lookup (wpAny_getItem_list_slice hL hS pl pu pt h0 ?_ (by simp [ra.length]; exact hsz)) hops
    obtain ⟨bs, rb, sb⟩ := pick (ra.ext x15)
    have xs5 : Ext s.heap h₅ := ga.ext.trans x15
    refine ⟨_, tk₄, h₅.objs.size :: bs, rfl, xs5.trans (Ext.push _ _), ?_, fun c hc => ?_, fun hfr => ?_⟩
    · refine Rd.list (vs := (slicePick vs.toArray l u t).toList) (n := 0) ?_ (rb.ext (Ext.push _ _))
      simpa using Heap.get?_push_size h₅ (o := { cls := .type "list", data := .seq (slicePick vs.toArray l u t) }) rfl
    · rcases List.mem_cons.mp hc with rfl | hc
      · intro hx; obtain ⟨o, ho⟩ := I.dom _ hx; have := xs5 _ _ ho; rw [push_new] at this; cases this
      · exact oa c (.tail _ (sb c hc))
    · obtain rfl := rb.flat_nil (hf hfr)
      exact ⟨by simp, fun c hc => by rw [List.mem_singleton.mp hc]; exact xs5.none (push_new _)⟩

theorem Ev.sliceFrom (ha : Ev K n sc ρ a (.py (.list ds)) fa) (hb : Ev K n sc ρ b (.py (.int i)) fb) (h0 : 0 ≤ i) (hsz : ds.length ≤ sizeLine) (hf : fr = true → ∀ d ∈ ds, Flat d) :
    Ev K n sc ρ (.Subscript a (.Slice (some b) none none p) pos) (.py (.list (ds.drop i.toNat))) fr :=
  Ev.slice ha (EvPart.some hb) EvPart.none EvPart.none nofun hsz (fun r => by
    obtain ⟨k, rfl⟩ := Int.eq_ofNat_of_zero_le h0
    show ∃ bs, RdAll _ (slicePick _ (some (k : Int)) none none).toList _ bs ∧ _
    rw [slicePick_from']; exact r.drop k) fun h d hd => hf h d (List.mem_of_mem_drop hd)
theorem Ev.sliceUpto (ha : Ev K n sc ρ a (.py (.list ds)) fa) (hb : Ev K n sc ρ b (.py (.int i)) fb) (h0 : 0 ≤ i) (hsz : ds.length ≤ sizeLine) (hf : fr = true → ∀ d ∈ ds, Flat d) :
    Ev K n sc ρ (.Subscript a (.Slice none (some b) none p) pos) (.py (.list (ds.take i.toNat))) fr :=
  Ev.slice ha EvPart.none (EvPart.some hb) EvPart.none nofun hsz (fun r => by
    obtain ⟨k, rfl⟩ := Int.eq_ofNat_of_zero_le h0
    show ∃ bs, RdAll _ (slicePick _ none (some (k : Int)) none).toList _ bs ∧ _
    rw [slicePick_upto']; exact r.take k) fun h d hd => hf h d (List.mem_of_mem_take hd)
/-- an item of a tuple -/
theorem Ev.itemT {d : PyData} (ha : Ev K n sc ρ a (.py (.tuple ds)) fa) (hb : Ev K n sc ρ b (.py (.int i)) fb) (h0 : 0 ≤ i) (hi : ds[i.toNat]? = some d) (hsz : ds.length ≤ 64)
    (hs : ∀ o j, subscripted b false o j = operate [o, j] (getItem o j) := by intro _ _; rfl) : Ev K n sc ρ (.Subscript a b pos) (.py d) false := Hide.mk fun {A env s X E} I => by
  refine Subscript_ (Ev.then ha hb I fun va vb h₁ h₂ tk as bs ga gb => ?_)
  have x₂ := ga.ext.trans gb.ext
  have ra : Rd h₂ va (.tuple ds) as := Rd.ext ga.rd gb.ext
  have rb : Rd h₂ vb (.int i) bs := gb.rd
  have oa := ga.off
  cases rb
  cases ra with
  | @tuple l vs k _ as ea ra =>
    obtain ⟨v, cs, h1, h2, h3⟩ := ra.get' hi
    have hl : ({ s with heap := h₂, toks := tk } : Shared).heap.IsTuple l vs.toArray := ⟨_, ea, rfl, _, rfl⟩
    have hlt : i.toNat < ds.length := (List.getElem?_eq_some_iff.mp hi).1
    refine tail_any hl.typeIs slot_tuple_getitem.lookup (getItem_tuple (items := vs.toArray) hl (by omega) (by omega) (seqIndex_of h0 (by simp [ra.length]; omega)) (by simpa using h1) ?_) (hs _ _)
    exact ⟨h₂, tk, cs, rfl, x₂, h2, fun c hc => oa c (h3 c hc), nofun⟩
end
end Mine

namespace Mine

def GV (K : Cx) (x : Str) (v : Value) : Prop := K.mg x = some v ∨ (K.mg x = none ∧ K.mb x = some v)

theorem name_global {K n sc X ρ A env} {s : Shared} {E : Value → Shared → Prop} {Q : Value → Shared → Prop} {x : Str} {pos : Pos} {v : Value} (I : In K n sc X ρ A env s.heap) (g : GV K x v) (hx : sc.names.lookup x = some .globalImplicit)
    (h : Q v s) (hd : (x == ("__debug__" : Str)) = false := by decide) : wpAny (model K.prog K.w) A (eval (.Name x pos) env) Q E s := by
  refine Calls.Name_function_global I.henv.kind (by show env.scope.names.lookup x = _; rw [I.hsc]; exact hx) ?_ hd
  have hg : s.heap.Ns env.globals K.mg := by rw [I.henv.globals]; exact I.ok.g.keeps I.ok.ext
  have hb : s.heap.Ns env.builtins K.mb := by rw [I.henv.builtins]; exact I.ok.b.keeps I.ok.ext
  rcases g with g | ⟨g1, g2⟩
  · exact Calls.loadGlobal_global hg g h
  · exact Calls.loadGlobal_builtin hg g1 hb g2 h

inductive RdDs (K : Cx) (h : Heap) : List Value → List D → List Addr → Prop
  | nil : RdDs K h [] [] []
  | cons {v vs d ds as bs} : RdD K h v d as → RdDs K h vs ds bs → RdDs K h (v :: vs) (d :: ds) (as ++ bs)
section
variable {K : Cx} {n : Nat} {sc : Scope} {ρ : List (Str × D)} {a b c : Expr} {pos p : Pos} {fa fb fc fr : Bool} {i j : Int} {ds : List PyData}

def EvArgs (K : Cx) (n : Nat) (sc : Scope) (ρ : List (Str × D)) (es : List Expr) (ds : List D) : Prop := Hide <|
  ∀ {A : Around} {env : Env} {s : Shared} {X : Addr → Prop} {E : Value → Shared → Prop} {Q : List Value → Shared → Prop} {pos : Pos}, In K n sc X ρ A env s.heap →
    (∀ vs h' tk as, Ext s.heap h' → RdDs K h' vs ds as → (∀ a ∈ as, ¬ X a) → Q vs { s with heap := h', toks := tk }) →
    wpAny (model K.prog K.w) A (spliced (backTo pos (starEach es env))) Q E s
theorem EvArgs.nil : EvArgs K n sc ρ [] [] := Hide.mk fun {A env s X E Q pos} I k => args_nil (k [] s.heap s.toks [] (.refl _) .nil nofun)
theorem EvArgs.cons {e : Expr} {es : List Expr} {d : D} {ds : List D} {f : Bool} (h : Ev K n sc ρ e d f) (hs : EvArgs K n sc ρ es ds)
    (he : ∀ env, starEach (e :: es) env = (false, eval e env) :: starEach es env := by intro _; rfl) : EvArgs K n sc ρ (e :: es) (d :: ds) := Hide.mk fun {A env s X E Q pos} I k => by
  refine args_cons (wpAny_mono (h.run I) (fun v s₁ p => ?_) fun _ _ x => x) (he env)
  obtain ⟨h₁, tk, as, rfl, ga⟩ := p
  refine hs.run (s := { s with heap := h₁, toks := tk }) (I.ext ga.ext) fun vs h₂ tk' bs x₂ rd off => ?_
  refine k (v :: vs) h₂ tk' (as ++ bs) (ga.ext.trans x₂) (.cons (ga.rd.ext x₂) rd) fun c hc => ?_
  rcases List.mem_append.mp hc with hc | hc
  · exact ga.off c hc
  · exact off c hc

def CallOk (K : Cx) (n : Nat) (f : Value) (ds : List D) (d : D) (fr : Bool) : Prop := Hide <|
  ∀ {A : Around} {s : Shared} {X : Addr → Prop} {E : Value → Shared → Prop} {vs : List Value} {as : List Addr}, Room A n → K.Ok s.heap → RdDs K s.heap vs ds as → (∀ a, X a → ∃ o, s.heap.get? a = some o) → (∀ a ∈ as, ¬ X a) →
    wpAny (model K.prog K.w) A (call f vs) (Post K s X d fr) E s

/-- a call of a built-in function by its name -/
theorem Ev.callB {fn : Str} {id : String} {e : Expr} {es : List Expr} {ds : List D} {d : D} (g : GV K fn (.builtin id)) (args : EvArgs K n sc ρ (e :: es) ds) (h : CallOk K n (.builtin id) ds d fr)
    (hx : sc.names.lookup fn = some .globalImplicit := by rfl) (hd : (fn == ("__debug__" : Str)) = false := by decide)
    (he : ∀ env, starEach (e :: es) env = (false, eval e env) :: starEach es env := by intro _; rfl) (hpl : ∀ env, (backTo pos (starEach es env)).any (·.1) = false := by intro _; rfl)
    (hc : ∀ env, eval (.Call (.Name fn p) (e :: es) [] pos) env = (do callWith pos (← eval (.Name fn p) env) [] (backTo pos (starEach (e :: es) env)) (backToKw pos (keywordEach [] env))) := by intro _; rfl) :
    Ev K n sc ρ (.Call (.Name fn p) (e :: es) [] pos) d fr := Hide.mk fun {A env s X E} I => by
  refine Call_ (name_global I g hx ?_ hd) (hc env)
  refine callWith_builtin1 (args.run I fun vs h' tk as x rd off => ?_) (he env) (hpl env)
  exact wpAny_mono (h.run (s := { s with heap := h', toks := tk }) (X := X) I.room (I.ok.mono x) rd (fun a ha => let ⟨o, ho⟩ := I.dom a ha; ⟨o, x a o ho⟩) off) (fun v s' p => Post.after x p) fun _ _ x => x
/-- a call of a type by its name -/
theorem Ev.callT {fn : Str} {T : String} {e : Expr} {es : List Expr} {ds : List D} {d : D} (g : GV K fn (.type T)) (args : EvArgs K n sc ρ (e :: es) ds) (h : CallOk K n (.type T) ds d fr)
    (hx : sc.names.lookup fn = some .globalImplicit := by rfl) (hd : (fn == ("__debug__" : Str)) = false := by decide)
    (he : ∀ env, starEach (e :: es) env = (false, eval e env) :: starEach es env := by intro _; rfl) (hpl : ∀ env, (backTo pos (starEach es env)).any (·.1) = false := by intro _; rfl)
    (hc : ∀ env, eval (.Call (.Name fn p) (e :: es) [] pos) env = (do callWith pos (← eval (.Name fn p) env) [] (backTo pos (starEach (e :: es) env)) (backToKw pos (keywordEach [] env))) := by intro _; rfl) :
    Ev K n sc ρ (.Call (.Name fn p) (e :: es) [] pos) d fr := Hide.mk fun {A env s X E} I => by
  refine Call_ (name_global I g hx ?_ hd) (hc env)
  have hpl' : (backTo pos (starEach (e :: es) env)).any (·.1) = false := by rw [he env]; show (false || _) = false; rw [Bool.false_or]; exact hpl env
  refine PySem.callWith_type hpl' ?_
  have key := args.run (pos := pos) (E := E) I (Q := fun vs s₁ => wpAny (model K.prog K.w) A (call (.type T) vs) (Post K s X d fr) E s₁) fun vs h' tk as x rd off =>
    wpAny_mono (h.run (s := { s with heap := h', toks := tk }) (X := X) I.room (I.ok.mono x) rd (fun a ha => let ⟨o, ho⟩ := I.dom a ha; ⟨o, x a o ho⟩) off) (fun v s' p => Post.after x p) fun _ _ x => x
  rw [he env] at key ⊢
  exact Calls.evalArgs_plain (wpAny_mono key (fun vs s₁ h₁ => h₁) fun _ _ x => x)

/-! ### built-ins -/
theorem CallOk.lenL (hsz : ds.length ≤ sizeLine) : CallOk K n (.builtin "len") [.py (.list ds)] (.py (.int ds.length)) true := Hide.mk fun {A s X E vs as} ro ok rd _ _ => by
  cases rd with
  | cons r rs =>
    cases rs
    have q : Rd s.heap _ (.list ds) _ := r
    clear r
    cases q with
    | @list l ws k _ bs e r =>
      have hl := r.length
      refine len_list (items := ws.toArray) ⟨_, e, rfl, _, rfl⟩ (by rw [sizeLine_eq] at hsz; simp only [List.size_toArray]; omega) ?_
      simp only [List.size_toArray, hl]
      exact Post.flat (.refl _) (.int ..)
/-- the unlike items of a list, as they first come -/
def dedup (xs : List Int) : List Int := xs.foldl step_dedup []
theorem step_dedup_mem (acc : List Int) (x k : Int) : k ∈ step_dedup acc x ↔ k ∈ acc ∨ k = x := by
  unfold step_dedup
  split
  · rename_i h
    constructor
    · exact Or.inl
    · rintro (h' | rfl)
      · exact h'
      · simpa using h
  · simp
theorem step_dedup_nodup {acc : List Int} {x : Int} (h : acc.Nodup) : (step_dedup acc x).Nodup := by
  unfold step_dedup
  split
  · exact h
  · rename_i hx
    refine nodup_append h (by simp) fun a ha hb => ?_
    rw [List.mem_singleton] at hb
    subst hb
    exact hx (by simpa using ha)
theorem foldl_dedup_mem (xs acc : List Int) (k : Int) : k ∈ xs.foldl step_dedup acc ↔ k ∈ acc ∨ k ∈ xs := by
  induction xs generalizing acc with
  | nil => simp
  | cons x xs ih => rw [List.foldl_cons, ih, step_dedup_mem]; simp [or_assoc]
theorem mem_dedup {xs : List Int} {k : Int} : k ∈ dedup xs ↔ k ∈ xs := by simp [dedup, foldl_dedup_mem]
theorem foldl_dedup_nodup (xs acc : List Int) (h : acc.Nodup) : (xs.foldl step_dedup acc).Nodup := by
  induction xs generalizing acc with
  | nil => exact h
  | cons x xs ih => exact ih _ (step_dedup_nodup h)
theorem nodup_dedup (xs : List Int) : (dedup xs).Nodup := foldl_dedup_nodup xs [] .nil
theorem firstMet_eq (xs : List Int) : firstMet (fun i => xs.getD i 0) xs.length = dedup xs := by
  unfold firstMet dedup
  congr 1
  apply List.ext_getElem
  · simp
  · intro i h1 h2; simp at h1; simp [h1]
theorem length_dedup_le (xs : List Int) : (dedup xs).length ≤ xs.length := by rw [← firstMet_eq]; exact firstMet_length_le _ _

theorem CallOk.set {xs : List Int} (hsz : (dedup xs).length ≤ 63) : CallOk K n (.type "set") [.py (iL xs)] (.set (dedup xs)) true := Hide.mk fun {A s X E vs as} ro ok rd hX _ => by
  cases rd with
  | cons r rs =>
    cases rs
    have q : Rd s.heap _ (.list (xs.map .int)) _ := r
    clear r
    cases q with
    | @list l ws k _ bs e r =>
      have hl := r.length
      simp only [List.length_map] at hl
      refine call_setX (items := ws.toArray) (ns := xs) ro.quiet ⟨_, e, rfl, _, rfl⟩ (by simpa using r.intsAre) (by simp only [List.size_toArray, hl, firstMet_eq]; exact hsz) fun h' tk hS hk => ?_
      simp only [List.size_toArray, hl, firstMet_eq] at hS
      have hx : Ext s.heap h' := fun b o ho => hk b o (Heap.lt_size ho) ho
      refine ⟨h', tk, [s.heap.objs.size], rfl, hx, ⟨_, rfl, rfl, nodup_dedup xs, hS.congr (fun k => ?_) rfl⟩, fun c hc hx => ?_, fun _ => ⟨by simp, fun c hc => ?_⟩⟩
      · rw [Bool.eq_iff_iff]; simp
      · rw [List.mem_singleton.mp hc] at hx; obtain ⟨o, ho⟩ := hX _ hx; rw [push_new] at ho; cases ho
      · rw [List.mem_singleton.mp hc]; exact push_new _

theorem CallOk.list (hsz : ds.length ≤ sizeLine) (hf : fr = true → ∀ d ∈ ds, Flat d) : CallOk K n (.type "list") [.py (.list ds)] (.py (.list ds)) fr := Hide.mk fun {A s X E vs as} ro ok rd hX ha => by
  cases rd with
  | cons r rs =>
    cases rs
    have q : Rd s.heap _ (.list ds) _ := r
    clear r
    cases q with
    | @list l ws k _ bs e r =>
      refine call_list_seq (T := "list") l (.inl rfl) e rfl rfl (fun h' c' hk hn => ?_) (by simp [r.length]; exact hsz)
      refine ⟨h', s.toks, s.heap.objs.size :: bs, rfl, hk, ?_, fun c hc hx => ?_, fun hfr => ?_⟩
      · exact Rd.list hn (r.ext hk)
      · rcases List.mem_cons.mp hc with rfl | hc
        · obtain ⟨o, ho⟩ := hX _ hx; rw [push_new] at ho; cases ho
        · exact ha c (by simp [hc]) hx
      · obtain rfl := r.flat_nil (hf hfr)
        exact ⟨by simp, fun c hc => by rw [List.mem_singleton.mp hc]; exact push_new _⟩

end
end Mine

namespace Mine

/-! ### statements: a map of names that are read (sh) and of names that are owned alone (ow) -/
structure Own (K : Cx) (g : Addr → Option Obj) (X : Addr → Prop) (env : Env) (sh ow : List (Str × D)) (fp : Str → List Addr) (h : Heap) : Prop where
  own : ∀ x d, ow.lookup x = some d → ∃ v, VarAt h env x v ∧ RdD K h v d (fp x) ∧ (fp x).Nodup ∧ ∀ a ∈ fp x, g a = none ∧ ¬ FrameAddr env a ∧ ¬ X a
  apart : ∀ x y, x ≠ y → (ow.lookup x).isSome = true → (ow.lookup y).isSome = true → ∀ a ∈ fp x, a ∉ fp y
  shared : ∀ x d, sh.lookup x = some d → ∃ v as, VarAt h env x v ∧ RdD K h v d as ∧ ∀ a ∈ as, ¬ FrameAddr env a ∧ ¬ X a ∧ ∀ y, (ow.lookup y).isSome = true → a ∉ fp y

structure St (K : Cx) (lv : Bool) (n : Nat) (sc : Scope) (X : Addr → Prop) (g : Addr → Option Obj) (sh ow : List (Str × D)) (A : Around) (env : Env) (h : Heap) : Prop where
  room : Room A n
  ok : K.Ok h
  hsc : env.scope = sc
  henv : EnvOk env
  frame : FrameOk h env
  base : ∀ a o, g a = some o → h.get? a = some o
  bK : ∀ a o, K.h₀.get? a = some o → g a = some o
  new : ∀ a, FrameAddr env a → g a = none
  dom : ∀ a, X a → ∃ o, h.get? a = some o
  top : lv = true → A.frames = some [env] ∧ env.frame = some env.locals
  vars : ∃ fp, Own K g X env sh ow fp h

def ownX (X : Addr → Prop) (env : Env) (ow : List (Str × D)) (fp : Str → List Addr) (a : Addr) : Prop := X a ∨ FrameAddr env a ∨ ∃ y, (ow.lookup y).isSome = true ∧ a ∈ fp y

theorem FrameOk.some {h : Heap} {env : Env} (F : FrameOk h env) {a : Addr} (x : FrameAddr env a) : ∃ o, h.get? a = some o := let ⟨o, ho, _⟩ := F.noSeq x; ⟨o, ho⟩

section
variable {K : Cx} {lv : Bool} {n : Nat} {sc : Scope} {X : Addr → Prop} {g : Addr → Option Obj} {sh ow : List (Str × D)} {A : Around} {env : Env} {h h' : Heap} {fp : Str → List Addr}

/-- reading alone: every name -/
theorem St.inAll (S : St K lv n sc X g sh ow A env h) : In K n sc (fun a => X a ∨ FrameAddr env a) (ow ++ sh) A env h := by
  obtain ⟨fp, O⟩ := S.vars
  refine ⟨S.room, S.ok, S.hsc, S.henv, S.frame, fun a ha => ha.elim (S.dom a) fun q => S.frame.some q, fun x d hx => ?_⟩
  rw [lookup_append] at hx
  cases ho : ow.lookup x with
  | some d' =>
    rw [ho] at hx
    have : d' = d := by simpa using hx
    subst this
    obtain ⟨v, h1, h2, _, h4⟩ := O.own x d' ho
    exact ⟨v, fp x, h1, h2, fun a ha q => q.elim (h4 a ha).2.2 (h4 a ha).2.1⟩
  | none =>
    rw [ho] at hx
    obtain ⟨v, as, h1, h2, h3⟩ := O.shared x d (by simpa using hx)
    exact ⟨v, as, h1, h2, fun a ha q => q.elim (h3 a ha).2.1 (h3 a ha).1⟩

/-- the names that may be handed on -/
theorem St.inSh (S : St K lv n sc X g sh ow A env h) (O : Own K g X env sh ow fp h) : In K n sc (ownX X env ow fp) sh A env h := by
  refine ⟨S.room, S.ok, S.hsc, S.henv, S.frame, fun a ha => ?_, fun x d hx => ?_⟩
  · rcases ha with ha | ha | ⟨y, hy, ha⟩
    · exact S.dom a ha
    · exact S.frame.some ha
    · obtain ⟨d, hd⟩ := Option.isSome_iff_exists.mp hy
      obtain ⟨v, _, h2, _⟩ := O.own y d hd
      exact h2.dom a ha
  · obtain ⟨v, as, h1, h2, h3⟩ := O.shared x d hx
    exact ⟨v, as, h1, h2, fun a ha q => q.elim (h3 a ha).2.1 fun q => q.elim (h3 a ha).1 fun ⟨y, hy, hm⟩ => (h3 a ha).2.2 y hy hm⟩

theorem Own.ext (O : Own K g X env sh ow fp h) (e : Ext h h') : Own K g X env sh ow fp h' :=
  ⟨fun x d hx => let ⟨v, h1, h2, h3⟩ := O.own x d hx; ⟨v, h1.ext e, h2.ext e, h3⟩, O.apart, fun x d hx => let ⟨v, as, h1, h2, h3⟩ := O.shared x d hx; ⟨v, as, h1.ext e, h2.ext e, h3⟩⟩
theorem St.withOwn (S : St K lv n sc X g sh ow A env h) {sh' ow' : List (Str × D)} (e : Ext h h') (O : Own K g X env sh' ow' fp h') : St K lv n sc X g sh' ow' A env h' :=
  ⟨S.room, S.ok.mono e, S.hsc, S.henv, S.frame.ext e, fun a o ha => e a o (S.base a o ha), S.bK, S.new, fun a ha => let ⟨o, ho⟩ := S.dom a ha; ⟨o, e a o ho⟩, S.top, fp, O⟩
theorem St.ext (S : St K lv n sc X g sh ow A env h) (e : Ext h h') : St K lv n sc X g sh ow A env h' := let ⟨fp, O⟩ := S.vars; S.withOwn e (O.ext e)

/-- forget names -/
theorem St.sub (S : St K lv n sc X g sh ow A env h) {sh' ow' : List (Str × D)} (h1 : ∀ x d, sh'.lookup x = some d → sh.lookup x = some d) (h2 : ∀ x d, ow'.lookup x = some d → ow.lookup x = some d) : St K lv n sc X g sh' ow' A env h := by
  obtain ⟨fp, O⟩ := S.vars
  have h2' : ∀ y, (ow'.lookup y).isSome = true → (ow.lookup y).isSome = true := fun y hy => by
    obtain ⟨d, hd⟩ := Option.isSome_iff_exists.mp hy; rw [h2 y d hd]; rfl
  exact S.withOwn (.refl _) ⟨fun x d hx => O.own x d (h2 x d hx), fun x y hxy hx hy => O.apart x y hxy (h2' x hx) (h2' y hy), fun x d hx => let ⟨v, as, a1, a2, a3⟩ := O.shared x d (h1 x d hx); ⟨v, as, a1, a2, fun a ha => ⟨(a3 a ha).1, (a3 a ha).2.1, fun y hy => (a3 a ha).2.2 y (h2' y hy)⟩⟩⟩

/-- an owned name is read only from now on -/
theorem St.share (S : St K lv n sc X g sh ow A env h) {x : Str} {d : D} (hx : ow.lookup x = some d) : St K lv n sc X g ((x, d) :: sh) (ow.filter fun p => !(p.1 == x)) A env h := by
  obtain ⟨fp, O⟩ := S.vars
  have look : ∀ y, (ow.filter fun p => !(p.1 == x)).lookup y = if y = x then none else ow.lookup y := by
    intro y
    clear hx O S
    induction ow with
    | nil => simp
    | cons p r ih =>
      obtain ⟨k, v⟩ := p
      by_cases hk : k = x
      · subst hk
        simp only [List.filter_cons, beq_self_eq_true, Bool.not_true, Bool.false_eq_true, if_false, ih, List.lookup_cons]
        by_cases hy : y = k
        · simp [hy]
        · have : (y == k) = false := by simpa using hy
          simp [hy, this]
      · have hk' : (k == x) = false := by simpa using hk
        simp only [List.filter_cons, hk', Bool.not_false, if_true, List.lookup_cons, ih]
        by_cases hy : y = k
        · subst hy; simp [hk]
        · have : (y == k) = false := by simpa using hy
          simp [this]
  have some' : ∀ y, ((ow.filter fun p => !(p.1 == x)).lookup y).isSome = true → y ≠ x ∧ (ow.lookup y).isSome = true := fun y hy => by
    rw [look] at hy
    by_cases q : y = x
    · simp [q] at hy
    · rw [if_neg q] at hy; exact ⟨q, hy⟩
  refine S.withOwn (fp := fp) (.refl _) ⟨fun y d' hy => ?_, fun y z hyz hy hz => O.apart y z hyz (some' y hy).2 (some' z hz).2, fun y d' hy => ?_⟩
  · rw [look] at hy
    by_cases q : y = x
    · simp [q] at hy
    · rw [if_neg q] at hy; exact O.own y d' hy
  · rw [List.lookup_cons] at hy
    by_cases q : y = x
    · subst q
      simp only [beq_self_eq_true] at hy; cases hy
      obtain ⟨v, h1, h2, h3, h4⟩ := O.own y d hx
      refine ⟨v, fp y, h1, h2, fun a ha => ⟨(h4 a ha).2.1, (h4 a ha).2.2, fun z hz hm => ?_⟩⟩
      obtain ⟨z1, z2⟩ := some' z hz
      exact O.apart y z (Ne.symm z1) (by rw [hx]; rfl) z2 a ha hm
    · have hb : (y == x) = false := by simpa using q
      simp only [hb] at hy
      obtain ⟨v, as, a1, a2, a3⟩ := O.shared y d' hy
      exact ⟨v, as, a1, a2, fun a ha => ⟨(a3 a ha).1, (a3 a ha).2.1, fun z hz => (a3 a ha).2.2 z (some' z hz).2⟩⟩
end

inductive Out where
  | next (sh ow : List (Str × D))
  | brk (sh ow : List (Str × D))
  | cont (sh ow : List (Str × D))
  | ret (d : D) (fr : Bool)

def OutOk (K : Cx) (lv : Bool) (n : Nat) (sc : Scope) (X : Addr → Prop) (g : Addr → Option Obj) (A : Around) (env : Env) (s : Shared) (o : Out) (f : Flow) (s' : Shared) : Prop :=
  ∃ h tk, s' = { s with heap := h, toks := tk } ∧ match o, f with
    | .next sh ow, .next => St K lv n sc X g sh ow A env h
    | .brk sh ow, .brk => St K lv n sc X g sh ow A env h
    | .cont sh ow, .cont => St K lv n sc X g sh ow A env h
    | .ret d fr, .ret v => ∃ as, (∀ a o, g a = some o → h.get? a = some o) ∧ RdD K h v d as ∧ (∀ a ∈ as, ¬ X a) ∧ (fr = true → as.Nodup ∧ ∀ a ∈ as, g a = none)
    | _, _ => False

def Ex (K : Cx) (lv : Bool) (n : Nat) (sc : Scope) (sh ow : List (Str × D)) (ss : List Stmt) (Q : Out → Prop) : Prop := Hide <|
  ∀ {A : Around} {env : Env} {s : Shared} {X : Addr → Prop} {g : Addr → Option Obj} {E : Value → Shared → Prop}, St K lv n sc X g sh ow A env s.heap →
    wpAny (model K.prog K.w) A (execs ss env) (fun f s' => ∃ o, Q o ∧ OutOk K lv n sc X g A env s o f s') E s
def Ex1 (K : Cx) (lv : Bool) (n : Nat) (sc : Scope) (sh ow : List (Str × D)) (st : Stmt) (Q : Out → Prop) : Prop := Hide <|
  ∀ {A : Around} {env : Env} {s : Shared} {X : Addr → Prop} {g : Addr → Option Obj} {E : Value → Shared → Prop}, St K lv n sc X g sh ow A env s.heap →
    wpAny (model K.prog K.w) A (exec st env) (fun f s' => ∃ o, Q o ∧ OutOk K lv n sc X g A env s o f s') E s

theorem OutOk.after {K lv n sc X g A env} {s : Shared} {o : Out} {f : Flow} {s' : Shared} {h : Heap} {tk : Nat} (x : OutOk K lv n sc X g A env { s with heap := h, toks := tk } o f s') : OutOk K lv n sc X g A env s o f s' := by
  obtain ⟨h', tk', rfl, r⟩ := x
  exact ⟨h', tk', rfl, r⟩

section
variable {K : Cx} {lv : Bool} {n : Nat} {sc : Scope} {sh ow : List (Str × D)} {Q : Out → Prop}

theorem Ex.nil (h : Q (.next sh ow)) : Ex K lv n sc sh ow [] Q := Hide.mk fun {A env s X g E} S => wpAny_execs_nil ⟨_, h, s.heap, s.toks, shared_eta s, S⟩
theorem Ex.sub {ss : List Stmt} {sh' ow' : List (Str × D)} (h : Ex K lv n sc sh' ow' ss Q) (h1 : ∀ x d, sh'.lookup x = some d → sh.lookup x = some d) (h2 : ∀ x d, ow'.lookup x = some d → ow.lookup x = some d) : Ex K lv n sc sh ow ss Q :=
  Hide.mk fun S => h.run (S.sub h1 h2)
theorem Ex.share {ss : List Stmt} {x : Str} {d : D} (hx : ow.lookup x = some d) (h : Ex K lv n sc ((x, d) :: sh) (ow.filter fun p => !(p.1 == x)) ss Q) : Ex K lv n sc sh ow ss Q := Hide.mk fun S => h.run (S.share hx)

theorem Ex.cons {st : Stmt} {ss : List Stmt} (h : Ex1 K lv n sc sh ow st fun o => match o with | .next sh' ow' => Ex K lv n sc sh' ow' ss Q | o => Q o) : Ex K lv n sc sh ow (st :: ss) Q := Hide.mk fun {A env s X g E} S => by
  refine wpAny_execs_cons (wpAny_mono (h.run S) (fun f s' p => ?_) fun _ _ x => x)
  obtain ⟨o, hq, h', tk, rfl, r⟩ := p
  cases o with
  | next sh' ow' =>
    cases f with
    | next => exact wpAny_mono (hq.run (s := { s with heap := h', toks := tk }) r) (fun f s' ⟨o, h1, h2⟩ => ⟨o, h1, h2.after⟩) fun _ _ x => x
    | _ => exact r.elim
  | brk sh' ow' =>
    cases f with
    | brk => exact ⟨_, hq, h', tk, rfl, r⟩
    | _ => exact r.elim
  | cont sh' ow' =>
    cases f with
    | cont => exact ⟨_, hq, h', tk, rfl, r⟩
    | _ => exact r.elim
  | ret d fr =>
    cases f with
    | ret v => exact ⟨_, hq, h', tk, rfl, r⟩
    | _ => exact r.elim

theorem Ex1.if {test : Expr} {body orelse : List Stmt} {pos : Pos} {b : Bool} (ht : Tr K n sc (ow ++ sh) test b) (h1 : b = true → Ex K lv n sc sh ow body Q) (h2 : b = false → Ex K lv n sc sh ow orelse Q) :
    Ex1 K lv n sc sh ow (.If test body orelse pos) Q := Hide.mk fun {A env s X g E} S => by
  refine wpAny_If (wpAny_mono (ht.run S.inAll) (fun b' s' p => ?_) fun _ _ x => x)
  obtain ⟨rfl, h', tk, rfl, x⟩ := p
  cases b' with
  | true => exact wpAny_mono ((h1 rfl).run (s := { s with heap := h', toks := tk }) (S.ext x)) (fun f s' ⟨o, h1, h2⟩ => ⟨o, h1, h2.after⟩) fun _ _ x => x
  | false => exact wpAny_mono ((h2 rfl).run (s := { s with heap := h', toks := tk }) (S.ext x)) (fun f s' ⟨o, h1, h2⟩ => ⟨o, h1, h2.after⟩) fun _ _ x => x

theorem Ex1.ret {e : Expr} {pos : Pos} {d : D} {fr : Bool} (h : Ev K n sc (ow ++ sh) e d fr) (hq : Q (.ret d fr)) : Ex1 K lv n sc sh ow (.Return (some e) pos) Q := Hide.mk fun {A env s X g E} S => by
  refine wpAny_Return_some (wpAny_mono (h.run S.inAll) (fun v s' p => ?_) fun _ _ x => x)
  obtain ⟨h', tk, as, rfl, gt⟩ := p
  refine ⟨_, hq, h', tk, rfl, as, fun a o ha => gt.ext a o (S.base a o ha), gt.rd, fun a ha q => gt.off a ha (.inl q), fun hf => ⟨(gt.new hf).1, fun a ha => ?_⟩⟩
  cases hg : g a with
  | none => rfl
  | some o => have := (gt.new hf).2 a ha; rw [S.base a o hg] at this; cases this
end
end Mine

namespace Mine

def del (x : Str) (l : List (Str × D)) : List (Str × D) := l.filter fun p => !(p.1 == x)
theorem lookup_del (x y : Str) (l : List (Str × D)) : (del x l).lookup y = if y = x then none else l.lookup y := by
  unfold del
  induction l with
  | nil => simp
  | cons p r ih =>
    obtain ⟨k, v⟩ := p
    by_cases hk : k = x
    · subst hk
      simp only [List.filter_cons, beq_self_eq_true, Bool.not_true, Bool.false_eq_true, if_false, ih, List.lookup_cons]
      by_cases hy : y = k
      · simp [hy]
      · have : (y == k) = false := by simpa using hy
        simp [hy, this]
    · have hk' : (k == x) = false := by simpa using hk
      simp only [List.filter_cons, hk', Bool.not_false, if_true, List.lookup_cons, ih]
      by_cases hy : y = k
      · subst hy; simp [hk]
      · have : (y == k) = false := by simpa using hy
        simp [this]
theorem lookup_del_some {x y : Str} {l : List (Str × D)} {d : D} (h : (del x l).lookup y = some d) : y ≠ x ∧ l.lookup y = some d := by
  rw [lookup_del] at h
  by_cases q : y = x
  · simp [q] at h
  · rw [if_neg q] at h; exact ⟨q, h⟩
theorem lookup_del_isSome {x y : Str} {l : List (Str × D)} (h : ((del x l).lookup y).isSome = true) : y ≠ x ∧ (l.lookup y).isSome = true := by
  obtain ⟨d, hd⟩ := Option.isSome_iff_exists.mp h
  exact ⟨(lookup_del_some hd).1, by rw [(lookup_del_some hd).2]; rfl⟩

section
variable {K : Cx} {lv : Bool} {n : Nat} {sc : Scope} {X : Addr → Prop} {g : Addr → Option Obj} {sh ow : List (Str × D)} {A : Around} {env : Env} {h h' : Heap} {fp : Str → List Addr} {x : Str} {v : Value} {a : Addr} {d : D} {as : List Addr}

theorem Own.stored (O : Own K g X env sh ow fp h) (F : FrameOk h env) (sa : StoreAddr env x a) (hs : Heap.SameBut a h h') (st : Stored env x v h h') : Own K g X env (del x sh) (del x ow) fp h' := by
  have eff := Eff.of_sameBut hs
  have nt : ∀ b, b = a → NoTup h b := fun b q => q ▸ (F.noSeq sa.frame).noTup
  refine ⟨fun y d' hy => ?_, fun y z hyz hy hz => O.apart y z hyz (lookup_del_isSome hy).2 (lookup_del_isSome hz).2, fun y d' hy => ?_⟩
  · obtain ⟨hne, hy⟩ := lookup_del_some hy
    obtain ⟨u, h1, h2, h3, h4⟩ := O.own y d' hy
    exact ⟨u, st.others y u hne h1, h2.off (eff.off (fun b hb q => (h4 b hb).2.1 (q ▸ sa.frame)) nt), h3, h4⟩
  · obtain ⟨hne, hy⟩ := lookup_del_some hy
    obtain ⟨u, bs, h1, h2, h3⟩ := O.shared y d' hy
    exact ⟨u, bs, st.others y u hne h1, h2.off (eff.off (fun b hb q => (h3 b hb).1 (q ▸ sa.frame)) nt), fun b hb => ⟨(h3 b hb).1, (h3 b hb).2.1, fun z hz => (h3 b hb).2.2 z (lookup_del_isSome hz).2⟩⟩

theorem Own.addSh (O : Own K g X env sh ow fp h) (va : VarAt h env x v) (rd : RdD K h v d as) (off : ∀ b ∈ as, ¬ ownX X env ow fp b) : Own K g X env ((x, d) :: sh) ow fp h := by
  refine ⟨O.own, O.apart, fun y d' hy => ?_⟩
  rw [List.lookup_cons] at hy
  by_cases q : y = x
  · subst q
    simp only [beq_self_eq_true] at hy; cases hy
    exact ⟨v, as, va, rd, fun b hb => ⟨fun q => off b hb (.inr (.inl q)), fun q => off b hb (.inl q), fun z hz hm => off b hb (.inr (.inr ⟨z, hz, hm⟩))⟩⟩
  · have hb : (y == x) = false := by simpa using q
    simp only [hb] at hy
    exact O.shared y d' hy

theorem Own.addOw (O : Own K g X env sh ow fp h) (hx : ow.lookup x = none) (va : VarAt h env x v) (rd : RdD K h v d as) (nd : as.Nodup) (off : ∀ b ∈ as, ¬ ownX X env ow fp b ∧ g b = none)
    (offs : ∀ y d', sh.lookup y = some d' → ∃ u bs, VarAt h env y u ∧ RdD K h u d' bs ∧ ∀ b ∈ bs, ¬ FrameAddr env b ∧ ¬ X b ∧ (∀ z, (ow.lookup z).isSome = true → b ∉ fp z) ∧ b ∉ as) :
    Own K g X env sh ((x, d) :: ow) (fun y => if y = x then as else fp y) h := by
  have look : ∀ y, ((x, d) :: ow).lookup y = if y = x then some d else ow.lookup y := fun y => by
    rw [List.lookup_cons]
    by_cases q : y = x
    · simp [q]
    · have hb : (y == x) = false := by simpa using q
      simp [q, hb]
  refine ⟨fun y d' hy => ?_, fun y z hyz hy hz b hb => ?_, fun y d' hy => ?_⟩
  · rw [look] at hy
    by_cases q : y = x
    · subst q
      simp only [if_true] at hy ⊢; cases hy
      exact ⟨v, va, rd, nd, fun b hb => ⟨(off b hb).2, fun q => (off b hb).1 (.inr (.inl q)), fun q => (off b hb).1 (.inl q)⟩⟩
    · rw [if_neg q] at hy ⊢
      exact O.own y d' hy
  · rw [look] at hy hz
    have hb : b ∈ (if y = x then as else fp y) := hb
    show b ∉ (if z = x then as else fp z)
    by_cases q : y = x
    · rw [if_pos q] at hb
      have qz : z ≠ x := fun e => hyz (q.trans e.symm)
      rw [if_neg qz] at hz ⊢
      exact fun hm => (off b hb).1 (.inr (.inr ⟨z, hz, hm⟩))
    · rw [if_neg q] at hb hy
      by_cases qz : z = x
      · rw [if_pos qz]
        exact fun hm => (off b hm).1 (.inr (.inr ⟨y, hy, hb⟩))
      · rw [if_neg qz] at hz ⊢
        exact O.apart y z hyz hy hz b hb
  · obtain ⟨u, bs, h1, h2, h3⟩ := offs y d' hy
    refine ⟨u, bs, h1, h2, fun b hb => ⟨(h3 b hb).1, (h3 b hb).2.1, fun z hz => ?_⟩⟩
    rw [look] at hz
    by_cases qz : z = x
    · simp only [qz, if_true]; exact (h3 b hb).2.2.2
    · rw [if_neg qz] at hz
      simp only [qz, if_false]
      exact (h3 b hb).2.2.1 z hz

/-- the frame's own store -/
theorem St.stored (S : St K lv n sc X g sh ow A env h) {sh' ow' : List (Str × D)} {fp' : Str → List Addr} (sa : StoreAddr env x a) (hs : Heap.SameBut a h h') (st : Stored env x v h h') (O : Own K g X env sh' ow' fp' h') :
    St K lv n sc X g sh' ow' A env h' := by
  have eff := Eff.of_sameBut hs
  have hg : g a = none := S.new a sa.frame
  have hK : K.h₀.get? a = none := by
    cases q : K.h₀.get? a with
    | none => rfl
    | some o => rw [S.bK a o q] at hg; cases hg
  refine ⟨S.room, ⟨S.ok.g, S.ok.b, S.ok.lim, eff.ext S.ok.ext fun b q => q ▸ hK⟩, S.hsc, S.henv, st.frame, fun b o hb => eff b o (fun q => by rw [q, hg] at hb; cases hb) (S.base b o hb), S.bK, S.new, fun b hb => ?_, S.top, fp', O⟩
  by_cases q : b = a
  · subst q; exact st.frame.some sa.frame
  · obtain ⟨o, ho⟩ := S.dom b hb; exact ⟨o, eff b o q ho⟩

theorem St.storeAddr (S : St K lv n sc X g sh ow A env h) (hx : sc.names.lookup x = some .local ∨ sc.names.lookup x = some .cell) : ∃ a, StoreAddr env x a := by
  rcases hx with hx | hx
  · exact ⟨_, .inl ⟨by show env.scope.names.lookup x = _; rw [S.hsc]; exact hx, rfl⟩⟩
  · have hk : env.kindOf x = some .cell := by show env.scope.names.lookup x = _; rw [S.hsc]; exact hx
    obtain ⟨c, hc⟩ := S.henv.all x (.inl hk)
    exact ⟨c, .inr ⟨hk, hc⟩⟩
end

section
variable {K : Cx} {lv : Bool} {n : Nat} {sc : Scope} {sh ow : List (Str × D)} {Q : Out → Prop} {x : Str} {p pos : Pos} {e : Expr} {d : D} {fr : Bool}

/-- x takes a value that may be shared with others that are read -/
theorem store_sh {A : Around} {env : Env} {s : Shared} {X : Addr → Prop} {g : Addr → Option Obj} {fp : Str → List Addr} {v : Value} {as : List Addr} {E : Value → Shared → Prop} {R : Unit → Shared → Prop}
    (S : St K lv n sc X g sh ow A env s.heap) (O : Own K g X env sh ow fp s.heap) (hx : sc.names.lookup x = some .local ∨ sc.names.lookup x = some .cell) (rd : RdD K s.heap v d as) (off : ∀ b ∈ as, ¬ ownX X env ow fp b)
    (k : ∀ h' tk a, FrameAddr env a → Heap.SameBut a s.heap h' → St K lv n sc X g ((x, d) :: del x sh) (del x ow) A env h' → R () { s with heap := h', toks := tk }) : wpAny (model K.prog K.w) A (storeName env x v) R E s := by
  obtain ⟨a, sa⟩ := S.storeAddr hx
  refine store_at S.henv S.frame sa fun h' tk hs st => k h' tk a sa.frame hs ?_
  have eff := Eff.of_sameBut hs
  have nt : ∀ b, b = a → NoTup s.heap b := fun b q => q ▸ (S.frame.noSeq sa.frame).noTup
  refine S.stored sa hs st ((O.stored S.frame sa hs st).addSh st.at_ (rd.off (eff.off (fun b hb q => off b hb (.inr (.inl (q ▸ sa.frame)))) nt)) fun b hb q => off b hb ?_)
  rcases q with q | q | ⟨y, hy, hm⟩
  · exact .inl q
  · exact .inr (.inl q)
  · exact .inr (.inr ⟨y, (lookup_del_isSome hy).2, hm⟩)

/-- x takes a value that nobody else has -/
theorem store_ow {A : Around} {env : Env} {s : Shared} {h₀ : Heap} {X : Addr → Prop} {g : Addr → Option Obj} {fp : Str → List Addr} {v : Value} {as : List Addr} {E : Value → Shared → Prop} {R : Unit → Shared → Prop}
    (S₀ : St K lv n sc X g sh ow A env h₀) (O : Own K g X env sh ow fp h₀) (xe : Ext h₀ s.heap) (hx : sc.names.lookup x = some .local ∨ sc.names.lookup x = some .cell) (rd : RdD K s.heap v d as) (nd : as.Nodup) (new : ∀ b ∈ as, h₀.get? b = none)
    (k : ∀ h' tk a, FrameAddr env a → Heap.SameBut a s.heap h' → St K lv n sc X g (del x sh) ((x, d) :: del x ow) A env h' → R () { s with heap := h', toks := tk }) : wpAny (model K.prog K.w) A (storeName env x v) R E s := by
  have S := S₀.ext xe
  obtain ⟨a, sa⟩ := S.storeAddr hx
  refine store_at S.henv S.frame sa fun h' tk hs st => k h' tk a sa.frame hs ?_
  have eff := Eff.of_sameBut hs
  have nt : ∀ b, b = a → NoTup s.heap b := fun b q => q ▸ (S.frame.noSeq sa.frame).noTup
  have nF : ∀ b ∈ as, ¬ FrameAddr env b := fun b hb q => by obtain ⟨o, ho⟩ := S₀.frame.some q; rw [new b hb] at ho; cases ho
  have O' := (O.ext xe).stored S.frame sa hs st
  refine S.stored sa hs st (O'.addOw (by rw [lookup_del]; simp) st.at_ (rd.off (eff.off (fun b hb q => nF b hb (q ▸ sa.frame)) nt)) nd (fun b hb => ⟨?_, ?_⟩) fun y d' hy => ?_)
  · rintro (q | q | ⟨y, hy, hm⟩)
    · obtain ⟨o, ho⟩ := S₀.dom b q; rw [new b hb] at ho; cases ho
    · exact nF b hb q
    · obtain ⟨d', hd'⟩ := Option.isSome_iff_exists.mp (lookup_del_isSome hy).2
      obtain ⟨_, _, h2, _⟩ := O.own y d' hd'
      obtain ⟨o, ho⟩ := h2.dom b hm; rw [new b hb] at ho; cases ho
  · cases q : g b with
    | none => rfl
    | some o => have := S₀.base b o q; rw [new b hb] at this; cases this
  · obtain ⟨hne, hy⟩ := lookup_del_some hy
    obtain ⟨u, bs, h1, h2, h3⟩ := O.shared y d' hy
    refine ⟨u, bs, st.others y u hne (h1.ext xe), (h2.ext xe).off (eff.off (fun b hb q => (h3 b hb).1 (q ▸ sa.frame)) nt), fun b hb => ⟨(h3 b hb).1, (h3 b hb).2.1, fun z hz => (h3 b hb).2.2 z (lookup_del_isSome hz).2, fun hm => ?_⟩⟩
    obtain ⟨o, ho⟩ := h2.dom b hb; rw [new b hm] at ho; cases ho

theorem Ex1.assign (h : Ev K n sc sh e d fr) (hq : Q (.next ((x, d) :: del x sh) (del x ow))) (hx : sc.names.lookup x = some .local ∨ sc.names.lookup x = some .cell := by first | exact Or.inl rfl | exact Or.inr rfl)
    (hsw : ∀ env, env.scope = sc → swapsWith e (some (.Name x p)) pos.line env = pure false := by intro _ _; rfl) : Ex1 K lv n sc sh ow (.Assign [.Name x p] e pos) Q := Hide.mk fun {A env s X g E} S => by
  obtain ⟨fp, O⟩ := S.vars
  refine wpAny_Assign_Name (wpAny_mono (h.run (S.inSh O)) (fun v s₁ t => ?_) fun _ _ x => x) (hsw env S.hsc)
  obtain ⟨h₁, tk, as, rfl, gt⟩ := t
  exact store_sh (s := { s with heap := h₁, toks := tk }) (S.ext gt.ext) (O.ext gt.ext) hx gt.rd gt.off fun h' tk' _ _ _ S' => ⟨_, hq, h', tk', rfl, S'⟩
/-- a value of its own, in whose making all names may be read -/
theorem Ex1.assignOwn (h : Ev K n sc (ow ++ sh) e d true) (hq : Q (.next (del x sh) ((x, d) :: del x ow))) (hx : sc.names.lookup x = some .local ∨ sc.names.lookup x = some .cell := by first | exact Or.inl rfl | exact Or.inr rfl)
    (hsw : ∀ env, env.scope = sc → swapsWith e (some (.Name x p)) pos.line env = pure false := by intro _ _; rfl) : Ex1 K lv n sc sh ow (.Assign [.Name x p] e pos) Q := Hide.mk fun {A env s X g E} S => by
  obtain ⟨fp, O⟩ := S.vars
  refine wpAny_Assign_Name (wpAny_mono (h.run S.inAll) (fun v s₁ t => ?_) fun _ _ x => x) (hsw env S.hsc)
  obtain ⟨h₁, tk, as, rfl, gt⟩ := t
  obtain ⟨nd, new⟩ := gt.new rfl
  exact store_ow (s := { s with heap := h₁, toks := tk }) S O gt.ext hx gt.rd nd new fun h' tk' _ _ _ S' => ⟨_, hq, h', tk', rfl, S'⟩
end
end Mine

namespace Mine

section
variable {K : Cx} {lv : Bool} {n : Nat} {sc : Scope} {X : Addr → Prop} {g : Addr → Option Obj} {sh ow : List (Str × D)} {A : Around} {env : Env} {h h' : Heap} {fp : Str → List Addr} {c : Addr}

theorem Own.moreX1 (O : Own K g X env sh ow fp h) (hc : h.get? c = none) : Own K g (fun a => X a ∨ a = c) env sh ow fp h := by
  refine ⟨fun x d hx => ?_, O.apart, fun x d hx => ?_⟩
  · obtain ⟨v, h1, h2, h3, h4⟩ := O.own x d hx
    exact ⟨v, h1, h2, h3, fun a ha => ⟨(h4 a ha).1, (h4 a ha).2.1, fun q => q.elim (h4 a ha).2.2 fun q => by obtain ⟨o, ho⟩ := h2.dom a ha; rw [q, hc] at ho; cases ho⟩⟩
  · obtain ⟨v, as, h1, h2, h3⟩ := O.shared x d hx
    exact ⟨v, as, h1, h2, fun a ha => ⟨(h3 a ha).1, (fun q => q.elim (h3 a ha).2.1 fun q => by obtain ⟨o, ho⟩ := h2.dom a ha; rw [q, hc] at ho; cases ho), (h3 a ha).2.2⟩⟩
theorem St.moreX1 (S : St K lv n sc X g sh ow A env h) (e : Ext h h') (hc : h.get? c = none) (hc' : ∃ o, h'.get? c = some o) : St K lv n sc (fun a => X a ∨ a = c) g sh ow A env h' := by
  obtain ⟨fp, O⟩ := S.vars
  have S' := S.ext e
  exact ⟨S'.room, S'.ok, S'.hsc, S'.henv, S'.frame, S'.base, S'.bK, S'.new, fun a ha => ha.elim (S'.dom a) fun q => q ▸ hc', S'.top, fp, (O.moreX1 hc).ext e⟩
theorem St.at1 (S : St K lv n sc X g sh ow A env h) (e : Eff (· = c) h h') (hX : X c) (hc' : ∃ o, h'.get? c = some o) (nt : NoTup h c) (nf : ¬ FrameAddr env c) (hg : g c = none) : St K lv n sc X g sh ow A env h' := by
  obtain ⟨fp, O⟩ := S.vars
  have nt' : ∀ a, a = c → NoTup h a := fun a ha => ha ▸ nt
  have hK : K.h₀.get? c = none := by
    cases q : K.h₀.get? c with
    | none => rfl
    | some o => rw [S.bK c o q] at hg; cases hg
  have va : ∀ {y u}, VarAt h env y u → VarAt h' env y u := fun {y u} r => by
    rcases r with ⟨hl, m, hn, hm⟩ | ⟨hl, c', hc', hv⟩
    · exact .inl ⟨hl, m, hn.at' fun o ho => e _ o (fun q => nf (q ▸ .inl rfl)) ho, hm⟩
    · obtain ⟨o, ho, hd⟩ := hv
      exact .inr ⟨hl, c', hc', o, e c' o (fun q => nf (q ▸ .inr ⟨_, hc'⟩)) ho, hd⟩
  refine ⟨S.room, ⟨S.ok.g, S.ok.b, S.ok.lim, e.ext S.ok.ext fun a ha => ha ▸ hK⟩, S.hsc, S.henv, S.frame.at1 e nf, fun a o ha => e a o (fun q => by rw [q, hg] at ha; cases ha) (S.base a o ha), S.bK, S.new, fun a ha => ?_, S.top, fp, ⟨fun x d hx => ?_, O.apart, fun x d hx => ?_⟩⟩
  · by_cases q : a = c
    · exact q ▸ hc'
    · obtain ⟨o, ho⟩ := S.dom a ha; exact ⟨o, e a o q ho⟩
  · obtain ⟨v, h1, h2, h3, h4⟩ := O.own x d hx
    exact ⟨v, va h1, h2.off (e.off (fun a ha q => (h4 a ha).2.2 (q ▸ hX)) nt'), h3, h4⟩
  · obtain ⟨v, as, h1, h2, h3⟩ := O.shared x d hx
    exact ⟨v, as, va h1, h2.off (e.off (fun a ha q => (h3 a ha).2.1 (q ▸ hX)) nt'), h3⟩
theorem St.lessX {X' : Addr → Prop} (S : St K lv n sc X g sh ow A env h) (s : ∀ a, X' a → X a) : St K lv n sc X' g sh ow A env h := by
  obtain ⟨fp, O⟩ := S.vars
  exact ⟨S.room, S.ok, S.hsc, S.henv, S.frame, S.base, S.bK, S.new, fun a ha => S.dom a (s a ha), S.top, fp, ⟨fun x d hx => let ⟨v, h1, h2, h3, h4⟩ := O.own x d hx; ⟨v, h1, h2, h3, fun a ha => ⟨(h4 a ha).1, (h4 a ha).2.1, fun q => (h4 a ha).2.2 (s a q)⟩⟩, O.apart,
    fun x d hx => let ⟨v, as, h1, h2, h3⟩ := O.shared x d hx; ⟨v, as, h1, h2, fun a ha => ⟨(h3 a ha).1, fun q => (h3 a ha).2.1 (s a q), (h3 a ha).2.2⟩⟩⟩⟩
theorem St.drop1 (S : St K lv n sc (fun a => X a ∨ a = c) g sh ow A env h) (e : Eff (· = c) h h') (hX : ¬ X c) (nt : NoTup h c) (nf : ¬ FrameAddr env c) (hg : g c = none) : St K lv n sc X g sh ow A env h' := by
  obtain ⟨fp, O⟩ := S.vars
  have nt' : ∀ a, a = c → NoTup h a := fun a ha => ha ▸ nt
  have hK : K.h₀.get? c = none := by
    cases q : K.h₀.get? c with
    | none => rfl
    | some o => rw [S.bK c o q] at hg; cases hg
  have va : ∀ {y u}, VarAt h env y u → VarAt h' env y u := fun {y u} r => by
    rcases r with ⟨hl, m, hn, hm⟩ | ⟨hl, c', hc', hv⟩
    · exact .inl ⟨hl, m, hn.at' fun o ho => e _ o (fun q => nf (q ▸ .inl rfl)) ho, hm⟩
    · obtain ⟨o, ho, hd⟩ := hv
      exact .inr ⟨hl, c', hc', o, e c' o (fun q => nf (q ▸ .inr ⟨_, hc'⟩)) ho, hd⟩
  refine ⟨S.room, ⟨S.ok.g, S.ok.b, S.ok.lim, e.ext S.ok.ext fun a ha => ha ▸ hK⟩, S.hsc, S.henv, S.frame.at1 e nf, fun a o ha => e a o (fun q => by rw [q, hg] at ha; cases ha) (S.base a o ha), S.bK, S.new, fun a ha => ?_, S.top, fp, ⟨fun x d hx => ?_, O.apart, fun x d hx => ?_⟩⟩
  · obtain ⟨o, ho⟩ := S.dom a (.inl ha); exact ⟨o, e a o (fun q => hX (q ▸ ha)) ho⟩
  · obtain ⟨v, h1, h2, h3, h4⟩ := O.own x d hx
    exact ⟨v, va h1, h2.off (e.off (fun a ha q => (h4 a ha).2.2 (.inr q)) nt'), h3, fun a ha => ⟨(h4 a ha).1, (h4 a ha).2.1, fun q => (h4 a ha).2.2 (.inl q)⟩⟩
  · obtain ⟨v, as, h1, h2, h3⟩ := O.shared x d hx
    exact ⟨v, as, va h1, h2.off (e.off (fun a ha q => (h3 a ha).2.1 (.inr q)) nt'), fun a ha => ⟨(h3 a ha).1, fun q => (h3 a ha).2.1 (.inl q), (h3 a ha).2.2⟩⟩
end

theorem ns_noTup {h : Heap} {a : Addr} {m} (hn : h.Ns a m) : NoTup h a := fun xs k e => by
  obtain ⟨o, es, ep, ho, hd, _⟩ := hn; rw [ho] at e; cases e; cases hd

section
variable {K : Cx} {lv : Bool} {n : Nat} {sc : Scope} {sh ow : List (Str × D)} {Q : Out → Prop} {x : Str} {p pos cpos : Pos} {own : List Str} {elt tgt iter : Expr} {ifs : List Expr} {gens rest : List Comprehension} {scope : Scope} {ρ' : List (Str × D)} {fr : Bool} {F : List (PyData × List PyData)}

/-- a comprehension's list goes to a local name before the comprehension's own names go -/
theorem Ex1.assignComp (hg : gens = ⟨tgt, iter, ifs, 0⟩ :: rest) (hG : GensOk gens) (So : ScopeOk scope sc own) (hm : ∀ y d, ρ'.lookup y = some d → scope.names.lookup y = some .free ∧ sh.lookup y = some d)
    (hit : EvIt K n sc sh iter (F.map (·.1))) (turns : ∀ q ∈ F, TurnOk K n (relabelS scope sc) own elt gens scope cpos 0 tgt ifs ρ' q.1 q.2 fr) (hsz : (F.flatMap (·.2)).length ≤ sizeLine)
    (hq : Q (.next ((x, .py (.list (F.flatMap (·.2)))) :: del x sh) (del x ow))) (hx : sc.names.lookup x = some .local := by rfl)
    (hsw : ∀ env, env.scope = sc → swapsWith (.ListComp elt gens scope cpos) (some (.Name x p)) pos.line env = pure true) : Ex1 K lv n sc sh ow (.Assign [.Name x p] (.ListComp elt gens scope cpos) pos) Q := Hide.mk fun {A env s X g E} S => by
  obtain ⟨fp, O⟩ := S.vars
  rw [exec_Assign_Name_used _ _ _ _ (hsw env S.hsc)]
  refine wpAny_bind (wpAny_standAt (wpAny_bind ?_))
  have e1 : firstAsync gens = false := by rw [hg]; rfl
  have e2 : firstIter gens env = eval iter env := by rw [hg]; rfl
  show wpAny _ A (do let _ ← comprehension (.ListComp elt gens scope cpos) scope env (firstIterPos gens cpos) (newList []) (firstAsync gens) (firstIter gens env) (some (PySem.assign (.Name x p) env))) _ _ s
  rw [e1, e2]
  refine wpAny_bind (wpAny_mono (comp_core (use := some (PySem.assign (.Name x p) env)) (Q := fun _ s' => ∃ o, Q o ∧ OutOk K lv n sc X g A env s o .next s') hg hG So hm hit turns hsz (S.inSh O) fun h' tk D C as m xe rd off bD new hn hC => ?_)
    (fun _ s' hq' => wpAny_pure (wpAny_pure hq')) fun _ _ x => x)
  show wpAny _ A (PySem.assign (.Name x p) env (.ref D)) _ _ _
  refine wpAny_assign_Name ?_
  have S' := S.moreX1 (c := C) xe hC (let ⟨o, _, _, ho, _⟩ := hn; ⟨o, ho⟩)
  have O' := (O.moreX1 (c := C) hC).ext xe
  have nf : ¬ FrameAddr env C := fun q => by obtain ⟨o, ho⟩ := S.frame.some q; rw [hC] at ho; cases ho
  have rd' : RdD K h' (.ref D) (.py (.list (F.flatMap (·.2)))) (D :: as) := rd
  refine store_sh (s := { s with heap := h', toks := tk }) S' O' (.inl hx) rd' (fun b hb q => ?_) fun h'' tk' a ha hs S'' => ?_
  · rcases q with (q | q) | q | q
    · exact (off b hb).1 (.inl q)
    · exact (off b hb).2 q
    · exact (off b hb).1 (.inr (.inl q))
    · exact (off b hb).1 (.inr (.inr q))
  · have hne : C ≠ a := fun q => nf (q ▸ ha)
    have hn' := hn.sameBut hs hne
    refine ⟨m, hn', fun h₃ hs₃ => ⟨_, hq, h₃, tk', rfl, ?_⟩⟩
    have hgC : g C = none := by
      cases q : g C with
      | none => rfl
      | some o => have := S.base C o q; rw [hC] at this; cases this
    exact S''.drop1 (Eff.of_sameBut hs₃) (fun q => by obtain ⟨o, ho⟩ := S.dom C q; rw [hC] at ho; cases ho) (ns_noTup hn') nf hgC
end
end Mine

namespace Mine

theorem codeAny_for {prog : Program} {w : World} {A : Around} {s : Shared} {R : Result → Shared → Prop} {target : Expr} {it : Value} {body orelse : List Stmt} {env : Env} (I : Nat → Shared → Prop)
    (turn : ∀ n s, I n s → wpAny (model prog w) A (pyNext it) (fun r s₁ => match r with
      | none => wpAny (model prog w) A (execs orelse env) (fun f s₃ => R (.ok f) s₃) (fun _ _ => False) s₁
      | some v => wpAny (model prog w) A (letOwnedTupleGo target it v) (fun _ s₁' => wpAny (model prog w) A (assign target env v) (fun _ s₂ => wpAny (model prog w) A (execs body env) (fun f s₃ => match f with
          | .next | .cont => ∃ m, m < n ∧ I m s₃
          | .brk => R (.ok .next) s₃
          | .ret v => R (.ok (.ret v)) s₃) (fun _ _ => False) s₂) (fun _ _ => False) s₁') (fun _ _ => False) s₁) (fun _ _ => False) s)
    (n : Nat) (h : I n s) : codeAny (model prog w) A (.forLoop target it body orelse env) R s := by
  refine codeAny_loop' rfl I (fun n s hI => ?_) n h
  show wpAny _ A ((forTurn target it body orelse env).onRaise (fun x => do noteFrame x env; theTreesLotGoes x)) _ _ s
  refine wpAny_noted ?_
  simp only [forTurn]
  refine wpAny_bind (wpAny_standAt (wpAny_bind (wpAny_onRaise (wpAny_mono (turn n s hI) (fun r s₁ h₁ => ?_) fun _ _ h' => h'.elim))))
  cases r with
  | none => exact wpAny_pure (.inr ⟨rfl, codeAny_block (wpAny_mono h₁ (fun _ _ q => q) fun _ _ h' => h'.elim)⟩)
  | some v =>
    refine wpAny_bind (wpAny_mono h₁ (fun _ s₁' h₁' => wpAny_bind (wpAny_mono h₁' (fun _ s₂ h₂ => wpAny_bind (wpAny_mono h₂ (fun f s₃ h₃ => ?_) fun _ _ h' => h'.elim)) fun _ _ h' => h'.elim)) fun _ _ h' => h'.elim)
    cases f with
    | next => exact wpAny_pure (.inl ⟨rfl, h₃⟩)
    | cont => exact wpAny_pure (.inl ⟨rfl, h₃⟩)
    | brk => exact wpAny_pure h₃
    | ret v => exact wpAny_pure h₃

theorem RdD.noTup {K : Cx} {h : Heap} {v : Value} {d : D} {as : List Addr} (r : RdD K h v d as) : ∀ a ∈ as, NoTup h a := by
  have key : ∀ {vs : List Value} {ds : List PyData} {as}, RdAll h vs ds as → ∀ a ∈ as, NoTup h a := by
    intro vs ds as r
    refine RdAll.rec (motive_1 := fun v d as _ => ∀ a ∈ as, NoTup h a) (motive_2 := fun vs ds as _ => ∀ a ∈ as, NoTup h a) ?_ ?_ ?_ ?_ ?_ ?_ ?_ ?_ r
    · intro a ha; cases ha
    · intro b a ha; cases ha
    · intro i t a ha; cases ha
    · intro x t a ha; cases ha
    · intro l vs m ds as e _ ih a ha
      rcases List.mem_cons.mp ha with rfl | ha
      · exact PlainList.noTup ⟨_, e⟩
      · exact ih a ha
    · intro l vs m ds as e _ ih a ha; exact ih a ha
    · intro a ha; cases ha
    · intro v vs d ds as bs _ _ ih1 ih2 a ha
      rcases List.mem_append.mp ha with ha | ha
      · exact ih1 a ha
      · exact ih2 a ha
  cases d with
  | py d =>
    have r : Rd h v d as := r
    intro a ha
    have := key (.one r) a ha
    exact this
  | set xs =>
    obtain ⟨a, rfl, rfl, hn, o, es, ep, t, ho, hex, hd, _⟩ := r
    intro b hb xs m e
    rw [List.mem_singleton.mp hb, ho] at e; cases e; cases hd
  | dict kvs =>
    obtain ⟨a, vs, as', rfl, rfl, hs, hl, ⟨o, es, ep, ho, hx⟩, hr⟩ := r
    intro b hb
    rcases List.mem_cons.mp hb with rfl | hb
    · intro xs m e
      rw [ho] at e; cases e
      obtain ⟨h1, h2, h3, h4, h5⟩ := hx
      simp_all
    · exact key hr b hb

section
variable {K : Cx} {lv : Bool} {n : Nat} {sc : Scope} {X : Addr → Prop} {g g' : Addr → Option Obj} {sh ow : List (Str × D)} {A : Around} {env : Env} {h h' : Heap} {fp : Str → List Addr} {c : Addr}

/-- less is kept than before -/
theorem St.lessG (S : St K lv n sc X g' sh ow A env h) (s : ∀ a o, g a = some o → g' a = some o) (hK : ∀ a o, K.h₀.get? a = some o → g a = some o) : St K lv n sc X g sh ow A env h := by
  have nn : ∀ a, g' a = none → g a = none := fun a ha => by
    cases q : g a with
    | none => rfl
    | some o => rw [s a o q] at ha; cases ha
  obtain ⟨fp, O⟩ := S.vars
  exact ⟨S.room, S.ok, S.hsc, S.henv, S.frame, fun a o ha => S.base a o (s a o ha), hK, fun a ha => nn a (S.new a ha), S.dom, S.top, fp, ⟨fun x d hx => let ⟨v, h1, h2, h3, h4⟩ := O.own x d hx; ⟨v, h1, h2, h3, fun a ha => ⟨nn a (h4 a ha).1, (h4 a ha).2⟩⟩, O.apart, O.shared⟩⟩

open Classical in
/-- all that stands is kept, but what is owned and the frame -/
noncomputable def snap (h : Heap) (env : Env) (ow : List (Str × D)) (fp : Str → List Addr) (c a : Addr) : Option Obj :=
  if FrameAddr env a ∨ (∃ y, (ow.lookup y).isSome = true ∧ a ∈ fp y) ∨ a = c then none else h.get? a
theorem snap_of {h : Heap} {env : Env} {ow : List (Str × D)} {fp : Str → List Addr} {c a : Addr} (h1 : ¬ FrameAddr env a) (h2 : ∀ y, (ow.lookup y).isSome = true → a ∉ fp y) (h3 : a ≠ c) : snap h env ow fp c a = h.get? a := by
  unfold snap
  rw [if_neg]
  rintro (q | ⟨y, hy, q⟩ | q)
  · exact h1 q
  · exact h2 y hy q
  · exact h3 q
theorem snap_none {h : Heap} {env : Env} {ow : List (Str × D)} {fp : Str → List Addr} {c a : Addr} (q : FrameAddr env a ∨ (∃ y, (ow.lookup y).isSome = true ∧ a ∈ fp y) ∨ a = c) : snap h env ow fp c a = none := by
  unfold snap; rw [if_pos q]
theorem snap_some {h : Heap} {env : Env} {ow : List (Str × D)} {fp : Str → List Addr} {c a : Addr} {o : Obj} (q : snap h env ow fp c a = some o) : h.get? a = some o ∧ ¬ FrameAddr env a ∧ (∀ y, (ow.lookup y).isSome = true → a ∉ fp y) ∧ a ≠ c := by
  unfold snap at q
  split at q
  · cases q
  · rename_i hn
    exact ⟨q, fun x => hn (.inl x), fun y hy x => hn (.inr (.inl ⟨y, hy, x⟩)), fun x => hn (.inr (.inr x))⟩

theorem St.snapped (S : St K lv n sc X g sh ow A env h) (O : Own K g X env sh ow fp h) (hc : g c = none) : St K lv n sc X (snap h env ow fp c) sh ow A env h ∧ ∀ a o, g a = some o → snap h env ow fp c a = some o := by
  have sub : ∀ a o, g a = some o → snap h env ow fp c a = some o := fun a o ha => by
    rw [snap_of]
    · exact S.base a o ha
    · intro q; rw [S.new a q] at ha; cases ha
    · intro y hy hm
      obtain ⟨d, hd⟩ := Option.isSome_iff_exists.mp hy
      obtain ⟨_, _, _, _, h4⟩ := O.own y d hd
      rw [(h4 a hm).1] at ha; cases ha
    · intro q; rw [q, hc] at ha; cases ha
  refine ⟨⟨S.room, S.ok, S.hsc, S.henv, S.frame, fun a o ha => (snap_some ha).1, fun a o ha => sub a o (S.bK a o ha), fun a ha => snap_none (.inl ha), S.dom, S.top, fp, ⟨fun x d hx => ?_, O.apart, O.shared⟩⟩, sub⟩
  obtain ⟨v, h1, h2, h3, h4⟩ := O.own x d hx
  exact ⟨v, h1, h2, h3, fun a ha => ⟨snap_none (.inr (.inl ⟨x, by rw [hx]; rfl, ha⟩)), (h4 a ha).2⟩⟩

/-- one address more is kept -/
theorem St.pin (S : St K lv n sc X g sh ow A env h) (hX : X c) (nf : ¬ FrameAddr env c) : St K lv n sc X (fun a => if a = c then h.get? c else g a) sh ow A env h := by
  obtain ⟨fp, O⟩ := S.vars
  refine ⟨S.room, S.ok, S.hsc, S.henv, S.frame, fun a o ha => ?_, fun a o ha => ?_, fun a ha => ?_, S.dom, S.top, fp, ⟨fun x d hx => ?_, O.apart, O.shared⟩⟩
  · by_cases q : a = c
    · subst q; simpa using ha
    · simp only [q, if_false] at ha; exact S.base a o ha
  · by_cases q : a = c
    · subst q; simp only [if_true]; exact S.ok.ext a o ha
    · simp only [q, if_false]; exact S.bK a o ha
  · by_cases q : a = c
    · exact absurd (q ▸ ha) nf
    · simp only [q, if_false]; exact S.new a ha
  · obtain ⟨v, h1, h2, h3, h4⟩ := O.own x d hx
    refine ⟨v, h1, h2, h3, fun a ha => ⟨?_, (h4 a ha).2⟩⟩
    by_cases q : a = c
    · exact absurd (q ▸ hX) (h4 a ha).2.2
    · simp only [q, if_false]; exact (h4 a ha).1
end

/-- a loop's target takes an item -/
def AsgS (K : Cx) (lv : Bool) (n : Nat) (sc : Scope) (tgt : Expr) (d : PyData) (sh ow sh' ow' : List (Str × D)) : Prop := Hide <|
  ∀ {A : Around} {env : Env} {s : Shared} {X : Addr → Prop} {g : Addr → Option Obj} {fp : Str → List Addr} {v : Value} {as : List Addr} {E : Value → Shared → Prop} {R : Unit → Shared → Prop},
    St K lv n sc X g sh ow A env s.heap → Own K g X env sh ow fp s.heap → Rd s.heap v d as → (∀ b ∈ as, ¬ ownX X env ow fp b) →
    (∀ h' tk, Eff (FrameAddr env) s.heap h' → St K lv n sc X g sh' ow' A env h' → R () { s with heap := h', toks := tk }) → wpAny (model K.prog K.w) A (assign tgt env v) R E s
theorem AsgS.name {K lv n sc sh ow d} {x : Str} {p : Pos} (hx : sc.names.lookup x = some .local ∨ sc.names.lookup x = some .cell := by first | exact Or.inl rfl | exact Or.inr rfl) : AsgS K lv n sc (.Name x p) d sh ow ((x, .py d) :: del x sh) (del x ow) :=
  Hide.mk fun {A env s X g fp v as E R} S O rd off k => wpAny_assign_Name (store_sh S O hx (d := .py d) rd off fun h' tk a ha hs S' => k h' tk ((Eff.of_sameBut hs).mono fun b q => q ▸ ha) S')

section
variable {K : Cx} {lv : Bool} {n : Nat} {sc : Scope} {sh ow : List (Str × D)} {Q : Out → Prop} {tgt iter : Expr} {body orelse : List Stmt} {pos : Pos} {its : List PyData}
set_option maxHeartbeats 1000000 in
theorem Ex1.for (hit : EvIt K n sc sh iter its) (Inv : Nat → List (Str × D) → List (Str × D) → Prop) (h0 : Inv 0 sh ow)
    (turn : ∀ i d sh ow, its[i]? = some d → Inv i sh ow → ∃ sh₁ ow₁, AsgS K lv n sc tgt d sh ow sh₁ ow₁ ∧ Ex K lv n sc sh₁ ow₁ body fun o => match o with
      | .next sh' ow' => Inv (i + 1) sh' ow' | .cont sh' ow' => Inv (i + 1) sh' ow' | .brk sh' ow' => Q (.next sh' ow') | .ret d fr => Q (.ret d fr))
    (done : ∀ sh ow, Inv its.length sh ow → Ex K lv n sc sh ow orelse Q) (hs : ∀ env x, foldedSetIterable iter env x = pure x := by intro _ _; rfl) :
    Ex1 K lv n sc sh ow (.For tgt iter body orelse pos) Q := Hide.mk fun {A env s X g E} S => by
  obtain ⟨fp, O⟩ := S.vars
  refine wpAny_For (hit.run (S.inSh O) fun t h₁ tk x₁ T => ?_) (hs env)
  have pI := t.plain _ _ T.st
  have hIn : s.heap.get? t.I = none := T.new
  have hgI : g t.I = none := by
    cases q : g t.I with
    | none => rfl
    | some o => have := S.base _ o q; rw [hIn] at this; cases this
  have S₁ := S.moreX1 (c := t.I) x₁ hIn pI.some
  have O₁ := (O.moreX1 (c := t.I) hIn).ext x₁
  obtain ⟨S₂, sub⟩ := S₁.snapped (c := t.I) O₁ hgI
  generalize hg2 : snap h₁ env ow fp t.I = g₂ at S₂ sub
  -- what the items and the thing are, is kept
  have kept : ∀ a, ¬ ownX X env ow fp a → a ≠ t.I → g₂ a = h₁.get? a := fun a h1 h2 => by
    rw [← hg2]; exact snap_of (fun q => h1 (.inr (.inl q))) (fun y hy q => h1 (.inr (.inr ⟨y, hy, q⟩))) h2
  have keptTup : ∀ a xs m, h₁.get? a = some { cls := .type "tuple", data := .seq xs m } → g₂ a = some { cls := .type "tuple", data := .seq xs m } := fun a xs m ha => by
    rw [← hg2, snap_of]
    · exact ha
    · intro q; obtain ⟨o, ho, hn⟩ := S₁.frame.noSeq q; rw [ho] at ha; cases ha; exact hn _ _ rfl
    · intro y hy q
      obtain ⟨d, hd⟩ := Option.isSome_iff_exists.mp hy
      obtain ⟨_, _, h2, _⟩ := O₁.own y d hd
      exact h2.noTup a q xs m ha
    · intro q; exact pI.noTup xs m (q ▸ ha)
  have gnI : g₂ t.I = none := by rw [← hg2]; exact snap_none (.inr (.inr rfl))
  have nXI : ¬ X t.I := fun q => by obtain ⟨o, ho⟩ := S.dom _ q; rw [hIn] at ho; cases ho
  refine codeAny_for (fun m s' => ∃ i sh' ow' h tk', i ≤ its.length ∧ m = its.length - i + 1 ∧ s' = { s with heap := h, toks := tk' } ∧ Inv i sh' ow' ∧ t.St i h ∧ St K lv n sc (fun a => X a ∨ a = t.I) g₂ sh' ow' A env h)
    (fun m s' hI => ?_) (its.length - 0 + 1) ⟨0, sh, ow, h₁, tk, Nat.zero_le _, rfl, rfl, h0, T.st, S₂⟩
  obtain ⟨i, sh', ow', h, tk', hi, rfl, rfl, hInv, st, S'⟩ := hI
  have pI' := t.plain _ _ st
  have nf' := pI'.not_frame S'.frame
  by_cases hlt : i < its.length
  · refine t.W.item i _ _ _ (by rw [T.len]; exact hlt) st fun v h₂ tk₂ hv st₂ hk₂ => ?_
    have e₂ : Eff (· = t.I) h h₂ := fun a o ha ho => hk₂ a o (by simpa using ha) ho
    have pI₂ := t.plain _ _ st₂
    have S₃ := S'.at1 e₂ (.inr rfl) pI₂.some pI'.noTup nf' gnI
    obtain ⟨fp₃, O₃⟩ := S₃.vars
    refine letOwned_ok pI₂ ?_
    obtain ⟨d, as, hd, rd, off⟩ := T.items i v hv
    obtain ⟨sh₁, ow₁, asg, bodyOk⟩ := turn i d sh' ow' hd hInv
    have rd₂ : Rd h₂ v d as := rd.off ⟨fun b hb o ho => S₃.base b o (by rw [kept b (off b hb).1 (off b hb).2]; exact ho), fun b xs m e => S₃.base b _ (keptTup b xs m e)⟩
    refine asg.run (s := { s with heap := h₂, toks := tk₂ }) S₃ O₃ rd₂ (fun b hb q => ?_) fun h₃ tk₃ e₃ S₄ => ?_
    · rcases q with (q | q) | q | ⟨y, hy, q⟩
      · exact (off b hb).1 (.inl q)
      · exact (off b hb).2 q
      · exact (off b hb).1 (.inr (.inl q))
      · obtain ⟨d', hd'⟩ := Option.isSome_iff_exists.mp hy
        obtain ⟨_, _, _, _, h4⟩ := O₃.own y d' hd'
        obtain ⟨o, ho⟩ := rd.dom b hb
        have := (h4 b q).1
        rw [kept b (off b hb).1 (off b hb).2, ho] at this; cases this
    · have nfI : ¬ FrameAddr env t.I := pI₂.not_frame S₃.frame
      have st₃ : t.St (i + 1) h₃ := t.W.frame _ _ _ st₂ fun b hb o ho => e₃ b o (fun q => T.off b hb (.inr (.inl q))) ho
      have S₅ := S₄.pin (c := t.I) (.inr rfl) nfI
      refine wpAny_mono (bodyOk.run (s := { s with heap := h₃, toks := tk₃ }) S₅) (fun f s₄ p => ?_) fun _ _ x => x
      obtain ⟨o, hq, h₄, tk₄, rfl, r⟩ := p
      have lessG : ∀ {sh ow}, St K lv n sc (fun a => X a ∨ a = t.I) (fun a => if a = t.I then h₃.get? t.I else g₂ a) sh ow A env h₄ → St K lv n sc (fun a => X a ∨ a = t.I) g₂ sh ow A env h₄ := fun S => S.lessG (fun a o ha => by
        by_cases q : a = t.I
        · rw [q, gnI] at ha; cases ha
        · simp only [q, if_false]; exact ha) S₂.bK
      have stNext : ∀ {sh ow}, St K lv n sc (fun a => X a ∨ a = t.I) (fun a => if a = t.I then h₃.get? t.I else g₂ a) sh ow A env h₄ → t.St (i + 1) h₄ := fun S => t.W.frame _ _ _ st₃ fun b hb o ho => by
        refine S.base b o ?_
        by_cases q : b = t.I
        · subst q; simpa using ho
        · simp only [q, if_false]
          rw [kept b (T.off b hb) q]
          obtain ⟨o', ho'⟩ := T.dom b hb
          have h3 := S₄.base b o' (by rw [kept b (T.off b hb) q]; exact ho')
          rw [ho] at h3; cases h3; exact ho'
      have back : ∀ {sh ow}, St K lv n sc (fun a => X a ∨ a = t.I) (fun a => if a = t.I then h₃.get? t.I else g₂ a) sh ow A env h₄ → St K lv n sc X g sh ow A env h₄ := fun Z => ((lessG Z).lessX fun a ha => .inl ha).lessG sub S.bK
      cases o with
      | next sh' ow' =>
        cases f with
        | next => exact ⟨its.length - (i + 1) + 1, by omega, i + 1, sh', ow', h₄, tk₄, hlt, rfl, rfl, hq, stNext r, lessG r⟩
        | _ => exact r.elim
      | cont sh' ow' =>
        cases f with
        | cont => exact ⟨its.length - (i + 1) + 1, by omega, i + 1, sh', ow', h₄, tk₄, hlt, rfl, rfl, hq, stNext r, lessG r⟩
        | _ => exact r.elim
      | brk sh' ow' =>
        cases f with
        | brk => exact ⟨_, hq, h₄, tk₄, rfl, back r⟩
        | _ => exact r.elim
      | ret d fr =>
        cases f with
        | ret v =>
          obtain ⟨as, r1, r2, r3, r4⟩ := r
          have gi : ∀ a o, g a = some o → (if a = t.I then h₃.get? t.I else g₂ a) = some o := fun a o ha => by
            by_cases q : a = t.I
            · rw [q, hgI] at ha; cases ha
            · simp only [q, if_false]; exact sub a o ha
          refine ⟨_, hq, h₄, tk₄, rfl, as, fun a o ha => r1 a o (gi a o ha), r2, fun a ha q => r3 a ha (.inl q), fun hf => ⟨(r4 hf).1, fun a ha => ?_⟩⟩
          cases q : g a with
          | none => rfl
          | some o =>
            have h1 : (if a = t.I then h₃.get? t.I else g₂ a) = none := (r4 hf).2 a ha
            rw [gi a o q] at h1; cases h1
        | _ => exact r.elim
  · have hie : i = its.length := by omega
    subst hie
    refine t.W.done _ _ _ (by rw [T.len]; exact st) fun h₂ tk₂ hk₂ => ?_
    have e₂ : Eff (· = t.I) h h₂ := fun a o ha ho => hk₂ a o (by simpa using ha) ho
    have S₃ := (S'.drop1 e₂ nXI pI'.noTup nf' gnI).lessG sub S.bK
    refine wpAny_mono ((done sh' ow' hInv).run (s := { s with heap := h₂, toks := tk₂ }) S₃) (fun f s' p => ?_) fun _ _ x => x
    obtain ⟨o, hq, r⟩ := p
    exact ⟨o, hq, r.after⟩
end
end Mine

namespace Mine

/-! ### the merge, plainly -/
section
variable {α : Type} (eq : α → α → Bool)
def strike1 (c : α) : List α → List α
  | [] => []
  | x :: t => if eq x c then t else x :: t
def okHead (R : List (List α)) (x : α) : Bool := R.all fun s => !(s.tail.any fun y => eq y x)
def cand (R : List (List α)) : Option α := R.findSome? fun r => match r with
  | [] => none
  | x :: _ => if okHead eq R x then some x else none
def c3 : Nat → List (List α) → List α × List (List α) × Bool
  | 0, R => ([], R, R.all (·.isEmpty))
  | n + 1, R => if R.all (·.isEmpty) then ([], R, true) else match cand eq R with
    | none => ([], R, false)
    | some c => (c :: (c3 n (R.map (strike1 eq c))).1, (c3 n (R.map (strike1 eq c))).2)
end

def sS : Str := "sequences"
def sR : Str := "result"
def sC : Str := "candidate"
def s1' : Str := "s1"
def s2' : Str := "s2"
def sQ : Str := "seq"
def c3Rec : DefRec := ((recsOf PySem.Challenge.pw_dn0018_02).head?).getD ⟨"", ⟨[], [], none, [], [], none, []⟩, [], { kind := .function, names := [], isGenerator := false, isCoroutine := false, more := [] }, ⟨0, 0, 0, 0⟩⟩
def c3Body : List Stmt := c3Rec.body
def c3Scope : Scope := c3Rec.scope

structure C3I (K : Cx) (env : Env) (h₀ : Heap) (As : List Addr) (h : Heap) (m : Str → Option Value) (l r : Addr) (P : List Addr) (f : Addr → List PyData) (out : List PyData) : Prop where
  ok : K.Ok h
  base : Ext K.h₀ h₀
  ns : h.Ns env.locals m
  Lnew : h₀.get? env.locals = none
  keep : Eff (· ∈ As) h₀ h
  inner : ∀ a ∈ As, ∃ (vs : List Value) (n : Nat), h.get? a = some { cls := .type "list", data := .seq vs.toArray n } ∧ RdAll h vs (f a) []
  seqV : m sS = some (.ref l)
  seqL : h.IsList l (P.map Value.ref).toArray
  resV : m sR = some (.ref r)
  resL : ∃ ws : List Value, h.PlainList r ws.toArray ∧ RdAll h ws out []
  rnew : h₀.get? r = none
  rA : r ∉ As
  lA : l ∉ As
  lr : l ≠ r
  PA : ∀ a ∈ P, a ∈ As
  AK : ∀ a ∈ As, K.h₀.get? a = none

section
variable {K : Cx} {env : Env} {h₀ h h' : Heap} {As : List Addr} {m m' : Str → Option Value} {l r : Addr} {P : List Addr} {f : Addr → List PyData} {out : List PyData}

theorem C3I.upd (C : C3I K env h₀ As h m l r P f out) {W : Addr → Prop} (e : Eff W h h') (ns' : h'.Ns env.locals m') (v1 : m' sS = m sS) (v2 : m' sR = m sR)
    (w : ∀ c, W c → c ≠ l ∧ c ≠ r ∧ c ∉ As ∧ h₀.get? c = none ∧ NoTup h c) : C3I K env h₀ As h' m' l r P f out where
  ok := ⟨C.ok.g, C.ok.b, C.ok.lim, e.ext C.ok.ext fun c hc => C.base.none (w c hc).2.2.2.1⟩
  base := C.base
  ns := ns'
  Lnew := C.Lnew
  keep := fun b o hb ho => e b o (fun hw => by rw [(w b hw).2.2.2.1] at ho; cases ho) (C.keep b o hb ho)
  inner := fun a ha => let ⟨vs, n, h1, h2⟩ := C.inner a ha; ⟨vs, n, e a _ (fun hw => (w a hw).2.2.1 ha) h1, h2.off (e.off nofun fun c hc => (w c hc).2.2.2.2)⟩
  seqV := v1.trans C.seqV
  seqL := let ⟨o, ho, hr⟩ := C.seqL; ⟨o, e l o (fun hw => (w l hw).1 rfl) ho, hr⟩
  resV := v2.trans C.resV
  resL := let ⟨ws, h1, h2⟩ := C.resL; ⟨ws, h1.at fun o ho => e r o (fun hw => (w r hw).2.1 rfl) ho, h2.off (e.off nofun fun c hc => (w c hc).2.2.2.2)⟩
  rnew := C.rnew
  rA := C.rA
  lA := C.lA
  lr := C.lr
  PA := C.PA
  AK := C.AK
theorem C3I.ext (C : C3I K env h₀ As h m l r P f out) (e : Ext h h') : C3I K env h₀ As h' m l r P f out :=
  C.upd (W := fun _ => False) (e.eff _) (C.ns.keeps e) rfl rfl nofun
theorem C3I.stored (C : C3I K env h₀ As h m l r P f out) {x : Str} {v : Value} (hs : Heap.SameBut env.locals h h') (hn : h'.Ns env.locals fun y => if y = x then some v else m y) (hx : x ≠ sS) (hx' : x ≠ sR) :
    C3I K env h₀ As h' (fun y => if y = x then some v else m y) l r P f out := by
  refine C.upd (W := (· = env.locals)) (Eff.of_sameBut hs) hn (by simp [Ne.symm hx]) (by simp [Ne.symm hx']) fun c hc => ?_
  subst hc
  refine ⟨fun q => ?_, fun q => ?_, fun q => ?_, C.Lnew, ns_noTup C.ns⟩
  · obtain ⟨o, ho, _, k, hd⟩ := C.seqL; obtain ⟨o', es, ep, ho', hd', _⟩ := C.ns; rw [q, ho] at ho'; cases ho'; rw [hd] at hd'; cases hd'
  · obtain ⟨ws, ⟨k, ho⟩, _⟩ := C.resL; obtain ⟨o', es, ep, ho', hd', _⟩ := C.ns; rw [q, ho] at ho'; cases ho'; cases hd'
  · obtain ⟨vs, k, ho, _⟩ := C.inner _ q; obtain ⟨o', es, ep, ho', hd', _⟩ := C.ns; rw [ho] at ho'; cases ho'; cases hd'

/-- the environment of the merge's frame -/
structure C3E (K : Cx) (A : Around) (n : Nat) (env : Env) : Prop where
  room : Room A n
  henv : EnvOk env
  hsc : env.scope = c3Scope
  cells : env.cells = []

theorem C3I.frameOk {A : Around} {n : Nat} (C : C3I K env h₀ As h m l r P f out) (V : C3E K A n env) : FrameOk h env := ⟨⟨m, C.ns⟩, fun x c hc => by rw [V.cells] at hc; cases hc⟩

theorem C3I.in {A : Around} {n : Nat} {ρ : List (Str × D)} (C : C3I K env h₀ As h m l r P f out) (V : C3E K A n env)
    (hv : ∀ x d, ρ.lookup x = some d → ∃ v as, m x = some v ∧ c3Scope.names.lookup x = some .local ∧ RdD K h v d as) : In K n c3Scope (fun _ => False) ρ A env h := by
  refine ⟨V.room, C.ok, V.hsc, V.henv, C.frameOk V, nofun, fun x d hx => ?_⟩
  obtain ⟨v, as, h1, h2, h3⟩ := hv x d hx
  exact ⟨v, as, .inl ⟨by show env.scope.names.lookup x = _; rw [V.hsc]; exact h2, m, C.ns, h1⟩, h3, fun _ _ q => q⟩
end
end Mine

namespace Mine

section
variable {K : Cx} {A : Around} {n : Nat} {env : Env} {s : Shared} {l : Addr} {P : List Addr} {x : Str} {px pi pos : Pos} {body orelse : List Stmt} {Q : Flow → Shared → Prop} {E : Value → Shared → Prop} {m : Str → Option Value}

theorem c3_for (V : C3E K A n env) (hx : c3Scope.names.lookup x = some .local) (J : Nat → Heap → (Str → Option Value) → Prop) (QB : Heap → (Str → Option Value) → Prop)
    (facts : ∀ i h m, J i h m → h.Ns env.locals m ∧ h.IsList l (P.map Value.ref).toArray) (hm : m sS = some (.ref l)) (h0 : J 0 s.heap m)
    (stab : ∀ i h h' m, J i h m → Eff (· = s.heap.objs.size) h h' → NoTup h s.heap.objs.size → J i h' m)
    (turn : ∀ i a h m h' tk oI, P[i]? = some a → J i h m → Heap.SameBut env.locals h h' → h'.Ns env.locals (fun y => if y = x then some (.ref a) else m y) → h'.get? s.heap.objs.size = some oI → NoTup h' s.heap.objs.size →
      wpAny (model K.prog K.w) A (execs body env) (fun f s' => ∃ h₂ tk₂ m₂, s' = { s with heap := h₂, toks := tk₂ } ∧ h₂.get? s.heap.objs.size = some oI ∧ match f with
        | .next => J (i + 1) h₂ m₂ | .cont => J (i + 1) h₂ m₂ | .brk => QB h₂ m₂ | .ret _ => False) (fun _ _ => False) { s with heap := h', toks := tk })
    (brk : ∀ h m tk, QB h m → Q .next { s with heap := h, toks := tk })
    (done : ∀ h m tk, J P.length h m → wpAny (model K.prog K.w) A (execs orelse env) Q (fun _ _ => False) { s with heap := h, toks := tk }) :
    wpAny (model K.prog K.w) A (exec (.For (.Name x px) (.Name sS pi) body orelse pos) env) Q E s := by
  have hk : ∀ y, c3Scope.names.lookup y = some .local → env.kindOf y = some .local := fun y hy => by show env.scope.names.lookup y = _; rw [V.hsc]; exact hy
  have hp : (env.scope.kind == .class || (env.scope.kind == .module && env.locals != env.globals)) = false := by rw [V.henv.kind]; rfl
  obtain ⟨hn, hl⟩ := facts 0 _ _ h0
  refine wpAny_For ?_
  refine wpAny_Name (wpAny_loadName_local V.henv.kind (hk _ rfl) hn hm ?_) (by decide)
  refine wpAny_pyIter_list hl ?_
  have hne : l ≠ s.heap.objs.size := Nat.ne_of_lt (by obtain ⟨o, ho, _⟩ := hl; exact Heap.lt_size ho)
  have hLne : env.locals ≠ s.heap.objs.size := Nat.ne_of_lt hn.lt
  have W := Walks.list (prog := K.prog) (w := K.w) V.room.quiet s.heap.objs.size l hne (P.map Value.ref).toArray
  have hsize : (P.map Value.ref).toArray.size = P.length := by simp
  have nt : ∀ {i h}, h.IsListIter s.heap.objs.size l i → NoTup h s.heap.objs.size := fun {i h} hit xs k e => by
    obtain ⟨o, ho, _, hd⟩ := hit; rw [ho] at e; cases e; cases hd
  refine codeAny_for (fun k s' => ∃ i h tk m', i ≤ P.length ∧ k = P.length - i + 1 ∧ s' = { s with heap := h, toks := tk } ∧ J i h m' ∧ h.IsListIter s.heap.objs.size l i) (fun k s' hI => ?_) (P.length - 0 + 1)
    ⟨0, _, s.toks, m, Nat.zero_le _, rfl, rfl, stab 0 _ _ m h0 (fun b o hb ho => Heap.get?_push_of_some _ ho) (NoTup.of_none (push_new _)), ⟨_, Heap.get?_push_size _ rfl, rfl, rfl⟩⟩
  obtain ⟨i, h, tk, m', hi, rfl, rfl, hJ, hit⟩ := hI
  obtain ⟨hn', hl'⟩ := facts i h m' hJ
  by_cases hlt : i < P.length
  · refine W.item i _ _ _ (by rw [hsize]; exact hlt) ⟨hit, hl'⟩ fun v h₁ tk₁ hv st₁ hk₁ => ?_
    have e₁ : Eff (· = s.heap.objs.size) h h₁ := fun b o hb ho => hk₁ b o (by simpa using hb) ho
    have hJ₁ := stab i h h₁ m' hJ e₁ (nt hit)
    have hPi : ∃ a, P[i]? = some a ∧ v = .ref a := by
      have : (P.map Value.ref).toArray[i]? = some v := hv
      simp only [List.getElem?_toArray, List.getElem?_map] at this
      cases hq : P[i]? with
      | none => rw [hq] at this; cases this
      | some a => rw [hq] at this; exact ⟨a, rfl, by simpa using this.symm⟩
    obtain ⟨a, ha, rfl⟩ := hPi
    refine wpAny_pure (wpAny_assign_Name ?_)
    refine wpAny_storeName_local (hk x hx) (facts i h₁ m' hJ₁).1 (fun h₂ hn₂ hs₂ => ?_) hp
    obtain ⟨oI, hoI, hcI, hdI⟩ := st₁.1
    have hoI₂ : h₂.get? s.heap.objs.size = some oI := (hs₂.2 _ (Ne.symm hLne)).trans hoI
    refine wpAny_mono (turn i a h₁ m' h₂ _ oI ha hJ₁ hs₂ hn₂ hoI₂ (nt ⟨oI, hoI₂, hcI, hdI⟩)) (fun f' s' p => ?_) fun _ _ q => q
    obtain ⟨h₃, tk₃, m₃, rfl, hoI₃, hr⟩ := p
    cases f' with
    | next => exact ⟨P.length - (i + 1) + 1, by omega, i + 1, h₃, tk₃, m₃, hlt, rfl, rfl, hr, oI, hoI₃, hcI, hdI⟩
    | cont => exact ⟨P.length - (i + 1) + 1, by omega, i + 1, h₃, tk₃, m₃, hlt, rfl, rfl, hr, oI, hoI₃, hcI, hdI⟩
    | brk => exact brk h₃ m₃ tk₃ hr
    | ret v => exact hr.elim
  · have hie : i = P.length := by omega
    subst hie
    refine W.done _ _ _ (by rw [hsize]; exact ⟨hit, hl'⟩) fun h₁ tk₁ hk₁ => ?_
    have e₁ : Eff (· = s.heap.objs.size) h h₁ := fun b o hb ho => hk₁ b o (by simpa using hb) ho
    exact done h₁ m' tk₁ (stab _ h h₁ m' hJ e₁ (nt hit))
end
end Mine

namespace Mine

/-- data without a list in it, not too deep -/
structure Atom (d : PyData) : Prop where
  fp : ∀ {h v as}, Rd h v d as → as = []
  lay : d.canLay0 = true
  depth : d.depth ≤ 60
  refl : PyData.eqv d d = true
  some : isNoneD d = false
theorem Atom.int (i : Int) : Atom (.int i) := ⟨fun r => r.flat trivial, by simp [PyData.canLay0], by simp [PyData.depth], by simp [PyData.eqv], rfl⟩
theorem canLayAll_of {ds : List PyData} (h : ∀ d ∈ ds, d.canLay0 = true) : PyData.canLayAll0 ds = true := by
  induction ds with
  | nil => simp [PyData.canLayAll0]
  | cons d ds ih => simp [PyData.canLayAll0, h d (.head _), ih fun e he => h e (.tail _ he)]
theorem depthAll_le {ds : List PyData} {k : Nat} (h : ∀ d ∈ ds, d.depth ≤ k) : PyData.depthAll ds ≤ k := by
  induction ds with
  | nil => simp [PyData.depthAll]
  | cons d ds ih =>
    have := h d (.head _)
    have := ih fun e he => h e (.tail _ he)
    simp only [PyData.depthAll]; omega
theorem Atom.shp {d : PyData} (h : Atom d) : Shp d := by
  have := h.depth
  simp [Shp, SeqAt.shaped, h.lay]; omega
theorem Shp.list {ds : List PyData} (h : ∀ d ∈ ds, Atom d) : Shp (.list ds) := by
  have := depthAll_le (k := 60) fun d hd => (h d hd).depth
  simp [Shp, SeqAt.shaped, PyData.canLay0, canLayAll_of fun d hd => (h d hd).lay, PyData.depth]; omega
theorem RdAll.atoms {h : Heap} : ∀ {vs ds as}, RdAll h vs ds as → (∀ d ∈ ds, Atom d) → as = []
  | _, _, _, .nil, _ => rfl
  | _, _, _, .cons a b, f => by rw [(f _ (.head _)).fp a, b.atoms fun d hd => f d (.tail _ hd)]; rfl

theorem Tr.use {K n sc ρ e b X A env} {s : Shared} {Q : Bool → Shared → Prop} {E : Value → Shared → Prop} (I : In K n sc X ρ A env s.heap) (ht : Tr K n sc ρ e b) (k : ∀ h' tk, Ext s.heap h' → Q b { s with heap := h', toks := tk }) :
    wpAny (model K.prog K.w) A (isTrue e env (eval e env)) Q E s := wpAny_mono (ht.run I) (fun b' s' p => by obtain ⟨rfl, h', tk, rfl, x⟩ := p; exact k h' tk x) fun _ _ x => x
theorem Ev.use {K n sc ρ e d fr X A env} {s : Shared} {Q : Value → Shared → Prop} {E : Value → Shared → Prop} (I : In K n sc X ρ A env s.heap) (ht : Ev K n sc ρ e d fr) (k : ∀ v h' tk as, Got K s.heap X d fr v h' as → Q v { s with heap := h', toks := tk }) :
    wpAny (model K.prog K.w) A (eval e env) Q E s := wpAny_mono (ht.run I) (fun v s' p => by obtain ⟨h', tk, as, rfl, g⟩ := p; exact k v h' tk as g) fun _ _ x => x

section
variable {K : Cx} {A : Around} {n : Nat} {env : Env} {s : Shared} {Q : Value → Shared → Prop} {E : Value → Shared → Prop} {m : Str → Option Value}

theorem c3_kind (V : C3E K A n env) {y : Str} (hy : c3Scope.names.lookup y = some .local) : env.kindOf y = some .local := by show env.scope.names.lookup y = _; rw [V.hsc]; exact hy
theorem c3_name (V : C3E K A n env) {y : Str} {p : Pos} {v : Value} (hy : c3Scope.names.lookup y = some .local) (hn : s.heap.Ns env.locals m) (hm : m y = some v) (h : Q v s) (hd : (y == ("__debug__" : Str)) = false := by decide) :
    wpAny (model K.prog K.w) A (eval (.Name y p) env) Q E s := wpAny_Name (wpAny_loadName_local V.henv.kind (c3_kind V hy) hn hm h) hd
theorem c3_store (V : C3E K A n env) {y : Str} {v : Value} {R : Unit → Shared → Prop} (hy : c3Scope.names.lookup y = some .local) (hn : s.heap.Ns env.locals m)
    (h : ∀ h', h'.Ns env.locals (fun z => if z = y then some v else m z) → Heap.SameBut env.locals s.heap h' → R () { s with heap := h', toks := s.toks + 1 }) : wpAny (model K.prog K.w) A (storeName env y v) R E s :=
  wpAny_storeName_local (c3_kind V hy) hn h (by rw [V.henv.kind]; rfl)

/-- the first item of a list that a name holds -/
theorem c3_first (V : C3E K A n env) {y : Str} {p p' pos : Pos} {k : Nat} {a : Addr} {vs : List Value} {c : Nat} {v : Value} (hy : c3Scope.names.lookup y = some .local) (hn : s.heap.Ns env.locals m) (hm : m y = some (.ref a))
    (ha : s.heap.get? a = some { cls := .type "list", data := .seq (v :: vs).toArray c }) (h : Q v { s with toks := s.toks + 1 }) (hd : (y == ("__debug__" : Str)) = false := by decide) :
    wpAny (model K.prog K.w) A (eval (.Subscript (.Name y p) (.Constant (.int 0) k p') pos) env) Q E s := by
  refine Subscript_ (c3_name V hy hn hm (wpAny_Constant_int ?_) hd)
  have hl : ({ s with toks := s.toks + 1 } : Shared).heap.IsList a (v :: vs).toArray := ⟨_, ha, rfl, _, rfl⟩
  exact tail_any hl.typeIs slot_list_getitem.lookup (wpAny_getItem_list hl (by omega) (by omega) (by rfl) h) rfl
end
end Mine

namespace Mine

def whileBody : List Stmt := match c3Body with | [_, .While _ b _ _] => b | _ => []
def stSearch : Stmt := whileBody.getD 2 (.Pass ⟨0, 0, 0, 0⟩)
def stStrike : Stmt := whileBody.getD 5 (.Pass ⟨0, 0, 0, 0⟩)

theorem RdAll.uncons {h : Heap} {vs d ds as} (r : RdAll h vs (d :: ds) as) : ∃ v vs' a b, vs = v :: vs' ∧ as = a ++ b ∧ Rd h v d a ∧ RdAll h vs' ds b := by
  cases r with
  | cons x y => exact ⟨_, _, _, _, rfl, rfl, x, y⟩

theorem push_ne {h : Heap} {a : Addr} (x : ∃ o, h.get? a = some o) : a ≠ h.objs.size := let ⟨_, ho⟩ := x; Nat.ne_of_lt (Heap.lt_size ho)

section
variable {K : Cx} {A : Around} {n : Nat} {env : Env} {s : Shared} {h₀ : Heap} {As : List Addr} {l r : Addr} {P : List Addr} {f : Addr → List PyData} {out : List PyData} {Q : Flow → Shared → Prop} {E : Value → Shared → Prop} {m : Str → Option Value}

/-- a new address is none of the merge's own -/
theorem C3I.fresh (C : C3I K env h₀ As s.heap m l r P f out) : s.heap.objs.size ≠ l ∧ s.heap.objs.size ≠ r ∧ s.heap.objs.size ∉ As ∧ s.heap.objs.size ≠ env.locals := by
  refine ⟨fun q => ?_, fun q => ?_, fun q => ?_, fun q => ?_⟩
  · obtain ⟨o, ho, _⟩ := C.seqL; exact push_ne ⟨o, ho⟩ q.symm
  · obtain ⟨ws, ⟨k, ho⟩, _⟩ := C.resL; exact push_ne ⟨_, ho⟩ q.symm
  · obtain ⟨vs, k, ho, _⟩ := C.inner _ q; exact push_ne ⟨_, ho⟩ rfl
  · obtain ⟨o, _, _, ho, _⟩ := C.ns; exact push_ne ⟨o, ho⟩ q.symm

theorem C3I.new (C : C3I K env h₀ As s.heap m l r P f out) : h₀.get? s.heap.objs.size = none := by
  cases hg : h₀.get? s.heap.objs.size with
  | none => rfl
  | some o => exact absurd (C.keep _ o C.fresh.2.2.1 hg) (by rw [push_new]; exact nofun)

def stInner : Stmt := match stSearch with | .For _ _ (_ :: b :: _) _ _ => b | s => s

theorem sameBut_iter {h h' : Heap} {c : Addr} {o : Obj} (hs : Heap.SameBut env.locals h h') (hc : c ≠ env.locals) (ho : h.get? c = some o) : h'.get? c = some o := (hs.2 c hc).trans ho

/-- is the candidate behind the first of any row? -/
theorem c3_inner (V : C3E K A n env) (C : C3I K env h₀ As s.heap m l r P f out) (hat : ∀ a ∈ As, ∀ d ∈ f a, Atom d) (hsz : ∀ a ∈ As, (f a).length ≤ sizeLine)
    {x : PyData} {v : Value} (hx : Atom x) (hc : m sC = some v) (rv : Rd s.heap v x [])
    (k1 : okHead PyData.eqv (P.map f) x = true → ∀ h' tk m', C3I K env h₀ As h' m' l r P f out → m' sC = some v → Rd h' v x [] → (∀ b o, b ≠ env.locals → s.heap.get? b = some o → h'.get? b = some o) → Q .brk { s with heap := h', toks := tk })
    (k2 : okHead PyData.eqv (P.map f) x = false → ∀ h' tk m', C3I K env h₀ As h' m' l r P f out → m' sC = some .none → (∀ b o, b ≠ env.locals → s.heap.get? b = some o → h'.get? b = some o) → Q .next { s with heap := h', toks := tk }) :
    wpAny (model K.prog K.w) A (exec stInner env) Q E s := by
  have fr := C.fresh
  have hnew := C.new
  have stab : ∀ {h h' m}, C3I K env h₀ As h m l r P f out → Eff (· = s.heap.objs.size) h h' → NoTup h s.heap.objs.size → C3I K env h₀ As h' m l r P f out := fun {h h' m} C' e nt =>
    C'.upd e (C'.ns.at' fun o ho => e _ o (Ne.symm fr.2.2.2) ho) rfl rfl fun c hc => by cases hc; exact ⟨fr.1, fr.2.1, fr.2.2.1, hnew, nt⟩
  have kp : ∀ {h h' : Heap}, (∀ b o, b ≠ env.locals → s.heap.get? b = some o → h.get? b = some o) → Eff (· = s.heap.objs.size) h h' → ∀ b o, b ≠ env.locals → s.heap.get? b = some o → h'.get? b = some o := fun {h h'} h1 h2 b o hb ho =>
    h2 b o (push_ne ⟨o, ho⟩) (h1 b o hb ho)
  refine c3_for (P := P) (l := l) (x := s2') V (by rfl)
    (fun i h m' => C3I K env h₀ As h m' l r P f out ∧ m' sC = some v ∧ Rd h v x [] ∧ (∀ b o, b ≠ env.locals → s.heap.get? b = some o → h.get? b = some o) ∧ ∀ (j : Nat) a, j < i → P[j]? = some a → ((f a).tail.any fun y => PyData.eqv y x) = false)
    (fun h m' => C3I K env h₀ As h m' l r P f out ∧ m' sC = some .none ∧ (∀ b o, b ≠ env.locals → s.heap.get? b = some o → h.get? b = some o) ∧ okHead PyData.eqv (P.map f) x = false)
    (fun i h m' J => ⟨J.1.ns, J.1.seqL⟩) C.seqV ⟨C, hc, rv, fun _ _ _ e => e, fun j a hj => absurd hj (Nat.not_lt_zero _)⟩
    (fun i h h' m' J e nt => ⟨stab J.1 e nt, J.2.1, J.2.2.1.off (e.off nofun fun b hb => hb ▸ nt), kp J.2.2.2.1 e, J.2.2.2.2⟩) ?_ ?_ ?_
  · rintro i a h m₁ h₁ tk oI hPi ⟨C₁, hc₁, rv₁, kp₁, hno⟩ hs₁ hn₁ hoI ntI
    have haP : a ∈ P := List.mem_of_getElem? hPi
    have haA := C₁.PA a haP
    have C₂ := C₁.stored hs₁ hn₁ (by decide) (by decide)
    have rv₂ : Rd h₁ v x [] := rv₁.off ((Eff.of_sameBut hs₁).off nofun fun b hb => hb ▸ ns_noTup C₁.ns)
    obtain ⟨vs, c, hva, rva⟩ := C₂.inner a haA
    have I : In K n c3Scope (fun _ => False) [(sC, .py x), (s2', .py (.list (f a)))] A env h₁ := C₂.in V fun y d hy => by
      rw [List.lookup_cons] at hy
      by_cases q : y = sC
      · subst q; simp at hy; subst hy
        exact ⟨v, [], by simp [show sC ≠ s2' from by decide]; exact hc₁, by rfl, rv₂⟩
      · have hb : (y == sC) = false := by simpa using q
        simp only [hb, List.lookup_cons] at hy
        by_cases q2 : y = s2'
        · subst q2; simp at hy; subst hy
          exact ⟨.ref a, [a], by simp, by rfl, Rd.list hva rva⟩
        · have hb2 : (y == s2') = false := by simpa using q2
          simp [hb2] at hy
    refine wpAny_execs_cons (wpAny_If (Tr.use (b := (f a).tail.any fun y => PyData.eqv y x) (s := { s with heap := h₁, toks := tk }) I
      (Tr.cmp (Ev.name (by rfl)) (Ev.sliceFrom (fr := false) (Ev.name (by rfl)) Ev.cInt (by decide) (hsz a haA) nofun) (CmpOk.cast (CmpOk.inL hx.shp (Shp.list fun d hd => hat a haA d (List.mem_of_mem_drop hd))) (by
        cases f a <;> simp))) fun h₂ tk₂ x₂ => ?_))
    have C₃ := C₂.ext x₂
    have kp₃ : ∀ b o, b ≠ env.locals → s.heap.get? b = some o → h₂.get? b = some o := fun b o hb ho => x₂ b o ((hs₁.2 b hb).trans (kp₁ b o hb ho))
    cases hb : (f a).tail.any fun y => PyData.eqv y x with
    | true =>
      rw [if_pos rfl]
      refine wpAny_execs_cons (wpAny_Assign_Name (Constant_none ?_))
      refine c3_store V (y := sC) (by rfl) C₃.ns fun h₃ hn₃ hs₃ => ?_
      have C₄ := C₃.stored hs₃ hn₃ (by decide) (by decide)
      refine wpAny_execs_cons ?_
      refine fun _ _ _ => ⟨h₃, _, _, rfl, sameBut_iter hs₃ fr.2.2.2 (x₂ _ _ hoI), C₄, by simp, fun b o hb ho => (hs₃.2 b hb).trans (kp₃ b o hb ho), ?_⟩
      unfold okHead
      rw [List.all_eq_false]
      exact ⟨f a, List.mem_map.mpr ⟨a, haP, rfl⟩, by simp [hb]⟩
    | false =>
      rw [if_neg Bool.false_ne_true]
      refine wpAny_execs_nil (wpAny_execs_nil ⟨h₂, tk₂, _, rfl, x₂ _ _ hoI, C₃, by simp [show sC ≠ s2' from by decide]; exact hc₁, rv₂.ext x₂, kp₃, fun j b hj hb' => ?_⟩)
      by_cases q : j = i
      · subst q; rw [hPi] at hb'; cases hb'; exact hb
      · exact hno j b (by omega) hb'
  · rintro h m₁ tk ⟨C₁, hc₁, kp₁, hno⟩
    exact k2 hno h tk m₁ C₁ hc₁ kp₁
  · rintro h m₁ tk ⟨C₁, hc₁, rv₁, kp₁, hno⟩
    refine wpAny_execs_cons ?_
    refine fun _ _ _ => k1 ?_ h tk m₁ C₁ hc₁ rv₁ kp₁
    unfold okHead
    rw [List.all_eq_true]
    intro t ht
    obtain ⟨a, ha, rfl⟩ := List.mem_map.mp ht
    obtain ⟨j, hj, e⟩ := List.getElem_of_mem ha
    have := hno j a hj (by rw [List.getElem?_eq_getElem hj, e])
    simp [this]

theorem cand_none {R : List (List PyData)} (h : ∀ y t, y :: t ∈ R → okHead PyData.eqv R y = false) : cand PyData.eqv R = none := by
  unfold cand
  rw [List.findSome?_eq_none_iff]
  intro r hr
  cases r with
  | nil => rfl
  | cons y t => simp [h y t hr]
theorem cand_some {R : List (List PyData)} {i : Nat} {x : PyData} {t : List PyData} (hi : R[i]? = some (x :: t)) (hx : okHead PyData.eqv R x = true) (hno : ∀ (j : Nat) y t, j < i → R[j]? = some (y :: t) → okHead PyData.eqv R y = false) : cand PyData.eqv R = some x := by
  have hl : i < R.length := (List.getElem?_eq_some_iff.mp hi).1
  have hsp : R = R.take i ++ (x :: t) :: R.drop (i + 1) := by
    have := List.take_append_drop i R
    rw [List.drop_eq_getElem_cons hl, (List.getElem?_eq_some_iff.mp hi).2] at this
    exact this.symm
  unfold cand
  generalize hg : okHead PyData.eqv R = g at *
  rw [hsp, List.findSome?_append]
  rw [List.findSome?_eq_none_iff (l := R.take i) |>.mpr ?_]
  · simp [hx]
  ·
    intro r hr
    obtain ⟨j, hj, e⟩ := List.getElem_of_mem hr
    cases r with
    | nil => rfl
    | cons y t' =>
      have hj' : j < i := by simp at hj; omega
      have := hno j y t' hj' (by rw [List.getElem_take] at e; rw [← e]; exact List.getElem?_eq_getElem _)
      simp [this]

/-- the search for the next one -/
theorem c3_search (V : C3E K A n env) (C : C3I K env h₀ As s.heap m l r P f out) (hat : ∀ a ∈ As, ∀ d ∈ f a, Atom d) (hsz : ∀ a ∈ As, (f a).length ≤ sizeLine)
    (hne : ∀ a ∈ P, f a ≠ []) (hP : P ≠ [])
    (k1 : ∀ x, cand PyData.eqv (P.map f) = some x → ∀ h' tk m' v, C3I K env h₀ As h' m' l r P f out → m' sC = some v → Rd h' v x [] → Q .next { s with heap := h', toks := tk })
    (k2 : cand PyData.eqv (P.map f) = none → ∀ h' tk m', C3I K env h₀ As h' m' l r P f out → m' sC = some .none → Q .next { s with heap := h', toks := tk }) :
    wpAny (model K.prog K.w) A (exec stSearch env) Q E s := by
  have fr := C.fresh
  have hnew := C.new
  have stab : ∀ {h h' m}, C3I K env h₀ As h m l r P f out → Eff (· = s.heap.objs.size) h h' → NoTup h s.heap.objs.size → C3I K env h₀ As h' m l r P f out := fun {h h' m} C' e nt =>
    C'.upd e (C'.ns.at' fun o ho => e _ o (Ne.symm fr.2.2.2) ho) rfl rfl fun c hc => by cases hc; exact ⟨fr.1, fr.2.1, fr.2.2.1, hnew, nt⟩
  refine c3_for (P := P) (l := l) (x := s1') V (by rfl)
    (fun i h m' => C3I K env h₀ As h m' l r P f out ∧ (0 < i → m' sC = some .none) ∧ ∀ (j : Nat) y t, j < i → (P.map f)[j]? = some (y :: t) → okHead PyData.eqv (P.map f) y = false)
    (fun h m' => C3I K env h₀ As h m' l r P f out ∧ ∃ x v, cand PyData.eqv (P.map f) = some x ∧ m' sC = some v ∧ Rd h v x [])
    (fun i h m' J => ⟨J.1.ns, J.1.seqL⟩) C.seqV ⟨C, fun q => absurd q (Nat.lt_irrefl 0), fun j y t hj => absurd hj (Nat.not_lt_zero _)⟩
    (fun i h h' m' J e nt => ⟨stab J.1 e nt, J.2.1, J.2.2⟩) ?_ ?_ ?_
  · rintro i a h m₁ h₁ tk oI hPi ⟨C₁, hc₁, hno⟩ hs₁ hn₁ hoI ntI
    have haP : a ∈ P := List.mem_of_getElem? hPi
    have haA := C₁.PA a haP
    have C₂ := C₁.stored hs₁ hn₁ (by decide) (by decide)
    obtain ⟨vs, c, hva, rva⟩ := C₂.inner a haA
    obtain ⟨x, t, hfa⟩ : ∃ x t, f a = x :: t := by
      cases hq : f a with
      | nil => exact absurd hq (hne a haP)
      | cons x t => exact ⟨x, t, rfl⟩
    have hRi : (P.map f)[i]? = some (x :: t) := by rw [List.getElem?_map, hPi]; simp [hfa]
    have hx : Atom x := hat a haA x (by rw [hfa]; exact .head _)
    rw [hfa] at rva
    obtain ⟨v, vs', rfl, rv⟩ : ∃ v vs', vs = v :: vs' ∧ Rd h₁ v x [] := by
      obtain ⟨v, vs', a1, b1, e1, e2, r1, r2⟩ := rva.uncons
      exact ⟨v, vs', e1, by rw [← hx.fp r1]; exact r1⟩
    refine wpAny_execs_cons (wpAny_Assign_Name ?_)
    refine c3_first V (y := s1') (by rfl) C₂.ns (by simp) hva ?_
    refine c3_store V (y := sC) (by rfl) C₂.ns fun h₂ hn₂ hs₂ => ?_
    have C₃ := C₂.stored hs₂ hn₂ (by decide) (by decide)
    have rv₂ : Rd h₂ v x [] := rv.off ((Eff.of_sameBut hs₂).off nofun fun b hb => hb ▸ ns_noTup C₂.ns)
    have hoI₂ : h₂.get? s.heap.objs.size = some oI := (hs₂.2 _ fr.2.2.2).trans hoI
    refine wpAny_execs_cons ?_
    refine c3_inner (h₀ := h₀) V C₃ hat hsz hx (by simp) rv₂ (fun ok h₃ tk₃ m₃ C₄ hm₃ rv₃ kp₃ => ?_) (fun ok h₃ tk₃ m₃ C₄ hm₃ kp₃ => ?_)
    · exact ⟨h₃, tk₃, m₃, rfl, kp₃ _ _ fr.2.2.2 hoI₂, C₄, x, v, cand_some hRi ok hno, hm₃, rv₃⟩
    · refine wpAny_execs_nil ⟨h₃, tk₃, m₃, rfl, kp₃ _ _ fr.2.2.2 hoI₂, C₄, fun _ => hm₃, fun j y t' hj hq => ?_⟩
      by_cases q : j = i
      · subst q; rw [hRi] at hq; cases hq; exact ok
      · exact hno j y t' (by omega) hq
  · rintro h m₁ tk ⟨C₁, x, v, hx, hm, rv⟩
    exact k1 x hx h tk m₁ v C₁ hm rv
  · rintro h m₁ tk ⟨C₁, hc₁, hno⟩
    refine wpAny_execs_nil (k2 (cand_none fun y t hyt => ?_) h tk m₁ C₁ (hc₁ (List.length_pos_iff.mpr hP)))
    obtain ⟨j, hj, e⟩ := List.getElem_of_mem hyt
    exact hno j y t (by simpa using hj) (by rw [List.getElem?_eq_getElem hj, e])
end
end Mine

namespace Mine

theorem noTup_list {h : Heap} {a : Addr} {vs : Array Value} {n : Nat} (ho : h.get? a = some { cls := .type "list", data := .seq vs n }) : NoTup h a := fun xs k e => by
  rw [ho] at e; injection e with e; injection e with e1; exact absurd e1 (by decide)

section
variable {K : Cx} {A : Around} {n : Nat} {env : Env} {s : Shared} {h₀ h h' : Heap} {As : List Addr} {l r : Addr} {P : List Addr} {f : Addr → List PyData} {out : List PyData} {Q : Flow → Shared → Prop} {E : Value → Shared → Prop} {m : Str → Option Value}

theorem C3I.ne_locals (C : C3I K env h₀ As h m l r P f out) : l ≠ env.locals ∧ r ≠ env.locals ∧ env.locals ∉ As := by
  refine ⟨fun q => ?_, fun q => ?_, fun q => ?_⟩
  · obtain ⟨o, ho, _, k, hd⟩ := C.seqL; obtain ⟨o', es, ep, ho', hd', _⟩ := C.ns; rw [q, ho'] at ho; cases ho; rw [hd] at hd'; cases hd'
  · obtain ⟨ws, ⟨k, ho⟩, _⟩ := C.resL; obtain ⟨o', es, ep, ho', hd', _⟩ := C.ns; rw [q, ho'] at ho; cases ho; cases hd'
  · obtain ⟨vs, k, ho, _⟩ := C.inner _ q; obtain ⟨o', es, ep, ho', hd', _⟩ := C.ns; rw [ho] at ho'; cases ho'; cases hd'

theorem C3I.setInner (C : C3I K env h₀ As h m l r P f out) {a : Addr} (ha : a ∈ As) {ws : List Value} {c : Nat} {ds : List PyData} (ho : h'.get? a = some { cls := .type "list", data := .seq ws.toArray c }) (rd : RdAll h ws ds []) (hs : Heap.SameBut a h h') :
    C3I K env h₀ As h' m l r P (fun b => if b = a then ds else f b) out := by
  have e := Eff.of_sameBut hs
  have nt : NoTup h a := let ⟨_, _, h1, _⟩ := C.inner a ha; noTup_list h1
  have off : ∀ {vs ds}, RdAll h vs ds [] → RdAll h' vs ds [] := fun {vs ds} q => q.off (e.off nofun fun c hc => hc ▸ nt)
  have na : env.locals ≠ a := fun q => C.ne_locals.2.2 (q ▸ ha)
  exact {
    ok := ⟨C.ok.g, C.ok.b, C.ok.lim, e.ext C.ok.ext fun c hc => hc ▸ C.AK a ha⟩
    base := C.base
    ns := C.ns.at' fun o ho => (hs.2 _ na).trans ho
    Lnew := C.Lnew
    keep := fun b o hb hb' => (hs.2 b fun q => hb (q ▸ ha)).trans (C.keep b o hb hb')
    inner := fun b hb => by
      by_cases q : b = a
      · subst q; exact ⟨ws, c, ho, by simp; exact off rd⟩
      · obtain ⟨vs, k, h1, h2⟩ := C.inner b hb
        exact ⟨vs, k, (hs.2 b q).trans h1, by simp [q]; exact off h2⟩
    seqV := C.seqV
    seqL := let ⟨o, ho, hr⟩ := C.seqL; ⟨o, (hs.2 l fun q => C.lA (q ▸ ha)).trans ho, hr⟩
    resV := C.resV
    resL := let ⟨ws, h1, h2⟩ := C.resL; ⟨ws, h1.at fun o ho => (hs.2 r fun q => C.rA (q ▸ ha)).trans ho, off h2⟩
    rnew := C.rnew
    rA := C.rA
    lA := C.lA
    lr := C.lr
    PA := C.PA
    AK := C.AK }

theorem C3I.setRes (C : C3I K env h₀ As h m l r P f out) {ws : List Value} {ds : List PyData} (ho : h'.PlainList r ws.toArray) (rd : RdAll h ws ds []) (hs : Heap.SameBut r h h') :
    C3I K env h₀ As h' m l r P f ds := by
  have e := Eff.of_sameBut hs
  have nt : NoTup h r := let ⟨_, ⟨_, h1⟩, _⟩ := C.resL; noTup_list h1
  have off : ∀ {vs ds}, RdAll h vs ds [] → RdAll h' vs ds [] := fun {vs ds} q => q.off (e.off nofun fun c hc => hc ▸ nt)
  exact {
    ok := ⟨C.ok.g, C.ok.b, C.ok.lim, e.ext C.ok.ext fun c hc => hc ▸ C.base.none C.rnew⟩
    base := C.base
    ns := C.ns.at' fun o ho => (hs.2 _ C.ne_locals.2.1.symm).trans ho
    Lnew := C.Lnew
    keep := fun b o hb hb' => (hs.2 b fun q => by rw [q, C.rnew] at hb'; cases hb').trans (C.keep b o hb hb')
    inner := fun b hb => let ⟨vs, k, h1, h2⟩ := C.inner b hb; ⟨vs, k, (hs.2 b fun q => C.rA (q ▸ hb)).trans h1, off h2⟩
    seqV := C.seqV
    seqL := let ⟨o, ho, hr⟩ := C.seqL; ⟨o, (hs.2 l C.lr).trans ho, hr⟩
    resV := C.resV
    resL := ⟨ws, ho, off rd⟩
    rnew := C.rnew
    rA := C.rA
    lA := C.lA
    lr := C.lr
    PA := C.PA
    AK := C.AK }

theorem C3I.congr {g : Addr → List PyData} (C : C3I K env h₀ As h m l r P f out) (e : ∀ a ∈ As, g a = f a) : C3I K env h₀ As h m l r P g out :=
  { C with inner := fun a ha => by rw [e a ha]; exact C.inner a ha }

def stDel : Stmt := match stStrike with | .For _ _ [.If _ [b] _ _] _ _ => b | s => s

/-- `del seq[0]` -/
theorem c3_del (V : C3E K A n env) (C : C3I K env h₀ As s.heap m l r P f out) {a : Addr} (ha : a ∈ As) (hm : m sQ = some (.ref a)) {x : PyData} {t : List PyData} (hfa : f a = x :: t) (hx : Atom x) (hsz : (f a).length ≤ sizeLine)
    (k : ∀ h' tk, C3I K env h₀ As h' m l r P (fun b => if b = a then t else f b) out → Heap.SameBut a s.heap h' → Q .next { s with heap := h', toks := tk }) :
    wpAny (model K.prog K.w) A (exec stDel env) Q E s := by
  obtain ⟨vs, c, hva, rva⟩ := C.inner a ha
  rw [hfa] at rva
  obtain ⟨v, vs', a1, b1, rfl, e2, r1, r2⟩ := rva.uncons
  have hlen : (v :: vs').length = (f a).length := by rw [hfa]; exact rva.length
  obtain rfl : b1 = [] := (List.append_eq_nil_iff.mp e2.symm).2
  refine wpAny_Delete (wpAny_deleteEach_cons (wpAny_delete_Subscript ?_))
  refine c3_name V (y := sQ) (by rfl) C.ns hm (wpAny_Constant_int ?_)
  refine wpAny_delItem_plain (k := 0) ⟨c, hva⟩ (by rfl) (by simp [seqIndex?]) (fun h' hl' hs' => ?_) (by simpa [hlen] using hsz)
  obtain ⟨c', hl'⟩ := hl'
  refine wpAny_deleteEach_nil (k h' _ (C.setInner (ws := vs') (c := c') ha (by rw [hl']; simp) r2 hs') hs')

/-- the candidate goes from the front of each row -/
theorem c3_strike (V : C3E K A n env) (C : C3I K env h₀ As s.heap m l r P f out) (hat : ∀ a ∈ As, ∀ d ∈ f a, Atom d) (hsz : ∀ a ∈ As, (f a).length ≤ sizeLine)
    (hne : ∀ a ∈ P, f a ≠ []) (hnd : P.Nodup) {x : PyData} {v : Value} (hx : Atom x) (hc : m sC = some v) (rv : Rd s.heap v x [])
    (k : ∀ h' tk m', C3I K env h₀ As h' m' l r P (fun a => if a ∈ P then strike1 PyData.eqv x (f a) else f a) out → Q .next { s with heap := h', toks := tk }) :
    wpAny (model K.prog K.w) A (exec stStrike env) Q E s := by
  have fr := C.fresh
  have hnew := C.new
  have stab : ∀ {h h' m f}, C3I K env h₀ As h m l r P f out → Eff (· = s.heap.objs.size) h h' → NoTup h s.heap.objs.size → C3I K env h₀ As h' m l r P f out := fun {h h' m f} C' e nt =>
    C'.upd e (C'.ns.at' fun o ho => e _ o (Ne.symm fr.2.2.2) ho) rfl rfl fun c hc => by cases hc; exact ⟨fr.1, fr.2.1, fr.2.2.1, hnew, nt⟩
  refine c3_for (P := P) (l := l) (x := sQ) V (by rfl)
    (fun i h m' => C3I K env h₀ As h m' l r P (fun a => if a ∈ P.take i then strike1 PyData.eqv x (f a) else f a) out ∧ m' sC = some v ∧ Rd h v x [])
    (fun h m' => False)
    (fun i h m' J => ⟨J.1.ns, J.1.seqL⟩) C.seqV ⟨C.congr fun a _ => by simp, hc, rv⟩
    (fun i h h' m' J e nt => ⟨stab J.1 e nt, J.2.1, J.2.2.off (e.off nofun fun b hb => hb ▸ nt)⟩) ?_ (fun _ _ _ q => q.elim) ?_
  · rintro i a h m₁ h₁ tk oI hPi ⟨C₁, hc₁, rv₁⟩ hs₁ hn₁ hoI ntI
    have haP : a ∈ P := List.mem_of_getElem? hPi
    have haA := C₁.PA a haP
    have hi : i < P.length := (List.getElem?_eq_some_iff.mp hPi).1
    have hai : P[i] = a := (List.getElem?_eq_some_iff.mp hPi).2
    have hnot : a ∉ P.take i := fun q => by
      obtain ⟨j, hj, e⟩ := List.getElem_of_mem q
      rw [List.getElem_take] at e
      have hj' : j < i := by simp at hj; omega
      exact List.pairwise_iff_getElem.mp hnd j i (by omega) hi hj' (e.trans hai.symm)
    have htk : P.take (i + 1) = P.take i ++ [a] := by rw [List.take_succ_eq_append_getElem hi, hai]
    have C₂ := C₁.stored hs₁ hn₁ (by decide) (by decide)
    have rv₂ : Rd h₁ v x [] := rv₁.off ((Eff.of_sameBut hs₁).off nofun fun b hb => hb ▸ ns_noTup C₁.ns)
    obtain ⟨vs, c, hva, rva⟩ := C₂.inner a haA
    rw [if_neg hnot] at rva
    obtain ⟨y, t, hfa⟩ : ∃ x t, f a = x :: t := by
      cases hq : f a with
      | nil => exact absurd hq (hne a haP)
      | cons x t => exact ⟨x, t, rfl⟩
    have hy : Atom y := hat a haA y (by rw [hfa]; exact .head _)
    have I : In K n c3Scope (fun _ => False) [(sC, .py x), (sQ, .py (.list (f a)))] A env h₁ := C₂.in V fun z d hz => by
      rw [List.lookup_cons] at hz
      by_cases q : z = sC
      · subst q; simp at hz; subst hz
        exact ⟨v, [], by simp [show sC ≠ sQ from by decide]; exact hc₁, by rfl, rv₂⟩
      · have hb : (z == sC) = false := by simpa using q
        simp only [hb, List.lookup_cons] at hz
        by_cases q2 : z = sQ
        · subst q2; simp at hz; subst hz
          exact ⟨.ref a, [a], by simp, by rfl, Rd.list hva rva⟩
        · have hb2 : (z == sQ) = false := by simpa using q2
          simp [hb2] at hz
    refine wpAny_execs_cons (wpAny_If (Tr.use (b := PyData.eqv y x) (s := { s with heap := h₁, toks := tk }) I
      (Tr.cmp (Ev.item (Ev.name (by rfl)) Ev.cInt (by decide) (by rw [hfa]; rfl) (hsz a haA)) (Ev.name (by rfl)) (CmpOk.eqD hy.shp hx.shp)) fun h₂ tk₂ x₂ => ?_))
    have C₃ := C₂.ext x₂
    cases hb : PyData.eqv y x with
    | true =>
      rw [if_pos rfl]
      refine wpAny_execs_cons (c3_del V C₃ haA (by simp) (by rw [if_neg hnot]; exact hfa) hy (by rw [if_neg hnot]; exact hsz a haA) fun h₃ tk₃ C₄ hs₃ => wpAny_execs_nil (wpAny_execs_nil
        ⟨h₃, tk₃, _, rfl, ?_, C₄.congr fun b hbA => ?_, by simp [show sC ≠ sQ from by decide]; exact hc₁, ?_⟩))
      · exact (hs₃.2 s.heap.objs.size fun q => fr.2.2.1 (q ▸ haA)).trans (x₂ _ _ hoI)
      · rw [htk]
        by_cases q : b = a
        · subst q; simp [hfa, strike1, hb]
        · simp [q]
      · exact (rv₂.ext x₂).off ((Eff.of_sameBut hs₃).off nofun fun b hb => hb ▸ (let ⟨_, _, h1, _⟩ := C₃.inner a haA; noTup_list h1))
    | false =>
      rw [if_neg Bool.false_ne_true]
      refine wpAny_execs_nil (wpAny_execs_nil ⟨h₂, tk₂, _, rfl, x₂ _ _ hoI, C₃.congr fun b hbA => ?_, by simp [show sC ≠ sQ from by decide]; exact hc₁, rv₂.ext x₂⟩)
      rw [htk]
      by_cases q : b = a
      · subst q; simp [hfa, strike1, hb]
      · simp [q]
  · rintro h m₁ tk ⟨C₁, hc₁, rv₁⟩
    exact wpAny_execs_nil (k h tk m₁ (C₁.congr fun a _ => by simp))
end
end Mine

namespace Mine

def stPurge : Stmt := whileBody.getD 0 (.Pass ⟨0, 0, 0, 0⟩)
def stEmpty : Stmt := whileBody.getD 1 (.Pass ⟨0, 0, 0, 0⟩)
def stNone : Stmt := whileBody.getD 3 (.Pass ⟨0, 0, 0, 0⟩)
def stAppend : Stmt := whileBody.getD 4 (.Pass ⟨0, 0, 0, 0⟩)

theorem paired_eq {α : Type} : ∀ {l₁ l₂ : List α}, Paired (fun a b => a = b) l₁ l₂ → l₁ = l₂
  | _, _, .nil => rfl
  | _, _, .cons a b => by rw [a, paired_eq b]

theorem RdAll.eq_iff_len {h : Heap} {vs ds as} (r : RdAll h vs ds as) : vs.toArray.isEmpty = ds.isEmpty := by
  have := r.length
  cases vs <;> cases ds <;> simp_all

section
variable {K : Cx} {A : Around} {n : Nat} {env : Env} {s : Shared} {h₀ h h' : Heap} {As : List Addr} {l r : Addr} {P : List Addr} {f : Addr → List PyData} {out : List PyData} {Q : Flow → Shared → Prop} {E : Value → Shared → Prop} {m : Str → Option Value}

theorem C3I.purged (C : C3I K env h₀ As h m l r P f out) {D : Addr} {P' : List Addr} (hD : h.get? D = none) (hl : h'.IsList D (P'.map Value.ref).toArray) (hP : ∀ a ∈ P', a ∈ P) (hn : h'.Ns env.locals fun z => if z = sS then some (.ref D) else m z)
    (e : Eff (· = env.locals) h h') : C3I K env h₀ As h' (fun z => if z = sS then some (.ref D) else m z) D r P' f out := by
  have nt : NoTup h env.locals := ns_noTup C.ns
  have off : ∀ {vs ds}, RdAll h vs ds [] → RdAll h' vs ds [] := fun {vs ds} q => q.off (e.off nofun fun c hc => hc ▸ nt)
  have nl := C.ne_locals
  exact {
    ok := ⟨C.ok.g, C.ok.b, C.ok.lim, e.ext C.ok.ext fun c hc => hc ▸ C.base.none C.Lnew⟩
    base := C.base
    ns := hn
    Lnew := C.Lnew
    keep := fun b o hb hb' => e b o (fun q => by rw [q, C.Lnew] at hb'; cases hb') (C.keep b o hb hb')
    inner := fun b hb => let ⟨vs, k, h1, h2⟩ := C.inner b hb; ⟨vs, k, e b _ (fun q => nl.2.2 (q ▸ hb)) h1, off h2⟩
    seqV := by simp
    seqL := hl
    resV := by simp [show sR ≠ sS from by decide]; exact C.resV
    resL := let ⟨ws, h1, h2⟩ := C.resL; ⟨ws, h1.at fun o ho => e r o nl.2.1 ho, off h2⟩
    rnew := C.rnew
    rA := C.rA
    lA := fun q => by obtain ⟨vs, k, ho, _⟩ := C.inner _ q; rw [hD] at ho; cases ho
    lr := fun q => by obtain ⟨ws, ⟨k, ho⟩, _⟩ := C.resL; rw [← q, hD] at ho; cases ho
    PA := fun a ha => C.PA a (hP a ha)
    AK := C.AK }

def ne' (f : Addr → List PyData) (a : Addr) : Bool := !(f a).isEmpty

/-- `sequences = [s for s in sequences if s]` -/
theorem c3_purge (V : C3E K A n env) (C : C3I K env h₀ As s.heap m l r P f out) (hsz : ∀ a ∈ As, (f a).length ≤ sizeLine) (hP : P.length ≤ sizeLine)
    (k : ∀ h' tk m' l', C3I K env h₀ As h' m' l' r (P.filter (ne' f)) f out → Q .next { s with heap := h', toks := tk }) :
    wpAny (model K.prog K.w) A (exec stPurge env) Q E s := by
  have hkS : env.kindOf sS = some .local := c3_kind V (by rfl)
  refine wpAny_Assign_ListComp_map (fun v => match v with | .ref a => ne' f a | _ => false) (fun v y => v = y) ?_ V.room.quiet (by decide) (by decide) rfl (by decide) (by decide) (y := sS) hkS (by rw [V.henv.kind]; rfl) ?_
  · show pure _ = pure true
    congr 1
    have h1 : env.blockKind = .function := by unfold Env.blockKind; rw [V.henv.kind]; rfl
    rw [h1, hkS]
    decide
  · refine c3_name V (y := sS) (by rfl) C.ns C.seqV ⟨l, _, m, rfl, C.seqL, by simpa using hP, C.ns, ?_, ?_, ?_⟩
    · intro Cm v s₂ m₂ E' hv hn hm hk
      obtain ⟨a, ha, rfl⟩ : ∃ a ∈ P, Value.ref a = v := by simpa using hv
      obtain ⟨vs, c, hva, rva⟩ := C.inner a (C.PA a ha)
      have hva₂ := hk _ _ hva
      refine wpAny_tests_one (isTrue_plain (wpAny_Name (wpAny_loadName_local rfl (by rfl) hn hm ?_) (by decide)))
      refine wpAny_truthy_list (items := vs.toArray) ⟨_, hva₂, rfl, _, rfl⟩ ?_ ?_
      · have := hsz a (C.PA a ha)
        rw [List.size_toArray, rva.length]
        exact Int.lt_of_le_of_lt (Int.ofNat_le.mpr this) (by decide)
      · exact ⟨by show _ = !(f a).isEmpty; rw [rva.eq_iff_len], s₂.heap, _, rfl, fun _ _ q => q⟩
    · intro Cm v s₂ m₂ E' hv hp hn hm hk
      exact wpAny_Name (wpAny_loadName_local rfl (by rfl) hn hm ⟨rfl, s₂.heap, _, rfl, fun _ _ q => q⟩) (by decide)
    · intro D h' tk ys hD hl hF hn hk
      have hys : ys = ((P.filter (ne' f)).map Value.ref).toArray := by
        have := paired_eq hF
        rw [List.filter_map] at this
        rw [← Array.toArray_toList (xs := ys), ← this]
        rfl
      exact k h' tk _ D (C.purged hD (hys ▸ hl) (fun a ha => (List.mem_filter.mp ha).1) hn fun b o hb ho => hk b o hb ho)

/-- `result.append(candidate)` -/
theorem c3_append (V : C3E K A n env) (C : C3I K env h₀ As s.heap m l r P f out) {x : PyData} {v : Value} (hc : m sC = some v) (rv : Rd s.heap v x []) (hsz : out.length ≤ sizeLine)
    (k : ∀ h' tk, C3I K env h₀ As h' m l r P f (out ++ [x]) → Rd h' v x [] → Q .next { s with heap := h', toks := tk }) :
    wpAny (model K.prog K.w) A (exec stAppend env) Q E s := by
  have hint : interactive env = false := by unfold interactive; rw [V.henv.kind]; rfl
  refine wpAny_Expr_any (wpAny_Call_method1_late (by rfl) (by rfl) (by rfl) (c3_name V (y := sR) (by rfl) C.ns C.resV ?_)) hint (by rfl)
  obtain ⟨ws, ⟨c, hr⟩, rd⟩ := C.resL
  have nt : NoTup s.heap r := noTup_list hr
  refine ⟨"list", "list.append", F.plainAttrs_list, F.slot_list_append, F.type_list_append, ⟨_, hr, rfl⟩, fun a ha => by cases ha; exact ⟨_, hr, rfl⟩, PySem.P.append_list (c3_name V (y := sC) (by rfl) C.ns hc
    ⟨ws.toArray, c, by rw [List.size_toArray, rd.length]; exact hsz, hr, ?_⟩)⟩
  have hs : Heap.SameBut r s.heap (s.heap.update r (Obj.mapSeq fun xs => xs.push v)) := Heap.SameBut.update ..
  refine k _ _ (C.setRes (ws := ws ++ [v]) ⟨_, by simpa using IsL.update (n := c) hr (fun xs => xs.push v)⟩ ?_ hs) (rv.off ((Eff.of_sameBut hs).off nofun fun b hb => hb ▸ nt))
  exact rd.append (RdAll.one rv)
end
end Mine

namespace Mine

def words : Str := "Inconsistent hierarchy"

def Kept (S : List Addr) (h h' : Heap) : Prop := ∀ b o, h.get? b = some o → ∃ sl, h'.get? b = some { o with slots := sl } ∧ (b ∉ S → sl = o.slots)
theorem Kept.get {S : List Addr} {h h' : Heap} (x : Kept S h h') {b : Addr} {o : Obj} (hb : b ∉ S) (ho : h.get? b = some o) : h'.get? b = some o := by
  obtain ⟨sl, e, k⟩ := x b o ho
  rw [k hb] at e; exact e
theorem Ext.kept {h h' : Heap} (S : List Addr) (x : Ext h h') : Kept S h h' := fun b o e => ⟨o.slots, x b o e, fun _ => rfl⟩

section
variable {M : Model} {A : Around} {E : Value → Shared → Prop} {s : Shared} {B : Heap}

theorem newEntry_ok {env : Env} {outer : List Env} {L e : Addr} {oe : Obj} {vs : Array Value} {head : Value} {hadNext : Bool} {Q : Unit → Shared → Prop}
    (hfr : A.frames = some (env :: outer)) (hl : s.heap.FunFrames B (env :: outer)) (hf : env.frame = some L)
    (he : s.heap.get? e = some oe) (hd : oe.data = .fields vs) (hsz : 1 < vs.size)
    (k : ∀ h' T oT ts, s.heap.get? T = none → T ≠ e → h'.get? T = some oT → oT.data = .fields ts → ts[3]? = some (rawInt L) → h'.get? e = some (oe.mapFields (·.setIfInBounds 1 (.ref T))) →
      (∀ b o, b ≠ e → s.heap.get? b = some o → ∃ sl, h'.get? b = some { o with slots := sl } ∧ (b ∉ (env :: outer).filterMap (·.frame) → sl = o.slots)) → Q () { s with heap := h' }) :
    wpAny M A (do let a ← frameOf env; let pl ← entryPlaceOf L hadNext; let b ← EntryCells.newEntry head a .none (rawInt L) .none pl; setField (.ref e) 1 b) Q E s := by
  have hene : e ∉ (env :: outer).filterMap (·.frame) := fun hm => by
    obtain ⟨_, o, ho, hnf⟩ := hl.mem hm
    rw [he] at ho; injection ho with ho; subst ho; exact hnf vs hd
  refine wpAny_bind (wpAny_frameOf_fun hfr hl hf fun h₁ hs₁ => ?_)
  refine wpAny_bind (wpAny_entryPlaceOf fun pl hpl => ?_)
  unfold EntryCells.newEntry newFields
  refine wpAny_bind (wpAny_newObj_type ?_ (hpl.sizeOk5 _ _ _ _ _))
  have he₁ : h₁.get? e = some oe := (hs₁.2.1 e hene).trans he
  have he₂ := Heap.get?_push_of_some (h := h₁) { cls := .type "traceback", dict := none, data := .fields ([head, .ref L, .none, rawInt L, .none] ++ (if pl.isEmpty then List.replicate 6 Value.none else pl)).toArray } he₁
  refine wpAny_setField he₂ hd hsz ?_
  have hTe : h₁.objs.size ≠ e := Nat.ne_of_gt (Heap.lt_size he₁)
  have hd₃ := Obj.data_mapFields hd (·.setIfInBounds 1 (Value.ref h₁.objs.size))
  have he₃ := Heap.get?_update_self (Obj.mapFields (·.setIfInBounds 1 (Value.ref h₁.objs.size))) he₂ (Obj.isFreed_of_fields hd₃)
  have hT₃ := (Heap.get?_update_other (h₁.push { cls := .type "traceback", dict := none, data := .fields ([head, .ref L, .none, rawInt L, .none] ++ (if pl.isEmpty then List.replicate 6 Value.none else pl)).toArray })
    (Obj.mapFields (·.setIfInBounds 1 (Value.ref h₁.objs.size))) (Ne.symm hTe)).trans (Heap.get?_push_size h₁ rfl)
  refine k _ h₁.objs.size _ _ (Heap.get?_none_of_le (by rw [hs₁.1]; exact Nat.le_refl _)) hTe hT₃ rfl (by simp) he₃ fun b o hbe hb => ?_
  obtain ⟨sl, hsl⟩ := hs₁.2.2 b o hb
  refine ⟨sl, ?_, fun hbS => ?_⟩
  · rw [Heap.get?_update_other _ _ (Ne.symm hbe)]
    exact Heap.get?_push_of_some _ hsl
  · have := (hs₁.2.1 b hbS).trans hb
    rw [hsl] at this
    have := congrArg Obj.slots (Option.some.inj this)
    exact this
end

/-- the refusal on its way: where it has been noted last -/
structure Fly (hb h : Heap) (e : Addr) (st : Option (Option Addr)) : Prop where
  there : ∃ o vs t ot u k, h.get? e = some o ∧ o.cls = .type "RuntimeError" ∧ o.data = .fields vs ∧ 3 < vs.size ∧ vs[0]? = some (.ref t) ∧ h.get? t = some ot ∧ ot.cls = .type "tuple" ∧ ot.data = .seq #[.str words u] k ∧
    match st with
    | none => vs[1]? = some .none
    | some f => ∃ T oT ts, vs[1]? = some (.ref T) ∧ T ≠ e ∧ hb.get? T = none ∧ h.get? T = some oT ∧ oT.data = .fields ts ∧ ts[3]? = some (f.elim .none fun a => rawInt a)
  new : hb.get? e = none

section
variable {M : Model} {A : Around} {E : Value → Shared → Prop} {s : Shared} {B hb : Heap}

theorem note_new {env : Env} {outer : List Env} {L e : Addr} {Q : Unit → Shared → Prop} (hfr : A.frames = some (env :: outer)) (hl : s.heap.FunFrames B (env :: outer)) (hf : env.frame = some L) (F : Fly hb s.heap e none)
    (kb : Kept ((env :: outer).filterMap (·.frame)) hb s.heap)
    (k : ∀ h', Fly hb h' e (some (some L)) → Kept ((env :: outer).filterMap (·.frame)) hb h' → h'.FunFrames B (env :: outer) → Q () { s with heap := h' }) :
    wpAny M A (noteFrame (.ref e) env) Q E s := by
  obtain ⟨o, vs, t, ot, u, kk, h1, h2, h3, h4, h5, h6, h7, h8, h9⟩ := F.there
  unfold noteFrame
  simp only [hf]
  refine wpAny_bind (wpAny_field h1 h3 h9 ?_)
  rw [if_neg (by decide)]
  refine newEntry_ok hfr hl hf h1 h3 (by omega) fun h' T oT ts hT hTe hT' hdT h3T he' keep => ?_
  have hbk : ∀ b o', hb.get? b = some o' → b ≠ e := fun b o' hb' q => by rw [q, F.new] at hb'; cases hb'
  have hte : t ≠ e := fun q => by rw [q, h1] at h6; cases h6; rw [h8] at h3; cases h3
  obtain ⟨slt, ht', _⟩ := keep t ot hte h6
  have hsz' : 3 < (vs.setIfInBounds 1 (.ref T)).size := by rw [Array.size_setIfInBounds]; exact h4
  have hv0 : (vs.setIfInBounds 1 (.ref T))[0]? = some (.ref t) := by rw [Array.getElem?_setIfInBounds_ne (by decide)]; exact h5
  have hv1 : (vs.setIfInBounds 1 (.ref T))[1]? = some (.ref T) := by rw [Array.getElem?_setIfInBounds_self]; simp; omega
  refine k h' ⟨⟨_, vs.setIfInBounds 1 (.ref T), t, _, u, kk, he', (Obj.cls_mapFields _ _).trans h2, Obj.data_mapFields h3 _, hsz', hv0, ht', h7, h8, T, oT, ts, hv1, hTe, ?_, hT', hdT, h3T⟩, F.new⟩ (fun b o' hb' => ?_) (hl.of_keeps fun b o' hb' hnf => ?_)
  · cases q : hb.get? T with
    | none => rfl
    | some o' => obtain ⟨sl, hsl, _⟩ := kb T o' q; rw [hT] at hsl; cases hsl
  · obtain ⟨sl, e1, k1⟩ := kb b o' hb'
    obtain ⟨sl', e2, k2⟩ := keep b _ (hbk b o' hb') e1
    exact ⟨sl', e2, fun hbS => (k2 hbS).trans (k1 hbS)⟩
  · have : b ≠ e := fun q => by rw [q, h1] at hb'; cases hb'; exact hnf vs h3
    obtain ⟨sl, e1, _⟩ := keep b o' this hb'
    exact ⟨_, e1, rfl⟩

theorem note_again {env : Env} {L e : Addr} {Q : Unit → Shared → Prop} (hf : env.frame = some L) (F : Fly hb s.heap e (some (some L))) (k : Q () s) : wpAny M A (noteFrame (.ref e) env) Q E s := by
  obtain ⟨o, vs, t, ot, u, kk, h1, h2, h3, h4, h5, h6, h7, h8, T, oT, ts, a1, a2, a3, a4, a5, a6⟩ := F.there
  exact wpAny_noteFrame_inFlight hf h1 h3 a1 a4 a5 a6 k

/-- its last entry is marked -/
theorem flight_set {e : Addr} {f f' : Option Addr} {Q : Unit → Shared → Prop} {S : List Addr} (F : Fly hb s.heap e (some f)) (kb : Kept S hb s.heap) {l : List Env} (hl : s.heap.FunFrames B l)
    (k : ∀ h', Fly hb h' e (some f') → Kept S hb h' → h'.FunFrames B l → Q () { s with heap := h' }) : wpAny M A (setFlight (.ref e) f') Q E s := by
  obtain ⟨o, vs, t, ot, u, kk, h1, h2, h3, h4, h5, h6, h7, h8, T, oT, ts, a1, a2, a3, a4, a5, a6⟩ := F.there
  have hs3 : 3 < ts.size := (Array.getElem?_eq_some_iff.mp a6).1
  unfold setFlight
  refine wpAny_bind (wpAny_field h1 h3 a1 ?_)
  rw [if_pos (show (Value.ref T != Value.none) = true from by simp)]
  refine wpAny_setField a4 a5 hs3 ?_
  have other : ∀ b, b ≠ T → (s.heap.update T (Obj.mapFields (·.setIfInBounds 3 (f'.elim .none fun a => rawInt a)))).get? b = s.heap.get? b := fun b hb => Heap.get?_update_other _ _ (Ne.symm hb)
  have hd' := Obj.data_mapFields a5 (·.setIfInBounds 3 (f'.elim .none fun a => rawInt a))
  have htT : t ≠ T := fun q => by rw [q, a4] at h6; cases h6; rw [h8] at a5; cases a5
  refine k _ ⟨⟨o, vs, t, ot, u, kk, (other e (Ne.symm a2)).trans h1, h2, h3, h4, h5, (other t htT).trans h6, h7, h8, T, _, _, a1, a2, a3, Heap.get?_update_self _ a4 (Obj.isFreed_of_fields hd'), hd', by simp [hs3]⟩, F.new⟩ (fun b o' hb' => ?_) (hl.of_keeps fun b o' hb' hnf => ?_)
  · obtain ⟨sl, e1, k1⟩ := kb b o' hb'
    exact ⟨sl, (other b fun q => by rw [q, a3] at hb'; cases hb').trans e1, k1⟩
  · exact ⟨o', (other b fun q => by rw [q, a4] at hb'; cases hb'; exact hnf ts a5).trans hb', rfl⟩

theorem cameBack_ok {env : Env} {e : Addr} {f : Option Addr} {S : List Addr} {l : List Env} (F : Fly hb s.heap e (some f)) (kb : Kept S hb s.heap) (hl : s.heap.FunFrames B l)
    (k : ∀ h', Fly hb h' e (some env.frame) → Kept S hb h' → h'.FunFrames B l → E (.ref e) { s with heap := h' }) : cameBackBy M A env E (.ref e) s := by
  obtain ⟨o, vs, t, ot, u, kk, h1, h2, h3, h4, h5, h6, h7, h8, T, oT, ts, a1, a2, a3, a4, a5, a6⟩ := F.there
  unfold cameBackBy
  refine wpAny_bind (wpAny_field h1 h3 a1 ?_)
  rw [if_neg (show ¬ ((Value.ref T == Value.none) = true) from by simp)]
  exact flight_set F kb hl k
end
end Mine

namespace Mine

/-! ### the merge, plainly: how much to do is left -/
section
variable {α : Type} {eq : α → α → Bool} {R : List (List α)} {c : α}

def tot (R : List (List α)) : Nat := (R.map List.length).sum
def mg3 (eq : α → α → Bool) (R : List (List α)) : List α × List (List α) × Bool := c3 eq (tot R) R
def Rfl (eq : α → α → Bool) (R : List (List α)) : Prop := ∀ r ∈ R, ∀ x ∈ r, eq x x = true

theorem tot_cons {r : List α} : tot (r :: R) = r.length + tot R := by simp [tot]
theorem tot_zero (h : tot R = 0) : R.all (·.isEmpty) = true := by
  induction R with
  | nil => rfl
  | cons r R ih =>
    rw [tot_cons] at h
    simp only [List.all_cons, ih (by omega), Bool.and_true, List.isEmpty_iff]
    exact List.eq_nil_of_length_eq_zero (by omega)
theorem strike1_length_le (r : List α) : (strike1 eq c r).length ≤ r.length := by
  cases r with
  | nil => simp [strike1]
  | cons x t => simp only [strike1]; split <;> simp
theorem strike1_mem {r : List α} {x : α} (h : x ∈ strike1 eq c r) : x ∈ r := by
  cases r with
  | nil => exact h
  | cons y t =>
    simp only [strike1] at h
    split at h
    · exact .tail _ h
    · exact h
theorem tot_strike_le (R : List (List α)) : tot (R.map (strike1 eq c)) ≤ tot R := by
  induction R with
  | nil => simp [tot]
  | cons r R ih => rw [List.map_cons, tot_cons, tot_cons]; have := strike1_length_le (eq := eq) (c := c) r; omega
theorem cand_spec (h : cand eq R = some c) : (∃ t, c :: t ∈ R) ∧ okHead eq R c = true := by
  unfold cand at h
  obtain ⟨r, hr, e⟩ := List.exists_of_findSome?_eq_some h
  cases r with
  | nil => cases e
  | cons x t =>
    simp only at e
    split at e
    · rename_i ho; cases e; exact ⟨⟨t, hr⟩, ho⟩
    · cases e
theorem tot_strike_lt {t : List α} (h : c :: t ∈ R) (hr : eq c c = true) : tot (R.map (strike1 eq c)) < tot R := by
  induction R with
  | nil => cases h
  | cons r R ih =>
    rw [List.map_cons, tot_cons, tot_cons]
    have h1 := strike1_length_le (eq := eq) (c := c) r
    have h2 := tot_strike_le (eq := eq) (c := c) R
    rcases List.mem_cons.mp h with e | h
    · subst e; simp [strike1, hr] at *; omega
    · have := ih h; omega
theorem Rfl.strike (h : Rfl eq R) : Rfl eq (R.map (strike1 eq c)) := by
  intro r hr x hx
  obtain ⟨q, hq, rfl⟩ := List.mem_map.mp hr
  exact h q hq x (strike1_mem hx)
theorem cand_refl (hr : Rfl eq R) (h : cand eq R = some c) : eq c c = true := let ⟨⟨t, ht⟩, _⟩ := cand_spec h; hr _ ht c (.head _)
theorem cand_empty (h : R.all (·.isEmpty) = true) : cand eq R = none := by
  cases hc : cand eq R with
  | none => rfl
  | some c =>
    obtain ⟨⟨t, ht⟩, _⟩ := cand_spec hc
    have := List.all_eq_true.mp h _ ht
    simp at this

theorem c3_succ : ∀ {n : Nat} {R : List (List α)}, Rfl eq R → tot R ≤ n → c3 eq (n + 1) R = c3 eq n R
  | 0, R, _, h => by
    have := tot_zero (R := R) (by omega)
    simp only [c3, this, if_true]
  | n + 1, R, hr, h => by
    rw [c3]
    conv => rhs; rw [c3]
    split
    · rfl
    · cases hc : cand eq R with
      | none => rfl
      | some c =>
        obtain ⟨⟨t, ht⟩, _⟩ := cand_spec hc
        have := tot_strike_lt ht (cand_refl hr hc)
        simp only
        rw [c3_succ hr.strike (by omega)]
theorem c3_fuel {n : Nat} (hr : Rfl eq R) (h : tot R ≤ n) : c3 eq n R = mg3 eq R := by
  obtain ⟨k, rfl⟩ := Nat.le.dest h
  clear h
  induction k with
  | zero => rfl
  | succ k ih => rw [← Nat.add_assoc, c3_succ hr (by omega)]; exact ih
theorem mg3_empty (h : R.all (·.isEmpty) = true) : mg3 eq R = ([], R, true) := by
  unfold mg3
  cases tot R <;> simp only [c3, h, if_true]
theorem mg3_none (h : R.all (·.isEmpty) = false) (hc : cand eq R = none) : mg3 eq R = ([], R, false) := by
  unfold mg3
  cases ht : tot R with
  | zero => rw [tot_zero ht] at h; cases h
  | succ n => simp only [c3, h, hc]; rfl
theorem mg3_some (hr : Rfl eq R) (hc : cand eq R = some c) : mg3 eq R = (c :: (mg3 eq (R.map (strike1 eq c))).1, (mg3 eq (R.map (strike1 eq c))).2) := by
  obtain ⟨⟨t, ht⟩, _⟩ := cand_spec hc
  have hlt := tot_strike_lt ht (cand_refl hr hc)
  have hne : R.all (·.isEmpty) = false := by
    cases q : R.all (·.isEmpty) with
    | false => rfl
    | true => rw [cand_empty q] at hc; cases hc
  rw [mg3]
  cases hn : tot R with
  | zero => omega
  | succ n => simp only [c3, hne, hc]; rw [c3_fuel hr.strike (by omega)]; rfl

theorem okHead_filter (x : α) : okHead eq (R.filter fun r => !r.isEmpty) x = okHead eq R x := by
  unfold okHead
  rw [Bool.eq_iff_iff, List.all_eq_true, List.all_eq_true]
  constructor
  · intro h r hr
    cases r with
    | nil => simp
    | cons y t => exact h _ (List.mem_filter.mpr ⟨hr, by simp⟩)
  · intro h r hr
    exact h r (List.mem_filter.mp hr).1
theorem cand_filter : cand eq (R.filter fun r => !r.isEmpty) = cand eq R := by
  unfold cand
  have : okHead eq (R.filter fun r => !r.isEmpty) = okHead eq R := funext okHead_filter
  rw [this]
  clear this
  generalize okHead eq R = g
  induction R with
  | nil => rfl
  | cons r R ih =>
    cases r with
    | nil => simpa using ih
    | cons x t =>
      simp only [List.filter_cons, List.isEmpty_cons, Bool.not_false, if_true, List.findSome?_cons, ih]
end

section
variable {K : Cx} {A : Around} {n : Nat} {env : Env} {s : Shared} {h₀ h h' : Heap} {As : List Addr} {l r : Addr} {P : List Addr} {f : Addr → List PyData} {out : List PyData} {Q : Flow → Shared → Prop} {E : Value → Shared → Prop} {m : Str → Option Value} {outer : List Env}

/-- `if not sequences: return result` -/
theorem c3_empty (V : C3E K A n env) (C : C3I K env h₀ As s.heap m l r P f out) (hP : P.length ≤ sizeLine)
    (k1 : P = [] → ∀ tk, Q (.ret (.ref r)) { s with toks := tk }) (k2 : P ≠ [] → ∀ tk, Q .next { s with toks := tk }) : wpAny (model K.prog K.w) A (exec stEmpty env) Q E s := by
  refine wpAny_If (isTrue_not (isTrue_plain (c3_name V (y := sS) (by rfl) C.ns C.seqV (wpAny_truthy_list C.seqL ?_ ?_))))
  · simp only [List.size_toArray, List.length_map]; rw [sizeLine_eq] at hP; omega
  · cases P with
    | nil => exact wpAny_execs_cons (wpAny_Return_some (c3_name V (y := sR) (by rfl) C.ns C.resV (k1 rfl _)))
    | cons a P => exact wpAny_execs_nil (k2 (by simp) _)

def stRaise : Stmt := match stNone with | .If _ [b] _ _ => b | s => s

theorem c3_raise (V : C3E K A n env) (C : C3I K env h₀ As s.heap m l r P f out) (hg : GV K "RuntimeError" (.type "RuntimeError"))
    (k : ∀ h' e tk, Fly s.heap h' e none → Ext s.heap h' → E (.ref e) { s with heap := h', toks := tk }) : wpAny (model K.prog K.w) A (exec stRaise env) Q E s := by
  have I : In K n c3Scope (fun _ => False) [] A env s.heap := C.in V fun y d hy => by cases hy
  refine wpAny_Raise_call PySem.F.excCall_RuntimeError PySem.F.excRaise_RuntimeError V.room.quiet (by rfl) (name_global I hg (by rfl) ⟨rfl, ?_⟩)
  refine Calls.evalArgs_plain (args_cons (wpAny_Constant_str ?_) (by rfl))
  refine args_nil ⟨rfl, by show 1 ≤ sizeLine; decide, fun h' e X => k h' e _ ?_ X.keeps⟩
  obtain ⟨t, h1, h2, h3⟩ := X.there
  exact ⟨⟨_, _, t, _, _, _, h1, rfl, rfl, by simp, rfl, h3, rfl, rfl, rfl⟩, X.new⟩

theorem c3_none1 (V : C3E K A n env) (C : C3I K env h₀ As s.heap m l r P f out) (hg : GV K "RuntimeError" (.type "RuntimeError")) (hc : m sC = some .none)
    (k : ∀ hb h' e tk, Ext s.heap hb → Fly hb h' e none → Ext hb h' → E (.ref e) { s with heap := h', toks := tk }) : wpAny (model K.prog K.w) A (exec stNone env) Q E s := by
  have I : In K n c3Scope (fun _ => False) [(sC, .py .none)] A env s.heap := C.in V fun y d hy => by
    rw [List.lookup_cons] at hy
    by_cases q : y = sC
    · subst q; simp at hy; subst hy; exact ⟨.none, [], hc, by rfl, .none⟩
    · have hb : (y == sC) = false := by simpa using q
      simp [hb] at hy
  refine wpAny_If (Tr.use (s := s) (b := true) I (Tr.cmp (da := .py .none) (Ev.name (x := sC) (by rfl)) Ev.cNone CmpOk.isNone) fun h₁ tk x => ?_)
  rw [if_pos rfl]
  exact wpAny_execs_cons (c3_raise (s := { s with heap := h₁, toks := tk }) V (C.ext x) hg fun h' e tk' F x' => k h₁ h' e tk' x F x')
theorem c3_none0 (V : C3E K A n env) (C : C3I K env h₀ As s.heap m l r P f out) {x : PyData} {v : Value} (hx : Atom x) (hc : m sC = some v) (rv : Rd s.heap v x [])
    (k : ∀ h' tk, Ext s.heap h' → Q .next { s with heap := h', toks := tk }) : wpAny (model K.prog K.w) A (exec stNone env) Q E s := by
  have I : In K n c3Scope (fun _ => False) [(sC, .py x)] A env s.heap := C.in V fun y d hy => by
    rw [List.lookup_cons] at hy
    by_cases q : y = sC
    · subst q; simp at hy; subst hy; exact ⟨v, [], hc, by rfl, rv⟩
    · have hb : (y == sC) = false := by simpa using q
      simp [hb] at hy
  refine wpAny_If (Tr.use (s := s) (b := false) I (Tr.cmp (da := .py x) (Ev.name (x := sC) (by rfl)) Ev.cNone (CmpOk.cast CmpOk.isNone hx.some)) fun h₁ tk x => ?_)
  rw [if_neg Bool.false_ne_true]
  exact wpAny_execs_nil (k h₁ tk x)
end
end Mine

namespace Mine

structure C3L (As P : List Addr) (f : Addr → List PyData) (out : List PyData) (R₀ : List (List PyData)) : Prop where
  nd : P.Nodup
  PF : P.filter (ne' f) = As.filter (ne' f)
  Psz : P.length ≤ sizeLine
  atoms : ∀ a ∈ As, ∀ d ∈ f a, Atom d
  sz : ∀ a ∈ As, (f a).length ≤ sizeLine
  room : out.length + tot (As.map f) ≤ sizeLine
  run : mg3 PyData.eqv R₀ = (out ++ (mg3 PyData.eqv (As.map f)).1, (mg3 PyData.eqv (As.map f)).2)

def stWhile : Stmt := c3Body.getD 1 (.Pass ⟨0, 0, 0, 0⟩)

theorem filter_map_ne (As : List Addr) (f : Addr → List PyData) : (As.filter (ne' f)).map f = (As.map f).filter fun r => !r.isEmpty := by
  rw [List.filter_map]; rfl

section
variable {K : Cx} {A : Around} {n : Nat} {env : Env} {s : Shared} {h₀ h h' : Heap} {As : List Addr} {l r : Addr} {P : List Addr} {f : Addr → List PyData} {out : List PyData} {Q : Flow → Shared → Prop} {E : Value → Shared → Prop} {m : Str → Option Value} {outer : List Env} {R₀ : List (List PyData)}

theorem C3L.rfl' (L : C3L As P f out R₀) : Rfl PyData.eqv (As.map f) := fun r hr x hx => by
  obtain ⟨a, ha, rfl⟩ := List.mem_map.mp hr
  exact (L.atoms a ha x hx).refl

theorem c3_while (V : C3E K A n env) (hf : env.frame = some env.locals) (C : C3I K env h₀ As s.heap m l r P f out) (L : C3L As P f out R₀)
    (hg : GV K "RuntimeError" (.type "RuntimeError")) (hout : (mg3 PyData.eqv R₀).2.2 = true ∨ (A.frames = some (env :: outer) ∧ ∀ h, Eff (· ∈ As) h₀ h → h.FunFrames K.h₀ outer))
    (k1 : ∀ h' tk m' l' P' f' out', C3I K env h₀ As h' m' l' r P' f' out' → mg3 PyData.eqv R₀ = (out', As.map f', true) → Q (.ret (.ref r)) { s with heap := h', toks := tk })
    (k2 : ∀ hb h' e tk m' l' P' f' out', C3I K env h₀ As hb m' l' r P' f' out' → mg3 PyData.eqv R₀ = (out', As.map f', false) → Fly hb h' e (some (some env.locals)) → Kept ((env :: outer).filterMap (·.frame)) hb h' →
      h'.FunFrames K.h₀ (env :: outer) → E (.ref e) { s with heap := h', toks := tk }) :
    wpAny (model K.prog K.w) A (exec stWhile env) Q E s := by
  refine wpAny_While (codeAny_whileLoop (fun k s' => ∃ h tk m l P f out, s' = { s with heap := h, toks := tk } ∧ C3I K env h₀ As h m l r P f out ∧ C3L As P f out R₀ ∧ tot (As.map f) = k) (fun k s' hI => ?_) _ ⟨s.heap, s.toks, m, l, P, f, out, rfl, C, L, rfl⟩)
  obtain ⟨h, tk, m, l, P, f, out, rfl, C, L, rfl⟩ := hI
  refine Tr.use (s := { s with heap := h, toks := tk }) (b := true) (C.in (ρ := []) V fun y d hy => by cases hy) (Tr.val Ev.cBool TruthOk.bool) fun h₁ tk₁ x₁ => ?_
  rw [if_pos rfl]
  have C₁ := C.ext x₁
  show wpAny _ A (execs [stPurge, stEmpty, stSearch, stNone, stAppend, stStrike] env) _ _ _
  refine wpAny_execs_cons (c3_purge (s := { s with heap := h₁, toks := tk₁ }) V C₁ L.sz L.Psz fun h₂ tk₂ m₂ l₂ C₂ => ?_)
  have hP₂ : P.filter (ne' f) = As.filter (ne' f) := L.PF
  have hsz₂ : (P.filter (ne' f)).length ≤ sizeLine := Nat.le_trans (List.length_filter_le ..) L.Psz
  have hnd₂ : (P.filter (ne' f)).Nodup := L.nd.sublist List.filter_sublist
  have hne₂ : ∀ a ∈ P.filter (ne' f), f a ≠ [] := fun a ha q => by have := (List.mem_filter.mp ha).2; simp [ne', q] at this
  have hmap : (P.filter (ne' f)).map f = (As.map f).filter fun r => !r.isEmpty := by rw [hP₂, filter_map_ne]
  have hcand : cand PyData.eqv ((P.filter (ne' f)).map f) = cand PyData.eqv (As.map f) := by rw [hmap, cand_filter]
  refine wpAny_execs_cons (c3_empty (s := { s with heap := h₂, toks := tk₂ }) V C₂ hsz₂ (fun hP tk₃ => ?_) fun hP tk₃ => ?_)
  · have hall : (As.map f).all (·.isEmpty) = true := by
      rw [hP] at hmap
      have hmap : (As.map f).filter (fun r => !r.isEmpty) = [] := by simpa using hmap.symm
      rw [List.filter_eq_nil_iff] at hmap
      rw [List.all_eq_true]
      intro r hr
      simpa using hmap r hr
    refine k1 h₂ tk₃ m₂ l₂ _ f out C₂ ?_
    rw [L.run, mg3_empty hall]; simp
  · refine wpAny_execs_cons (c3_search (s := { s with heap := h₂, toks := tk₃ }) V C₂ L.atoms L.sz hne₂ hP (fun x hx h₃ tk₄ m₃ v C₃ hm₃ rv => ?_) fun hx h₃ tk₄ m₃ C₃ hm₃ => ?_)
    · rw [hcand] at hx
      obtain ⟨⟨t, ht⟩, _⟩ := cand_spec hx
      have hxa : Atom x := by
        obtain ⟨a, ha, e⟩ := List.mem_map.mp ht
        exact L.atoms a ha x (by rw [e]; exact .head _)
      have hlt := tot_strike_lt ht hxa.refl
      refine wpAny_execs_cons (c3_none0 (s := { s with heap := h₃, toks := tk₄ }) V C₃ hxa hm₃ rv fun h₄ tk₅ x₄ => ?_)
      have C₄ := C₃.ext x₄
      refine wpAny_execs_cons (c3_append (s := { s with heap := h₄, toks := tk₅ }) V C₄ hm₃ (rv.ext x₄) (by have := L.room; omega) fun h₅ tk₆ C₅ rv₅ => ?_)
      refine wpAny_execs_cons (c3_strike (s := { s with heap := h₅, toks := tk₆ }) V C₅ L.atoms L.sz hne₂ hnd₂ hxa hm₃ rv₅ fun h₆ tk₇ m₆ C₆ => wpAny_execs_nil ?_)
      have hstr : As.map (fun a => if a ∈ P.filter (ne' f) then strike1 PyData.eqv x (f a) else f a) = (As.map f).map (strike1 PyData.eqv x) := by
        rw [List.map_map]
        refine List.map_congr_left fun a ha => ?_
        by_cases q : a ∈ P.filter (ne' f)
        · simp only [if_pos q, Function.comp]
        · rw [if_neg q]
          rw [hP₂, List.mem_filter] at q
          have : f a = [] := by
            cases hfa : f a with
            | nil => rfl
            | cons y t => exact absurd ⟨ha, by simp [ne', hfa]⟩ q
          simp [this, strike1]
      refine ⟨_, ?_, h₆, tk₇, m₆, l₂, _, _, _, rfl, C₆, ⟨hnd₂, ?_, hsz₂, ?_, ?_, ?_, ?_⟩, rfl⟩
      · rw [hstr]; exact hlt
      · rw [hP₂, List.filter_filter]
        refine List.filter_congr fun a ha => ?_
        by_cases q : ne' f a = true
        · simp [q]
        · have q' : ne' f a = false := by simpa using q
          have : f a = [] := by
            cases hfa : f a with
            | nil => rfl
            | cons y t => simp [ne', hfa] at q'
          simp [q', ne', this, strike1]
      · intro a ha d hd
        split at hd
        · exact L.atoms a ha d (strike1_mem hd)
        · exact L.atoms a ha d hd
      · intro a ha
        split
        · exact Nat.le_trans (strike1_length_le _) (L.sz a ha)
        · exact L.sz a ha
      · rw [hstr]; have := L.room; simp only [List.length_append, List.length_singleton]; omega
      · rw [hstr, L.run, mg3_some L.rfl' hx]; simp
    · rw [hcand] at hx
      have hall : (As.map f).all (·.isEmpty) = false := by
        cases q : (As.map f).all (·.isEmpty) with
        | false => rfl
        | true =>
          exfalso; apply hP
          have : (P.filter (ne' f)).map f = [] := by
            rw [hmap, List.filter_eq_nil_iff]
            intro r hr
            simpa using List.all_eq_true.mp q r hr
          simpa using this
      refine wpAny_execs_cons (c3_none1 (s := { s with heap := h₃, toks := tk₄ }) V C₃ hg hm₃ fun hb h₄ e tk₅ xb F x₄ => ?_)
      have Cb := C₃.ext xb
      have run : mg3 PyData.eqv R₀ = (out, As.map f, false) := by rw [L.run, mg3_none hall hx]; simp
      obtain ⟨hfr, hout⟩ := hout.resolve_left (by rw [run]; exact Bool.false_ne_true)
      have hk : env.scope.kind ≠ .module := by rw [V.henv.kind]; decide
      have hfm : h₄.FunFrames K.h₀ (env :: outer) := Heap.FunFrames.cons hk hf (Cb.ns.keeps x₄) (Cb.base.none Cb.Lnew) (hout h₄ fun b o hb' ho => x₄ b o (Cb.keep b o hb' ho))
      refine note_new (s := { s with heap := h₄, toks := tk₅ }) hfr hfm hf F (x₄.kept _) fun h₅ F₅ kb₅ fm₅ => ?_
      refine cameBack_ok (s := { s with heap := h₅, toks := tk₅ }) F₅ kb₅ fm₅ fun h₆ F₆ kb₆ fm₆ => ?_
      rw [hf] at F₆
      exact k2 hb h₆ e tk₅ m₃ l₂ _ f out Cb run F₆ kb₆ fm₆
end
end Mine

namespace Mine

/-- a function of the text stands where its name says -/
structure Fn (K : Cx) (d : DefRec) (fa : Addr) (o : Obj) (pm cd doc : Value) : Prop where
  name : K.mg d.name = some (.ref fa)
  get : K.h₀.get? fa = some o
  data : o.data = .func (Calls.docDef d.name d.params d.body d.scope pm cd doc)
  code : K.h₀.CodeRec cd d.name

theorem Fly.rebase {hb hb' h : Heap} {e : Addr} {st} (F : Fly hb h e st) (x : ∀ b o, hb'.get? b = some o → ∃ o', hb.get? b = some o') : Fly hb' h e st := by
  have nn : ∀ b, hb.get? b = none → hb'.get? b = none := fun b hn => by
    cases q : hb'.get? b with
    | none => rfl
    | some o => obtain ⟨o', ho'⟩ := x b o q; rw [hn] at ho'; cases ho'
  obtain ⟨o, vs, t, ot, u, kk, h1, h2, h3, h4, h5, h6, h7, h8, h9⟩ := F.there
  refine ⟨⟨o, vs, t, ot, u, kk, h1, h2, h3, h4, h5, h6, h7, h8, ?_⟩, nn _ F.new⟩
  cases st with
  | none => exact h9
  | some f => obtain ⟨T, oT, ts, a1, a2, a3, a4⟩ := h9; exact ⟨T, oT, ts, a1, a2, nn _ a3, a4⟩

theorem Room.deeper {A : Around} {n : Nat} {env : Env} (r : Room A (n + 1)) : Room (A.deeper env) n := by
  obtain ⟨h1, h2, h3⟩ := r
  refine ⟨h1, ?_, ?_⟩
  · show A.depth + 1 + n < _; omega
  · show A.units + 3 + 8 * n + 200 < _; omega

/-- the rows as the heap has them -/
def Rows (h : Heap) (As : List Addr) (f : Addr → List PyData) : Prop :=
  ∀ a ∈ As, ∃ (vs : List Value) (c : Nat), h.get? a = some { cls := .type "list", data := .seq vs.toArray c } ∧ RdAll h vs (f a) []

def c3Env (L fa : Addr) (cd : Value) : Env := envOfC c3Rec.name c3Scope L fa cd
theorem c3Env_ok (L fa : Addr) (cd : Value) : EnvOk (c3Env L fa cd) := ⟨rfl, rfl, rfl, .nil, fun n h => by
  have hno : ∀ y ∈ c3Scope.names, y.2 ≠ .cell ∧ y.2 ≠ .free := by decide
  have : ∀ k, c3Scope.names.lookup n = some k → (n, k) ∈ c3Scope.names := fun k hk => mem_of_lookup hk
  rcases h with h | h
  · exact absurd rfl (hno _ (this _ h)).1
  · exact absurd rfl (hno _ (this _ h)).2⟩

section
variable {K : Cx} {A : Around} {n : Nat} {s : Shared} {As : List Addr} {l fa : Addr} {o : Obj} {pm cd doc : Value} {f : Addr → List PyData} {Q : Value → Shared → Prop} {E : Value → Shared → Prop} {outer : List Env}

theorem c3_call (Fc : Fn K c3Rec fa o pm cd doc) (hg : GV K "RuntimeError" (.type "RuntimeError")) (ro : Room A (n + 1)) (ok : K.Ok s.heap)
    (hout : (mg3 PyData.eqv (As.map f)).2.2 = true ∨ (A.frames = some outer ∧ (∀ h, Eff (· ∈ As) s.heap h → h.FunFrames K.h₀ outer) ∧ ∀ b ∈ outer.filterMap (·.frame), NoSeq s.heap b)) (hl : s.heap.IsList l (As.map Value.ref).toArray) (hin : Rows s.heap As f) (hnd : As.Nodup) (hlA : l ∉ As) (hAK : ∀ a ∈ As, K.h₀.get? a = none)
    (hat : ∀ a ∈ As, ∀ d ∈ f a, Atom d) (hsz : ∀ a ∈ As, (f a).length ≤ sizeLine) (htot : tot (As.map f) ≤ sizeLine) (hAs : As.length ≤ sizeLine)
    (k1 : ∀ out f', mg3 PyData.eqv (As.map f) = (out, As.map f', true) → ∀ h' tk r ws, Eff (· ∈ As) s.heap h' → Rows h' As f' → s.heap.get? r = none → h'.PlainList r ws.toArray → RdAll h' ws out [] → K.Ok h' → Q (.ref r) { s with heap := h', toks := tk })
    (k2 : ∀ out f', mg3 PyData.eqv (As.map f) = (out, As.map f', false) → ∀ hb h' e tk, Eff (· ∈ As) s.heap hb → Rows hb As f' → Fly hb h' e (some none) → Kept (outer.filterMap (·.frame)) hb h' → (∀ b o, s.heap.get? b = some o → b ∉ As → ∃ sl, h'.get? b = some { o with slots := sl } ∧ (b ∉ outer.filterMap (·.frame) → sl = o.slots)) →
      Rows h' As f' → h'.FunFrames K.h₀ outer → K.Ok hb → E (.ref e) { s with heap := h', toks := tk }) :
    wpAny (model K.prog K.w) A (call (.ref fa) [.ref l]) Q E s := by
  refine wpAny_call ?_
  refine call_cells (binds := [(sS, .ref l)]) (by have := ro.depth; omega) (ok.ext _ _ Fc.get) Fc.data (ok.lim.keeps ok.ext) (Fc.code.keeps ok.ext) (by rfl) (fun x hx => by
    obtain rfl : x = (sS, .ref l) := by simpa using hx
    exact .inl (by rfl)) fun h₁ tk₁ F C => ?_
  generalize hL : s.heap.objs.size = L at F C ⊢
  have hLn : s.heap.get? L = none := hL ▸ push_new _
  show wpAny _ (A.deeper (c3Env L fa cd)) (execs [_, stWhile] (c3Env L fa cd)) _ _ _
  have V : C3E K (A.deeper (c3Env L fa cd)) n (c3Env L fa cd) := ⟨ro.deeper, c3Env_ok L fa cd, rfl, by rfl⟩
  have hm : (bindL (envOfC c3Rec.name c3Rec.scope L fa cd).kindOf [(sS, .ref l)] fun _ => none) = fun y => if y = sS then some (.ref l) else none := by rfl
  rw [hm] at F
  have I : In K n c3Scope (fun _ => False) [] (A.deeper (c3Env L fa cd)) (c3Env L fa cd) h₁ := ⟨V.room, ok.mono F.keep, rfl, V.henv, ⟨⟨_, F.ns⟩, fun x c hc => by cases hc⟩, nofun, nofun⟩
  refine wpAny_execs_cons (wpAny_Assign_Name (Ev.use (s := { s with heap := h₁, toks := tk₁ }) I (Ev.list EvAll.nil) fun v h₂ tk₂ as g => ?_))
  have x₂ := g.ext
  have hfn := c3Env_ok L fa cd
  refine c3_store (s := { s with heap := h₂, toks := tk₂ }) V (y := sR) (by rfl) (F.ns.keeps x₂) fun h₃ hn₃ hs₃ => ?_
  have g' : Rd h₂ v (.list []) as := g.rd
  obtain ⟨nd₂, new₂⟩ := g.new rfl
  cases g' with
  | @list r ws c _ as' hr rs =>
  obtain rfl : ws = [] := by cases rs; rfl
  have hr1 : h₁.get? r = none := new₂ r (.head _)
  have hr0 : s.heap.get? r = none := by
    cases q : s.heap.get? r with
    | none => rfl
    | some o => rw [F.keep r o q] at hr1; cases hr1
  have hrL : r ≠ L := fun q => by obtain ⟨o, _, _, ho, _⟩ := F.ns; rw [q, ho] at hr1; cases hr1
  have x₃ : Ext s.heap h₃ := fun b o hb => (hs₃.2 b fun q => by rw [q] at hb; exact absurd (hLn.symm.trans hb) nofun).trans (x₂ b o (F.keep b o hb))
  have C₃ : C3I K (c3Env L fa cd) s.heap As h₃ (fun z => if z = sR then some (.ref r) else if z = sS then some (.ref l) else none) l r As f [] := {
    ok := ok.mono x₃
    base := ok.ext
    ns := hn₃
    Lnew := hLn
    keep := x₃.eff _
    inner := fun a ha => let ⟨vs, c, h1, h2⟩ := hin a ha; ⟨vs, c, x₃ _ _ h1, h2.ext x₃⟩
    seqV := by rfl
    seqL := let ⟨o, ho, hr⟩ := hl; ⟨o, x₃ _ _ ho, hr⟩
    resV := by rfl
    resL := ⟨[], ⟨c, (hs₃.2 r hrL).trans hr⟩, .nil⟩
    rnew := hr0
    rA := fun q => by obtain ⟨vs, c, h1, _⟩ := hin r q; rw [hr0] at h1; cases h1
    lA := hlA
    lr := fun q => by obtain ⟨o, ho, _⟩ := hl; rw [q, hr0] at ho; cases ho
    PA := fun _ h => h
    AK := hAK }
  refine wpAny_execs_cons (c3_while (s := { s with heap := h₃, toks := tk₂ + 1 }) (R₀ := As.map f) V rfl C₃ ⟨hnd, rfl, hAs, hat, hsz, by simpa using htot, by simp⟩ hg (hout.imp id fun q => ⟨Around.frames_deeper q.1, q.2.1⟩) (fun h₄ tk₄ m₄ l₄ P₄ f₄ out₄ C₄ run => ?_) fun hb h₄ e tk₄ m₄ l₄ P₄ f₄ out₄ C₄ run fl kb fm => ?_)
  · obtain ⟨ws, h1, h2⟩ := C₄.resL
    exact k1 out₄ f₄ run h₄ tk₄ r ws C₄.keep C₄.inner hr0 h1 h2 C₄.ok
  · obtain ⟨_, _, hfms⟩ := hout.resolve_left (by rw [run]; exact Bool.false_ne_true)
    have hfm : h₄.FunFrames K.h₀ outer := fm.2.2
    refine wpAny_bind (note_again (s := { s with heap := h₄, toks := tk₄ }) rfl fl ?_)
    refine flight_set (s := { s with heap := h₄, toks := tk₄ }) (f' := none) fl kb fm fun h₅ fl₅ kb₅ fm₅ => ?_
    have kb' : ∀ b o, s.heap.get? b = some o → b ∉ As → ∃ sl, h₅.get? b = some { o with slots := sl } ∧ (b ∉ outer.filterMap (·.frame) → sl = o.slots) := fun b o hb' hA => by
      obtain ⟨sl, e1, e2⟩ := kb₅ b o (C₄.keep b o hA hb')
      refine ⟨sl, e1, fun hn => e2 fun hm => ?_⟩
      rw [List.filterMap_cons] at hm
      rcases List.mem_cons.mp hm with q | q
      · rw [q] at hb'; exact absurd (hLn.symm.trans hb') nofun
      · exact hn q
    have hfr' : ∀ b o, hb.get? b = some o → (∃ xs k, o.data = .seq xs k) → b ∉ (c3Env L fa cd :: outer).filterMap (·.frame) := fun b o ho ⟨xs, k, hd⟩ hm => by
      rw [List.filterMap_cons] at hm
      rcases List.mem_cons.mp hm with q | q
      · obtain ⟨o', es, ep, ho', hd', _⟩ := C₄.ns
        have : hb.get? L = some o' := ho'
        rw [q, this] at ho; cases ho; rw [hd] at hd'; cases hd'
      · obtain ⟨o', ho', hd'⟩ := hfms b q
        have hbA : b ∉ As := fun hA => by obtain ⟨vs, c, h1, _⟩ := hin b hA; rw [h1] at ho'; cases ho'; exact hd' _ _ rfl
        have := C₄.keep b o' hbA ho'
        rw [this] at ho; cases ho; exact hd' _ _ hd
    -- the base, with the merge's own frame as it is now
    obtain ⟨oL, es, ep, hoL, hdL, _⟩ := C₄.ns
    have hoL : hb.get? L = some oL := hoL
    obtain ⟨slL, hL5, _⟩ := kb₅ L oL hoL
    have hBL : (hb.update L fun _ => { oL with slots := slL }).get? L = some { oL with slots := slL } := Heap.get?_update_self _ hoL (by simp [Obj.isFreed, hdL])
    have hBo : ∀ b, b ≠ L → (hb.update L fun _ => { oL with slots := slL }).get? b = hb.get? b := fun b hb' => Heap.get?_update_other _ _ (Ne.symm hb')
    have nL : ∀ b o, s.heap.get? b = some o → b ≠ L := fun b o hb' q => by rw [q] at hb'; exact absurd (hLn.symm.trans hb') nofun
    have nLs : ∀ b xs k c', hb.get? b = some { cls := c', data := .seq xs k } → b ≠ L := fun b xs k c' hb' q => by
      obtain ⟨o', es', ep', ho', hd', _⟩ := C₄.ns
      have : hb.get? L = some o' := ho'
      rw [q, this] at hb'; cases hb'; cases hd'
    have kB : Kept (outer.filterMap (·.frame)) (hb.update L fun _ => { oL with slots := slL }) h₅ := fun b o hb' => by
      by_cases q : b = L
      · subst q
        rw [hBL] at hb'; cases hb'
        exact ⟨_, hL5, fun _ => rfl⟩
      · rw [hBo b q] at hb'
        obtain ⟨sl, e1, e2⟩ := kb₅ b o hb'
        refine ⟨sl, e1, fun hn => e2 fun hm => ?_⟩
        rw [List.filterMap_cons] at hm
        rcases List.mem_cons.mp hm with q' | q'
        · exact q q'
        · exact hn q'
    have eB : Eff (· ∈ As) s.heap (hb.update L fun _ => { oL with slots := slL }) := fun b o hA hb' => (hBo b (nL b o hb')).trans (C₄.keep b o hA hb')
    have okB : K.Ok (hb.update L fun _ => { oL with slots := slL }) := ⟨ok.g, ok.b, ok.lim, eB.ext ok.ext hAK⟩
    refine k2 out₄ f₄ run (hb.update L fun _ => { oL with slots := slL }) h₅ e tk₄ eB (fun a ha => ?_) (fl₅.rebase fun b o hb' => ?_) kB kb' (fun a ha => ?_) fm₅.2.2 okB
    · obtain ⟨vs, c, h1, h2⟩ := C₄.inner a ha
      exact ⟨vs, c, (hBo a (nLs a _ _ _ h1)).trans h1, h2.off ⟨nofun, fun b xs k hb' => (hBo b (nLs b _ _ _ hb')).trans hb'⟩⟩
    · by_cases q : b = L
      · subst q; exact ⟨_, hoL⟩
      · rw [hBo b q] at hb'; exact ⟨_, hb'⟩
    obtain ⟨vs, c, h1, h2⟩ := C₄.inner a ha
    refine ⟨vs, c, kb₅.get (hfr' _ _ h1 ⟨_, _, rfl⟩) h1, h2.off ⟨nofun, fun b xs k hb' => kb₅.get (hfr' _ _ hb' ⟨_, _, rfl⟩) hb'⟩⟩
end
end Mine

namespace Mine

theorem RdAll.rowsFn {h : Heap} : ∀ {rows : List (List PyData)} {vs as}, RdAll h vs (rows.map .list) as → as.Nodup → (∀ r ∈ rows, ∀ d ∈ r, Atom d) → ∃ f, as.map f = rows ∧ vs = as.map Value.ref ∧ Rows h as f
  | [], _, _, r, _, _ => by cases r; exact ⟨fun _ => [], rfl, rfl, nofun⟩
  | t :: rows, vs, as, r, nd, at' => by
    obtain ⟨v, vs', a, b, rfl, rfl, r1, r2⟩ := r.uncons
    cases r1 with
    | @list x ws c _ as' hx rx =>
      obtain rfl := rx.atoms (at' t (.head _))
      obtain ⟨f, h1, h2, h3⟩ := r2.rowsFn (List.nodup_append.mp nd).2.1 fun r hr => at' r (.tail _ hr)
      have hxb : x ∉ b := fun q => by simp at nd; exact nd.1 q
      refine ⟨fun y => if y = x then t else f y, ?_, by simp [h2], fun y hy => ?_⟩
      · have : b.map (fun y => if y = x then t else f y) = b.map f := List.map_congr_left fun y hy => if_neg fun (q : y = x) => hxb (q ▸ hy)
        simp [this, h1]
      · simp at hy
        rcases hy with rfl | hy
        · exact ⟨ws, c, hx, by simpa using rx⟩
        · obtain ⟨ws', c', h4, h5⟩ := h3 y hy
          exact ⟨ws', c', h4, by show RdAll h ws' (if y = x then t else f y) []; rw [if_neg fun (q : y = x) => hxb (q ▸ hy)]; exact h5⟩

theorem length_le_tot {α : Type} {R : List (List α)} {r : List α} (h : r ∈ R) : r.length ≤ tot R := by
  induction R with
  | nil => cases h
  | cons q R ih =>
    rw [tot_cons]
    rcases List.mem_cons.mp h with rfl | h
    · omega
    · have := ih h; omega

def c3N : Str := c3Rec.name

section
variable {K : Cx} {n : Nat} {sc : Scope} {ρ : List (Str × D)} {a : Expr} {p pos : Pos} {fa : Addr} {o : Obj} {pm cd doc : Value} {rows : List (List PyData)} {out : List PyData} {rest : List (List PyData)}

end
end Mine

namespace Mine

section
variable {M : Model} {A : Around} {E : Value → Shared → Prop} {s : Shared} {B hb : Heap}

theorem note_left {env : Env} {outer : List Env} {L e : Addr} {Q : Unit → Shared → Prop} (hfr : A.frames = some (env :: outer)) (hl : s.heap.FunFrames B (env :: outer)) (hf : env.frame = some L) (F : Fly hb s.heap e (some none))
    (kb : Kept ((env :: outer).filterMap (·.frame)) hb s.heap)
    (k : ∀ h', Fly hb h' e (some (some L)) → Kept ((env :: outer).filterMap (·.frame)) hb h' → h'.FunFrames B (env :: outer) → Q () { s with heap := h' }) :
    wpAny M A (noteFrame (.ref e) env) Q E s := by
  obtain ⟨o, vs, t, ot, u, kk, h1, h2, h3, h4, h5, h6, h7, h8, T₀, oT₀, ts₀, a1, a2, a3, a4, a5, a6⟩ := F.there
  have a6 : ts₀[3]? = some Value.none := a6
  have hs3 : 3 < ts₀.size := (Array.getElem?_eq_some_iff.mp a6).1
  unfold noteFrame
  simp only [hf]
  refine wpAny_bind (wpAny_field h1 h3 a1 ?_)
  rw [if_pos (show (Value.ref T₀ != Value.none) = true from by simp)]
  refine wpAny_bind (wpAny_field a4 a5 a6 ?_)
  rw [if_neg (show ¬ ((Value.none == rawInt L) = true) from by simp [rawInt])]
  refine wpAny_bind (wpAny_setField a4 a5 hs3 ?_)
  have other : ∀ b, b ≠ T₀ → (s.heap.update T₀ (Obj.mapFields (·.setIfInBounds 3 Value.none))).get? b = s.heap.get? b := fun b hb => Heap.get?_update_other _ _ (Ne.symm hb)
  have noRec : ∀ b o', s.heap.get? b = some o' → (∀ vs, o'.data ≠ .fields vs) → b ≠ T₀ := fun b o' hb' hnf q => by rw [q, a4] at hb'; cases hb'; exact hnf ts₀ a5
  refine newEntry_ok (s := { s with heap := s.heap.update T₀ (Obj.mapFields (·.setIfInBounds 3 Value.none)) }) (oe := o) (vs := vs) hfr (hl.of_keeps fun b o' hb' hnf => ⟨o', (other b (noRec b o' hb' hnf)).trans hb', rfl⟩) hf ((other e (Ne.symm a2)).trans h1) h3 (by omega) fun h' T oT ts hT hTe hT' hdT h3T he' keep => ?_
  have hbk : ∀ b o', hb.get? b = some o' → b ≠ e := fun b o' hb' q => by rw [q, F.new] at hb'; cases hb'
  have hbT : ∀ b o', hb.get? b = some o' → b ≠ T₀ := fun b o' hb' q => by rw [q, a3] at hb'; cases hb'
  have hte : t ≠ e := fun q => by rw [q, h1] at h6; cases h6; rw [h8] at h3; cases h3
  have htT : t ≠ T₀ := fun q => by rw [q, a4] at h6; cases h6; rw [h8] at a5; cases a5
  obtain ⟨slt, ht', _⟩ := keep t ot hte ((other t htT).trans h6)
  have hsz' : 3 < (vs.setIfInBounds 1 (.ref T)).size := by rw [Array.size_setIfInBounds]; exact h4
  have hv0 : (vs.setIfInBounds 1 (.ref T))[0]? = some (.ref t) := by rw [Array.getElem?_setIfInBounds_ne (by decide)]; exact h5
  have hv1 : (vs.setIfInBounds 1 (.ref T))[1]? = some (.ref T) := by rw [Array.getElem?_setIfInBounds_self]; simp; omega
  refine k h' ⟨⟨_, vs.setIfInBounds 1 (.ref T), t, _, u, kk, he', (Obj.cls_mapFields _ _).trans h2, Obj.data_mapFields h3 _, hsz', hv0, ht', h7, h8, T, oT, ts, hv1, hTe, ?_, hT', hdT, h3T⟩, F.new⟩ (fun b o' hb' => ?_) (hl.of_keeps fun b o' hb' hnf => ?_)
  · cases q : hb.get? T with
    | none => rfl
    | some o' =>
      obtain ⟨sl, hsl, _⟩ := kb T o' q
      have hT2 : (s.heap.update T₀ (Obj.mapFields (·.setIfInBounds 3 Value.none))).get? T = none := hT
      rw [other T (hbT T o' q), hsl] at hT2; cases hT2
  · obtain ⟨sl, e1, k1⟩ := kb b o' hb'
    obtain ⟨sl', e2, k2⟩ := keep b _ (hbk b o' hb') ((other b (hbT b o' hb')).trans e1)
    exact ⟨sl', e2, fun hbS => (k2 hbS).trans (k1 hbS)⟩
  · have : b ≠ e := fun q => by rw [q, h1] at hb'; cases hb'; exact hnf vs h3
    obtain ⟨sl, e1, _⟩ := keep b o' this ((other b (noRec b o' hb' hnf)).trans hb')
    exact ⟨_, e1, rfl⟩
end

section
variable {K : Cx} {lv : Bool} {n : Nat} {sc : Scope} {X : Addr → Prop} {g : Addr → Option Obj} {sh ow : List (Str × D)} {A : Around} {env : Env} {h h' : Heap} {fp : Str → List Addr} {Q : Out → Prop}

theorem Ns.slots {m : Str → Option Value} {L : Addr} {S : List Addr} (hn : h.Ns L m) (k : Kept S h h') : h'.Ns L m := by
  obtain ⟨o, es, ep, ho, hd, r⟩ := hn
  obtain ⟨sl, e, _⟩ := k L o ho
  exact ⟨_, es, ep, e, hd, r⟩

theorem St.kept (S : St K lv n sc X g sh ow A env h) (k : Kept [env.locals] h h') : St K lv n sc X g sh ow A env h' := by
  obtain ⟨fp, O⟩ := S.vars
  have eff : Eff (· = env.locals) h h' := fun b o hb ho => k.get (by simpa using hb) ho
  have hg : g env.locals = none := S.new _ (.inl rfl)
  have hK : K.h₀.get? env.locals = none := by
    cases q : K.h₀.get? env.locals with
    | none => rfl
    | some o => rw [S.bK _ o q] at hg; cases hg
  have nt : ∀ b, b = env.locals → NoTup h b := fun b q => q ▸ (S.frame.noSeq (.inl rfl)).noTup
  have va : ∀ {y u}, VarAt h env y u → VarAt h' env y u := fun {y u} r => by
    rcases r with ⟨hl, m, hn, hm⟩ | ⟨hl, c', hc', hv⟩
    · exact .inl ⟨hl, m, Ns.slots hn k, hm⟩
    · obtain ⟨o, ho, hd⟩ := hv
      obtain ⟨sl, e, _⟩ := k c' o ho
      exact .inr ⟨hl, c', hc', _, e, hd⟩
  refine ⟨S.room, ⟨S.ok.g, S.ok.b, S.ok.lim, eff.ext S.ok.ext fun b q => q ▸ hK⟩, S.hsc, S.henv, ⟨let ⟨m, hn⟩ := S.frame.ns; ⟨m, Ns.slots hn k⟩, fun x c hc => ?_⟩, fun b o hb => eff b o (fun q => by rw [q, hg] at hb; cases hb) (S.base b o hb), S.bK, S.new, fun b hb => ?_, S.top, fp, ⟨fun x d hx => ?_, O.apart, fun x d hx => ?_⟩⟩
  · obtain ⟨v, o, ho, hd⟩ := S.frame.cells x c hc
    obtain ⟨sl, e, _⟩ := k c o ho
    exact ⟨v, _, e, hd⟩
  · obtain ⟨o, ho⟩ := S.dom b hb
    obtain ⟨sl, e, _⟩ := k b o ho
    exact ⟨_, e⟩
  · obtain ⟨v, h1, h2, h3, h4⟩ := O.own x d hx
    exact ⟨v, va h1, h2.off (eff.off (fun a ha q => (h4 a ha).2.1 (q ▸ .inl rfl)) nt), h3, h4⟩
  · obtain ⟨v, as, h1, h2, h3⟩ := O.shared x d hx
    exact ⟨v, as, va h1, h2.off (eff.off (fun a ha q => (h3 a ha).1 (q ▸ .inl rfl)) nt), h3⟩
end
end Mine

namespace Mine

/-- the refusal, by its words -/
def Exc (h : Heap) (e : Addr) : Prop := ∃ t u, h.ExcAt e "RuntimeError" (.ref t) ∧ h.TupAt t [.str words u]
theorem Fly.exc {hb h : Heap} {e : Addr} {st} (F : Fly hb h e st) : Exc h e := by
  obtain ⟨o, vs, t, ot, u, kk, h1, h2, h3, h4, h5, h6, h7, h8, h9⟩ := F.there
  exact ⟨t, u, ⟨o, vs, h1, h2, h3, h5⟩, ⟨ot, kk, h6, h7, h8⟩⟩

section
variable {K : Cx} {lv : Bool} {n : Nat} {sc : Scope} {X : Addr → Prop} {g : Addr → Option Obj} {sh ow ρ : List (Str × D)} {A A' : Around} {env : Env} {s : Shared} {Q : Value → Shared → Prop} {E : Value → Shared → Prop}
variable {a : Expr} {p pos : Pos} {fa : Addr} {o : Obj} {pm cd doc : Value} {rows : List (List PyData)}

theorem nameG (S : St K lv n sc X g sh ow A env s.heap) {x : Str} {v : Value} (g' : GV K x v) (hx : sc.names.lookup x = some .globalImplicit) (h : Q v s) (hd : (x == ("__debug__" : Str)) = false := by decide) :
    wpAny (model K.prog K.w) A' (eval (.Name x pos) env) Q E s := by
  refine Calls.Name_function_global S.henv.kind (by show env.scope.names.lookup x = _; rw [S.hsc]; exact hx) ?_ hd
  have hg : s.heap.Ns env.globals K.mg := by rw [S.henv.globals]; exact S.ok.g.keeps S.ok.ext
  have hb : s.heap.Ns env.builtins K.mb := by rw [S.henv.builtins]; exact S.ok.b.keeps S.ok.ext
  rcases g' with g | ⟨g1, g2⟩
  · exact Calls.loadGlobal_global hg g h
  · exact Calls.loadGlobal_builtin hg g1 hb g2 h

theorem c3_top (Fc : Fn K c3Rec fa o pm cd doc) (hg : GV K "RuntimeError" (.type "RuntimeError")) (S : St K true (n + 1) sc X g sh ow A env s.heap) (ha : Ev K (n + 1) sc (ow ++ sh) a (.py (.list (rows.map .list))) true)
    (hat : ∀ r ∈ rows, ∀ d ∈ r, Atom d) (hsz : rows.length ≤ sizeLine) (htot : tot rows ≤ sizeLine)
    (k1 : ∀ out rest, mg3 PyData.eqv rows = (out, rest, true) → ∀ v h' tk as, Got K s.heap (fun a => X a ∨ FrameAddr env a) (.py (.list out)) true v h' as → Q v { s with heap := h', toks := tk })
    (k2 : (mg3 PyData.eqv rows).2.2 = false → ∀ h' e tk, Fly s.heap h' e (some none) → Kept [env.locals] s.heap h' → h'.FunFrames K.h₀ [env] → E (.ref e) { s with heap := h', toks := tk })
    (hx : sc.names.lookup c3N = some .globalImplicit := by rfl) (he : ∀ env, starEach [a] env = [(false, eval a env)] := by intro _; rfl)
    (hc : ∀ env, eval (.Call (.Name c3N p) [a] [] pos) env = (do callWith pos (← eval (.Name c3N p) env) [] (backTo pos (starEach [a] env)) (backToKw pos (keywordEach [] env))) := by intro _; rfl) :
    wpAny (model K.prog K.w) A (eval (.Call (.Name c3N p) [a] [] pos) env) Q E s := by
  have I := S.inAll
  refine Call_ (name_global I (.inl Fc.name) hx ?_ (by rfl)) (hc env)
  refine callWith_def Fc.data (args_cons (wpAny_mono (ha.run I) (fun v s₁ q => ?_) fun _ _ x => x) (he env)) (he env)
  obtain ⟨h₁, tk, as, rfl, g₁⟩ := q
  refine args_nil ⟨(I.ok.mono g₁.ext).ext _ _ Fc.get, ?_⟩
  have g' : Rd h₁ v (.list (rows.map .list)) as := g₁.rd
  obtain ⟨nd, new⟩ := g₁.new rfl
  cases g' with
  | @list l vs c _ As hl rs =>
    have ndA : As.Nodup := (List.nodup_cons.mp nd).2
    obtain ⟨f, h1, h2, h3⟩ := rs.rowsFn ndA hat
    subst h1
    have hK : ∀ b, s.heap.get? b = none → K.h₀.get? b = none := fun b hb => I.ok.ext.none hb
    have nA : ∀ b o, s.heap.get? b = some o → b ∉ As := fun b o hb q => by rw [new b (.tail _ q)] at hb; cases hb
    obtain ⟨t1, t2⟩ := S.top rfl
    have hk : env.scope.kind ≠ .module := by rw [S.henv.kind]; decide
    have hLK : K.h₀.get? env.locals = none := by
      cases q : K.h₀.get? env.locals with
      | none => rfl
      | some o => have := S.new _ (.inl rfl); rw [S.bK _ o q] at this; cases this
    obtain ⟨m, hn⟩ := S.frame.ns
    have hfr : ([env].filterMap (·.frame)) = [env.locals] := by simp [t2]
    refine c3_call (s := { s with heap := h₁, toks := tk }) (n := n) (outer := [env]) Fc hg I.room (I.ok.mono g₁.ext) (.inr ⟨t1, fun h ef => ?_, fun b hb => ?_⟩) ⟨_, hl, rfl, _, by rw [h2]⟩ h3 ndA (List.nodup_cons.mp nd).1 (fun a ha => hK a (new a (.tail _ ha)))
      (fun a ha => hat _ (List.mem_map.mpr ⟨a, ha, rfl⟩)) (fun a ha => Nat.le_trans (length_le_tot (List.mem_map.mpr ⟨a, ha, rfl⟩)) htot) htot (by simpa using hsz) (fun out' f' run' h₂ tk₂ r ws e₂ rw₂ hr hrl rd ok₂ => ?_) (fun out' f' run' hb h₂ e tk₂ e₂ rw₂ fl _ kb rw₂' fm ok₂ => ?_)
    · refine Heap.FunFrames.cons (m := m) hk t2 ?_ hLK trivial
      obtain ⟨o', es, ep, ho', r'⟩ := hn
      exact ⟨o', es, ep, ef _ _ (nA _ _ ho') (g₁.ext _ _ ho'), r'⟩
    · rw [hfr] at hb
      rw [List.mem_singleton.mp hb]
      obtain ⟨o', ho', hd'⟩ := S.frame.noSeq (.inl rfl)
      exact ⟨o', g₁.ext _ _ ho', hd'⟩
    · obtain ⟨c', hrl⟩ := hrl
      have hr0 : s.heap.get? r = none := g₁.ext.none hr
      refine k1 out' _ run' _ h₂ tk₂ [r] ⟨fun b o hb => e₂ b o (nA b o hb) (g₁.ext b o hb), Rd.list hrl rd, fun b hb q => ?_, fun _ => ⟨by simp, fun b hb => by rw [List.mem_singleton.mp hb]; exact hr0⟩⟩
      rw [List.mem_singleton.mp hb] at q
      obtain ⟨o, ho⟩ := I.dom r q; rw [hr0] at ho; cases ho
    · refine k2 (by rw [run']) h₂ e tk₂ (fl.rebase fun b o hb' => ⟨o, e₂ b o (nA b o hb') (g₁.ext b o hb')⟩) (fun b o hb' => ?_) fm
      obtain ⟨sl, e1, e2⟩ := kb b o (g₁.ext b o hb') (nA b o hb')
      exact ⟨sl, e1, fun hb'' => e2 (by rw [hfr]; exact hb'')⟩
end

section
variable {K : Cx} {n : Nat} {sc : Scope} {sh ow : List (Str × D)} {Q : Out → Prop}
variable {a : Expr} {x : Str} {p p1 cp ap hp hpos pos : Pos} {fa : Addr} {o : Obj} {pm cd doc : Value} {rows : List (List PyData)} {b₀ : Stmt} {suite : List Stmt}

theorem Ex1.tryC3 (Fc : Fn K c3Rec fa o pm cd doc) (hg : GV K "RuntimeError" (.type "RuntimeError")) (ha : Ev K (n + 1) sc (ow ++ sh) a (.py (.list (rows.map .list))) true)
    (hat : ∀ r ∈ rows, ∀ d ∈ r, Atom d) (hsz : rows.length ≤ sizeLine) (htot : tot rows ≤ sizeLine)
    (ok : ∀ out rest, mg3 PyData.eqv rows = (out, rest, true) → Q (.next (del x sh) ((x, .py (.list out)) :: del x ow)))
    (bad : (mg3 PyData.eqv rows).2.2 = false → ∀ {A : Around} {env : Env} {s : Shared} {X : Addr → Prop} {g : Addr → Option Obj} {e : Addr}, St K true (n + 1) sc X g sh ow A env s.heap → Exc s.heap e →
      wpAny (model K.prog K.w) (A.mark (some (.ref e))) (execs (b₀ :: suite) env) (fun f s' => ∃ o, Q o ∧ OutOk K true (n + 1) sc X g A env s o f s') (fun _ _ => False) s)
    (hxl : sc.names.lookup x = some .local ∨ sc.names.lookup x = some .cell := by first | exact Or.inl rfl | exact Or.inr rfl)
    (hx : sc.names.lookup c3N = some .globalImplicit := by rfl) (hr : sc.names.lookup ("RuntimeError" : Str) = some .globalImplicit := by rfl) (he : ∀ env, starEach [a] env = [(false, eval a env)] := by intro _; rfl)
    (hc : ∀ env, eval (.Call (.Name c3N p) [a] [] cp) env = (do callWith cp (← eval (.Name c3N p) env) [] (backTo cp (starEach [a] env)) (backToKw cp (keywordEach [] env))) := by intro _; rfl)
    (hsw : ∀ env, env.scope = sc → swapsWith (.Call (.Name c3N p) [a] [] cp) (some (.Name x p1)) ap.line env = pure false := by intro _ _; rfl) :
    Ex1 K true (n + 1) sc sh ow (.Try [.Assign [.Name x p1] (.Call (.Name c3N p) [a] [] cp) ap] [.ExceptHandler (some (.Name "RuntimeError" hp)) none (b₀ :: suite) hpos] [] [] pos) Q := Hide.mk fun {A env s X g E} S => by
  obtain ⟨fp, O⟩ := S.vars
  obtain ⟨t1, t2⟩ := S.top rfl
  have hfr : ([env].filterMap (·.frame)) = [env.locals] := by simp [t2]
  refine wpAny_Try_except (wpAny_execs_cons (wpAny_Assign_Name (c3_top Fc hg S ha hat hsz htot (fun out rest run v h₁ tk as gt => ?_) (fun run h₁ e tk fl kb fm => ?_) hx he hc) (hsw env S.hsc)))
  · obtain ⟨nd, new⟩ := gt.new rfl
    refine store_ow (s := { s with heap := h₁, toks := tk }) S O gt.ext hxl gt.rd nd new fun h' tk' _ _ _ S' => wpAny_execs_nil (wpAny_execs_nil ⟨_, ok out rest run, h', tk', rfl, S'⟩)
  · rw [← hfr] at kb
    refine note_left (s := { s with heap := h₁, toks := tk }) t1 fm t2 fl kb fun h₂ fl₂ kb₂ fm₂ => ?_
    refine flight_set (s := { s with heap := h₂, toks := tk }) (f' := none) fl₂ kb₂ fm₂ fun h₃ fl₃ kb₃ fm₃ => ?_
    have S₃ : St K true (n + 1) sc X g sh ow A env h₃ := S.kept (by rw [← hfr]; exact kb₃)
    refine wpAny_handleBy_builtin (X := "RuntimeError") (T := "RuntimeError") (b := true) PySem.F.isExc_RuntimeError (by rw [isSubtype_type]; kernel_rfl) PySem.F.self_RuntimeError (nameG (s := { s with heap := h₃, toks := tk }) S₃ hg hr ⟨rfl, ?_, ?_⟩)
    · obtain ⟨t, u, xa, _⟩ := fl₃.exc; exact xa.typeIs
    · rw [if_pos rfl]
      refine flight_set (s := { s with heap := h₃, toks := tk }) (f' := none) fl₃ kb₃ fm₃ fun h₄ fl₄ kb₄ fm₄ => ?_
      refine wpAny_mono (bad run (s := { s with heap := h₄, toks := tk }) (S.kept (by rw [← hfr]; exact kb₄)) fl₄.exc) (fun f s' q => ?_) fun _ _ q => q.elim
      exact q
end
end Mine

namespace Mine

section
variable {K : Cx} {lv : Bool} {n : Nat} {sc : Scope} {sh ow : List (Str × D)} {Q : Out → Prop} {x : Str} {p pos : Pos} {e : Expr} {d : D} {fr : Bool}
variable {A : Around} {env : Env} {s : Shared} {X : Addr → Prop} {g : Addr → Option Obj} {fp : Str → List Addr} {v : Value} {as : List Addr} {E : Value → Shared → Prop} {R : Unit → Shared → Prop}

end

section
variable {K : Cx} {lv : Bool} {n : Nat} {sc : Scope} {sh ow : List (Str × D)} {Q : Out → Prop} {pos : Pos} {e : Expr} {fr : Bool} {ds : List PyData}

end

section
variable {K : Cx} {n : Nat} {sc : Scope} {ρ : List (Str × D)} {a b : Expr} {pos p : Pos} {fa fb : Bool} {xs : List Int} {i : Int} {j : Nat}

theorem Ev.index (ha : Ev K n sc ρ a (.py (iL xs)) fa) (hb : Ev K n sc ρ b (.py (.int i)) fb) (hj : j < xs.length) (hi : xs[j] = i) (hno : ∀ m (hm : m < xs.length), m < j → xs[m] ≠ i) (hsz : xs.length ≤ sizeLine)
    (hbase : ∀ env, attributeBase a "index" env (eval a env) = eval a env := by intro _; rfl) (hline : (p.endLine == pos.line) = true := by rfl)
    (ht : ∀ env, backTo pos (starEach [b] env) = [(false, eval b env)] := by intro _; rfl) :
    Ev K n sc ρ (.Call (.Attribute a "index" p) [b] [] pos) (.py (.int j)) true := Hide.mk fun {A env s X E} I => by
  refine wpAny_Call_method1_late (hbase env) hline (ht env) (wpAny_mono (ha.run I) (fun va s₁ t => ?_) fun _ _ x => x)
  obtain ⟨h₁, tk, as, rfl, ga⟩ := t
  have ra : Rd h₁ va (.list (xs.map .int)) as := ga.rd
  cases ra with
  | @list l vs c _ as hl rs =>
    have hlen : vs.length = xs.length := by rw [rs.length]; simp
    refine ⟨"list", "list.index", F.plainAttrs_list, F.slot_list_index, F.type_list_index, ⟨_, hl, rfl⟩, fun a ha => by cases ha; exact ⟨_, hl, rfl⟩, PySem.P.index_list (wpAny_mono (hb.run (s := { s with heap := h₁, toks := tk }) (I.ext ga.ext)) (fun vb s₂ t => ?_) fun _ _ x => x)⟩
    obtain ⟨h₂, tk₂, bs, rfl, gb⟩ := t
    have rb : Rd h₂ vb (.int i) bs := gb.rd
    cases rb with
    | int _ u =>
    have at' : ∀ m (hm : m < xs.length), ∃ t, vs[m]'(by omega) = .int xs[m] t := fun m hm => by
      obtain ⟨d, bs', h1, r, _⟩ := rs.get (i := m) (v := vs[m]'(by omega)) (List.getElem?_eq_getElem _)
      obtain rfl : d = .int xs[m] := by simpa [hm] using h1.symm
      generalize vs[m]'(by omega) = w at r
      cases r with
      | int _ t => exact ⟨t, rfl⟩
    refine ⟨vs.toArray, c, fun y => match y with | .int z _ => z == i | _ => false, j, by simpa [hlen] using hj, gb.ext _ _ hl, fun y hy => ?_, ?_, ?_, fun m hm hmj => ?_, ?_⟩
    · obtain ⟨m, hm, e⟩ := List.getElem_of_mem (by simpa using hy : y ∈ vs)
      obtain ⟨t, ht⟩ := at' m (by omega)
      rw [← e, ht]; exact PySem.MeetsSeq.EqGives.int _ _ _ _
    · rw [sizeLine_eq] at hsz; omega
    · obtain ⟨t, ht⟩ := at' j hj
      simp only [List.getElem_toArray, ht, hi, beq_self_eq_true]
    · have hm' : m < xs.length := by simpa [hlen] using hm
      obtain ⟨t, ht⟩ := at' m hm'
      simp only [List.getElem_toArray, ht]
      simpa using hno m hm' hmj
    · exact Post.flat (ga.ext.trans gb.ext) (.int ..)
end
end Mine

namespace Mine

theorem bindL_other {kindOf : Str → Option NameKind} : ∀ {binds : List (Str × Value)} {m : Str → Option Value} {x : Str}, x ∉ binds.map (·.1) → bindL kindOf binds m x = m x
  | [], _, _, _ => rfl
  | (k, w) :: r, m, x, h => by
    simp only [List.map_cons, List.mem_cons, not_or] at h
    rw [bindL, bindL_other h.2]
    split
    · simp [h.1]
    · rfl
theorem bindL_get {kindOf : Str → Option NameKind} : ∀ {binds : List (Str × Value)} {m : Str → Option Value} {x : Str} {v : Value}, (binds.map (·.1)).Nodup → (x, v) ∈ binds → kindOf x = some .local → bindL kindOf binds m x = some v
  | (k, w) :: r, m, x, v, nd, h, hk => by
    simp only [List.map_cons, List.nodup_cons] at nd
    rw [bindL]
    rcases List.mem_cons.mp h with e | h
    · cases e
      rw [bindL_other nd.1, if_pos hk]; simp
    · exact bindL_get nd.2 h hk
theorem bindC_other {kindOf : Str → Option NameKind} : ∀ {binds : List (Str × Value)} {m : Str → Option Value} {x : Str}, x ∉ binds.map (·.1) → bindC kindOf binds m x = m x
  | [], _, _, _ => rfl
  | (k, w) :: r, m, x, h => by
    simp only [List.map_cons, List.mem_cons, not_or] at h
    rw [bindC, bindC_other h.2]
    split
    · rfl
    · simp [h.1]
theorem bindC_get {kindOf : Str → Option NameKind} : ∀ {binds : List (Str × Value)} {m : Str → Option Value} {x : Str} {v : Value}, (binds.map (·.1)).Nodup → (x, v) ∈ binds → kindOf x = some .cell → bindC kindOf binds m x = some v
  | (k, w) :: r, m, x, v, nd, h, hk => by
    simp only [List.map_cons, List.nodup_cons] at nd
    rw [bindC]
    rcases List.mem_cons.mp h with e | h
    · cases e
      rw [bindC_other nd.1, if_neg (by rw [hk]; decide)]; simp
    · exact bindC_get nd.2 h hk

theorem RdDs.lookup {K : Cx} {h : Heap} : ∀ {names : List Str} {vs ds as}, RdDs K h vs ds as → ∀ {x d}, (names.zip ds).lookup x = some d → ∃ v bs, (x, v) ∈ names.zip vs ∧ RdD K h v d bs ∧ ∀ b ∈ bs, b ∈ as
  | [], _, _, _, _, x, d, h => by simp at h
  | k :: names, _, _, _, .nil, x, d, h => by simp at h
  | k :: names, _, _, _, .cons r rs, x, d, h => by
    rw [List.zip_cons_cons, List.lookup_cons] at h
    by_cases q : x = k
    · subst q; simp at h; subst h
      exact ⟨_, _, .head _, r, fun b hb => List.mem_append_left _ hb⟩
    · have hb : (x == k) = false := by simpa using q
      simp only [hb] at h
      obtain ⟨v, bs, h1, h2, h3⟩ := rs.lookup h
      exact ⟨v, bs, .tail _ h1, h2, fun b hb => List.mem_append_right _ (h3 b hb)⟩
theorem RdDs.length {K : Cx} {h : Heap} : ∀ {vs ds as}, RdDs K h vs ds as → vs.length = ds.length
  | _, _, _, .nil => rfl
  | _, _, _, .cons _ b => by simp [b.length]

/-- what a function's table of names must be like -/
def topOk (scope : Scope) (names : List Str) : Bool :=
  decide (scope.kind = .function) && decide ((scope.names.map (·.1)).Nodup) && (scope.names.all fun p => p.2 != .free) && decide names.Nodup &&
    (names.all fun x => scope.names.lookup x == some .local || scope.names.lookup x == some .cell) && !scope.isGenerator && !scope.isCoroutine
structure TopOk (scope : Scope) (names : List Str) : Prop where
  kind : scope.kind = .function
  nodup : (scope.names.map (·.1)).Nodup
  free : ∀ x, scope.names.lookup x ≠ some .free
  ndup : names.Nodup
  binds : ∀ x ∈ names, scope.names.lookup x = some .local ∨ scope.names.lookup x = some .cell
  gen : scope.isGenerator = false
  co : scope.isCoroutine = false
theorem TopOk.of {scope : Scope} {names : List Str} (h : topOk scope names = true) : TopOk scope names := by
  simp only [topOk, Bool.and_eq_true, decide_eq_true_eq, List.all_eq_true, Bool.or_eq_true, beq_iff_eq, bne_iff_ne, ne_eq, Bool.not_eq_true'] at h
  obtain ⟨⟨⟨⟨⟨⟨h1, h2⟩, h3⟩, h4⟩, h5⟩, h6⟩, h7⟩ := h
  exact ⟨h1, h2, fun x hx => h3 _ (mem_of_lookup hx) rfl, h4, h5, h6, h7⟩

section
variable {K : Cx} {lv : Bool} {n : Nat} {scope : Scope} {A : Around} {h h₁ : Heap} {L fa : Addr} {name : Str} {cd : Value} {names : List Str} {vs : List Value} {ds : List D} {as : List Addr} {X : Addr → Prop}

theorem St.enter (To : TopOk scope names) (ro : Room A n) (ok : K.Ok h) (hL : h.objs.size = L) (F : Fr h L h₁ (bindL (envOfC name scope L fa cd).kindOf (names.zip vs) fun _ => none))
    (C : Cl L (cellsFrom (L + 1) scope.names []) h₁ (bindC (envOfC name scope L fa cd).kindOf (names.zip vs) fun _ => none)) (rd : RdDs K h vs ds as) (hl : names.length = ds.length)
    (hX : ∀ a, X a → ∃ o, h.get? a = some o) (off : ∀ a ∈ as, ¬ X a) (top : lv = true → A.frames = some [envOfC name scope L fa cd]) :
    St K lv n scope X (fun a => h.get? a) (names.zip ds) [] A (envOfC name scope L fa cd) h₁ := by
  have hLn : h.get? L = none := hL ▸ push_new _
  have hcell : ∀ x, scope.names.lookup x = some .cell → ∃ c, (cellsFrom (L + 1) scope.names []).lookup x = some c := fun x hx => by
    obtain ⟨c, hc⟩ := cellsFrom_has scope.names (L + 1) (mem_of_lookup hx)
    exact lookup_isSome_of_mem hc
  have fnew : ∀ a, FrameAddr (envOfC name scope L fa cd) a → h.get? a = none := fun a ha => by
    rcases ha with rfl | ⟨x, hx⟩
    · exact hLn
    · refine Heap.get?_none_of_le ?_
      rw [hL]; exact Nat.le_of_lt (C.above x a (mem_of_lookup hx))
  have hz : (names.zip vs).map (·.1) = names := by
    rw [List.map_fst_zip]; have := rd.length; omega
  refine ⟨ro, ok.mono F.keep, rfl, ⟨To.kind, rfl, rfl, C.apart, fun x hx => ?_⟩, ⟨⟨_, F.ns⟩, fun x c hc => ⟨_, C.cell x c hc⟩⟩, F.keep, fun a o ha => ok.ext a o ha, fnew, fun a ha => let ⟨o, ho⟩ := hX a ha; ⟨o, F.keep a o ho⟩, fun q => ⟨top q, rfl⟩, fun _ => [], ⟨nofun, nofun, fun x d hx => ?_⟩⟩
  · rcases hx with hx | hx
    · exact hcell x hx
    · exact absurd hx (To.free x)
  · obtain ⟨v, bs, h1, h2, h3⟩ := rd.lookup hx
    have hxn : x ∈ names := by rw [← hz]; exact List.mem_map.mpr ⟨_, h1, rfl⟩
    refine ⟨v, bs, ?_, h2.ext F.keep, fun a ha => ⟨fun q => ?_, off a (h3 a ha), fun y hy => by simp at hy⟩⟩
    · rcases To.binds x hxn with q | q
      · exact .inl ⟨q, _, F.ns, bindL_get (by rw [hz]; exact To.ndup) h1 q⟩
      · obtain ⟨c, hc⟩ := hcell x q
        refine .inr ⟨.inl q, c, hc, ?_⟩
        have := C.cell x c hc
        rw [bindC_get (by rw [hz]; exact To.ndup) h1 q] at this
        exact this
    · obtain ⟨o, ho⟩ := h2.dom a ha; rw [fnew a q] at ho; cases ho

/-- a function of the text, by what its body does -/
theorem CallOk.def {d : DefRec} {o : Obj} {pm cd doc : Value} {r : D} {fr : Bool} {Q : Out → Prop} (Fd : Fn K d fa o pm cd doc) (To : TopOk d.scope names) (hl : names.length = ds.length)
    (hb : ∀ vs : List Value, vs.length = names.length → bindArgs (Calls.docDef d.name d.params d.body d.scope pm cd doc) ⟨vs, []⟩ = pure (names.zip vs))
    (body : Ex K false n d.scope (names.zip ds) [] d.body Q) (hq : ∀ o, Q o → o = .ret r fr) : CallOk K (n + 1) (.ref fa) ds r fr := Hide.mk fun {A s X E vs as} ro ok rd hX off => by
  refine wpAny_call ?_
  have hlv : vs.length = names.length := by rw [rd.length, hl]
  refine call_cells (binds := names.zip vs) (by have := ro.depth; omega) (ok.ext _ _ Fd.get) Fd.data (ok.lim.keeps ok.ext) (Fd.code.keeps ok.ext) (hb vs hlv) (fun x hx => ?_) (fun h₁ tk₁ F C => ?_) To.co To.gen To.kind
  · have : x.1 ∈ names := (List.of_mem_zip (show (x.1, x.2) ∈ names.zip vs from hx)).1
    rcases To.binds _ this with q | q
    · exact .inl q
    · obtain ⟨c, hc⟩ := cellsFrom_has d.scope.names (s.heap.objs.size + 1) (mem_of_lookup q)
      obtain ⟨c', hc'⟩ := lookup_isSome_of_mem hc
      exact .inr ⟨q, by rw [hc']; rfl⟩
  · have S : St K false n d.scope X (fun a => s.heap.get? a) (names.zip ds) [] (A.deeper (envOfC d.name d.scope s.heap.objs.size fa cd)) (envOfC d.name d.scope s.heap.objs.size fa cd) h₁ :=
      St.enter To ro.deeper ok rfl F C rd hl hX off nofun
    refine wpAny_mono (body.run (s := { s with heap := h₁, toks := tk₁ }) (E := fun _ _ => False) S) (fun f s' p => ?_) fun _ _ q => q.elim
    obtain ⟨o', ho', h', tk', rfl, ok'⟩ := p
    obtain rfl := hq o' ho'
    cases f with
    | ret v =>
      obtain ⟨bs, b1, b2, b3, b4⟩ := ok'
      exact ⟨h', tk', bs, rfl, ⟨b1, b2, b3, b4⟩⟩
    | next => exact ok'.elim
    | brk => exact ok'.elim
    | cont => exact ok'.elim
end

section
variable {K : Cx} {n : Nat} {sc : Scope} {ρ : List (Str × D)} {pos p : Pos} {fr : Bool}
/-- a call of a function of the text -/
theorem Ev.callF {d : DefRec} {fa : Addr} {o : Obj} {pm cd doc : Value} {e : Expr} {es : List Expr} {ds : List D} {r : D} (Fd : Fn K d fa o pm cd doc) (args : EvArgs K n sc ρ (e :: es) ds) (h : CallOk K n (.ref fa) ds r fr)
    (hx : sc.names.lookup d.name = some .globalImplicit := by rfl) (hd : (d.name == ("__debug__" : Str)) = false := by rfl)
    (he : ∀ env, starEach (e :: es) env = (false, eval e env) :: starEach es env := by intro _; rfl)
    (hc : ∀ env, eval (.Call (.Name d.name p) (e :: es) [] pos) env = (do callWith pos (← eval (.Name d.name p) env) [] (backTo pos (starEach (e :: es) env)) (backToKw pos (keywordEach [] env))) := by intro _; rfl) :
    Ev K n sc ρ (.Call (.Name d.name p) (e :: es) [] pos) r fr := Hide.mk fun {A env s X E} I => by
  refine Call_ (name_global I (.inl Fd.name) hx ?_ hd) (hc env)
  refine callWith_def Fd.data (args.run I fun vs h' tk as x rd off => ⟨(I.ok.mono x).ext _ _ Fd.get, ?_⟩) (he env)
  exact wpAny_mono (h.run (s := { s with heap := h', toks := tk }) (X := X) I.room (I.ok.mono x) rd (fun a ha => let ⟨o, ho⟩ := I.dom a ha; ⟨o, x a o ho⟩) off) (fun v s' p => Post.after x p) fun _ _ x => x
end
end Mine

namespace Mine

def mask (scope : Scope) (ρ : List (Str × D)) : List (Str × D) := ρ.filter fun p => scope.names.lookup p.1 == some .free
theorem mask_lookup {scope : Scope} : ∀ {ρ : List (Str × D)} {y : Str} {d : D}, (mask scope ρ).lookup y = some d → scope.names.lookup y = some .free ∧ ρ.lookup y = some d
  | [], _, _, h => by cases h
  | (k, v) :: r, y, d, h => by
    unfold mask at h
    rw [List.filter_cons] at h
    split at h
    · rename_i hk
      rw [List.lookup_cons] at h ⊢
      by_cases q : y = k
      · subst q; simp at h hk; subst h; simp [hk]
      · have hb : (y == k) = false := by simpa using q
        simp only [hb] at h ⊢
        exact mask_lookup h
    · rename_i hk
      obtain ⟨h1, h2⟩ := mask_lookup (ρ := r) h
      refine ⟨h1, ?_⟩
      rw [List.lookup_cons]
      have hb : (y == k) = false := by
        cases q : y == k with
        | false => rfl
        | true => rw [beq_iff_eq] at q; subst q; simp [h1] at hk
      simp only [hb]; exact h2

/-- a comprehension, by its turns -/
def Cm (K : Cx) (n : Nat) (sc : Scope) (ρ : List (Str × D)) (elt : Expr) (gens : List Comprehension) (scope : Scope) (cpos : Pos) (out : List PyData) (fr : Bool) : Prop :=
  ∃ tgt iter ifs rest own ρ', ∃ F : List (PyData × List PyData), gens = ⟨tgt, iter, ifs, 0⟩ :: rest ∧ GensOk gens ∧ ScopeOk scope sc own ∧ (∀ x d, ρ'.lookup x = some d → scope.names.lookup x = some .free ∧ ρ.lookup x = some d) ∧
    EvIt K n sc ρ iter (F.map (·.1)) ∧ (∀ p ∈ F, TurnOk K n (relabelS scope sc) own elt gens scope cpos 0 tgt ifs ρ' p.1 p.2 fr) ∧ F.flatMap (·.2) = out ∧ out.length ≤ sizeLine

section
variable {K : Cx} {lv : Bool} {n : Nat} {sc scope : Scope} {ρ sh ow : List (Str × D)} {elt iter iter2 : Expr} {gens : List Comprehension} {cpos p px py pos : Pos} {out : List PyData} {fr : Bool} {x y : Str} {ifs ifs2 : List Expr} {Q : Out → Prop}

theorem Ev.ofCm (h : Cm K n sc ρ elt gens scope cpos out fr) : Ev K n sc ρ (.ListComp elt gens scope cpos) (.py (.list out)) fr := by
  obtain ⟨tgt, iter, ifs, rest, own, ρ', F, h1, h2, h3, h4, h5, h6, rfl, h8⟩ := h
  exact Ev.comp h1 h2 h3 h4 h5 h6 h8
theorem Ex1.assignCm (h : Cm K n sc sh elt gens scope cpos out fr) (hq : Q (.next ((x, .py (.list out)) :: del x sh) (del x ow))) (hx : sc.names.lookup x = some .local := by rfl)
    (hsw : ∀ env, env.scope = sc → swapsWith (.ListComp elt gens scope cpos) (some (.Name x p)) pos.line env = pure true) : Ex1 K lv n sc sh ow (.Assign [.Name x p] (.ListComp elt gens scope cpos) pos) Q := by
  obtain ⟨tgt, iter, ifs, rest, own, ρ', F, h1, h2, h3, h4, h5, h6, rfl, h8⟩ := h
  exact Ex1.assignComp h1 h2 h3 h4 h5 h6 h8 hq hx hsw

theorem swap_true {l : Nat} (hk : sc.kind = .function) (ht : sc.names.lookup x = some .local) (hl : (p.line == cpos.line) = true) (hno : (scope.names.any fun (n, k) => n == x && (k == .local || k == .cell)) = false) :
    ∀ env : Env, env.scope = sc → swapsWith (.ListComp elt gens scope cpos) (some (.Name x p)) l env = pure true := fun env he => by
  show pure (env.blockKind == .function && env.kindOf x == some .local && p.line == cpos.line && !(scope.names.any fun (n, k) => n == x && (k == .local || k == .cell))) = pure true
  have h1 : env.blockKind = .function := by unfold Env.blockKind; rw [he, hk]; rfl
  have h2 : env.kindOf x = some .local := by show env.scope.names.lookup x = _; rw [he]; exact ht
  rw [h1, h2, hl, hno]; rfl
theorem own_none {own : List Str} (So : ScopeOk scope sc own) {x : Str} (hx : x ∈ own) : (mask scope ρ).lookup x = none := by
  cases q : (mask scope ρ).lookup x with
  | none => rfl
  | some d =>
    have := (mask_lookup q).1
    rcases So.own x hx with h | h <;> (rw [h] at this; cases this)
theorem cons_keep {x : Str} {d : D} {ρ : List (Str × D)} (h : ρ.lookup x = none) : ∀ y e, ρ.lookup y = some e → ((x, d) :: ρ).lookup y = some e := fun y e hy => by
  rw [List.lookup_cons]
  have hb : (y == x) = false := by
    cases q : y == x with
    | false => rfl
    | true => rw [beq_iff_eq] at q; subst q; rw [h] at hy; cases hy
  simp only [hb]; exact hy

/-- `[d for x in iter if pz]` -/
theorem Cm.one {α : Type} (l : List α) (c : α → PyData) (pz : α → Bool) (d : α → PyData) (hit : EvIt K n sc ρ iter (l.map c))
    (test : ∀ a ∈ l, TrAll K n (relabelS scope sc) ((x, .py (c a)) :: mask scope ρ) ifs (pz a)) (el : ∀ a ∈ l, pz a = true → Ev K n (relabelS scope sc) ((x, .py (c a)) :: mask scope ρ) elt (.py (d a)) fr) (hsz : l.length ≤ sizeLine)
    (So : scopeOk scope sc [x] = true := by decide) (hG : ∀ env v, foldedSetIterable iter env v = pure v := by intro _ _; rfl) :
    Cm K n sc ρ elt [⟨.Name x px, iter, ifs, 0⟩] scope cpos ((l.filter pz).map d) fr := by
  have So' := ScopeOk.of So
  refine ⟨_, _, _, _, [x], mask scope ρ, l.map fun a => (c a, if pz a then [d a] else []), rfl, fun g hg => ?_, So', fun y e hy => mask_lookup hy, ?_, fun q hq => ?_, ?_, ?_⟩
  · obtain rfl := List.mem_singleton.mp hg; exact ⟨rfl, hG⟩
  · rw [List.map_map]; exact hit
  · obtain ⟨a, ha, rfl⟩ := List.mem_map.mp hq
    refine ⟨_, pz a, Asg.name (.head _), cons_keep (own_none So' (.head _)), test a ha, fun hp => ?_, fun hp => by simp [hp]⟩
    rw [hp, if_pos rfl]
    exact BodyOk.elt rfl (el a ha hp)
  · clear hit test el hsz
    induction l with
    | nil => rfl
    | cons a l ih => cases h : pz a <;> simp [h, ih]
  · exact Nat.le_trans (by rw [List.length_map]; exact List.length_filter_le ..) hsz

/-- `[d for x in iter for y in iter2 if pz]` -/
theorem Cm.two {α β : Type} (l : List α) (c : α → PyData) (l2 : α → List β) (c2 : β → PyData) (pz : α → β → Bool) (d : α → β → PyData) (p1 : α → Bool) (hit : EvIt K n sc ρ iter (l.map c))
    (test1 : ∀ a ∈ l, TrAll K n (relabelS scope sc) ((x, .py (c a)) :: mask scope ρ) ifs (p1 a))
    (hit2 : ∀ a ∈ l, p1 a = true → EvIt K n (relabelS scope sc) ((x, .py (c a)) :: mask scope ρ) iter2 ((l2 a).map c2))
    (test2 : ∀ a ∈ l, p1 a = true → ∀ b ∈ l2 a, TrAll K n (relabelS scope sc) ((y, .py (c2 b)) :: (x, .py (c a)) :: mask scope ρ) ifs2 (pz a b))
    (el : ∀ a ∈ l, p1 a = true → ∀ b ∈ l2 a, pz a b = true → Ev K n (relabelS scope sc) ((y, .py (c2 b)) :: (x, .py (c a)) :: mask scope ρ) elt (.py (d a b)) fr)
    (hsz : ((l.filter p1).flatMap fun a => ((l2 a).filter (pz a)).map (d a)).length ≤ sizeLine)
    (So : scopeOk scope sc [x, y] = true := by decide) (hxy : x ≠ y := by decide) (hG : ∀ env v, foldedSetIterable iter env v = pure v := by intro _ _; rfl) (hG2 : ∀ env v, foldedSetIterable iter2 env v = pure v := by intro _ _; rfl) :
    Cm K n sc ρ elt [⟨.Name x px, iter, ifs, 0⟩, ⟨.Name y py, iter2, ifs2, 0⟩] scope cpos ((l.filter p1).flatMap fun a => ((l2 a).filter (pz a)).map (d a)) fr := by
  have So' := ScopeOk.of So
  have hGs : GensOk [⟨.Name x px, iter, ifs, 0⟩, ⟨.Name y py, iter2, ifs2, 0⟩] := fun g hg => by
    rcases List.mem_cons.mp hg with rfl | hg
    · exact ⟨rfl, hG⟩
    · obtain rfl := List.mem_singleton.mp hg; exact ⟨rfl, hG2⟩
  have inner : ∀ a, ((l2 a).map fun b => ((c2 b, if pz a b then [d a b] else []) : PyData × List PyData)).flatMap (·.2) = ((l2 a).filter (pz a)).map (d a) := fun a => by
    generalize l2 a = m
    induction m with
    | nil => rfl
    | cons b m ih => cases h : pz a b <;> simp [h, ih]
  refine ⟨_, _, _, _, [x, y], mask scope ρ, l.map fun a => (c a, if p1 a then ((l2 a).map fun b => ((c2 b, if pz a b then [d a b] else []) : PyData × List PyData)).flatMap (·.2) else []), rfl, hGs, So', fun y e hy => mask_lookup hy, ?_, fun q hq => ?_, ?_, hsz⟩
  · rw [List.map_map]; exact hit
  · obtain ⟨a, ha, rfl⟩ := List.mem_map.mp hq
    refine ⟨_, p1 a, Asg.name (.head _), cons_keep (own_none So' (.head _)), test1 a ha, fun hp => ?_, fun hp => by simp [hp]⟩
    rw [hp, if_pos rfl]
    refine BodyOk.gen (F := (l2 a).map fun b => (c2 b, if pz a b then [d a b] else [])) rfl hGs (by rw [List.map_map]; exact hit2 a ha hp) fun q hq => ?_
    obtain ⟨b, hb, rfl⟩ := List.mem_map.mp hq
    have hyn : ((x, D.py (c a)) :: mask scope ρ).lookup y = none := by
      rw [List.lookup_cons]
      have hb : (y == x) = false := by simpa using Ne.symm hxy
      simp only [hb]; exact own_none So' (.tail _ (.head _))
    refine ⟨_, pz a b, Asg.name (.tail _ (.head _)), cons_keep hyn, test2 a ha hp b hb, fun hp2 => ?_, fun hp2 => by simp [hp2]⟩
    rw [hp2, if_pos rfl]
    exact BodyOk.elt rfl (el a ha hp b hb hp2)
  · clear hit hit2 test1 test2 el hsz
    induction l with
    | nil => rfl
    | cons a l ih =>
      rw [List.map_cons, List.flatMap_cons, ih, List.filter_cons]
      cases h : p1 a
      · rw [if_neg Bool.false_ne_true, if_neg Bool.false_ne_true]; rfl
      · rw [if_pos rfl, if_pos rfl, List.flatMap_cons, inner]
end
end Mine

namespace Mine

/-- the built-in names that the laws use -/
structure BG (K : Cx) : Prop where
  rt : GV K "RuntimeError" (.type "RuntimeError")
  len : GV K "len" (.builtin "len")
  set : GV K "set" (.type "set")
  list : GV K "list" (.type "list")
  divmod : GV K "divmod" (.builtin "divmod")
  range : GV K "range" (.type "range")
  sorted : GV K "sorted" (.builtin "sorted")
  sum : GV K "sum" (.builtin "sum")
  min : GV K "min" (.builtin "min")
  max : GV K "max" (.builtin "max")
  str : GV K "str" (.type "str")
  bool : GV K "bool" (.type "bool")
  isinstance : GV K "isinstance" (.builtin "isinstance")

def Sub (l sh : List (Str × D)) : Prop := ∀ x d, l.lookup x = some d → sh.lookup x = some d
theorem Sub.nil {sh : List (Str × D)} : Sub [] sh := fun x d h => by cases h
theorem Sub.refl {sh : List (Str × D)} : Sub sh sh := fun _ _ h => h
theorem Sub.cons {l sh : List (Str × D)} {x : Str} {d : D} (h : sh.lookup x = some d) (t : Sub l sh) : Sub ((x, d) :: l) sh := fun y e hy => by
  rw [List.lookup_cons] at hy
  by_cases q : y = x
  · subst q; simp at hy; subst hy; exact h
  · have hb : (y == x) = false := by simpa using q
    simp only [hb] at hy; exact t y e hy
theorem Sub.push {l sh : List (Str × D)} {y : Str} {e : D} (t : Sub l sh) (h : l.lookup y = none) : Sub l ((y, e) :: del y sh) := fun x d hx => by
  have q : x ≠ y := fun q => by rw [q, h] at hx; cases hx
  have hb : (x == y) = false := by simpa using q
  rw [List.lookup_cons]
  simp only [hb]
  rw [lookup_del, if_neg q]; exact t x d hx
theorem Sub.pushC {l sh : List (Str × D)} {y : Str} {e : D} (t : Sub l sh) (h : l.lookup y = none) : Sub ((y, e) :: l) ((y, e) :: del y sh) := Sub.cons (by simp) (t.push h)
theorem Cm.cast {K n sc ρ elt gens scope cpos out out' fr} (h : Cm K n sc ρ elt gens scope cpos out fr) (e : out = out') : Cm K n sc ρ elt gens scope cpos out' fr := e ▸ h

theorem eqvAll_ints : ∀ a b : List Int, PyData.eqvAll (a.map .int) (b.map .int) = (a == b)
  | [], [] => by simp [PyData.eqvAll]
  | [], _ :: _ => by simp [PyData.eqvAll]
  | _ :: _, [] => by simp [PyData.eqvAll]
  | x :: a, y :: b => by
    simp only [List.map_cons, PyData.eqvAll, PyData.eqv, eqvAll_ints a b]
    rfl
theorem eqv_iL (a b : List Int) : PyData.eqv (iL a) (iL b) = (a == b) := by unfold iL; simp only [PyData.eqv]; exact eqvAll_ints a b
theorem any_ints (ds : List Int) (x : Int) : ((ds.map PyData.int).any fun y => PyData.eqv y (.int x)) = ds.contains x := by
  induction ds with
  | nil => rfl
  | cons d ds ih =>
    simp only [List.map_cons, List.any_cons, ih, PyData.eqv, List.contains_cons]
    congr 1
    rw [Bool.eq_iff_iff]; simp only [beq_iff_eq]; exact eq_comm

theorem shp_ints (xs : List Int) : Shp (iL xs) := Shp.list fun d hd => by obtain ⟨x, _, rfl⟩ := List.mem_map.mp hd; exact Atom.int x
theorem flat_ints (xs : List Int) : ∀ d ∈ xs.map PyData.int, Flat d := fun d hd => by obtain ⟨x, _, rfl⟩ := List.mem_map.mp hd; trivial

section
variable {K : Cx} {n : Nat} {sc : Scope} {ρ : List (Str × D)} {a b c : Expr} {pos p : Pos} {fa fb fc fr : Bool} {xs ys : List Int} {i j : Int}
theorem CmpOk.eqIL : CmpOk K n .Eq (.py (iL xs)) (.py (iL ys)) (xs == ys) := CmpOk.cast (CmpOk.eqD (shp_ints xs) (shp_ints ys)) (eqv_iL xs ys)
theorem CmpOk.inIL : CmpOk K n .In (.py (.int i)) (.py (iL xs)) (xs.contains i) := CmpOk.cast (CmpOk.inL (Atom.int i).shp (shp_ints xs)) (any_ints xs i)
theorem CmpOk.notInIL : CmpOk K n .NotIn (.py (.int i)) (.py (iL xs)) (!xs.contains i) := CmpOk.cast (CmpOk.notInL (Atom.int i).shp (shp_ints xs)) (by rw [any_ints])

theorem Ev.lenIL (B : BG K) (ha : Ev K n sc ρ a (.py (iL xs)) fa) (hsz : xs.length ≤ sizeLine) (hx : sc.names.lookup ("len" : Str) = some .globalImplicit := by rfl)
    (he : ∀ env, starEach [a] env = [(false, eval a env)] := by intro _; rfl)
    (hc : ∀ env, eval (.Call (.Name "len" p) [a] [] pos) env = (do callWith pos (← eval (.Name "len" p) env) [] (backTo pos (starEach [a] env)) (backToKw pos (keywordEach [] env))) := by intro _; rfl) :
    Ev K n sc ρ (.Call (.Name "len" p) [a] [] pos) (.py (.int xs.length)) true :=
  Ev.cast (Ev.callB B.len (EvArgs.cons ha EvArgs.nil he) (CallOk.lenL (ds := xs.map .int) (by simpa using hsz)) hx (by decide) he (fun _ => rfl) hc) (by simp)
theorem Ev.listIL (B : BG K) (ha : Ev K n sc ρ a (.py (iL xs)) fa) (hsz : xs.length ≤ sizeLine) (hx : sc.names.lookup ("list" : Str) = some .globalImplicit := by rfl)
    (he : ∀ env, starEach [a] env = [(false, eval a env)] := by intro _; rfl)
    (hc : ∀ env, eval (.Call (.Name "list" p) [a] [] pos) env = (do callWith pos (← eval (.Name "list" p) env) [] (backTo pos (starEach [a] env)) (backToKw pos (keywordEach [] env))) := by intro _; rfl) :
    Ev K n sc ρ (.Call (.Name "list" p) [a] [] pos) (.py (iL xs)) true :=
  Ev.callT B.list (EvArgs.cons ha EvArgs.nil he) (CallOk.list (by simpa using hsz) fun _ => flat_ints xs) hx (by decide) he (fun _ => rfl) hc

theorem Ev.indexOf (ha : Ev K n sc ρ a (.py (iL xs)) fa) (hb : Ev K n sc ρ b (.py (.int i)) fb) (hi : i ∈ xs) (hsz : xs.length ≤ sizeLine)
    (hbase : ∀ env, attributeBase a "index" env (eval a env) = eval a env := by intro _; rfl) (hline : (p.endLine == pos.line) = true := by rfl)
    (ht : ∀ env, backTo pos (starEach [b] env) = [(false, eval b env)] := by intro _; rfl) :
    Ev K n sc ρ (.Call (.Attribute a "index" p) [b] [] pos) (.py (.int (xs.idxOf i : Nat))) true :=
  Ev.index ha hb (List.idxOf_lt_length_of_mem hi) (List.getElem_idxOf _) (fun m hm hmj q => by
    have := List.not_of_lt_findIdx (p := (· == i)) (xs := xs) hmj
    simp at this; exact this q) hsz hbase hline ht

theorem Ev.fromIL (ha : Ev K n sc ρ a (.py (iL xs)) fa) {k : Nat} (hb : Ev K n sc ρ b (.py (.int k)) fb) (hsz : xs.length ≤ sizeLine) :
    Ev K n sc ρ (.Subscript a (.Slice (some b) none none p) pos) (.py (iL (xs.drop k))) true :=
  Ev.cast (Ev.sliceFrom ha hb (Int.natCast_nonneg _) (by simpa using hsz) fun _ => flat_ints xs) (by simp [iL, List.map_drop])
theorem Ev.uptoIL (ha : Ev K n sc ρ a (.py (iL xs)) fa) {k : Nat} (hb : Ev K n sc ρ b (.py (.int k)) fb) (hsz : xs.length ≤ sizeLine) :
    Ev K n sc ρ (.Subscript a (.Slice none (some b) none p) pos) (.py (iL (xs.take k))) true :=
  Ev.cast (Ev.sliceUpto ha hb (Int.natCast_nonneg _) (by simpa using hsz) fun _ => flat_ints xs) (by simp [iL, List.map_take])
end
end Mine

namespace Mine

theorem rdAll_of_ints {h : Heap} : ∀ {vs : List Value} {xs : List Int}, IntsAre vs xs → RdAll h vs (xs.map .int) []
  | [], [], _ => .nil
  | v :: vs, x :: xs, hi => by
    cases hi with
    | cons _ t h1 => exact RdAll.cons (as := []) (bs := []) (.int x t) (rdAll_of_ints h1)

theorem rd_script {P : Params} {h : Heap} {l : Addr} {vs : List Value} {xs : List Int} (w : Well P h (.ref l) (ofPy (PyData.list (xs.map .int)))) (hl : h.IsList l vs.toArray) (hi : IntsAre vs xs) : Rd h (.ref l) (iL xs) [l] := by
  obtain ⟨o, ho, hc, k, hd⟩ := hl
  have e : ofPy (PyData.list (xs.map .int)) = .list (ofPys (xs.map .int)) := by simp [ofPy]
  rw [e] at w
  cases w with
  | @list _ vs' _ h1 _ =>
    rw [ho] at h1; cases h1
    have : vs = vs' := by
      injection hd with h2 h3
      simpa using h2.symm
    subst this
    exact Rd.list ho (rdAll_of_ints hi)

/-- a law is called with its script -/
theorem law_top {K : Cx} {d : DefRec} {fa l : Addr} {o : Obj} {pm cd doc : Value} {xs : List Int} {s : Shared} {R : Result → Shared → Prop} {n : Nat} (hn : n ≤ 30) (hK : K.h₀ = s.heap) (ok : K.Ok s.heap) (Fd : Fn K d fa o pm cd doc) (To : TopOk d.scope ["script"])
    (hb : ∀ v : Value, bindArgs (Calls.docDef d.name d.params d.body d.scope pm cd doc) ⟨[v], []⟩ = pure [(("script" : Str), v)]) (rd : Rd s.heap (.ref l) (iL xs) [l])
    (body : Ex K true n d.scope [("script", .py (iL xs))] [] d.body fun o => o = .ret (.py (.bool true)) true)
    (k : ∀ h' tk, Ext s.heap h' → R (.ok (.ret (.bool true))) { s with heap := h', toks := tk }) : codeAny (model K.prog K.w) callerA (.call (.ref fa) ⟨[.ref l], []⟩) R s := by
  have hdep : callerA.depth + 1 + n < recursionLimit := by
    have : callerA.depth = 301 := by decide +kernel
    have : recursionLimit = 1000 := by decide +kernel
    omega
  refine call_cells (binds := [(("script" : Str), .ref l)]) (by omega) (ok.ext _ _ Fd.get) Fd.data (ok.lim.keeps ok.ext) (Fd.code.keeps ok.ext) (hb _) (fun x hx => ?_) (fun h₁ tk₁ F C => ?_) To.co To.gen To.kind
  · obtain rfl := List.mem_singleton.mp hx
    rcases To.binds "script" (.head _) with q | q
    · exact .inl q
    · obtain ⟨c, hc⟩ := cellsFrom_has d.scope.names (s.heap.objs.size + 1) (mem_of_lookup q)
      obtain ⟨c', hc'⟩ := lookup_isSome_of_mem hc
      exact .inr ⟨q, by rw [hc']; rfl⟩
  · have ro : Room (callerA.deeper (envOfC d.name d.scope s.heap.objs.size fa cd)) n := ⟨rfl, hdep, by
      show 4 + 3 + 8 * n + 200 < cLine
      have : cLine = 9900 := by decide +kernel
      omega⟩
    have S : St K true n d.scope (fun _ => False) (fun a => s.heap.get? a) [("script", .py (iL xs))] [] (callerA.deeper (envOfC d.name d.scope s.heap.objs.size fa cd)) (envOfC d.name d.scope s.heap.objs.size fa cd) h₁ :=
      St.enter (names := ["script"]) (vs := [.ref l]) (ds := [.py (iL xs)]) (as := [l] ++ []) To ro ok rfl F C (.cons rd .nil) rfl nofun nofun fun _ => rfl
    refine wpAny_mono (body.run (s := { s with heap := h₁, toks := tk₁ }) (E := fun _ _ => False) S) (fun f s' p => ?_) fun _ _ q => q.elim
    obtain ⟨o', rfl, h', tk', rfl, ok'⟩ := p
    cases f with
    | ret v =>
      obtain ⟨bs, b1, b2, b3, b4⟩ := ok'
      have b2' : Rd h' v (.bool true) bs := b2
      cases b2'
      exact k h' tk' b1
    | next => exact ok'.elim
    | brk => exact ok'.elim
    | cont => exact ok'.elim
end Mine
namespace Mine
theorem BG.of {p : Program} {loose : List Str} {mean : ExcName → Option Value} {mg mb : Str → Option Value} {h : Heap} (T : Top p loose mean mg mb h) (prog : Program) (w : World)
    (hf : ∀ x ∈ (["RuntimeError", "len", "set", "list", "divmod", "range", "sorted", "sum", "min", "max", "str", "bool", "isinstance"] : List Str), mg x = none) : BG ⟨prog, w, h, mg, mb⟩ where
  rt := .inr ⟨hf _ (by decide), (T.builtins _ (by decide)).trans Boot.«RuntimeError»⟩
  len := .inr ⟨hf _ (by decide), (T.builtins _ (by decide)).trans Boot.«len»⟩
  set := .inr ⟨hf _ (by decide), (T.builtins _ (by decide)).trans Boot.«set»⟩
  list := .inr ⟨hf _ (by decide), (T.builtins _ (by decide)).trans Boot.«list»⟩
  divmod := .inr ⟨hf _ (by decide), (T.builtins _ (by decide)).trans Boot.«divmod»⟩
  range := .inr ⟨hf _ (by decide), (T.builtins _ (by decide)).trans Boot.«range»⟩
  sorted := .inr ⟨hf _ (by decide), (T.builtins _ (by decide)).trans Boot.«sorted»⟩
  sum := .inr ⟨hf _ (by decide), (T.builtins _ (by decide)).trans Boot.«sum»⟩
  min := .inr ⟨hf _ (by decide), (T.builtins _ (by decide)).trans Boot.«min»⟩
  max := .inr ⟨hf _ (by decide), (T.builtins _ (by decide)).trans Boot.«max»⟩
  str := .inr ⟨hf _ (by decide), (T.builtins _ (by decide)).trans Boot.«str»⟩
  bool := .inr ⟨hf _ (by decide), (T.builtins _ (by decide)).trans Boot.«bool»⟩
  isinstance := .inr ⟨hf _ (by decide), (T.builtins _ (by decide)).trans Boot.«isinstance»⟩
end Mine

namespace Mine

/-! ### the merge over anything that can be told apart -/
section
variable {α β : Type} {ea : α → α → Bool} {eb : β → β → Bool} {f : α → β}

theorem strike1_map (h : ∀ x y, eb (f x) (f y) = ea x y) (c : α) (r : List α) : strike1 eb (f c) (r.map f) = (strike1 ea c r).map f := by
  cases r with
  | nil => rfl
  | cons x t => simp only [List.map_cons, strike1, h]; split <;> rfl
theorem okHead_map (h : ∀ x y, eb (f x) (f y) = ea x y) (R : List (List α)) (x : α) : okHead eb (R.map (List.map f)) (f x) = okHead ea R x := by
  unfold okHead
  rw [List.all_map]
  congr 1
  funext r
  simp only [Function.comp, ← List.map_tail, List.any_map]
  congr 2
  funext y
  simp [h]
theorem cand_map (h : ∀ x y, eb (f x) (f y) = ea x y) (R : List (List α)) : cand eb (R.map (List.map f)) = (cand ea R).map f := by
  have key : ∀ S : List (List α), (S.map (List.map f)).findSome? (fun r => match r with | [] => none | x :: _ => if okHead eb (R.map (List.map f)) x then some x else none) = (S.findSome? fun r => match r with | [] => none | x :: _ => if okHead ea R x then some x else none).map f := by
    intro S
    induction S with
    | nil => rfl
    | cons r S ih =>
      rw [List.map_cons, List.findSome?_cons, List.findSome?_cons]
      cases r with
      | nil => simpa using ih
      | cons x t =>
        simp only [List.map_cons, okHead_map h]
        cases q : okHead ea R x
        · simpa using ih
        · simp
  exact key R
theorem c3_map (h : ∀ x y, eb (f x) (f y) = ea x y) : ∀ (n : Nat) (R : List (List α)), c3 eb n (R.map (List.map f)) = ((c3 ea n R).1.map f, (c3 ea n R).2.1.map (List.map f), (c3 ea n R).2.2)
  | 0, R => by
    simp only [c3, List.map_nil, List.all_map]
    congr 3
    funext r; simp
  | n + 1, R => by
    have hall : (R.map (List.map f)).all (·.isEmpty) = R.all (·.isEmpty) := by rw [List.all_map]; congr 1; funext r; simp
    rw [c3, c3, hall, cand_map h]
    split
    · simp
    · cases cand ea R with
      | none => simp
      | some c =>
        simp only [Option.map_some]
        have : (R.map (List.map f)).map (strike1 eb (f c)) = (R.map (strike1 ea c)).map (List.map f) := by
          rw [List.map_map, List.map_map]
          exact List.map_congr_left fun r _ => strike1_map h c r
        rw [this, c3_map h n]
        simp
theorem mg3_map (h : ∀ x y, eb (f x) (f y) = ea x y) (R : List (List α)) : mg3 eb (R.map (List.map f)) = ((mg3 ea R).1.map f, (mg3 ea R).2.1.map (List.map f), (mg3 ea R).2.2) := by
  have : tot (R.map (List.map f)) = tot R := by unfold tot; rw [List.map_map]; congr 1; exact List.map_congr_left fun r _ => by simp
  unfold mg3; rw [this]; exact c3_map h _ R
end

def beq' {α : Type} [DecidableEq α] (x y : α) : Bool := decide (x = y)

section
variable {α : Type} [DecidableEq α] {R : List (List α)} {c : α}

abbrev m3 (R : List (List α)) : List α × List (List α) × Bool := mg3 beq' R
theorem rflB (R : List (List α)) : Rfl beq' R := fun _ _ x _ => by simp [beq']
theorem okHead_iff : okHead beq' R c = true ↔ ∀ r ∈ R, c ∉ r.tail := by
  unfold okHead
  rw [List.all_eq_true]
  constructor
  · intro h r hr hc
    have := h r hr
    simp only [Bool.not_eq_true', List.any_eq_false] at this
    exact this c hc (by simp [beq'])
  · intro h r hr
    simp only [Bool.not_eq_true', List.any_eq_false]
    intro y hy q
    simp [beq'] at q; subst q; exact h r hr hy
theorem strike_cons (x : α) (t : List α) : strike1 beq' c (x :: t) = if x = c then t else x :: t := by
  simp only [strike1, beq']
  by_cases q : x = c <;> simp [q]
theorem m3_empty (h : ∀ r ∈ R, r = []) : m3 R = ([], R, true) := mg3_empty (by rw [List.all_eq_true]; intro r hr; simp [h r hr])
theorem m3_some (hc : cand beq' R = some c) : m3 R = (c :: (m3 (R.map (strike1 beq' c))).1, (m3 (R.map (strike1 beq' c))).2) := mg3_some (rflB R) hc
theorem m3_none (h : ∃ r ∈ R, r ≠ []) (hc : cand (beq' : α → α → Bool) R = none) : m3 R = ([], R, false) := mg3_none (by
  obtain ⟨r, hr, hne⟩ := h
  cases q : R.all (·.isEmpty) with
  | false => rfl
  | true => exact absurd (by simpa using List.all_eq_true.mp q r hr) hne) hc

/-- by what the merge does: nothing left, stuck, or one step -/
theorem m3_cases (R : List (List α)) : ((∀ r ∈ R, r = []) ∧ m3 R = ([], R, true)) ∨ ((∃ r ∈ R, r ≠ []) ∧ cand beq' R = none ∧ m3 R = ([], R, false)) ∨
    (∃ c, cand beq' R = some c ∧ (∃ t, c :: t ∈ R) ∧ (∀ r ∈ R, c ∉ r.tail) ∧ tot (R.map (strike1 beq' c)) < tot R ∧ m3 R = (c :: (m3 (R.map (strike1 beq' c))).1, (m3 (R.map (strike1 beq' c))).2)) := by
  by_cases he : ∀ r ∈ R, r = []
  · exact .inl ⟨he, m3_empty he⟩
  · have he' : ∃ r ∈ R, r ≠ [] := by
      apply Classical.byContradiction
      intro h
      exact he fun r hr => Classical.byContradiction fun q => h ⟨r, hr, q⟩
    right
    cases hc : cand (beq' : α → α → Bool) R with
    | none => exact .inl ⟨he', rfl, m3_none he' hc⟩
    | some c =>
      obtain ⟨⟨t, ht⟩, ho⟩ := cand_spec hc
      exact .inr ⟨c, rfl, ⟨t, ht⟩, okHead_iff.mp ho, tot_strike_lt ht (by simp [beq']), m3_some hc⟩

/-- a merge that is not refused keeps every row, and has each once -/
theorem m3_ok : ∀ (n : Nat) (R : List (List α)), tot R ≤ n → (m3 R).2.2 = true → (m3 R).1.Nodup ∧ (∀ r ∈ R, r.Sublist (m3 R).1) ∧ (∀ x ∈ (m3 R).1, ∃ r ∈ R, x ∈ r) ∧ (∀ r ∈ (m3 R).2.1, r = [])
  | n, R, hn, hok => by
    rcases m3_cases R with ⟨he, e⟩ | ⟨_, _, e⟩ | ⟨c, hc, ⟨t, ht⟩, hh, hlt, e⟩
    · rw [e]
      refine ⟨.nil, fun r hr => ?_, nofun, he⟩
      rw [he r hr]; exact List.Sublist.refl _
    · rw [e] at hok; cases hok
    · cases n with
      | zero => omega
      | succ n =>
        rw [e] at hok ⊢
        obtain ⟨i1, i2, i3, i4⟩ := m3_ok n _ (by omega) hok
        have hno : ∀ r ∈ R, c ∉ strike1 beq' c r := fun r hr q => by
          cases r with
          | nil => cases q
          | cons x u =>
            have := hh _ hr
            rw [strike_cons] at q
            by_cases hx : x = c
            · rw [if_pos hx] at q; exact this q
            · rw [if_neg hx] at q
              rcases List.mem_cons.mp q with q | q
              · exact hx q.symm
              · exact this q
        refine ⟨List.nodup_cons.mpr ⟨fun q => ?_, i1⟩, fun r hr => ?_, fun x hx => ?_, i4⟩
        · obtain ⟨r', hr', hm⟩ := i3 c q
          obtain ⟨r, hr, rfl⟩ := List.mem_map.mp hr'
          exact hno r hr hm
        · have := i2 _ (List.mem_map.mpr ⟨r, hr, rfl⟩)
          cases r with
          | nil => exact List.nil_sublist _
          | cons x u =>
            rw [strike_cons] at this
            split at this
            · rename_i hx; subst hx; exact this.cons_cons _
            · exact this.cons _
        · rcases List.mem_cons.mp hx with rfl | hx
          · exact ⟨_, ht, .head _⟩
          · obtain ⟨r', hr', hm⟩ := i3 x hx
            obtain ⟨r, hr, rfl⟩ := List.mem_map.mp hr'
            exact ⟨r, hr, strike1_mem hm⟩

theorem cand_isSome {x : α} {t : List α} (hx : x :: t ∈ R) (ho : ∀ r ∈ R, x ∉ r.tail) : ∃ c, cand beq' R = some c := by
  cases q : cand (beq' : α → α → Bool) R with
  | some c => exact ⟨c, rfl⟩
  | none =>
    unfold cand at q
    rw [List.findSome?_eq_none_iff] at q
    have := q _ hx
    simp [okHead_iff.mpr ho] at this
end
end Mine

namespace Mine

theorem Walks.lt {prog : Program} {w : World} {A : Around} {I : Addr} {fp wr : List Addr} {n : Nat} {P : Nat → Value → Prop} {St : Nat → Heap → Prop} (W : Walks prog w A I fp wr n P St) : Walks prog w A I fp wr n (fun i v => i < n ∧ P i v) St where
  sub := W.sub
  frame := W.frame
  item := fun i s Q E hi st hQ => W.item i s Q E hi st fun v h' tk hP => hQ v h' tk ⟨hi, hP⟩
  done := W.done
  self := W.self

def rangeIt (K : Cx) {A : Around} (hh : A.handled = none) (I : Addr) (a : Int) (n : Nat) : It K A where
  I := I
  fp := [I]
  n := n
  P := fun i v => i < n ∧ ∃ t, v = .int (a + i * 1) t
  St := fun i h => IsRangeIter h I (a + (i : Nat) * 1) ((n : Int) - (i : Nat)) 1
  W := Walks.lt (Walks.range hh I a 1 n)
  plain := fun i h st => ⟨_, "range_iterator", _, st, rfl, by decide, rfl⟩

section
variable {K : Cx} {n : Nat} {sc : Scope} {ρ : List (Str × D)} {a b : Expr} {pos p : Pos} {fa fb : Bool}

theorem range_core {A : Around} {env : Env} {s : Shared} {X : Addr → Prop} {E : Value → Shared → Prop} {Q : Value → Shared → Prop} {h₁ : Heap} {tk : Nat} {lo : Int} {k : Nat} {r : Addr} {u v t : Tok} (I : In K n sc X ρ A env s.heap) (x : Ext s.heap h₁) (hr : IsRange h₁ r lo (lo + k) 1 u v t)
    (h1 : -(2 ^ 62) ≤ lo) (h2 : lo + k < 2 ^ 62)
    (q : ∀ (t : It K A) h' tk, Ext s.heap h' → ItAt t 0 s.heap h' X ((List.range k).map fun i => .int (lo + (i : Nat))) → Q (.ref t.I) { s with heap := h', toks := tk }) :
    wpAny (model K.prog K.w) A (pyIter (.ref r)) Q E { s with heap := h₁, toks := tk } := by
  refine wpAny_pyIter_range (s := { s with heap := h₁, toks := tk }) hr (small_one h1 (by omega) (by omega) h2) ?_
  have hsz : Builtin.Range.rangeSize lo (lo + k) 1 = (k : Int) := by rw [rangeSize_one]; split <;> omega
  refine q (rangeIt K I.room.quiet h₁.objs.size lo k) _ _ (x.trans (Ext.push _ _)) ⟨?_, ?_, ?_, ?_, ?_, ?_⟩
  · show IsRangeIter _ _ (lo + ((0 : Nat) : Int) * 1) ((k : Int) - ((0 : Nat) : Int)) 1
    have e1 : lo + ((0 : Nat) : Int) * 1 = lo := by simp
    have e2 : (k : Int) - ((0 : Nat) : Int) = Builtin.Range.rangeSize lo (lo + k) 1 := by rw [hsz]; simp
    rw [e1, e2]
    exact Heap.get?_push_size _ rfl
  · show k = _; simp
  · intro b hb hx
    rw [List.mem_singleton.mp hb] at hx
    obtain ⟨o, ho⟩ := I.dom _ hx; have := x _ _ ho; rw [push_new] at this; cases this
  · exact x.none (push_new _)
  · intro b hb
    rw [List.mem_singleton.mp hb]
    exact ⟨_, Heap.get?_push_size _ rfl⟩
  · rintro j v ⟨hj, t, rfl⟩
    have hj' : j < k := hj
    refine ⟨.int (lo + (j : Nat)), [], by simp [hj'], ?_, nofun⟩
    rw [Int.mul_one]; exact .int _ _

theorem EvIt.range1 (B : BG K) {k : Nat} (ha : Ev K n sc ρ a (.py (.int k)) fa) (hk : k ≤ sizeLine) (hx : sc.names.lookup ("range" : Str) = some .globalImplicit := by rfl)
    (he : ∀ env, starEach [a] env = [(false, eval a env)] := by intro _; rfl)
    (hc : ∀ env, eval (.Call (.Name "range" p) [a] [] pos) env = (do callWith pos (← eval (.Name "range" p) env) [] (backTo pos (starEach [a] env)) (backToKw pos (keywordEach [] env))) := by intro _; rfl) :
    EvIt K n sc ρ (.Call (.Name "range" p) [a] [] pos) ((List.range k).map fun i => .int (i : Nat)) := Hide.mk fun {A env s X E Q} I q => by
  refine Call_ (name_global I B.range hx ?_ (by decide)) (hc env)
  refine PySem.callWith_type (by rw [he env]; rfl) ?_
  rw [he env]
  refine Calls.evalArgs_plain (Calls.spliced_cons (wpAny_mono (ha.run I) (fun v s₁ t => ?_) fun _ _ x => x))
  obtain ⟨h₁, tk, as, rfl, g⟩ := t
  refine Calls.spliced_nil ?_
  have r : Rd h₁ v (.int k) as := g.rd
  cases r with
  | int _ t =>
    refine call_range_1 (s := { s with heap := h₁, toks := tk }) ?_
    have hr := IsRange.new h₁ 0 (k : Int) 1 tk t (tk + 1)
    rw [sizeLine_eq] at hk
    refine range_core (s := s) (lo := 0) (k := k) (u := tk) (v := t) (t := tk + 1) I (g.ext.trans (Ext.push _ _)) (by simpa using hr) (by decide) (by omega) fun t h' tk' x it => ?_
    simp only [Int.zero_add] at it
    exact q t h' tk' x it

theorem EvIt.range2 (B : BG K) {lo hi : Nat} (ha : Ev K n sc ρ a (.py (.int lo)) fa) (hb : Ev K n sc ρ b (.py (.int hi)) fb) (hlo : lo ≤ sizeLine) (hhi : hi ≤ sizeLine) (hx : sc.names.lookup ("range" : Str) = some .globalImplicit := by rfl)
    (he : ∀ env, starEach [a, b] env = [(false, eval a env), (false, eval b env)] := by intro _; rfl)
    (hc : ∀ env, eval (.Call (.Name "range" p) [a, b] [] pos) env = (do callWith pos (← eval (.Name "range" p) env) [] (backTo pos (starEach [a, b] env)) (backToKw pos (keywordEach [] env))) := by intro _; rfl) :
    EvIt K n sc ρ (.Call (.Name "range" p) [a, b] [] pos) ((List.range (hi - lo)).map fun i => .int ((lo + i : Nat))) := Hide.mk fun {A env s X E Q} I q => by
  refine Call_ (name_global I B.range hx ?_ (by decide)) (hc env)
  refine PySem.callWith_type (by rw [he env]; rfl) ?_
  rw [he env]
  refine Calls.evalArgs_plain (Calls.spliced_cons (wpAny_mono (ha.run I) (fun v s₁ t => ?_) fun _ _ x => x))
  obtain ⟨h₁, tk, as, rfl, g⟩ := t
  refine Calls.spliced_cons (wpAny_mono (hb.run (s := { s with heap := h₁, toks := tk }) (I.ext g.ext)) (fun v' s₂ t => ?_) fun _ _ x => x)
  obtain ⟨h₂, tk₂, bs, rfl, g₂⟩ := t
  refine Calls.spliced_nil ?_
  have r : Rd h₁ v (.int lo) as := g.rd
  have r' : Rd h₂ v' (.int hi) bs := g₂.rd
  cases r with
  | int _ t =>
  cases r' with
  | int _ t' =>
    refine call_range_2 (s := { s with heap := h₂, toks := tk₂ }) ?_
    have x₂ := g.ext.trans g₂.ext
    rw [sizeLine_eq] at hlo hhi
    by_cases hle : lo ≤ hi
    · have hr := IsRange.new h₂ lo hi 1 t t' tk₂
      have e : (lo : Int) + ((hi - lo : Nat) : Int) = hi := by omega
      refine range_core (s := s) (lo := lo) (k := hi - lo) (u := t) (v := t') (t := tk₂) I (x₂.trans (Ext.push _ _)) (by rw [e]; exact hr) (by omega) (by omega) fun t h' tk' x it => ?_
      simp only [Int.natCast_add] at q
      exact q t h' tk' x it
    · have hr := IsRange.new h₂ lo hi 1 t t' tk₂
      refine wpAny_pyIter_range (s := { s with heap := _, toks := tk₂ + 1 }) hr (small_one (by omega) (by omega) (by omega) (by omega)) ?_
      have hsz : Builtin.Range.rangeSize lo hi 1 = 0 := by rw [rangeSize_one]; split <;> omega
      have x₃ := x₂.trans (Ext.push h₂ { cls := .type "range", data := .fields #[.int lo t, .int hi t', .int 1 tk₂] })
      refine q (rangeIt K I.room.quiet _ lo 0) _ _ (x₃.trans (Ext.push _ _)) ⟨?_, ?_, ?_, ?_, ?_, ?_⟩
      · show IsRangeIter _ _ ((lo : Int) + ((0 : Nat) : Int) * 1) (((0 : Nat) : Int) - ((0 : Nat) : Int)) 1
        have e1 : (lo : Int) + ((0 : Nat) : Int) * 1 = lo := by simp
        have e2 : ((0 : Nat) : Int) - ((0 : Nat) : Int) = Builtin.Range.rangeSize lo hi 1 := by rw [hsz]; simp
        rw [e1, e2]
        exact Heap.get?_push_size _ rfl
      · show 0 = _; simp; omega
      · intro b hb hx
        rw [List.mem_singleton.mp hb] at hx
        obtain ⟨o, ho⟩ := I.dom _ hx; exact absurd (Heap.lt_size (x₃ _ _ ho)) (Nat.lt_irrefl _)
      · exact x₃.none (push_new _)
      · intro b hb
        rw [List.mem_singleton.mp hb]
        exact ⟨_, Heap.get?_push_size _ rfl⟩
      · rintro j v ⟨hj, _⟩
        exact absurd hj (Nat.not_lt_zero _)
end

/-! ### the greatest, the least, the sum -/
section
variable {K : Cx} {n : Nat} {xs : List Int}
theorem getD_mem {xs : List Int} {i : Nat} (h : i < xs.length) : xs.getD i 0 ∈ xs := by
  rw [List.getD_eq_getElem?_getD, List.getElem?_eq_getElem h]; exact List.getElem_mem h

end
end Mine

namespace Mine

section
variable {K : Cx} {n : Nat} {xs : List Int}
variable {sc : Scope} {ρ : List (Str × D)} {a : Expr} {pos p : Pos} {fa : Bool}
end

/-! ### changes in place of what a name owns alone -/
section
variable {K : Cx} {lv : Bool} {n : Nat} {sc : Scope} {X : Addr → Prop} {g : Addr → Option Obj} {sh ow : List (Str × D)} {A : Around} {env : Env} {h h' : Heap} {fp : Str → List Addr} {x : Str} {d d' : D} {v : Value}

/-- the names as they are, but for x, which owns d' now -/
def put (x : Str) (d : D) (ow : List (Str × D)) : List (Str × D) := (x, d) :: del x ow

/-- one object that x owns is changed; x then reads as d', by old objects of its own and new ones -/
theorem St.change {hp : Heap} (S₀ : St K lv n sc X g sh ow A env hp) (O₀ : Own K g X env sh ow fp hp) (xe : Ext hp h) (hx : ow.lookup x = some d) {a : Addr} (ha : a ∈ fp x) (e : Eff (· = a) h h') (nt : NoTup h a) (va : VarAt h env x v) {as : List Addr} (rd : RdD K h' v d' as) (nd : as.Nodup)
    (new : ∀ b ∈ as, b ∈ fp x ∨ hp.get? b = none) (hsome : ∃ o, h'.get? a = some o) : St K lv n sc X g sh (put x d' ow) A env h' := by
  have S := S₀.ext xe
  have O := O₀.ext xe
  obtain ⟨v₀, o1, o2, o3, o4⟩ := O.own x d hx
  have hga : g a = none := (o4 a ha).1
  have nfa : ¬ FrameAddr env a := (o4 a ha).2.1
  have nXa : ¬ X a := (o4 a ha).2.2
  have hK : K.h₀.get? a = none := by
    cases q : K.h₀.get? a with
    | none => rfl
    | some o => rw [S.bK a o q] at hga; cases hga
  have nt' : ∀ b, b = a → NoTup h b := fun b q => q ▸ nt
  have hxs : (ow.lookup x).isSome = true := by rw [hx]; rfl
  have va' : ∀ {y u}, VarAt h env y u → VarAt h' env y u := fun {y u} r => by
    rcases r with ⟨hl, m, hn, hm⟩ | ⟨hl, c', hc', hv⟩
    · exact .inl ⟨hl, m, hn.at' fun o ho => e _ o (fun q => nfa (q ▸ .inl rfl)) ho, hm⟩
    · obtain ⟨o, ho, hd⟩ := hv
      exact .inr ⟨hl, c', hc', o, e c' o (fun q => nfa (q ▸ .inr ⟨_, hc'⟩)) ho, hd⟩
  have look : ∀ y, (put x d' ow).lookup y = if y = x then some d' else ow.lookup y := fun y => by
    unfold put
    rw [List.lookup_cons]
    by_cases q : y = x
    · simp [q]
    · have hb : (y == x) = false := by simpa using q
      simp only [hb, if_neg q]; rw [lookup_del, if_neg q]
  have isome : ∀ y, ((put x d' ow).lookup y).isSome = true → (ow.lookup y).isSome = true := fun y hy => by
    rw [look] at hy
    by_cases q : y = x
    · rw [q]; exact hxs
    · rw [if_neg q] at hy; exact hy
  have newB : ∀ b ∈ as, (g b = none ∧ ¬ FrameAddr env b ∧ ¬ X b) ∧ (∀ y, y ≠ x → (ow.lookup y).isSome = true → b ∉ fp y) := fun b hb => by
    rcases new b hb with q | q
    · exact ⟨o4 b q, fun y hy hs => O.apart x y (Ne.symm hy) hxs hs b q⟩
    · refine ⟨⟨?_, fun r => ?_, fun r => ?_⟩, fun y hy hs hm => ?_⟩
      · cases r : g b with
        | none => rfl
        | some o => have := S₀.base b o r; rw [q] at this; cases this
      · obtain ⟨o, ho⟩ := S₀.frame.some r; rw [q] at ho; cases ho
      · obtain ⟨o, ho⟩ := S₀.dom b r; rw [q] at ho; cases ho
      · obtain ⟨dy, hdy⟩ := Option.isSome_iff_exists.mp hs
        obtain ⟨_, _, h2, _⟩ := O₀.own y dy hdy
        obtain ⟨o, ho⟩ := h2.dom b hm; rw [q] at ho; cases ho
  refine ⟨S.room, ⟨S.ok.g, S.ok.b, S.ok.lim, e.ext S.ok.ext fun b q => q ▸ hK⟩, S.hsc, S.henv, S.frame.at1 e nfa, fun b o hb => e b o (fun q => by rw [q, hga] at hb; cases hb) (S.base b o hb), S.bK, S.new, fun b hb => ?_, S.top, fun y => if y = x then as else fp y, ⟨fun y dy hy => ?_, fun y z hyz hy hz b hb => ?_, fun y dy hy => ?_⟩⟩
  · obtain ⟨o, ho⟩ := S.dom b hb
    exact ⟨o, e b o (fun q => nXa (q ▸ hb)) ho⟩
  · rw [look] at hy
    by_cases q : y = x
    · subst q; simp only [if_true] at hy ⊢; cases hy
      exact ⟨v, va' va, rd, nd, fun b hb => (newB b hb).1⟩
    · simp only [if_neg q] at hy ⊢
      obtain ⟨u, h1, h2, h3, h4⟩ := O.own y dy hy
      exact ⟨u, va' h1, h2.off (e.off (fun b hb r => O.apart x y (Ne.symm q) hxs (by rw [hy]; rfl) a ha (r ▸ hb)) nt'), h3, h4⟩
  · have hy' := isome y hy
    have hz' := isome z hz
    by_cases q : y = x
    · subst q
      have hzy : z ≠ y := Ne.symm hyz
      simp only [if_true, if_neg hzy] at hb ⊢
      exact (newB b hb).2 z hzy hz'
    · by_cases r : z = x
      · subst r
        simp only [if_true, if_neg q] at hb ⊢
        exact fun hm => (newB b hm).2 y q hy' hb
      · simp only [if_neg q, if_neg r] at hb ⊢
        exact O.apart y z hyz hy' hz' b hb
  · obtain ⟨u, bs, h1, h20, h3⟩ := O₀.shared y dy hy
    have h1 := h1.ext xe
    have h2 := h20.ext xe
    have hoff : ∀ b ∈ bs, b ≠ a := fun b hb q => (h3 b hb).2.2 x hxs (q ▸ ha)
    refine ⟨u, bs, va' h1, h2.off (e.off (fun b hb q => hoff b hb q) nt'), fun b hb => ⟨(h3 b hb).1, (h3 b hb).2.1, fun z hz => ?_⟩⟩
    by_cases q : z = x
    · subst q
      simp only [if_true]
      intro hm
      rcases new b hm with r | r
      · exact (h3 b hb).2.2 z hxs r
      · obtain ⟨o, ho⟩ := h20.dom b hb; rw [r] at ho; cases ho
    · simp only [if_neg q]
      exact (h3 b hb).2.2 z (isome z hz)
end

section
variable {K : Cx} {lv : Bool} {n : Nat} {sc : Scope} {sh ow : List (Str × D)} {Q : Out → Prop} {x : Str} {p p' pos cp : Pos} {e : Expr} {ds : List PyData} {d : PyData} {fr : Bool}

theorem interactive_false {env : Env} (h : EnvOk env) : interactive env = false := by unfold interactive; rw [h.kind]; rfl

/-- `x.append(e)` -/
theorem Ex1.append (hx : ow.lookup x = some (.py (.list ds))) (h : Ev K n sc (ow ++ sh) e (.py d) true) (hsz : ds.length ≤ sizeLine) (hq : Q (.next sh (put x (.py (.list (ds ++ [d]))) ow)))
    (hd : (x == ("__debug__" : Str)) = false := by decide) (hc : (x == ("__classdict__" : Str)) = false := by decide)
    (hline : (p'.endLine == cp.line) = true := by rfl) (ht : ∀ env, backTo cp (starEach [e] env) = [(false, eval e env)] := by intro _; rfl) :
    Ex1 K lv n sc sh ow (.Expr (.Call (.Attribute (.Name x p) "append" p') [e] [] cp) pos) Q := Hide.mk fun {A env s X g E} S => by
  obtain ⟨fp, O⟩ := S.vars
  obtain ⟨v, o1, o2, o3, o4⟩ := O.own x _ hx
  refine wpAny_Expr_any (wpAny_Call_method1_late (by rfl) hline (ht env) (wpAny_Name (loadName_at S.henv o1 ?_ hc) hd)) (interactive_false S.henv) (by rfl)
  have o2' : Rd s.heap v (.list ds) (fp x) := o2
  generalize hfp : fp x = fx at o2' o3 o4
  cases o2' with
  | @list l vs c _ as hl rs =>
    refine ⟨"list", "list.append", F.plainAttrs_list, F.slot_list_append, F.type_list_append, ⟨_, hl, rfl⟩, fun a ha => by cases ha; exact ⟨_, hl, rfl⟩, PySem.P.append_list (wpAny_mono (h.run S.inAll) (fun w s₁ t => ?_) fun _ _ x => x)⟩
    obtain ⟨h₁, tk, bs, rfl, gt⟩ := t
    obtain ⟨nd, new⟩ := gt.new rfl
    have hl₁ := gt.ext _ _ hl
    refine ⟨vs.toArray, c, by rw [List.size_toArray, rs.length]; exact hsz, hl₁, ?_⟩
    have hs : Heap.SameBut l h₁ (h₁.update l (Obj.mapSeq fun xs => xs.push w)) := Heap.SameBut.update ..
    have eff := Eff.of_sameBut hs
    have nt : NoTup h₁ l := noTup_list hl₁
    obtain ⟨lnd, and⟩ := List.nodup_cons.mp o3
    have rdw : Rd h₁ w d bs := gt.rd
    have lb : l ∉ bs := fun q => by have := new l q; rw [hl] at this; cases this
    have hup : (h₁.update l (Obj.mapSeq fun xs => xs.push w)).get? l = some { cls := .type "list", data := .seq (vs ++ [w]).toArray (if ((vs ++ [w]).toArray).size == vs.toArray.size then c else c + 1) } := by
      simpa using IsL.update (n := c) hl₁ (fun xs => xs.push w)
    refine ⟨_, hq, _, tk, rfl, S.change O gt.ext (d' := .py (.list (ds ++ [d]))) (as := l :: (as ++ bs)) hx (a := l) (by rw [hfp]; exact .head _) eff nt (o1.ext gt.ext) ?_ ?_ ?_ ⟨_, hup⟩⟩
    · refine Rd.list hup ?_
      refine RdAll.append ((rs.ext gt.ext).off (eff.off (fun b hb q => lnd (q ▸ hb)) fun b q => q ▸ nt)) ?_
      have := RdAll.one (rdw.off (eff.off (fun b hb q => lb (q ▸ hb)) fun b q => q ▸ nt))
      exact this
    · refine List.nodup_cons.mpr ⟨fun q => ?_, nodup_append and nd fun b hb hb' => ?_⟩
      · rcases List.mem_append.mp q with q | q
        · exact lnd q
        · exact lb q
      · obtain ⟨o, ho⟩ := (rs : RdAll s.heap vs ds as).dom b hb
        have := new b hb'; rw [ho] at this; cases this
    · intro b hb
      rcases List.mem_cons.mp hb with rfl | hb
      · left; rw [hfp]; exact .head _
      · rcases List.mem_append.mp hb with hb | hb
        · left; rw [hfp]; exact .tail _ hb
        · right; exact new b hb
end
end Mine

namespace Mine

section
variable {K : Cx} {lv : Bool} {n : Nat} {sc : Scope} {X Y Z Z' : Addr → Prop} {g : Addr → Option Obj} {sh ow : List (Str × D)} {A : Around} {env : Env} {h h' : Heap} {fp : Str → List Addr} {x : Str} {d : D} {v : Value} {c : Addr}

end

section
variable {K : Cx} {lv : Bool} {n : Nat} {sc : Scope} {sh ow : List (Str × D)} {Q : Out → Prop} {x y : Str} {px py pos tp vp p1 p2 : Pos} {k k2 : Nat}

end
end Mine

namespace Mine

def iLL (R : List (List Int)) : PyData := .list (R.map iL)
theorem iLL_eq (R : List (List Int)) : iLL R = .list ((R.map (List.map PyData.int)).map .list) := by unfold iLL; rw [List.map_map]; rfl
theorem le_size {n : Nat} (h : n ≤ 63) : n ≤ sizeLine := by rw [sizeLine_eq]; omega

theorem Sub.del {l ow : List (Str × D)} {y : Str} (t : Sub l ow) (h : l.lookup y = none) : Sub l (del y ow) := fun x d hx => by
  have q : x ≠ y := fun q => by rw [q, h] at hx; cases hx
  rw [lookup_del, if_neg q]; exact t x d hx
theorem Ex.subs2 {K lv n sc sh ow} {l l2 : List (Str × D)} {ss : List Stmt} {Q : Out → Prop} (t : Sub l sh) (t2 : Sub l2 ow) (h : Ex K lv n sc l l2 ss Q) : Ex K lv n sc sh ow ss Q := h.sub t t2
section
variable {K : Cx} {n : Nat} {sc scope : Scope} {ρ : List (Str × D)} {a b iter : Expr} {p px pos cpos lp : Pos} {fa : Bool} {R : List (List Int)} {x : Str}

/-- `[list(row) for row in rows]` -/
theorem Cm.copy (B : BG K) (hit : EvIt K n sc ρ iter (R.map iL)) (hR : ∀ r ∈ R, r.length ≤ sizeLine) (hsz : R.length ≤ sizeLine) (hl : (relabelS scope sc).names.lookup ("list" : Str) = some .globalImplicit := by rfl) (hd : (x == ("__debug__" : Str)) = false := by decide) (hcd : (x == ("__classdict__" : Str)) = false := by decide)
    (So : scopeOk scope sc [x] = true := by decide) (hG : ∀ env v, foldedSetIterable iter env v = pure v := by intro _ _; rfl)
    (hc : ∀ env, eval (.Call (.Name "list" lp) [.Name x p] [] pos) env = (do callWith pos (← eval (.Name "list" lp) env) [] (backTo pos (starEach [.Name x p] env)) (backToKw pos (keywordEach [] env))) := by intro _; rfl) :
    Cm K n sc ρ (.Call (.Name "list" lp) [.Name x p] [] pos) [⟨.Name x px, iter, [], 0⟩] scope cpos (R.map iL) true :=
  Cm.cast (Cm.one R iL (fun _ => true) iL hit (fun r _ => TrAll.nil) (fun r hr _ => Ev.listIL B (Ev.name (by simp) hd hcd) (hR r hr) hl (fun _ => rfl) hc) hsz So hG) (by rw [List.filter_eq_self.mpr (by simp)])

theorem mg3_ints (R : List (List Int)) : mg3 PyData.eqv (R.map (List.map PyData.int)) = ((m3 R).1.map .int, (m3 R).2.1.map (List.map .int), (m3 R).2.2) := mg3_map (f := PyData.int) (ea := beq') (fun x y => by simp only [PyData.eqv, beq']; rfl) R

end

section
variable {K : Cx} {n : Nat} {sc : Scope} {ρ : List (Str × D)} {a b : Expr} {p pos : Pos} {fa fb : Bool} {xs : List Int} {j : Nat}
theorem Ev.itemIL (ha : Ev K n sc ρ a (.py (iL xs)) fa) (hb : Ev K n sc ρ b (.py (.int j)) fb) (hj : j < xs.length) (hsz : xs.length ≤ sizeLine)
    (hs : ∀ o j, subscripted b false o j = operate [o, j] (getItem o j) := by intro _ _; rfl) : Ev K n sc ρ (.Subscript a b pos) (.py (.int (xs.getD j 0))) false :=
  Ev.item (ds := xs.map .int) ha hb (Int.natCast_nonneg _) (by simp [hj, List.getD_eq_getElem?_getD]) (by simpa using hsz) hs
end

section
variable {K : Cx} {n : Nat} {P R : List (List Int)}
end
section
variable {K : Cx} {n : Nat} {sc : Scope} {ρ : List (Str × D)} {a b c : Expr} {p pos : Pos} {fa fb fc : Bool} {P R : List (List Int)} {k : Nat}
theorem Ev.iterLL (h : Ev K n sc ρ a (.py (iLL R)) fa) : EvIt K n sc ρ a (R.map iL) := Ev.iter h
theorem Ev.itemLL (ha : Ev K n sc ρ a (.py (iLL P)) fa) (hb : Ev K n sc ρ b (.py (.int k)) fb) (hk : k < P.length) (hsz : P.length ≤ sizeLine)
    (hs : ∀ o j, subscripted b false o j = operate [o, j] (getItem o j) := by intro _ _; rfl) : Ev K n sc ρ (.Subscript a b pos) (.py (iL (P.getD k []))) false :=
  Ev.item (ds := P.map iL) ha hb (Int.natCast_nonneg _) (by simp [hk, List.getD_eq_getElem?_getD]) (by simpa using hsz) hs
theorem Ev.lenLL (B : BG K) (ha : Ev K n sc ρ a (.py (iLL P)) fa) (hsz : P.length ≤ sizeLine) (hx : sc.names.lookup ("len" : Str) = some .globalImplicit := by rfl)
    (he : ∀ env, starEach [a] env = [(false, eval a env)] := by intro _; rfl)
    (hc : ∀ env, eval (.Call (.Name "len" p) [a] [] pos) env = (do callWith pos (← eval (.Name "len" p) env) [] (backTo pos (starEach [a] env)) (backToKw pos (keywordEach [] env))) := by intro _; rfl) :
    Ev K n sc ρ (.Call (.Name "len" p) [a] [] pos) (.py (.int P.length)) true :=
  Ev.cast (Ev.callB B.len (EvArgs.cons ha EvArgs.nil he) (CallOk.lenL (ds := P.map iL) (by simpa using hsz)) hx (by decide) he (fun _ => rfl) hc) (by simp)
end
end Mine

namespace Mine

theorem RdAll.setAt {h : Heap} : ∀ {vs : List Value} {ds : List PyData} {as : List Addr}, RdAll h vs ds as → as.Nodup → ∀ {i : Nat} {es : List PyData}, ds[i]? = some (.list es) →
    ∃ (b : Addr) (ws : List Value) (c : Nat) (asb : List Addr), vs[i]? = some (.ref b) ∧ h.get? b = some { cls := .type "list", data := .seq ws.toArray c } ∧ RdAll h ws es asb ∧ b ∈ as ∧ b ∉ asb ∧
      ∀ (h' : Heap) (ws' : List Value) (c' : Nat) (es' : List PyData), Eff (· = b) h h' → h'.get? b = some { cls := .type "list", data := .seq ws'.toArray c' } → RdAll h' ws' es' asb → RdAll h' vs (ds.set i (.list es')) as
  | _, _, _, .nil, _, i, es, e => by simp at e
  | _, _, _, .cons (v := v) (vs := vs) (d := d) (ds := ds) (as := a) (bs := bs) r rs, nd, 0, es, e => by
    obtain rfl : d = .list es := by simpa using e
    obtain ⟨n1, n2, n3⟩ := List.nodup_append.mp nd
    cases r with
    | @list b ws c _ asb hb rb =>
      refine ⟨b, ws, c, asb, rfl, hb, rb, by simp, (List.nodup_cons.mp n1).1, fun h' ws' c' es' ef hb' rb' => ?_⟩
      refine RdAll.cons (Rd.list hb' rb') (rs.off (ef.off (fun x hx q => n3 b (.head _) x hx q.symm) fun x q => q ▸ noTup_list hb))
  | _, _, _, .cons (v := v) (vs := vs) (d := d) (ds := ds) (as := a) (bs := bs) r rs, nd, i + 1, es, e => by
    obtain ⟨n1, n2, n3⟩ := List.nodup_append.mp nd
    obtain ⟨b, ws, c, asb, h1, h2, h3, h4, h5, h6⟩ := rs.setAt n2 (i := i) (es := es) (by simpa using e)
    refine ⟨b, ws, c, asb, by simpa using h1, h2, h3, List.mem_append_right _ h4, h5, fun h' ws' c' es' ef hb' rb' => ?_⟩
    exact RdAll.cons (r.off (ef.off (fun x hx q => n3 x hx b h4 q) fun x q => q ▸ noTup_list h2)) (h6 h' ws' c' es' ef hb' rb')

section
variable {K : Cx} {lv : Bool} {n : Nat} {sc : Scope} {sh ow : List (Str × D)} {Q : Out → Prop} {x : Str} {p p' sp pos cp : Pos} {e idx : Expr} {ds es : List PyData} {d : PyData} {fr fi : Bool} {i : Nat} {k : Int}

/-- `x[k].append(e)`, e without a list in it -/
theorem Ex1.itemAppend (hx : ow.lookup x = some (.py (.list ds))) (hk : Ev K n sc (ow ++ sh) idx (.py (.int k)) fi) (hi : (0 ≤ k ∧ k.toNat = i) ∨ (k < 0 ∧ -(ds.length : Int) ≤ k ∧ (k + ds.length).toNat = i)) (hsz0 : ds.length ≤ sizeLine) (hes : ds[i]? = some (.list es))
    (h : Ev K n sc (ow ++ sh) e (.py d) fr) (hfp : ∀ {h v as}, Rd h v d as → as = []) (hsz : es.length ≤ sizeLine) (hq : Q (.next sh (put x (.py (.list (ds.set i (.list (es ++ [d]))))) ow)))
    (hd : (x == ("__debug__" : Str)) = false := by decide) (hc : (x == ("__classdict__" : Str)) = false := by decide)
    (hsub : ∀ o j, subscripted idx false o j = operate [o, j] (getItem o j) := by intro _ _; rfl)
    (hline : (p'.endLine == cp.line) = true := by rfl) (ht : ∀ env, backTo cp (starEach [e] env) = [(false, eval e env)] := by intro _; rfl) :
    Ex1 K lv n sc sh ow (.Expr (.Call (.Attribute (.Subscript (.Name x p) idx sp) "append" p') [e] [] cp) pos) Q := Hide.mk fun {A env s X g E} S => by
  obtain ⟨fp, O⟩ := S.vars
  obtain ⟨v, o1, o2, o3, o4⟩ := O.own x _ hx
  refine wpAny_Expr_any (wpAny_Call_method1_late (by rfl) hline (ht env) (Subscript_ (wpAny_Name (loadName_at S.henv o1 ?_ hc) hd))) (interactive_false S.henv) (by rfl)
  refine wpAny_mono (hk.run S.inAll) (fun vk s₁ t => ?_) fun _ _ x => x
  obtain ⟨h₁, tk, as₀, rfl, g₁⟩ := t
  have rk : Rd h₁ vk (.int k) as₀ := g₁.rd
  cases rk with
  | int _ tk' =>
  have o2' : Rd h₁ v (.list ds) (fp x) := Rd.ext o2 g₁.ext
  generalize hfpx : fp x = fx at o2' o3 o4
  cases o2' with
  | @list l vs c _ as hl rs =>
    obtain ⟨lnd, and⟩ := List.nodup_cons.mp o3
    obtain ⟨b, ws, cb, asb, h1, h2, h3, h4, h5, h6⟩ := rs.setAt and hes
    have hlen : vs.length = ds.length := rs.length
    have hil : i < ds.length := (List.getElem?_eq_some_iff.mp hes).1
    have hl' : ({ s with heap := h₁, toks := tk } : Shared).heap.IsList l vs.toArray := ⟨_, hl, rfl, _, rfl⟩
    have hget : ∀ {Q' : Value → Shared → Prop}, Q' (.ref b) { s with heap := h₁, toks := tk } → wpAny (model K.prog K.w) A (getItem (.ref l) (.int k tk')) Q' E { s with heap := h₁, toks := tk } := fun {Q'} hq' => by
      rw [sizeLine_eq] at hsz0
      rcases hi with ⟨k0, rfl⟩ | ⟨k0, k1, rfl⟩
      · exact wpAny_getItem_list hl' k0 (by omega) (by simpa using h1) hq'
      · refine wpAny_getItem_list_neg hl' k0 (by simp only [List.size_toArray, hlen]; exact k1) (by omega) ?_ hq'
        simp only [List.size_toArray, hlen]; simpa using h1
    refine tail_any hl'.typeIs slot_list_getitem.lookup (hget ?_) (hsub _ _)
    refine ⟨"list", "list.append", F.plainAttrs_list, F.slot_list_append, F.type_list_append, ⟨_, h2, rfl⟩, fun a ha => by cases ha; exact ⟨_, h2, rfl⟩, PySem.P.append_list (wpAny_mono (h.run (s := { s with heap := h₁, toks := tk }) (S.inAll.ext g₁.ext)) (fun w s₂ t => ?_) fun _ _ x => x)⟩
    obtain ⟨h₃, tk₃, bs, rfl, g₃⟩ := t
    have rw₃ : Rd h₃ w d bs := g₃.rd
    obtain rfl := hfp rw₃
    have hb₃ := g₃.ext _ _ h2
    refine ⟨ws.toArray, cb, by rw [List.size_toArray, h3.length]; exact hsz, hb₃, ?_⟩
    have hs : Heap.SameBut b h₃ (h₃.update b (Obj.mapSeq fun xs => xs.push w)) := Heap.SameBut.update ..
    have eff := Eff.of_sameBut hs
    have nt : NoTup h₃ b := noTup_list hb₃
    have lb : l ≠ b := fun q => lnd (q ▸ h4)
    have hup : (h₃.update b (Obj.mapSeq fun xs => xs.push w)).get? b = some { cls := .type "list", data := .seq (ws ++ [w]).toArray (if ((ws ++ [w]).toArray).size == ws.toArray.size then cb else cb + 1) } := by
      simpa using IsL.update (n := cb) hb₃ (fun xs => xs.push w)
    have xe := g₁.ext.trans g₃.ext
    refine ⟨_, hq, _, tk₃, rfl, S.change O xe (d' := .py (.list (ds.set i (.list (es ++ [d]))))) (as := l :: as) hx (a := b) (by rw [hfpx]; exact .tail _ h4) eff nt (o1.ext xe) ?_ o3 (fun c hc => .inl (by rw [hfpx]; exact hc)) ⟨_, hup⟩⟩
    refine Rd.list ((hs.2 l lb).trans (g₃.ext _ _ hl)) ?_
    obtain ⟨b', ws', cb', asb', i1, i2, i3, i4, i5, i6⟩ := (rs.ext g₃.ext).setAt and hes
    obtain rfl : b = b' := by rw [h1] at i1; cases i1; rfl
    have : ws' = ws := by rw [hb₃] at i2; injection i2 with i2; injection i2 with _ _ i2; injection i2 with i2; simpa using i2.symm
    subst this
    refine i6 _ _ _ _ eff hup ?_
    have r1 := i3.off (eff.off (fun c hc q => i5 (q ▸ hc)) fun c q => q ▸ nt)
    have r2 := RdAll.one (rw₃.off (eff.off (as := []) nofun fun c q => q ▸ nt))
    simpa using r1.append r2
end
end Mine
namespace Mine
section
variable {K : Cx} {lv : Bool} {n : Nat} {sc : Scope} {sh ow : List (Str × D)} {Q : Out → Prop} {x : Str} {p p' pos cp : Pos} {e : Expr} {ds es : List PyData}

end
end Mine

namespace Mine

theorem entry_set_iter : entryFor table "set.__iter__" = some Builtin.«frozenset.__iter__» :=
  entryFor_alias (id' := "frozenset.__iter__") (by kernel_rfl) rfl (by decide +kernel) (by kernel_rfl)
theorem slot_setit_next : Slot "set_iterator" "__next__" "set_iterator.__next__" :=
  .of (owner := "set_iterator") (n := "__next__") (by rw [typeLookup_type, builtinLookup_eq_fast]; kernel_rfl) (by decide +kernel) (by decide +kernel) (by decide +kernel)
    (by first | exact .inl (by decide +kernel) | exact .inr (by decide +kernel)) (by rw [isSubtype_type]; kernel_rfl)
theorem entry_setit_next : entryFor table "set_iterator.__next__" = some Builtin.«set_iterator.__next__» := entryFor_of_tree (by kernel_rfl)
theorem args_setit_next (a : Value) : argsOk "set_iterator.__next__" ⟨[a], []⟩ := by unfold argsOk; kernel_rfl
theorem slot_setit_iter : Slot "set_iterator" "__iter__" "set_iterator.__iter__" :=
  .of (owner := "set_iterator") (n := "__iter__") (by rw [typeLookup_type, builtinLookup_eq_fast]; kernel_rfl) (by decide +kernel) (by decide +kernel) (by decide +kernel)
    (by first | exact .inl (by decide +kernel) | exact .inr (by decide +kernel)) (by rw [isSubtype_type]; kernel_rfl)
theorem entry_setit_iter : entryFor table "set_iterator.__iter__" = some Builtin.«dict_keyiterator.__iter__» :=
  entryFor_alias (id' := "dict_keyiterator.__iter__") (by kernel_rfl) rfl (by decide +kernel) (by kernel_rfl)
theorem args_setit_iter (a : Value) : argsOk "set_iterator.__iter__" ⟨[a], []⟩ := by unfold argsOk; kernel_rfl

/-- the set at one moment -/
structure SetAt (w : World) (h : Heap) (a : Addr) (es : Array (Int × Value)) (ep : Nat) (t : SetTable) : Prop where
  there : ∃ o, h.get? a = some o ∧ o.ExactSet ∧ o.data = .set es ep t
  fits : t.fits es.size = true
  tb : Tb t (!byText w) es.size
theorem SetAt.at {w : World} {h h' : Heap} {a es ep t} (x : SetAt w h a es ep t) (e : ∀ o, h.get? a = some o → h'.get? a = some o) : SetAt w h' a es ep t :=
  ⟨let ⟨o, ho, r⟩ := x.there; ⟨o, e o ho, r⟩, x.fits, x.tb⟩
theorem SetAt.typeIs {w : World} {s : Shared} {a es ep t} (x : SetAt w s.heap a es ep t) : s.TypeIs (.ref a) "set" := let ⟨o, ho, hx, _⟩ := x.there; ⟨o, ho, hx.1⟩
theorem SetAt.lt {w : World} {h : Heap} {a es ep t} (x : SetAt w h a es ep t) : a < h.objs.size := let ⟨_, ho, _⟩ := x.there; Heap.lt_size ho

/-- the order in which it is gone through -/
def ordOf (w : World) (a : Addr) (es : Array (Int × Value)) (ep : Nat) : Array (Int × Value) := if byText w then pickOrder (w.params.setOrder a ep) es else es
def placeAt (w : World) (t : SetTable) (i : Nat) : Nat := if byText w then 0 else if i = 0 then 0 else t.place.getD (i - 1) 0 + 1

theorem erase_perm {α : Type} : ∀ {l : List α} {i : Nat} (h : i < l.length), (l[i] :: l.eraseIdx i).Perm l
  | [], i, h => by simp at h
  | x :: l, 0, h => .rfl
  | x :: l, i + 1, h => by
    have ih := erase_perm (l := l) (i := i) (by simpa using h)
    simp only [List.getElem_cons_succ, List.eraseIdx_cons_succ]
    exact (List.Perm.swap ..).trans (List.Perm.cons x ih)
theorem pick_go {α : Type} (next : Nat → Nat) : ∀ (fuel k : Nat) (left : List α) (out : Array α), left.length = fuel → List.Perm (pickOrder.go next fuel k left out).toList (out.toList ++ left)
  | 0, k, left, out, h => by
    obtain rfl := List.eq_nil_of_length_eq_zero h
    unfold pickOrder.go; simp
  | fuel + 1, k, left, out, h => by
    have hlt : next k % left.length < left.length := Nat.mod_lt _ (by omega)
    unfold pickOrder.go
    rw [List.getElem?_eq_getElem hlt]
    dsimp only
    refine (pick_go next fuel (k + 1) _ _ (by rw [List.length_eraseIdx_of_lt hlt]; omega)).trans ?_
    rw [Array.toList_push, List.append_assoc]
    exact (List.Perm.append_left _ (erase_perm hlt))
theorem ordOf_perm (w : World) (a : Addr) (es : Array (Int × Value)) (ep : Nat) : List.Perm (ordOf w a es ep).toList es.toList := by
  unfold ordOf
  split
  · unfold pickOrder
    simpa using pick_go (w.params.setOrder a ep) es.size 0 es.toList #[] (by simp)
  · exact .rfl
theorem ordOf_size (w : World) (a : Addr) (es : Array (Int × Value)) (ep : Nat) : (ordOf w a es ep).size = es.size := by
  rw [← Array.length_toList, (ordOf_perm w a es ep).length_eq, Array.length_toList]

theorem below_at {xs : Array Nat} (hu : Up xs) {i : Nat} (hi : i ≤ xs.size) : SetTable.below xs (if i = 0 then 0 else xs.getD (i - 1) 0 + 1) = i := by
  refine Bel.uniq (below_ok hu) ⟨hi, fun k hk => ?_, fun k hk hks => ?_⟩
  · rw [if_neg (by omega)]
    by_cases q : k = i - 1
    · rw [q]; omega
    · have := hu k (i - 1) (by omega) (by omega); omega
  · by_cases q : i = 0
    · rw [if_pos q]; exact Nat.zero_le _
    · rw [if_neg q]
      have := hu (i - 1) k (by omega) hks; omega

section
variable {prog : Program} {w : World} {A : Around} {E : Value → Shared → Prop} {s : Shared} {a : Addr} {es : Array (Int × Value)} {ep : Nat} {t : SetTable}

theorem setNext_ok (S : SetAt w s.heap a es ep t) {i : Nat} (hi : i ≤ es.size) {Q : Option (Value × Nat) → Shared → Prop} (h : Q (((ordOf w a es ep)[i]?).map fun e => (e.2, placeAt w t (i + 1))) s) :
    wpAny (model prog w) A (setNext a (placeAt w t i) i ep) Q E s := by
  obtain ⟨o, ho, hx, hd⟩ := S.there
  unfold setNext
  refine wpAny_bind (wpAny_setState_of ho hd S.fits ?_)
  dsimp only
  unfold setsByText
  refine wpAny_bind (wpAny_bind (wpAny_askSetting (wpAny_pure ?_)))
  cases hb : byText w with
  | true =>
    have hb' : (⟨prog, w.params⟩ : Setting).params.followText "set-order" = true := hb
    rw [show (model prog w).prog = prog from rfl, show (model prog w).w.params = w.params from rfl, hb']
    simp only [if_true, bne_self_eq_false, Bool.false_eq_true, if_false]
    have hw : ∀ {Q' : Array (Int × Value) → Shared → Prop}, Q' (pickOrder (w.params.setOrder a ep) es) s → wpAny (model prog w) A (setWalk a) Q' E s := fun {Q'} hq => by
      unfold setWalk
      refine wpAny_bind (wpAny_setState_of ho hd S.fits ?_)
      dsimp only
      unfold setsByText
      refine wpAny_bind (wpAny_bind (wpAny_askSetting (wpAny_pure ?_)))
      rw [show (model prog w).prog = prog from rfl, show (model prog w).w.params = w.params from rfl, hb']
      simp only [if_true]
      exact wpAny_bind (wpAny_askSetting (wpAny_pure hq))
    have e1 : ordOf w a es ep = pickOrder (w.params.setOrder a ep) es := by unfold ordOf; rw [hb]; rfl
    have e2 : ∀ j, placeAt w t j = 0 := fun j => by unfold placeAt; rw [hb]; rfl
    rw [e2] at h ⊢
    rw [e1] at h
    first
      | exact wpAny_bind (hw (wpAny_pure h))
      | exact wpAny_bind (wpAny_pure (wpAny_bind (hw (wpAny_pure h))))
  | false =>
    have hb' : (⟨prog, w.params⟩ : Setting).params.followText "set-order" = false := hb
    rw [show (model prog w).prog = prog from rfl, show (model prog w).w.params = w.params from rfl, hb']
    simp only [Bool.false_eq_true, if_false]
    have hpl := S.tb.plain
    have hled : t.led = true := by rw [S.tb.led, hb]; rfl
    have e1 : ordOf w a es ep = es := by unfold ordOf; rw [hb]; rfl
    have e2 : ∀ j, placeAt w t j = if j = 0 then 0 else t.place.getD (j - 1) 0 + 1 := fun j => by unfold placeAt; rw [hb]; rfl
    refine wpAny_ite_split (fun q => absurd q ?_) (fun _ => ?_)
    · show ¬ ((!t.plain && decide (es.size > 1)) = true)
      rw [hpl]; simp
    refine wpAny_bind ?_
    show wpAny (model prog w) A (if (!t.led && !es.isEmpty) = true then unsupported "set:maker-not-led" else pure ()) _ _ s
    rw [if_neg (by rw [hled]; simp)]
    refine wpAny_pure ?_
    have hsz : t.place.size = es.size := S.tb.size
    have hbel : SetTable.below t.place (placeAt w t i) = i := by rw [e2]; exact below_at S.tb.up (by omega)
    simp only [hbel]
    rw [e1, e2] at h
    refine wpAny_pure ?_
    by_cases hlt : i < es.size
    · rw [Array.getElem?_eq_getElem hlt] at h ⊢
      rw [Array.getElem?_eq_getElem (show i < t.place.size by omega)]
      have e3 : t.place.getD (i + 1 - 1) 0 = t.place[i]'(by omega) := by rw [Nat.add_sub_cancel]; simp [Array.getD, show i < t.place.size by omega]
      rw [if_neg (by omega), e3] at h
      exact h
    · rw [Array.getElem?_eq_none (by omega)] at h ⊢
      rw [Array.getElem?_eq_none (show t.place.size ≤ i by omega)]
      exact h

def IsSetIter (h : Heap) (I a : Addr) (slot i n ep : Nat) : Prop := ∃ o, h.get? I = some o ∧ o.cls = .type "set_iterator" ∧ o.data = .fields #[.int slot 0, .int i 0, .ref a, .int n 0, .int ep 0]
theorem IsSetIter.at {h h' : Heap} {I a slot i n ep} (x : IsSetIter h I a slot i n ep) (e : ∀ o, h.get? I = some o → h'.get? I = some o) : IsSetIter h' I a slot i n ep := let ⟨o, ho, r⟩ := x; ⟨o, e o ho, r⟩
theorem IsSetIter.typeIs {I a : Addr} {slot i n ep : Nat} (x : IsSetIter s.heap I a slot i n ep) : s.TypeIs (.ref I) "set_iterator" := let ⟨o, ho, hc, _⟩ := x; ⟨o, ho, hc⟩

theorem pyIter_set (S : SetAt w s.heap a es ep t) {Q : Value → Shared → Prop}
    (hQ : Q (.ref s.heap.objs.size) { s with heap := s.heap.push { cls := .type "set_iterator", data := .fields #[.int 0 0, .int 0 0, .ref a, .int es.size 0, .int ep 0] } }) :
    wpAny (model prog w) A (pyIter (.ref a)) Q E s := by
  obtain ⟨o, ho, hx, hd⟩ := S.there
  refine wpAny_pyIter_slot S.typeIs F.slot_set_iter (wpAny_call_entry F.slot_set_iter S.typeIs entry_set_iter ?_ (F.args_set_iter_1 _))
  unfold Builtin.«frozenset.__iter__»
  refine wpAny_bind ?_
  show wpAny _ _ (pure a) _ _ s
  refine wpAny_pure ?_
  have hent : ∀ {Q' : Array (Int × Value) → Shared → Prop} {A' : Around}, Q' es s → wpAny (model prog w) A' (setEntries a) Q' E s := fun {Q' A'} hq => by
    unfold setEntries
    exact wpAny_bind (wpAny_setState_of ho hd S.fits (wpAny_pure hq))
  refine wpAny_bind ?_
  unfold Builtin.Frozenset.sizeOf
  refine wpAny_bind ?_
  unfold setEntries
  refine wpAny_bind (wpAny_setState_of ho hd S.fits (wpAny_pure (wpAny_pure ?_)))
  refine wpAny_bind ?_
  unfold setDrawn
  refine wpAny_bind (wpAny_setState_of ho hd S.fits ?_)
  dsimp only
  unfold setsByText
  refine wpAny_bind (wpAny_bind (wpAny_askSetting (wpAny_pure (wpAny_pure ?_))))
  refine wpAny_ite_split (fun q => absurd q ?_) (fun _ => ?_)
  · show ¬ ((!(w.params.followText "set-order") && (!t.plain && decide (es.size > 1))) = true)
    rw [S.tb.plain]; simp
  refine wpAny_bind (wpAny_pure ?_)
  refine wpAny_bind ?_
  unfold setEpoch
  refine wpAny_bind (wpAny_setState_of ho hd S.fits (wpAny_pure ?_))
  refine wpAny_bind (wpAny_newObj_type (wpAny_pure ⟨_, rfl, "set_iterator", _, ⟨_, Heap.get?_push_size _ rfl, rfl⟩, slot_setit_next.lookup, ?_⟩))
  simpa [rawInt] using hQ

theorem next_set_item {I : Addr} {i : Nat} (hit : IsSetIter s.heap I a (placeAt w t i) i es.size ep) (S : SetAt w s.heap a es ep t) (hne : a ≠ I) (hi : i < es.size) {Q : Option Value → Shared → Prop}
    (hQ : ∀ x k h', (ordOf w a es ep)[i]? = some (k, x) → IsSetIter h' I a (placeAt w t (i + 1)) (i + 1) es.size ep → Heap.SameBut I s.heap h' → Q (some x) { s with heap := h' }) :
    wpAny (model prog w) A (pyNext (.ref I)) Q E s := by
  obtain ⟨o, ho, hc, hd⟩ := id hit
  obtain ⟨oa, hoa, hxa, hda⟩ := S.there
  unfold pyNext
  refine wpAny_bind (wpAny_attempt (wpAny_callSpecial?_slot (name := Str.ofString "__next__") hit.typeIs slot_setit_next
    (wpAny_call_entry slot_setit_next hit.typeIs entry_setit_next ?_ (args_setit_next _))))
  unfold Builtin.«set_iterator.__next__»
  refine wpAny_bind (wpAny_pure ?_)
  refine wpAny_bind (wpAny_fieldsOf ho hd ?_)
  dsimp only
  unfold setEntries
  refine wpAny_bind (wpAny_bind (wpAny_setState_of hoa hda S.fits (wpAny_pure ?_)))
  rw [if_neg (by simp)]
  simp only [Int.toNat_natCast]
  obtain ⟨⟨k, x⟩, hx⟩ : ∃ p, (ordOf w a es ep)[i]? = some p := ⟨_, Array.getElem?_eq_getElem (show i < (ordOf w a es ep).size by rw [ordOf_size]; exact hi)⟩
  refine wpAny_bind (setNext_ok S (Nat.le_of_lt hi) ?_)
  rw [hx]
  show wpAny _ _ (setField (.ref I) 0 (rawInt (placeAt w t (i + 1) : Nat)) >>= _) _ _ s
  refine wpAny_bind (wpAny_setField ho hd (by simp) ?_)
  have ho1 := Heap.get?_update_self (Obj.mapFields (·.setIfInBounds 0 (rawInt (placeAt w t (i + 1) : Nat)))) ho (Obj.isFreed_of_fields (Obj.data_mapFields hd _))
  have hd1 := Obj.data_mapFields hd (·.setIfInBounds 0 (rawInt (placeAt w t (i + 1) : Nat)))
  refine wpAny_bind (wpAny_setField ho1 hd1 (by simp) ?_)
  have ho2 := Heap.get?_update_self (Obj.mapFields (·.setIfInBounds 1 (rawInt ((i : Int) + 1)))) ho1 (Obj.isFreed_of_fields (Obj.data_mapFields hd1 _))
  refine wpAny_pure ⟨_, rfl, wpAny_pure (hQ x k _ hx ⟨_, ho2, (Obj.cls_mapFields ..).trans ((Obj.cls_mapFields ..).trans hc), ?_⟩ ((Heap.SameBut.update ..).trans (Heap.SameBut.update ..)))⟩
  rw [Obj.data_mapFields hd1]
  simp [rawInt]

theorem next_set_end {I : Addr} (hh : A.handled = none) (hit : IsSetIter s.heap I a (placeAt w t es.size) es.size es.size ep) (S : SetAt w s.heap a es ep t) {Q : Option Value → Shared → Prop}
    (hQ : ∀ h', Heap.ExtBut I s.heap h' → Q none { s with heap := h' }) :
    wpAny (model prog w) A (pyNext (.ref I)) Q E s := by
  obtain ⟨o, ho, hc, hd⟩ := id hit
  obtain ⟨oa, hoa, hxa, hda⟩ := S.there
  unfold pyNext
  refine wpAny_bind (wpAny_attempt (wpAny_callSpecial?_slot (name := Str.ofString "__next__") hit.typeIs slot_setit_next
    (wpAny_call_entry slot_setit_next hit.typeIs entry_setit_next ?_ (args_setit_next _))))
  unfold Builtin.«set_iterator.__next__»
  refine wpAny_bind (wpAny_pure ?_)
  refine wpAny_bind (wpAny_fieldsOf ho hd ?_)
  dsimp only
  unfold setEntries
  refine wpAny_bind (wpAny_bind (wpAny_setState_of hoa hda S.fits (wpAny_pure ?_)))
  rw [if_neg (by simp)]
  simp only [Int.toNat_natCast]
  have hx : (ordOf w a es ep)[es.size]? = none := Array.getElem?_eq_none (by rw [ordOf_size]; exact Nat.le_refl _)
  refine wpAny_bind (setNext_ok S (Nat.le_refl _) ?_)
  rw [hx]
  show wpAny _ _ (setField (.ref I) 2 .none >>= _) _ _ s
  refine wpAny_bind (wpAny_setField ho hd (by simp) ?_)
  show wpAny _ _ (newExc (.type "StopIteration") [] >>= _) _ _ _
  refine wpAny_bind ?_
  simp only [newExc, newTuple]
  refine wpAny_bind (wpAny_newObj_type ?_ (by size_fits))
  refine wpAny_bind (m := firstArgMember _ _) (wpAny_of_eq (a := Value.none) (by first | rfl | (simp only [firstArgMember]; rfl)) ?_)
  refine wpAny_newObj_type ?_ (by size_fits)
  simp only [raiseNew]
  refine wpAny_bind (wpAny_handled ?_)
  rw [show A.in1.handled = none from hh]
  refine wpAny_bind (wpAny_pure (wpAny_throw ?_))
  refine wpAny_bind (wpAny_isInstance (T := "StopIteration") (b := true) ⟨_, Heap.get?_push_size _ rfl, rfl⟩ isSubtype_stop ?_)
  exact wpAny_pure (hQ _ (((Heap.SameBut.update ..).extBut.push _).push _))

theorem pyIter_setit {I : Addr} {slot i n : Nat} {Q : Value → Shared → Prop} (hit : IsSetIter s.heap I a slot i n ep) (h : Q (.ref I) s) : wpAny (model prog w) A (pyIter (.ref I)) Q E s := by
  refine wpAny_pyIter_slot hit.typeIs slot_setit_iter (wpAny_call_entry slot_setit_iter hit.typeIs entry_setit_iter ?_ (args_setit_iter _))
  show wpAny _ _ (ret (.ref I)) _ _ s
  exact wpAny_pure ⟨_, rfl, "set_iterator", _, hit.typeIs, slot_setit_next.lookup, h⟩

theorem walksSet (hh : A.handled = none) (I a : Addr) (hne : a ≠ I) (es : Array (Int × Value)) (ep : Nat) (t : SetTable) :
    Walks prog w A I [I, a] [I] es.size (fun i v => ∃ k, (ordOf w a es ep)[i]? = some (k, v)) (fun i h => IsSetIter h I a (placeAt w t i) i es.size ep ∧ SetAt w h a es ep t) where
  sub := fun b hb => by simp at hb; simp [hb]
  frame := fun _ _ _ st hk => ⟨st.1.at fun o e => hk I (by simp) o e, st.2.at fun o e => hk a (by simp) o e⟩
  item := fun i s Q E hi st hQ => next_set_item st.1 st.2 hne hi fun x k h' hx hit' hs' =>
    hQ x h' s.toks ⟨k, hx⟩ ⟨hit', st.2.at fun o e => (hs'.2 a hne).trans e⟩ fun b o hb e => hs'.extBut b o (fun h => hb (by simp [h])) e
  done := fun s Q E st hQ => next_set_end hh st.1 st.2 fun h' he' => hQ h' s.toks fun b o hb e => he' b o (fun h => hb (by simp [h])) e
  self := fun _ _ _ _ st hQ => pyIter_setit st.1 hQ
end

section
variable {prog : Program} {w : World} {A : Around} {E : Value → Shared → Prop} {s : Shared} {r : Addr} {Q : Bool → Shared → Prop}
theorem hint_set (hT : s.TypeIs (.ref r) "set") (h : Q false s) : wpAny (model prog w) A (Builtin.List.listLengthHint (.ref r)) Q E s := by
  unfold Builtin.List.listLengthHint
  refine wpAny_bind (wpAny_specialOf hT PySem.F.slot_set_len.lookup ?_)
  generalize hid : ("set.__len__" : String) = id0
  wp_delta
  rw [show splitId id0 = some ("set", "__len__") from by subst hid; decide +kernel]
  subst hid
  refine wpAny_bind (wpAny_isInstance (T := "set") (b := true) hT (by rw [isSubtype_type]; kernel_rfl) ?_)
  refine wpAny_ite_split (fun hab => absurd hab (by decide)) (fun _ => ?_)
  refine wpAny_ite_split (fun _ => ?_) (fun hab => absurd (by decide +kernel) hab)
  refine wpAny_bind (wpAny_typeOf hT ?_)
  exact wpAny_pure h
end
theorem placeAt_zero (w : World) (t : SetTable) : placeAt w t 0 = 0 := by unfold placeAt; split <;> rfl
theorem srcSet {prog : Program} {w : World} {a : Addr} {es : Array (Int × Value)} {ep : Nat} {t : SetTable} : KdlSrc prog w "set" a a es.size (fun i v => ∃ k, (ordOf w a es ep)[i]? = some (k, v)) (fun h => SetAt w h a es ep t) where
  type := fun _ hm => hm.typeIs
  there := fun _ hm => ⟨hm.lt, hm.lt⟩
  keep := fun _ _ hm hk => hm.at fun o e => hk a (.inl rfl) o e
  notList := by decide
  notTuple := by decide
  hint := fun _ _ _ _ hm hq => hint_set hm.typeIs hq
  iter := fun _ _ hh hm => ⟨_, _, (fun _ _ hq => pyIter_set hm hq), walksSet hh _ a (Nat.ne_of_lt hm.lt) es ep t, ⟨⟨_, Heap.get?_push_size _ rfl, rfl, by rw [placeAt_zero]; rfl⟩, hm.at fun o e => Heap.get?_push_of_some _ e⟩⟩
end Mine

namespace Mine

def srt (xs : List Int) : List Int := xs.mergeSort fun a b => decide (a ≤ b)
theorem srt_perm (xs : List Int) : (srt xs).Perm xs := List.mergeSort_perm ..
theorem srt_sorted (xs : List Int) : (srt xs).Pairwise (· ≤ ·) := by
  have := List.pairwise_mergeSort (le := fun a b : Int => decide (a ≤ b)) (fun a b c h1 h2 => by simp at *; omega) (fun a b => by simp; omega) xs
  exact this.imp fun h => by simpa using h
theorem srt_eq {xs ys : List Int} (hp : ys.Perm xs) (hs : ys.Pairwise (· ≤ ·)) : ys = srt xs :=
  List.Perm.eq_of_pairwise (le := (· ≤ ·)) (fun a b _ _ h1 h2 => by omega) hs (srt_sorted xs) (hp.trans (srt_perm xs).symm)
theorem srt_length (xs : List Int) : (srt xs).length = xs.length := (srt_perm xs).length_eq
theorem mem_srt {xs : List Int} {x : Int} : x ∈ srt xs ↔ x ∈ xs := (srt_perm xs).mem_iff

theorem perm_of_sub : ∀ {xs ns : List Int}, xs.Nodup → (∀ x ∈ xs, x ∈ ns) → ns.length = xs.length → ns.Perm xs
  | [], ns, _, _, hl => by rw [List.eq_nil_of_length_eq_zero hl]
  | x :: xs, ns, nd, h, hl => by
    obtain ⟨hx, nd⟩ := List.nodup_cons.mp nd
    have hm := h x (.head _)
    have hp := List.perm_cons_erase hm
    refine hp.trans (List.Perm.cons x (perm_of_sub nd (fun y hy => ?_) ?_))
    · have hne : y ≠ x := fun q => hx (q ▸ hy)
      exact (List.mem_erase_of_ne hne).mpr (h y (.tail _ hy))
    · rw [List.length_erase_of_mem hm, hl]; simp

theorem intsAre_of {es : List Value} (h : ∀ v ∈ es, ∃ k t, v = .int k t) : ∃ ns, IntsAre es ns := by
  induction es with
  | nil => exact ⟨[], .nil⟩
  | cons v es ih =>
    obtain ⟨ns, hn⟩ := ih fun u hu => h u (.tail _ hu)
    obtain ⟨k, t, rfl⟩ := h v (.head _)
    exact ⟨k :: ns, .cons k t hn⟩
theorem IntsAre.mem {es : List Value} {ns : List Int} (h : IntsAre es ns) {k : Int} {t : Tok} (hm : .int k t ∈ es) : k ∈ ns := by
  induction h with
  | nil => cases hm
  | cons n t' _ ih =>
    rcases List.mem_cons.mp hm with e | hm
    · cases e; exact .head _
    · exact .tail _ (ih hm)
theorem IntsAre.len {es : List Value} {ns : List Int} (h : IntsAre es ns) : es.length = ns.length := by
  induction h with
  | nil => rfl
  | cons _ _ _ ih => simp [ih]

section
variable {K : Cx} {n : Nat} {xs : List Int}

/-- a list of ints, new at a, is sorted in place -/
theorem sort_new {A : Around} {E : Value → Shared → Prop} {s : Shared} {h₁ : Heap} {tk : Nat} {X : Addr → Prop} {vs : List Value} {ns : List Int} {Q : Value → Shared → Prop} (hx : Ext s.heap h₁) (hI : IntsAre vs ns) (h64 : vs.length < 64) (hX : ∀ a, X a → ∃ o, s.heap.get? a = some o)
    (h : ∀ s', Post K s X (.py (iL (srt ns))) true (.ref h₁.objs.size) s' → Q (.ref h₁.objs.size) s') :
    wpAny (model K.prog K.w) A (call (.builtin "list.sort") [.ref h₁.objs.size]) (fun _ s' => Q (.ref h₁.objs.size) s') E { s with heap := h₁.push (seqObj "list" vs.toArray 0), toks := tk } := by
  have ho : (h₁.push (seqObj "list" vs.toArray 0)).get? h₁.objs.size = some (seqObj "list" vs.toArray 0) := Heap.get?_push_size _ rfl
  refine wpAny_call_entry slot_list_sort ⟨_, ho, rfl⟩ entry_list_sort (list_sort_tree (s := { s with heap := h₁.push (seqObj "list" vs.toArray 0), toks := tk }) ho hI h64 fun out ns' a1 a2 a3 => ⟨_, rfl, h _ ?_⟩) (args_list_sort _)
  obtain rfl : ns' = srt ns := srt_eq a2 a3
  obtain ⟨e, he⟩ := sortedHeap_at (out := out) (vs := vs) ho
  have hn : s.heap.get? h₁.objs.size = none := hx.none (push_new _)
  refine ⟨_, tk, [h₁.objs.size], rfl, fun b o hb => ?_, ?_, fun b hb q => ?_, fun _ => ⟨by simp, fun b hb => by rw [List.mem_singleton.mp hb]; exact hn⟩⟩
  · have hb1 := hx b o hb
    have hlt := Heap.lt_size hb1
    show (sortedHeap (h₁.push (seqObj "list" vs.toArray 0)) h₁.objs.size vs out).get? b = some o
    rw [sortedHeap_old (Nat.ne_of_lt hlt) (by rw [size_push']; exact Nat.lt_succ_of_lt hlt)]
    exact Heap.get?_push_of_some _ hb1
  · show Rd (sortedHeap (h₁.push (seqObj "list" vs.toArray 0)) h₁.objs.size vs out) _ (.list ((srt ns).map .int)) _
    refine Rd.list (vs := out.toList) (n := e) (by simpa using he) (rdAll_of_ints a1)
  · rw [List.mem_singleton.mp hb] at q
    obtain ⟨o, ho'⟩ := hX _ q; rw [hn] at ho'; cases ho'

theorem CallOk.sortedS (hsz : xs.length ≤ 63) : CallOk K n (.builtin "sorted") [.set xs] (.py (iL (srt xs))) true := Hide.mk fun {A s X E vs as} ro ok rd hX _ => by
  cases rd with
  | cons r rs =>
    cases rs
    obtain ⟨a, rfl, rfl, nd, o, es, ep, t, ho, hex, hd, hel, hmem, hb, hf, hn, htb⟩ := r
    have S : SetAt K.w s.heap a es ep t := ⟨⟨o, ho, hex, hd⟩, hf, by rw [hn]; exact htb⟩
    refine Calls.call_function_entry kind_sorted plain_sorted entry_sorted (args_sorted1 _) ?_
    unfold Builtin.«sorted»
    refine wpAny_bind (m := checkCount "sorted" 1 1 _) (wpAny_pure ?_)
    refine wpAny_bind (kdu_collect (A := A.in1) (srcSet (t := t)) (by simpa using ro.quiet) S (by rw [sizeLine_eq, hn]; omega) fun h' tk acc hk hacc => ?_)
    have hvs : acc.toList = (ordOf K.w a es ep).toList.map (·.2) := by
      apply List.ext_getElem?
      intro i
      by_cases hi : i < es.size
      · have h1 : i < acc.size := by rw [hacc.1]; exact hi
        obtain ⟨k, hk'⟩ := hacc.2 i acc[i] (Array.getElem?_eq_getElem h1)
        rw [Array.getElem?_toList, Array.getElem?_eq_getElem h1, List.getElem?_map, Array.getElem?_toList, hk']; rfl
      · rw [List.getElem?_eq_none (by rw [Array.length_toList, hacc.1]; omega), List.getElem?_eq_none (by rw [List.length_map, Array.length_toList, ordOf_size]; omega)]
    have hperm := ordOf_perm K.w a es ep
    obtain ⟨ns, hns⟩ := intsAre_of (es := acc.toList) fun v hv => by
      rw [hvs] at hv
      obtain ⟨e, he, rfl⟩ := List.mem_map.mp hv
      obtain ⟨⟨k, hk', _⟩, _⟩ := hel e (hperm.mem_iff.mp he)
      obtain ⟨t, ht⟩ := Value.isInt_shape hk'
      exact ⟨k, t, ht⟩
    have hlen : acc.toList.length = xs.length := by rw [Array.length_toList, hacc.1, hn]
    have hp : ns.Perm xs := perm_of_sub nd (fun x hx => by
      obtain ⟨e, he, hi⟩ := (hmem x).mp (by simpa using hx)
      obtain ⟨t', ht'⟩ := Value.isInt_shape hi
      refine IntsAre.mem hns (k := x) (t := t') ?_
      rw [hvs]
      exact List.mem_map.mpr ⟨e, hperm.mem_iff.mpr he, ht'⟩) (by rw [← IntsAre.len hns, hlen])
    refine wpAny_bind (wpAny_newList ?_ (by rw [hlen, sizeLine_eq]; omega))
    refine wpAny_bind (wpAny_holding ?_)
    have := sort_new (K := K) (A := A.in1) (E := E) (s := s) (h₁ := h') (tk := tk) (X := X) (vs := acc.toList) (ns := ns) (Q := fun v s' => wpAny (model K.prog K.w) A.in1 (ret v) (fun fin s' => ∃ v, fin = .done (.ret v) ∧ Post K s X (.py (iL (srt xs))) true v s') E s') hk hns (by omega) hX (fun s' p => wpAny_pure ⟨_, rfl, by
      have : srt ns = srt xs := srt_eq ((srt_perm ns).trans hp) (srt_sorted ns)
      rw [← this]; exact p⟩)
    exact this
end
end Mine

namespace Mine

section
variable {K : Cx} {n : Nat} {sc : Scope} {ρ : List (Str × D)} {a b : Expr} {pos p : Pos} {fa fb fr : Bool} {bs : List Bool} {xs : List Int} {R : List (List Int)}

theorem Ev.sortedS (B : BG K) (ha : Ev K n sc ρ a (.set xs) fa) (hsz : xs.length ≤ 63) (hx : sc.names.lookup ("sorted" : Str) = some .globalImplicit := by rfl)
    (he : ∀ env, starEach [a] env = [(false, eval a env)] := by intro _; rfl)
    (hc : ∀ env, eval (.Call (.Name "sorted" p) [a] [] pos) env = (do callWith pos (← eval (.Name "sorted" p) env) [] (backTo pos (starEach [a] env)) (backToKw pos (keywordEach [] env))) := by intro _; rfl) :
    Ev K n sc ρ (.Call (.Name "sorted" p) [a] [] pos) (.py (iL (srt xs))) true := Ev.callB B.sorted (EvArgs.cons ha EvArgs.nil he) (CallOk.sortedS hsz) hx (by decide) he (fun _ => rfl) hc
theorem Ev.setIL (B : BG K) (ha : Ev K n sc ρ a (.py (iL xs)) fa) (hsz : (dedup xs).length ≤ 63) (hx : sc.names.lookup ("set" : Str) = some .globalImplicit := by rfl)
    (he : ∀ env, starEach [a] env = [(false, eval a env)] := by intro _; rfl)
    (hc : ∀ env, eval (.Call (.Name "set" p) [a] [] pos) env = (do callWith pos (← eval (.Name "set" p) env) [] (backTo pos (starEach [a] env)) (backToKw pos (keywordEach [] env))) := by intro _; rfl) :
    Ev K n sc ρ (.Call (.Name "set" p) [a] [] pos) (.set (dedup xs)) true := Ev.callT B.set (EvArgs.cons ha EvArgs.nil he) (CallOk.set hsz) hx (by decide) he (fun _ => rfl) hc

variable {iter : Expr} {scope : Scope} {x y : Str} {px py cpos : Pos}
end
end Mine

namespace Mine

section
variable {prog : Program} {w : World} {A : Around} {E : Value → Shared → Prop} {s : Shared}
end

section
variable {K : Cx} {lv : Bool} {n : Nat} {sc : Scope} {sh ow : List (Str × D)} {Q : Out → Prop} {x : Str} {p p' pos cp : Pos} {e : Expr} {xs : List Int} {i : Int} {fr : Bool}
end
end Mine

namespace Mine

/-! ### `_law_rows`: rows that rise -/
def lastRow (R : List (List Int)) : List Int := R.getD (R.length - 1) []
def addLast (R : List (List Int)) (v : Int) : List (List Int) := R.set (R.length - 1) (lastRow R ++ [v])
def opens (R : List (List Int)) (x : Int) : Bool := (x % 2 == 1) || (!(lastRow R == []) && decide (x / 2 ≤ (lastRow R).getLastD 0))
def rise (R : List (List Int)) (x : Int) : List (List Int) := addLast (if opens R x then R ++ [[]] else R) (x / 2)
theorem lastRow_concat (R : List (List Int)) (r : List Int) : lastRow (R ++ [r]) = r := by
  unfold lastRow; simp [List.getD_eq_getElem?_getD]
theorem addLast_concat (R : List (List Int)) (r : List Int) (v : Int) : addLast (R ++ [r]) v = R ++ [r ++ [v]] := by
  unfold addLast; rw [lastRow_concat]
  simp
theorem rows_snoc {R : List (List Int)} (h : R ≠ []) : ∃ R' r, R = R' ++ [r] := ⟨R.dropLast, R.getLast h, (List.dropLast_concat_getLast h).symm⟩

section
variable {K : Cx} {n : Nat} {xs : List Int} {sh ow : List (Str × D)} {Q : Out → Prop}
end
end Mine

namespace Mine

/-! ### the merge by what it has told so far -/
section
variable {α : Type} [DecidableEq α] {R : List (List α)} {c : α} {p : List α}
def rem (p : List α) (R : List (List α)) : List (List α) := R.map fun r => r.filter fun x => decide (x ∉ p)
/-- y waits for one that is not told yet -/
def Blk (p : List α) (R : List (List α)) (y : α) : Prop := ∃ r ∈ R, ∃ z, z ∉ p ∧ [z, y].Sublist r

theorem mem_tail_iff {y : α} : ∀ {l : List α}, y ∈ l.tail ↔ ∃ z, [z, y].Sublist l
  | [] => by simp
  | x :: t => by
    constructor
    · intro h; exact ⟨x, (List.singleton_sublist.mpr h).cons_cons x⟩
    · rintro ⟨z, h⟩
      cases h with
      | cons _ h => exact h.mem (by simp)
      | cons_cons _ h => exact h.mem (by simp)
theorem pair_filter {z y : α} {P : α → Bool} {r : List α} : [z, y].Sublist (r.filter P) ↔ [z, y].Sublist r ∧ P z = true ∧ P y = true := by
  constructor
  · intro h
    exact ⟨h.trans List.filter_sublist, (List.mem_filter.mp (h.mem (by simp))).2, (List.mem_filter.mp (h.mem (by simp))).2⟩
  · rintro ⟨h, h1, h2⟩
    have := h.filter P
    simpa [h1, h2] using this
theorem tail_rem {r : List α} {y : α} : y ∈ (r.filter fun x => decide (x ∉ p)).tail ↔ y ∉ p ∧ ∃ z, z ∉ p ∧ [z, y].Sublist r := by
  rw [mem_tail_iff]
  constructor
  · rintro ⟨z, h⟩
    obtain ⟨h0, h1, h2⟩ := pair_filter.mp h
    exact ⟨of_decide_eq_true h2, z, of_decide_eq_true h1, h0⟩
  · rintro ⟨h2, z, h1, h0⟩
    exact ⟨z, pair_filter.mpr ⟨h0, decide_eq_true h1, decide_eq_true h2⟩⟩
theorem rem_tail {y : α} (hy : y ∉ p) : (∃ r ∈ rem p R, y ∈ r.tail) ↔ Blk p R y := by
  constructor
  · rintro ⟨r', hr', h⟩
    obtain ⟨r, hr, rfl⟩ := List.mem_map.mp hr'
    obtain ⟨_, z, hz⟩ := tail_rem.mp h
    exact ⟨r, hr, z, hz⟩
  · rintro ⟨r, hr, z, hz⟩
    exact ⟨_, List.mem_map_of_mem hr, tail_rem.mpr ⟨hy, z, hz⟩⟩

theorem cand_idx : ∀ {R S : List (List α)} {i : Nat} {x : α} {t : List α}, R[i]? = some (x :: t) → okHead beq' S x = true → (∀ (j : Nat) (y : α) (u : List α), j < i → R[j]? = some (y :: u) → okHead beq' S y = false) →
    (R.findSome? fun r => match r with | [] => none | x :: _ => if okHead beq' S x then some x else none) = some x
  | [], S, i, x, t, h, _, _ => by simp at h
  | r :: R, S, 0, x, t, h, ho, _ => by
    simp at h; subst h
    simp [List.findSome?_cons, ho]
  | r :: R, S, i + 1, x, t, h, ho, hb => by
    have ih := cand_idx (R := R) (S := S) (i := i) (x := x) (t := t) (by simpa using h) ho fun j y u hj hy => hb (j + 1) y u (by omega) (by simpa using hy)
    rw [List.findSome?_cons]
    cases r with
    | nil => exact ih
    | cons y u =>
      have := hb 0 y u (by omega) rfl
      simp only [this]; exact ih
theorem cand_inv : ∀ {R S : List (List α)} {x : α}, (R.findSome? fun r => match r with | [] => none | x :: _ => if okHead beq' S x then some x else none) = some x →
    ∃ (i : Nat) (t : List α), R[i]? = some (x :: t) ∧ okHead beq' S x = true ∧ ∀ (j : Nat) (y : α) (u : List α), j < i → R[j]? = some (y :: u) → okHead beq' S y = false
  | [], S, x, h => by simp at h
  | r :: R, S, x, h => by
    rw [List.findSome?_cons] at h
    have rec' : (R.findSome? fun r => match r with | [] => none | x :: _ => if okHead beq' S x then some x else none) = some x → (∀ y u, r = y :: u → okHead beq' S y = false) →
        ∃ (i : Nat) (t : List α), (r :: R)[i]? = some (x :: t) ∧ okHead beq' S x = true ∧ ∀ (j : Nat) (y : α) (u : List α), j < i → (r :: R)[j]? = some (y :: u) → okHead beq' S y = false := fun h h0 => by
      obtain ⟨i, t, h1, h2, h3⟩ := cand_inv h
      refine ⟨i + 1, t, by simpa using h1, h2, fun j y u hj hy => ?_⟩
      cases j with
      | zero => exact h0 y u (by simpa using hy)
      | succ j => exact h3 j y u (by omega) (by simpa using hy)
    cases r with
    | nil => exact rec' h nofun
    | cons y u =>
      by_cases q : okHead beq' S y = true
      · simp only [q, if_true] at h
        cases h
        exact ⟨0, u, rfl, q, fun j _ _ hj => absurd hj (by omega)⟩
      · simp only [q, if_false] at h
        exact rec' h fun y' u' e => by cases e; simpa using q

theorem okHead_rem {y : α} (hy : y ∉ p) : okHead beq' (rem p R) y = true ↔ ¬ Blk p R y := by
  rw [okHead_iff, ← rem_tail hy]
  exact ⟨fun h ⟨r, hr, h'⟩ => h r hr h', fun h r hr h' => h ⟨r, hr, h'⟩⟩
theorem okHead_rem' {y : α} (hy : y ∉ p) : okHead beq' (rem p R) y = false ↔ Blk p R y := by
  rw [← Bool.not_eq_true, okHead_rem hy]; exact ⟨fun h => Classical.byContradiction h, fun h q => q h⟩

theorem rem_get {i : Nat} {r : List α} (h : R[i]? = some r) : (rem p R)[i]? = some (r.filter fun x => decide (x ∉ p)) := by
  unfold rem; rw [List.getElem?_map, h]; rfl
theorem rem_get' {i : Nat} {r' : List α} (h : (rem p R)[i]? = some r') : ∃ r, R[i]? = some r ∧ r' = r.filter fun x => decide (x ∉ p) := by
  unfold rem at h; rw [List.getElem?_map] at h
  cases q : R[i]? with
  | none => rw [q] at h; cases h
  | some r => rw [q] at h; exact ⟨r, rfl, by simpa using h.symm⟩

theorem snocInd {β : Type} {motive : List β → Prop} (nil : motive []) (snoc : ∀ p c, motive p → motive (p ++ [c])) (l : List β) : motive l := by
  have : ∀ l : List β, motive l.reverse := fun l => by
    induction l with
    | nil => exact nil
    | cons x l ih => rw [List.reverse_cons]; exact snoc _ _ ih
  have h := this l.reverse
  rwa [List.reverse_reverse] at h

/-- the next one: not told, waiting for none, in a row ahead of which every one waits -/
def Next (p : List α) (R : List (List α)) (c : α) : Prop :=
  ∃ (i : Nat) (r : List α), R[i]? = some r ∧ c ∈ r ∧ c ∉ p ∧ ¬ Blk p R c ∧ ∀ (j : Nat) (r' : List α), j < i → R[j]? = some r' → ∀ y ∈ r', y ∉ p → Blk p R y

theorem cand_rem : cand beq' (rem p R) = some c ↔ Next p R c := by
  constructor
  · intro h
    obtain ⟨i, t, h1, h2, h3⟩ := cand_inv (R := rem p R) (S := rem p R) h
    obtain ⟨r, hr, e⟩ := rem_get' h1
    have hc : c ∈ r.filter fun x => decide (x ∉ p) := by rw [← e]; exact .head _
    have hcp : c ∉ p := of_decide_eq_true (List.mem_filter.mp hc).2
    refine ⟨i, r, hr, (List.mem_filter.mp hc).1, hcp, (okHead_rem hcp).mp h2, fun j r' hj hr' y hy hyp => ?_⟩
    have hm : y ∈ r'.filter fun x => decide (x ∉ p) := List.mem_filter.mpr ⟨hy, decide_eq_true hyp⟩
    cases q : r'.filter fun x => decide (x ∉ p) with
    | nil => rw [q] at hm; cases hm
    | cons y0 u =>
      rw [q] at hm
      rcases List.mem_cons.mp hm with rfl | hm
      · exact (okHead_rem' hyp).mp (h3 j y u hj (by rw [rem_get hr', q]))
      · exact (rem_tail hyp).mp ⟨_, List.mem_of_getElem? (rem_get hr'), by rw [q]; exact hm⟩
  · rintro ⟨i, r, hr, hc, hcp, hb, hall⟩
    have hm : c ∈ r.filter fun x => decide (x ∉ p) := List.mem_filter.mpr ⟨hc, decide_eq_true hcp⟩
    cases q : r.filter fun x => decide (x ∉ p) with
    | nil => rw [q] at hm; cases hm
    | cons y0 u =>
      rw [q] at hm
      rcases List.mem_cons.mp hm with rfl | hm
      · refine cand_idx (R := rem p R) (S := rem p R) (i := i) (x := c) (t := u) (by rw [rem_get hr, q]) ((okHead_rem hcp).mpr hb) fun j y v hj hy => ?_
        obtain ⟨r', hr', e⟩ := rem_get' hy
        have hm' : y ∈ r'.filter fun x => decide (x ∉ p) := by rw [← e]; exact .head _
        have hyp : y ∉ p := of_decide_eq_true (List.mem_filter.mp hm').2
        exact (okHead_rem' hyp).mpr (hall j r' hj hr' y (List.mem_filter.mp hm').1 hyp)
      · exact absurd ((rem_tail hcp).mp ⟨_, List.mem_of_getElem? (rem_get hr), by rw [q]; exact hm⟩) hb

theorem strike_filter {r : List α} (h : c ∉ r.tail) : strike1 beq' c r = r.filter fun x => decide (x ≠ c) := by
  cases r with
  | nil => rfl
  | cons x t =>
    have ht : (t.filter fun x => decide (x ≠ c)) = t := List.filter_eq_self.mpr fun y hy => decide_eq_true fun q => h (q ▸ hy)
    rw [strike_cons, List.filter_cons]
    by_cases q : x = c
    · rw [if_pos q, if_neg (by simpa using q), ht]
    · rw [if_neg q, if_pos (by simpa using q), ht]
theorem rem_nil (R : List (List α)) : rem [] R = R := by
  unfold rem
  have : ∀ r : List α, (r.filter fun x => decide (x ∉ ([] : List α))) = r := fun r => List.filter_eq_self.mpr (by simp)
  simp only [this]; exact List.map_id _
theorem rem_rem (p q : List α) (R : List (List α)) : rem q (rem p R) = rem (p ++ q) R := by
  unfold rem
  rw [List.map_map]
  refine List.map_congr_left fun r _ => ?_
  show (r.filter _).filter _ = _
  rw [List.filter_filter]
  refine List.filter_congr fun x _ => ?_
  simp [Bool.and_comm]
theorem rem_strike (h : ∀ r ∈ rem p R, c ∉ r.tail) : (rem p R).map (strike1 beq' c) = rem (p ++ [c]) R := by
  rw [← rem_rem]
  refine List.map_congr_left fun r hr => ?_
  rw [strike_filter (h r hr)]
  refine List.filter_congr fun x _ => ?_
  simp

/-- p is what is told first -/
def Runs (R : List (List α)) (p : List α) : Prop := ∀ q c r, p = q ++ c :: r → Next q R c
theorem Runs.nil : Runs R [] := fun q c r h => by simp at h
theorem Runs.snoc (h : Runs R p) (hc : Next p R c) : Runs R (p ++ [c]) := fun q d r e => by
  rcases List.append_eq_append_iff.mp e with ⟨a, rfl, e'⟩ | ⟨a, rfl, e'⟩
  · cases a with
    | nil => simp at e'; obtain ⟨rfl, rfl⟩ := e'; simpa using hc
    | cons y a => simp at e'
  · cases a with
    | nil => simp at e'; obtain ⟨rfl, rfl⟩ := e'; simpa using hc
    | cons y a => simp at e'; obtain ⟨rfl, rfl⟩ := e'; exact h q d a rfl
theorem Runs.take (h : Runs R p) (k : Nat) : Runs R (p.take k) := fun q c r e => by
  refine h q c (r ++ p.drop k) ?_
  rw [← List.cons_append, ← List.append_assoc, ← e, List.take_append_drop]
theorem m3_step (h : Next p R c) : m3 (rem p R) = (c :: (m3 (rem (p ++ [c]) R)).1, (m3 (rem (p ++ [c]) R)).2) := by
  have hc := cand_rem.mpr h
  rw [m3_some hc, rem_strike (okHead_iff.mp (cand_spec hc).2)]
theorem m3_runs : ∀ {p : List α}, Runs R p → m3 R = (p ++ (m3 (rem p R)).1, (m3 (rem p R)).2) := by
  intro p
  induction p using snocInd with
  | nil => intro _; rw [rem_nil]; rfl
  | snoc p c ih =>
    intro h
    have h0 : Runs R p := by simpa using h.take p.length
    rw [ih h0, m3_step (h p c [] rfl)]
    simp
theorem told_runs_aux : ∀ (n : Nat) (p : List α), tot (rem p R) ≤ n → Runs R p → Runs R (p ++ (m3 (rem p R)).1) := by
  intro n
  induction n with
  | zero =>
    intro p hn h
    rcases m3_cases (rem p R) with ⟨_, e⟩ | ⟨_, _, e⟩ | ⟨c, _, _, _, hlt, e⟩
    · rw [e]; simpa using h
    · rw [e]; simpa using h
    · omega
  | succ n ih =>
    intro p hn h
    rcases m3_cases (rem p R) with ⟨_, e⟩ | ⟨_, _, e⟩ | ⟨c, hc, _, ho, hlt, e⟩
    · rw [e]; simpa using h
    · rw [e]; simpa using h
    · have hN := cand_rem.mp hc
      rw [rem_strike ho] at hlt
      have := ih (p ++ [c]) (by omega) (h.snoc hN)
      rw [m3_step hN]; simpa using this
theorem told_runs (R : List (List α)) : Runs R (m3 R).1 := by
  have := told_runs_aux (R := R) _ [] (Nat.le_refl _) Runs.nil
  rw [rem_nil] at this; simpa using this
theorem m3_stuck (h : (m3 R).2.2 = false) : ∀ r ∈ R, ∀ y ∈ r, y ∉ (m3 R).1 → Blk (m3 R).1 R y := by
  intro r hr y hy hyp
  have h0 := m3_runs (told_runs R)
  rcases m3_cases (rem (m3 R).1 R) with ⟨_, e⟩ | ⟨_, hc, e⟩ | ⟨c, hc, _, ho, hlt, e⟩
  · rw [h0, e] at h; cases h
  · refine Classical.byContradiction fun hb => ?_
    have ho := (okHead_rem hyp).mpr hb
    have hm : y ∈ r.filter fun x => decide (x ∉ (m3 R).1) := List.mem_filter.mpr ⟨hy, decide_eq_true hyp⟩
    cases q : r.filter fun x => decide (x ∉ (m3 R).1) with
    | nil => rw [q] at hm; cases hm
    | cons y0 u =>
      rw [q] at hm
      rcases List.mem_cons.mp hm with rfl | hm
      · obtain ⟨c, hc'⟩ := cand_isSome (R := rem (m3 R).1 R) (x := y) (t := u) (List.mem_map.mpr ⟨r, hr, q⟩) (okHead_iff.mp ho)
        rw [hc] at hc'; cases hc'
      · exact hb ((rem_tail hyp).mp ⟨_, List.mem_map_of_mem hr, by rw [q]; exact hm⟩)
  · rw [e] at h0
    have := congrArg (·.1) h0
    simp at this
theorem m3_done (hp : Runs R p) (h : ∀ r ∈ R, ∀ x ∈ r, x ∈ p) : m3 R = (p, rem p R, true) := by
  have e : m3 (rem p R) = ([], rem p R, true) := m3_empty fun r hr => by
    obtain ⟨r', hr', rfl⟩ := List.mem_map.mp hr
    exact List.filter_eq_nil_iff.mpr fun x hx => by simpa using h r' hr' x hx
  rw [m3_runs hp, e]; simp
theorem m3_mem (h : (m3 R).2.2 = true) {x : α} : x ∈ (m3 R).1 ↔ ∃ r ∈ R, x ∈ r := by
  obtain ⟨h1, h2, h3, h4⟩ := m3_ok _ R (Nat.le_refl _) h
  exact ⟨h3 x, fun ⟨r, hr, hx⟩ => (h2 r hr).mem hx⟩
theorem Runs.nodup : ∀ {p : List α}, Runs R p → p.Nodup := by
  intro p
  induction p using snocInd with
  | nil => intro _; exact .nil
  | snoc p c ih =>
    intro h
    have h0 : Runs R p := by simpa using h.take p.length
    obtain ⟨_, _, _, _, hc, _⟩ := h p c [] rfl
    rw [List.nodup_append]
    exact ⟨ih h0, by simp, fun a ha b hb q => by simp at hb; subst hb; exact hc (q ▸ ha)⟩
end
end Mine

namespace Mine

section
variable {K : Cx} {n : Nat} {sc scope : Scope} {ρ : List (Str × D)} {iter tst : Expr} {p1 p2 p3 p4 p5 p6 p7 p8 p9 p10 cpos pos : Pos} {z : Nat} {R : List (List Int)} {P : List Int → Nat → Bool}
/-- `xs.getD (k - 1)` -/
theorem Ev.prevIL {a : Expr} {pos p q : Pos} {z : Nat} {fa fb : Bool} {xs : List Int} {b : Expr} {k : Nat} (ha : Ev K n sc ρ a (.py (iL xs)) fa) (hb : Ev K n sc ρ b (.py (.int k)) fb) (h1 : 1 ≤ k) (hk : k < xs.length) (hsz : xs.length ≤ sizeLine)
    (hs : ∀ o j, subscripted (.BinOp b .Sub (.Constant (.int 1) z p) q) false o j = operate [o, j] (getItem o j) := by intro _ _; rfl) :
    Ev K n sc ρ (.Subscript a (.BinOp b .Sub (.Constant (.int 1) z p) q) pos) (.py (.int (xs.getD (k - 1) 0))) false :=
  Ev.itemIL (xs := xs) (j := k - 1) ha (Ev.cast (Ev.subI hb Ev.cInt) (by rw [show ((k : Int) - 1) = ((k - 1 : Nat) : Int) by omega])) (by omega) hsz hs
end

/-- told is a right merge: the whole test of it -/
def keeps (told : List Int) (R : List (List Int)) : Bool := (R.filter fun r => !((told.filter fun x => r.contains x) == r)) == []
def without (h : List Int) (R : List (List Int)) : List (List Int) := R.map fun r => r.filter fun x => !h.contains x
end Mine

namespace Mine

/-! ### rows among which there is an order -/
theorem mem_srt_dedup {l : List Int} {x : Int} : x ∈ srt (dedup l) ↔ x ∈ l := by rw [mem_srt, mem_dedup]
theorem m3_sorted {R : List (List Int)} (h : (m3 R).2.2 = true) : srt (m3 R).1 = srt (dedup R.flatten) := by
  refine srt_eq ((srt_perm _).trans ?_) (srt_sorted _)
  have h1 := (told_runs R).nodup
  refine (List.perm_ext_iff_of_nodup h1 (nodup_dedup _)).mpr fun x => ?_
  rw [m3_mem h, mem_dedup, List.mem_flatten]
section
variable {α : Type} [DecidableEq α] {c z y : α} {q : List α} {A B : List (List α)} {T : List α} {R : List (List α)}
theorem pair_append {S U : List α} (h : [z, c].Sublist (S ++ U)) : [z, c].Sublist S ∨ (z ∈ S ∧ c ∈ U) ∨ [z, c].Sublist U := by
  obtain ⟨l1, l2, e, h1, h2⟩ := List.sublist_append_iff.mp h
  cases l1 with
  | nil => simp at e; subst e; exact .inr (.inr h2)
  | cons a l1 =>
    simp at e
    obtain ⟨rfl, e⟩ := e
    cases l1 with
    | nil => simp at e; subst e; exact .inr (.inl ⟨h1.mem (by simp), h2.mem (by simp)⟩)
    | cons b l1 =>
      simp at e
      obtain ⟨rfl, e, _⟩ := e
      subst e; exact .inl h1
theorem pair_append' {S U : List α} (h1 : z ∈ S) (h2 : c ∈ U) : [z, c].Sublist (S ++ U) :=
  (List.singleton_sublist.mpr h1).append (List.singleton_sublist.mpr h2)
/-- in a list with each once: what stands ahead -/
theorem pair_split {a b : List α} (nd : (a ++ c :: b).Nodup) (h : [z, c].Sublist (a ++ c :: b)) : z ∈ a := by
  have hn := List.nodup_append.mp nd
  have hcb := (List.nodup_cons.mp hn.2.1).1
  have hca : c ∉ a := fun h => hn.2.2 c h c (.head _) rfl
  rcases pair_append h with h | ⟨h, _⟩ | h
  · exact absurd (h.mem (by simp)) hca
  · exact h
  · cases h with
    | cons _ h => exact absurd (h.mem (by simp)) hcb
    | cons_cons _ h => exact absurd (h.mem (by simp)) hcb
end

end Mine

namespace Mine

/-! ### a set grown in one pass -/
section
variable {T : List Int → Int → Bool} {E : Int → Int → Prop} {l S : List Int} {x y : Int}
end

/-- x stands right ahead of y in a row -/
def Adj (R : List (List Int)) (x y : Int) : Prop := ∃ r ∈ R, ∃ k, 1 ≤ k ∧ k < r.length ∧ r.getD (k - 1) 0 = x ∧ r.getD k 0 = y
theorem getD_pair {r : List Int} {i j : Nat} (h : i < j) (hj : j < r.length) : [r.getD i 0, r.getD j 0].Sublist r := by
  have e : r = r.take j ++ r.drop j := (List.take_append_drop ..).symm
  have h1 : r.getD i 0 ∈ r.take j := by
    rw [List.getD_eq_getElem?_getD, List.getElem?_eq_getElem (by omega), Option.getD_some, List.mem_take_iff_getElem]
    exact ⟨i, by omega, rfl⟩
  have h2 : r.getD j 0 ∈ r.drop j := by
    rw [List.getD_eq_getElem?_getD, List.getElem?_eq_getElem hj, Option.getD_some, List.mem_drop_iff_getElem]
    exact ⟨0, by omega, by simp⟩
  have := pair_append' h1 h2
  rwa [← e] at this
theorem pair_getD {z c : Int} : ∀ {r : List Int}, [z, c].Sublist r → ∃ i j, i < j ∧ j < r.length ∧ r.getD i 0 = z ∧ r.getD j 0 = c
  | x :: r, h => by
    cases h with
    | cons _ h => obtain ⟨i, j, h1, h2, h3, h4⟩ := pair_getD h; exact ⟨i + 1, j + 1, by omega, by simpa using h2, by simpa using h3, by simpa using h4⟩
    | cons_cons _ h =>
      have hc : c ∈ r := h.mem (by simp)
      obtain ⟨j, hj, e⟩ := List.getElem_of_mem hc
      exact ⟨0, j + 1, by omega, by simpa using hj, rfl, by simp [List.getD_eq_getElem?_getD, hj, e]⟩
theorem Adj.pair {R : List (List Int)} {x y : Int} (h : Adj R x y) : ∃ r ∈ R, [x, y].Sublist r := by
  obtain ⟨r, hr, k, h1, h2, rfl, rfl⟩ := h
  exact ⟨r, hr, getD_pair (by omega) h2⟩
end Mine

namespace Mine

/-! ### the merge, its refusal caught in a function of the text -/
section
variable {K : Cx} {A : Around} {n : Nat} {s : Shared} {As : List Addr} {l fa fm : Addr} {o om : Obj} {pm cd doc pmm cdm docm : Value} {f : Addr → List PyData} {Q : Value → Shared → Prop} {E : Value → Shared → Prop} {outer : List Env}
end
end Mine

namespace Mine

section
variable {K : Cx} {lv : Bool} {n : Nat} {sc : Scope} {X Y : Addr → Prop} {g : Addr → Option Obj} {sh ow : List (Str × D)} {A : Around} {env : Env} {h h' : Heap} {fp : Str → List Addr} {x : Str} {d d' : D} {v : Value} {W : Addr → Prop}
end

section
variable {K : Cx} {n : Nat} {sc : Scope} {sh ow sh' ow' : List (Str × D)} {Q : Out → Prop} {a e e2 : Expr} {x y : Str} {p p1 pos cp : Pos} {fa fm : Addr} {o om : Obj} {pm cd doc pmm cdm docm : Value} {rows : List (List PyData)} {d : DefRec} {out : List PyData} {b : Bool}

end
end Mine

namespace Mine

section
variable {K : Cx} {lv : Bool} {n : Nat} {sc : Scope} {Z Z' : Addr → Prop} {g : Addr → Option Obj} {sh ow : List (Str × D)} {A : Around} {env : Env} {x : Str} {d : D} {v : Value} {as : List Addr}
end

section
variable {K : Cx} {lv : Bool} {n : Nat} {sc : Scope} {sh ow : List (Str × D)} {Q : Out → Prop} {x : Str} {p pos cpos : Pos} {elt : Expr} {gens : List Comprehension} {scope : Scope} {out : List PyData}
end
end Mine

namespace Mine
section
variable {K : Cx} {n : Nat} {sh ow : List (Str × D)} {R : List (List Int)} {fc fm : Addr} {oc om : Obj} {pmc cdc docc pmm cdm docm : Value} {a : Expr} {p p1 pos : Pos} {sc : Scope} {d : DefRec} {x : Str}
theorem tot_ints (R : List (List Int)) : tot (R.map (List.map PyData.int)) = tot R := by
  unfold tot; rw [List.map_map]; congr 1; refine List.map_congr_left fun r _ => ?_; simp
theorem atoms_ints (R : List (List Int)) : ∀ r ∈ R.map (List.map PyData.int), ∀ d ∈ r, Atom d := fun r hr d hd => by
  obtain ⟨r', _, rfl⟩ := List.mem_map.mp hr
  obtain ⟨i, _, rfl⟩ := List.mem_map.mp hd
  exact Atom.int i
end
end Mine

namespace Mine

/-! ### dicts whose keys are ints -/
def keysD (kvs : List (Int × PyData)) : List Int := kvs.map (·.1)
def atD (kvs : List (Int × PyData)) (k : Int) : Option PyData := (kvs.find? fun p => p.1 = k).map (·.2)
theorem atD_mem {kvs : List (Int × PyData)} {k : Int} (h : k ∈ keysD kvs) : ∃ d, atD kvs k = some d := by
  unfold keysD at h; unfold atD
  obtain ⟨p, hp, rfl⟩ := List.mem_map.mp h
  cases q : kvs.find? fun p' => decide (p'.1 = p.1) with
  | none => have := List.find?_eq_none.mp q p hp; simp at this
  | some p' => exact ⟨p'.2, rfl⟩
theorem valueAt_at {h : Heap} : ∀ {kvs : List (Int × PyData)} {vs : List Value} {as : List Addr}, RdAll h vs (kvs.map (·.2)) as → ∀ {k : Int} {d : PyData}, atD kvs k = some d → ∃ v bs, valueAt ((kvs.map (·.1)).zip vs) k = some v ∧ Rd h v d bs ∧ ∀ b ∈ bs, b ∈ as
  | [], _, _, _, k, d, e => by simp [atD] at e
  | (k', d') :: kvs, _, _, .cons r rs, k, d, e => by
    by_cases q : k' = k
    · subst q
      have : d' = d := by simpa [atD] using e
      subst this
      exact ⟨_, _, by simp [valueAt], r, fun b hb => List.mem_append_left _ hb⟩
    · have e' : atD kvs k = some d := by simpa [atD, q] using e
      obtain ⟨v, bs, h1, h2, h3⟩ := valueAt_at rs e'
      exact ⟨v, bs, by simpa [valueAt, q] using h1, h2, fun b hb => List.mem_append_right _ (h3 b hb)⟩
theorem stored_new {kvs : List (Int × Value)} {k : Int} {v : Value} (h : k ∉ kvs.map (·.1)) : stored kvs k v = kvs ++ [(k, v)] := by
  unfold stored
  rw [if_neg]
  intro q
  obtain ⟨p, hp, e⟩ := List.any_eq_true.mp q
  exact h (List.mem_map.mpr ⟨p, hp, by simpa using e⟩)
theorem zip_keys {ks : List Int} {vs : List Value} (h : vs.length = ks.length) : (ks.zip vs).map (·.1) = ks := by
  rw [List.map_fst_zip]; omega

section
variable {K : Cx} {n : Nat} {sc : Scope} {ρ : List (Str × D)} {a b : Expr} {pos p : Pos} {fa fb fr : Bool} {kvs : List (Int × PyData)} {k : Int} {d : PyData}
theorem Ev.dictEmpty : Ev K n sc ρ (.Dict [] [] pos) (.dict []) true := Hide.mk fun {A env s X E} I => by
  rw [eval_Dict_empty]
  refine wpAny_bind (wpAny_standAt ?_)
  unfold newDict
  refine wpAny_newObj_type ?_
  have hn : s.heap.get? s.heap.objs.size = none := push_new _
  have hK : K.h₀.get? s.heap.objs.size = none := I.ok.ext.none hn
  refine ⟨_, s.toks, [s.heap.objs.size], rfl, Ext.push _ _, ⟨s.heap.objs.size, [], [], rfl, rfl, ?_, rfl, Heap.DictOf.new s.heap, .nil⟩, fun b hb q => ?_, fun _ => ⟨by simp, fun b hb => by rw [List.mem_singleton.mp hb]; exact hn⟩⟩
  · cases q : s.heap.objs.size == sysModules with
    | false => rfl
    | true =>
      have e : s.heap.objs.size = sysModules := by simpa using q
      obtain ⟨o, _, _, ho, _⟩ := I.ok.g
      have hlt := Heap.lt_size (I.ok.ext _ _ ho)
      have : mainGlobals < s.heap.objs.size := hlt
      rw [e] at this
      exact absurd this (by decide)
  · rw [List.mem_singleton.mp hb] at q; obtain ⟨o, ho⟩ := I.dom _ q; rw [hn] at ho; cases ho

theorem Ev.dictItem (ha : Ev K n sc ρ a (.dict kvs) fa) (hb : Ev K n sc ρ b (.py (.int k)) fb) (hk : atD kvs k = some d)
    (hs : ∀ o j, subscripted b false o j = operate [o, j] (getItem o j) := by intro _ _; rfl) : Ev K n sc ρ (.Subscript a b pos) (.py d) false := Hide.mk fun {A env s X E} I => by
  refine Subscript_ (Ev.then ha hb I fun va vb h₁ h₂ tk as bs ga gb => ?_)
  obtain ⟨ad, vs, as', rfl, rfl, hsys, hl, hd, hr⟩ := ga.rd.ext gb.ext
  have rb : Rd h₂ vb (.int k) bs := gb.rd
  cases rb
  obtain ⟨v, cs, h1, h2, h3⟩ := valueAt_at hr hk
  refine tail_any (s := { s with heap := h₂, toks := tk }) hd.typeIs slot_dict_getitem.lookup (wpAny_getItem_of (intKind_is ..) hd.mapOf h1 ?_) (hs _ _)
  exact ⟨h₂, tk + 1, cs, rfl, ga.ext.trans gb.ext, h2, fun c hc => ga.off c (.tail _ (h3 c hc)), nofun⟩
end
end Mine

namespace Mine

def dictIt (K : Cx) {A : Around} (hh : A.handled = none) (I d : Addr) (hne : d ≠ I) (kvs : List (Int × Value)) (ep : Nat) : It K A where
  I := I
  fp := [I, d]
  n := kvs.length
  P := fun i v => ∃ k x, kvs[i]? = some (k, x) ∧ (intKind K.prog K.w).is k v = true
  St := fun i h => h.IsKeyIter I d i kvs.length ep ∧ h.DictAt (intKind K.prog K.w) d kvs ep
  W := Walks.dictKeys (knd := intKind K.prog K.w) hh I d hne kvs ep
  plain := fun i h st => by
    obtain ⟨⟨o, ho, hc, hd⟩, _⟩ := st
    exact ⟨o, "dict_keyiterator", _, ho, hc, by decide, hd⟩

section
variable {K : Cx} {n : Nat} {sc : Scope} {ρ : List (Str × D)} {e : Expr} {fr : Bool} {kvs : List (Int × PyData)}
theorem Ev.iterD (h : Ev K n sc ρ e (.dict kvs) fr) : EvIt K n sc ρ e ((keysD kvs).map .int) := Hide.mk fun {A env s X E Q} I k => by
  refine wpAny_mono (h.run I) (fun v s₁ p => ?_) fun _ _ x => x
  obtain ⟨h₁, tk, as, rfl, g⟩ := p
  obtain ⟨a, vs, as', rfl, rfl, hsys, hl, hd, hr⟩ := g.rd
  obtain ⟨ep, hat⟩ := hd.dictAt
  have hget : ∃ o, h₁.get? a = some o := let ⟨o, _, ho, _⟩ := hat; ⟨o, ho⟩
  have hne : a ≠ h₁.objs.size := Nat.ne_of_lt hat.lt_size
  refine wpAny_pyIter_dict (s := { s with heap := h₁, toks := tk }) hsys hat ?_
  have hlen : ((kvs.map (·.1)).zip vs).length = kvs.length := by rw [List.length_zip, List.length_map]; omega
  refine k (dictIt K I.room.quiet h₁.objs.size a hne ((kvs.map (·.1)).zip vs) ep) _ _ (g.ext.trans (Ext.push _ _)) ⟨?_, ?_, ?_, ?_, ?_, ?_⟩
  · exact ⟨⟨_, Heap.get?_push_size _ rfl, rfl, rfl⟩, hat.push _⟩
  · show ((kvs.map (·.1)).zip vs).length = _; rw [hlen]; simp [keysD]
  · intro b hb
    rcases List.mem_cons.mp hb with rfl | hb
    · intro hx; obtain ⟨o, ho⟩ := I.dom _ hx; have := g.ext _ _ ho; rw [push_new] at this; cases this
    · rw [List.mem_singleton.mp hb]; exact g.off a (.head _)
  · exact g.ext.none (push_new _)
  · intro b hb
    rcases List.mem_cons.mp hb with rfl | hb
    · exact ⟨_, Heap.get?_push_size _ rfl⟩
    · rw [List.mem_singleton.mp hb]; obtain ⟨o, ho⟩ := hget; exact ⟨o, Heap.get?_push_of_some _ ho⟩
  · intro j v hv
    obtain ⟨k', x', h1, h2⟩ : ∃ k x, ((kvs.map (·.1)).zip vs)[j]? = some (k, x) ∧ (intKind K.prog K.w).is k v = true := hv
    obtain ⟨t, rfl⟩ := Value.isInt_shape h2
    refine ⟨.int k', [], ?_, .int .., nofun⟩
    have : ((kvs.map (·.1)).zip vs).map (·.1) = kvs.map (·.1) := zip_keys (by simpa using hl)
    have h3 := congrArg (fun l => l[j]?) this
    simp only [List.getElem?_map, h1] at h3
    unfold keysD
    rw [List.getElem?_map, List.getElem?_map, ← h3]; rfl
end

section
variable {K : Cx} {n : Nat} {kvs : List (Int × PyData)}
theorem items_keys {h : Heap} {vs : List Value} (hl : vs.length = kvs.length) {acc : Array Value} (hacc : ItemsOf (fun i v => ∃ k x, ((kvs.map (·.1)).zip vs)[i]? = some (k, x) ∧ (intKind K.prog K.w).is k v = true) acc ((kvs.map (·.1)).zip vs).length) : IntsAre acc.toList (keysD kvs) := by
  have hlen : ((kvs.map (·.1)).zip vs).length = kvs.length := by rw [List.length_zip, List.length_map]; omega
  have hz : ((kvs.map (·.1)).zip vs).map (·.1) = kvs.map (·.1) := zip_keys (by simpa using hl)
  have key : ∀ (l : List Value) (ks : List Int), l.length = ks.length → (∀ (i : Nat) (v : Value), l[i]? = some v → ∃ (k : Int) (t : Tok), ks[i]? = some k ∧ v = Value.int k t) → IntsAre l ks := by
    intro l
    induction l with
    | nil => intro ks hk _; cases ks with | nil => exact .nil | cons => cases hk
    | cons v l ih =>
      intro ks hk h
      cases ks with
      | nil => cases hk
      | cons k ks =>
        obtain ⟨k', t, e1, rfl⟩ := h 0 v rfl
        simp at e1; subst e1
        exact .cons _ _ (ih ks (by simpa using hk) fun i w hw => h (i + 1) w (by simpa using hw))
  refine key _ _ (by rw [Array.length_toList, hacc.1, hlen]; simp [keysD]) fun i v hv => ?_
  obtain ⟨k', x', h1, h2⟩ := hacc.2 i v (by rw [Array.getElem?_toList] at hv; exact hv)
  obtain ⟨t, rfl⟩ := Value.isInt_shape h2
  refine ⟨k', t, ?_, rfl⟩
  have h3 := congrArg (fun l => l[i]?) hz
  simp only [List.getElem?_map, h1] at h3
  unfold keysD
  rw [List.getElem?_map, ← h3]; rfl

theorem CallOk.listD (hsz : kvs.length ≤ sizeLine) : CallOk K n (.type "list") [.dict kvs] (.py (iL (keysD kvs))) true := Hide.mk fun {A s X E vs as} ro ok rd hX _ => by
  cases rd with
  | cons r rs =>
    cases rs
    obtain ⟨a, vs, as', rfl, rfl, hsys, hl, hd, hr⟩ := r
    obtain ⟨ep, hat⟩ := hd.dictAt
    have hlen : ((kvs.map (·.1)).zip vs).length = kvs.length := by rw [List.length_zip, List.length_map]; omega
    refine kdl_call (kdl_dict (knd := intKind K.prog K.w) (kvs := (kvs.map (·.1)).zip vs) (ep := ep) hsys) (by simpa using ro.quiet) hat (by rw [hlen]; exact hsz) fun h' tk acc c' hk hget hacc => ?_
    have hns : IntsAre acc.toList (keysD kvs) := items_keys (K := K) (h := h') hl hacc
    refine ⟨h', tk, [s.heap.objs.size], rfl, hk, Rd.list (vs := acc.toList) (by simpa using hget) (rdAll_of_ints hns), fun c hc q => ?_, fun _ => ⟨by simp, fun c hc => by rw [List.mem_singleton.mp hc]; exact push_new _⟩⟩
    rw [List.mem_singleton.mp hc] at q; obtain ⟨o, ho⟩ := hX _ q; rw [push_new] at ho; cases ho
end
end Mine

namespace Mine

section
variable {K : Cx} {lv : Bool} {n : Nat} {sc : Scope} {sh ow : List (Str × D)} {x y : Str} {px py tp : Pos} {k : Nat} {d1 d2 : PyData} {own : List Str} {ρ : List (Str × D)}
end
end Mine

namespace Mine

section
variable {K : Cx} {lv : Bool} {n : Nat} {sc : Scope} {sh ow : List (Str × D)} {Q : Out → Prop} {x : Str} {p sp pos : Pos} {e idx : Expr} {kvs : List (Int × PyData)} {i : Int} {d : PyData} {fr fi : Bool}
/-- `x[i] = e` of a dict that lacks i, e without a list in it -/
theorem Ex1.setNew (hx : ow.lookup x = some (.dict kvs)) (he : Ev K n sc (ow ++ sh) e (.py d) fr) (hi : Ev K n sc (ow ++ sh) idx (.py (.int i)) fi) (hfp : ∀ {h v as}, Rd h v d as → as = []) (hnew : i ∉ keysD kvs) (hsz : kvs.length ≤ sizeLine)
    (hq : Q (.next sh (put x (.dict (kvs ++ [(i, d)])) ow))) (hd : (x == ("__debug__" : Str)) = false := by decide) (hc : (x == ("__classdict__" : Str)) = false := by decide)
    (hsw : ∀ env, env.scope = sc → swapsWith e (some (.Subscript (.Name x p) idx sp)) pos.line env = pure false := by intro _ _; rfl) :
    Ex1 K lv n sc sh ow (.Assign [.Subscript (.Name x p) idx sp] e pos) Q := Hide.mk fun {A env s X g E} S => by
  obtain ⟨fp, O⟩ := S.vars
  obtain ⟨v, o1, o2, o3, o4⟩ := O.own x _ hx
  refine wpAny_Assign_Subscript (wpAny_mono (he.run S.inAll) (fun w s₁ t => ?_) fun _ _ x => x) (hsw env S.hsc)
  obtain ⟨h₁, tk, bs, rfl, gt⟩ := t
  have S₁ := S.ext gt.ext
  refine wpAny_Name (loadName_at (s := { s with heap := h₁, toks := tk }) S.henv (o1.ext gt.ext) ?_ hc) hd
  refine wpAny_mono (hi.run (s := { s with heap := h₁, toks := tk }) S₁.inAll) (fun wi s₂ t => ?_) fun _ _ x => x
  obtain ⟨h₂, tk₂, cs, rfl, gi⟩ := t
  have x₂ : Ext s.heap h₂ := gt.ext.trans gi.ext
  have ri : Rd h₂ wi (.int i) cs := gi.rd
  cases ri
  have rw' : Rd h₁ w d bs := gt.rd
  obtain rfl := hfp rw'
  have rw₂ : Rd h₂ w d [] := rw'.ext gi.ext
  generalize hfpe : fp x = fx at o2 o3 o4
  obtain ⟨a, vs, as', rfl, rfl, hsys, hl, hdo, hr⟩ := o2.ext x₂
  obtain ⟨anA, ndA⟩ := List.nodup_cons.mp o3
  have hz : ((kvs.map (·.1)).zip vs).map (·.1) = kvs.map (·.1) := zip_keys (by simpa using hl)
  have hzl : ((kvs.map (·.1)).zip vs).length = kvs.length := by rw [List.length_zip, List.length_map]; omega
  have nt : NoTup h₂ a := RdD.noTup (K := K) (d := .dict kvs) (v := .ref a) (as := a :: as') ⟨a, vs, as', rfl, rfl, hsys, hl, hdo, hr⟩ a (.head _)
  refine wpAny_setItem_pairs (s := { s with heap := h₂, toks := tk₂ }) (intKind_is ..) hdo (fun h₃ hdo₃ hs₃ => ?_) (by rw [hzl]; exact hsz)
  have eff := Eff.of_sameBut hs₃
  have nt' : ∀ b, b = a → NoTup h₂ b := fun b q => q ▸ nt
  rw [stored_new (by rw [hz]; exact hnew)] at hdo₃
  have hget : ∃ o, h₃.get? a = some o := let ⟨o, _, _, ho, _⟩ := hdo₃; ⟨o, ho⟩
  refine ⟨_, hq, h₃, tk₂ + 1, rfl, S.change O x₂ (d' := .dict (kvs ++ [(i, d)])) (as := a :: as') hx (a := a) (by rw [hfpe]; exact .head _) eff nt (o1.ext x₂) ?_ o3 (fun b hb => ?_) hget⟩
  · refine ⟨a, vs ++ [w], as', rfl, rfl, hsys, by simp [hl], ?_, ?_⟩
    · have e : (kvs.map (·.1)).zip vs ++ [(i, w)] = ((kvs ++ [(i, d)]).map (·.1)).zip (vs ++ [w]) := by
        rw [List.map_append, List.zip_append (by simp [hl])]; rfl
      rw [← e]; exact hdo₃
    · rw [List.map_append]
      have h1 := hr.off (eff.off (fun b hb q => anA (q ▸ hb)) nt')
      have h2 := RdAll.one (rw₂.off (eff.off nofun nt'))
      simpa using h1.append h2
  · left; rw [hfpe]; exact hb
end
end Mine

namespace Mine

section
variable {K : Cx} {n : Nat} {sc : Scope} {ρ : List (Str × D)} {e : Expr} {p q pos : Pos} {fa : Bool} {d : PyData} {r : Bool}
end
end Mine

namespace Mine

section
variable {K : Cx} {lv : Bool} {n : Nat} {sc scope : Scope} {ρ sh ow : List (Str × D)} {elt iter iter2 a : Expr} {gens : List Comprehension} {cpos p px py pz' tp pos lp : Pos} {out ds : List PyData} {fr fa : Bool} {x y z : Str} {kk : Nat} {ifs ifs2 : List Expr} {Q : Out → Prop} {d : PyData}

end
end Mine

namespace Mine

/-! ### comprehensions that make a dict -/
end Mine

namespace Mine

section
variable {K : Cx} {n : Nat} {sc : Scope} {own : List Str} {kx vx : Expr} {gens rest : List Comprehension} {scope : Scope} {pos pos' : Pos} {k : Nat} {tgt iter : Expr} {ifs : List Expr} {ρ ρ' : List (Str × D)}
  {A : Around} {env : Env} {X₀ X : Addr → Prop} {b b₀ : Heap} {D : Addr} {F : List (PyData × List (Int × PyData))} {s : Shared} {kvs : List (Int × PyData)} {as : List Addr} {R : Result → Shared → Prop} {E : Value → Shared → Prop} {Q : Value → Shared → Prop}
end
end Mine

namespace Mine

section
variable {prog : Program} {w : World} {A : Around} {E : Value → Shared → Prop} {s : Shared}
end

section
variable {K : Cx} {lv : Bool} {n : Nat} {sc : Scope} {ρ sh ow : List (Str × D)} {Q : Out → Prop} {x y : Str} {p p' py pos cp sp : Pos} {e test idx : Expr} {ds es : List PyData} {d : PyData} {fr fi : Bool} {body orelse : List Stmt} {kvs : List (Int × PyData)} {k : Int}

end
end Mine

namespace Mine

section
variable {K : Cx} {lv : Bool} {n : Nat} {sc scope : Scope} {ρ sh ow : List (Str × D)} {Q : Out → Prop} {x y : Str} {p p' px py pe pr pv pos cp sp : Pos} {e idx iter : Expr} {ds es : List PyData} {d : PyData} {fr fi : Bool} {kvs : List (Int × PyData)} {k : Int}

end
end Mine

namespace Mine
open PySem.SeqAt PySem.AutoSeq1 PySem.MeetsSeq PySem.MeetsSeq2 PySem.MeetsSeq3 PySem.SeqRoads2

/-- the less of two lists of numbers, as they are read -/
def lexLt : List Int → List Int → Bool
  | [], [] => false
  | [], _ :: _ => true
  | _ :: _, [] => false
  | a :: as, b :: bs => if a == b then lexLt as bs else decide (a < b)

theorem rich_lt_int {prog : Program} {w : World} {A : Around} {E : Value → Shared → Prop} {s : Shared} {a b : Int} {t u : Tok} {Q : Value → Shared → Prop} (h : Q (.bool (decide (a < b))) s) :
    wpAny (model prog w) A (richCompare .Lt (.int a t) (.int b u)) Q E s :=
  richCompare_gives (op := .Lt) (typeIs_int s _ t) (typeIs_int s _ u) PySem.F.slot_int_lt PySem.F.entry_int_lt (PySem.F.args_int_lt_2 _ _) (gives_int_lt _ _ t u) (fun x => nomatch x) h

theorem lt_loop (l b : Addr) (items items2 : Array Value) (n n2 : Nat) (dd dd2 : Option Addr) (sl sl2 : Array (Option Value)) (xs ys : List Int) (hx : IntsAre items.toList xs) (hy : IntsAre items2.toList ys) (k : Nat) :
    ∀ i : Nat, min items.size items2.size - i = k → i ≤ min items.size items2.size → Meets (Builtin.«list.__eq__.loop» ⟨[.ref l, .ref b, rawInt i, rawInt 0], []⟩)
      (fun A R s => s.heap.get? l = some { cls := .type "list", dict := dd, data := .seq items n, slots := sl } ∧ s.heap.get? b = some { cls := .type "list", dict := dd2, data := .seq items2 n2, slots := sl2 } ∧
        R (.ok (.ret (.bool (lexLt (xs.drop i) (ys.drop i))))) s) := by
  have n1 : items.size = xs.length := by have := IntsAre.len hx; simpa using this
  have n2' : items2.size = ys.length := by have := IntsAre.len hy; simpa using this
  induction k with
  | zero =>
    intro i hk hi prog w A R s h
    obtain ⟨hp, g, d, tk, os⟩ := s; obtain ⟨hl, hb, h⟩ := h
    wp_walk using wpAny_loadPart' hl, wpAny_loadPart' hb
    have hfin : lexLt (xs.drop i) (ys.drop i) = decide (items.size < items2.size) := by
      rcases Nat.lt_or_ge items.size items2.size with hlt | hge
      · have hxi : xs.drop i = [] := List.drop_of_length_le (by omega)
        obtain ⟨y, t, hyi⟩ : ∃ y t, ys.drop i = y :: t := by
          cases q : ys.drop i with
          | nil => have := congrArg List.length q; simp at this; omega
          | cons y t => exact ⟨y, t, rfl⟩
        rw [hxi, hyi]; simp [lexLt, hlt]
      · have hyi : ys.drop i = [] := List.drop_of_length_le (by omega)
        rw [hyi]
        have : decide (items.size < items2.size) = false := by simp; omega
        rw [this]
        cases xs.drop i <;> rfl
    rw [hfin] at h
    rcases Nat.lt_or_ge i items.size with hlt | hge
    · have hi1 : items[((i : Nat) : Int).toNat]? = some items[i] := by simp [hlt]
      have hi2 : items2[((i : Nat) : Int).toNat]? = none := by simp; omega
      rw [hi1, hi2]
      wp_walk using wpAny_loadPart' hl, wpAny_loadPart' hb
      exact h
    · have hi1 : items[((i : Nat) : Int).toNat]? = none := by simp; omega
      rw [hi1]
      wp_walk using wpAny_loadPart' hl, wpAny_loadPart' hb
      exact h
  | succ k ih =>
    intro i hk hi prog w A R s h
    obtain ⟨hp, g, d, tk, os⟩ := s; obtain ⟨hl, hb, h⟩ := h
    wp_walk using wpAny_loadPart' hl, wpAny_loadPart' hb
    have hlt : i < items.size := by omega
    have hlt2 : i < items2.size := by omega
    have hi1 : items[((i : Nat) : Int).toNat]? = some items[i] := by simp [hlt]
    have hi2 : items2[((i : Nat) : Int).toNat]? = some items2[i] := by simp [hlt2]
    have hc : ((i : Int) + 1) = ((i + 1 : Nat) : Int) := by push_cast; rfl
    obtain ⟨t, ht⟩ := IntsAre.int_at hx i items[i] (by simp [hlt])
    obtain ⟨u, hu⟩ := IntsAre.int_at hy i items2[i] (by simp [hlt2])
    have dx : xs.drop i = xs.getD i 0 :: xs.drop (i + 1) := by
      rw [List.drop_eq_getElem_cons (by omega : i < xs.length), List.getD_eq_getElem?_getD, List.getElem?_eq_getElem (by omega : i < xs.length)]; rfl
    have dy : ys.drop i = ys.getD i 0 :: ys.drop (i + 1) := by
      rw [List.drop_eq_getElem_cons (by omega : i < ys.length), List.getD_eq_getElem?_getD, List.getElem?_eq_getElem (by omega : i < ys.length)]; rfl
    rw [dx, dy, lexLt] at h
    rw [hi1, hi2, ht, hu]
    refine wpAny_bind (wpAny_eqBool_int ?_)
    cases hb' : (xs.getD i 0 == ys.getD i 0) with
    | true =>
      rw [hb', if_pos rfl] at h
      wp_walk
      rw [hc]
      exact ⟨plainId_quiet plain_eq_loop _, codeAny_builtin entry_eq_loop (by
        rw [Around.under_plainId plain_eq_loop _]
        exact ih (i + 1) (by omega) (by omega) prog w A R _ ⟨hl, hb, h⟩)⟩
    | false =>
      rw [hb', if_neg Bool.false_ne_true] at h
      wp_walk using wpAny_loadPart' hl, wpAny_loadPart' hb
      rw [hi1, hi2, ht, hu]
      refine wpAny_bind (rich_lt_int ?_)
      wp_walk
      exact h

theorem list_ltAt (l b : Addr) (items items2 : Array Value) (n n2 : Nat) (dd dd2 : Option Addr) (sl sl2 : Array (Option Value)) (xs ys : List Int) (hx : IntsAre items.toList xs) (hy : IntsAre items2.toList ys) :
    Meets (Builtin.«list.__lt__» ⟨[.ref l, .ref b], []⟩)
      (fun A R s => s.heap.get? l = some { cls := .type "list", dict := dd, data := .seq items n, slots := sl } ∧ s.heap.get? b = some { cls := .type "list", dict := dd2, data := .seq items2 n2, slots := sl2 } ∧
        R (.ok (.ret (.bool (lexLt xs ys)))) s) := by
  intro prog w A R s h
  obtain ⟨hp, g, d, tk, os⟩ := s; obtain ⟨hl, hb, h⟩ := h
  have f3 := AutoSeq1.sub_list_list
  wp_walk using wpAny_loadPart' hl, wpAny_loadPart' hb
  exact ⟨plainId_quiet plain_eq_loop _, codeAny_builtin entry_eq_loop (by
    rw [Around.under_plainId plain_eq_loop _]
    exact lt_loop l b items items2 n n2 dd dd2 sl sl2 xs ys hx hy _ 0 rfl (Nat.zero_le _) prog w A R _ ⟨hl, hb, by simpa using h⟩)⟩

theorem rich_lt_lists {prog : Program} {w : World} {A : Around} {E : Value → Shared → Prop} {s : Shared} {u v : Value} {xs ys : List Int} {as bs : List Addr} {Q : Value → Shared → Prop} (ru : Rd s.heap u (iL xs) as) (rv : Rd s.heap v (iL ys) bs) (hu : A.units < cLine) (h : Q (.bool (lexLt xs ys)) s) :
    wpAny (model prog w) A (richCompare .Lt u v) Q E s := by
  have ru' : Rd s.heap u (.list (xs.map .int)) as := ru
  have rv' : Rd s.heap v (.list (ys.map .int)) bs := rv
  cases ru' with
  | @list l vs n _ as1 h1 r1 =>
  cases rv' with
  | @list l2 vs2 n2 _ as2 h2 r2 =>
  exact richCompare_meets_room (op := .Lt) ⟨_, h1, rfl⟩ ⟨_, h2, rfl⟩ PySem.F.slot_list_lt PySem.F.entry_list_lt (PySem.F.args_list_lt_2 _ _) (list_ltAt l l2 vs.toArray vs2.toArray n n2 none none #[] #[] xs ys (by simpa using r1.intsAre) (by simpa using r2.intsAre))
    ⟨h1, h2, show Value.bool (lexLt xs ys) ≠ Value.notImplemented ∧ Q (.bool (lexLt xs ys)) s from ⟨(fun x => nomatch x), h⟩⟩ hu
end Mine

namespace Mine
open PySem.SeqAt PySem.AutoSeq1 PySem.MeetsSeq PySem.MeetsSeq2 PySem.MeetsSeq3 PySem.SeqRoads2

def LtAt (A : Around) (s : Shared) (x y : Value) (c : Bool) : Prop :=
  ∀ (prog : Program) (w : World) (E : Value → Shared → Prop) (Q : Value → Shared → Prop), Q (.bool c) s → wpAny (model prog w) A (richCompare .Lt x y) Q E s

theorem tuple_ltAt (l b : Addr) (x1 x2 y1 y2 : Value) (n n2 : Nat) (e1 e2 c : Bool) :
    Meets (Builtin.«tuple.__lt__» ⟨[.ref l, .ref b], []⟩)
      (fun A R s => s.heap.get? l = some { cls := .type "tuple", dict := none, data := .seq #[x1, x2] n, slots := #[] } ∧ s.heap.get? b = some { cls := .type "tuple", dict := none, data := .seq #[y1, y2] n2, slots := #[] } ∧
        EqAt A.in1 s x1 y1 e1 ∧ EqAt A.in1 s x2 y2 e2 ∧ (e1 = false → LtAt A.in1 s x1 y1 c) ∧ (e1 = true → e2 = false → LtAt A.in1 s x2 y2 c) ∧ (e1 = true → e2 = true → c = false) ∧
        R (.ok (.ret (.bool c))) s) :=
  .of_wp fun prog w A R s h => by
    obtain ⟨hp, g, d, tk, os⟩ := s; obtain ⟨hl, hb, q1, q2, l1, l2, l3, h⟩ := h
    have f2 := AutoSeq1.sub_tuple_tuple
    wp_walk using wpAny_loadPart' hl, wpAny_loadPart' hb, wpAny_forIn_list _ (fun rest b s' => b.1 = none ∧ s' = ⟨hp, g, d, tk, os⟩ ∧ (rest = [(x1, y1), (x2, y2)] ∨ (rest = [(x2, y2)] ∧ e1 = true) ∨ (rest = [] ∧ e1 = true ∧ e2 = true))) _
    case turn =>
      rintro ⟨y, x⟩ rest b s' ⟨hb', rfl, hz⟩
      rcases hz with hz | ⟨hz, he1⟩ | ⟨hz, _⟩
      · injection hz with hyx hrest
        injection hyx with hy hx
        subst hy hx
        refine wpAny_bind (q1 prog w _ _ ?_)
        cases he : e1 with
        | true =>
          wp_walk
          exact ⟨rfl, rfl, .inr (.inl ⟨hrest, rfl⟩)⟩
        | false =>
          generalize hRC : richCompare = RC
          wp_walk
          subst hRC
          refine l1 he prog w _ _ ?_
          wp_walk
          exact ⟨_, rfl, h⟩
      · injection hz with hyx hrest
        injection hyx with hy hx
        subst hy hx
        refine wpAny_bind (q2 prog w _ _ ?_)
        cases he : e2 with
        | true =>
          wp_walk
          exact ⟨rfl, rfl, .inr (.inr ⟨hrest, he1, rfl⟩)⟩
        | false =>
          generalize hRC : richCompare = RC
          wp_walk
          subst hRC
          refine l2 he1 he prog w _ _ ?_
          wp_walk
          exact ⟨_, rfl, h⟩
      · cases hz
    case fin =>
      rintro ⟨b1, b2⟩ s' ⟨hb', rfl, hz⟩
      simp only at hb'
      subst hb'
      rcases hz with hz | ⟨hz, _⟩ | ⟨_, he1, he2⟩
      · cases hz
      · cases hz
      · rw [l3 he1 he2] at h
        wp_walk
        exact ⟨_, rfl, h⟩
    case h =>
      exact ⟨rfl, rfl, .inl rfl⟩

/-- a pair of lists of numbers -/
def pairD (p : List Int × List Int) : PyData := .tuple [iL p.1, iL p.2]
def pairLt (p q : List Int × List Int) : Bool := if p.1 == q.1 then lexLt p.2 q.2 else lexLt p.1 q.1
theorem lexLt_irrefl : ∀ a : List Int, lexLt a a = false
  | [] => rfl
  | x :: a => by rw [lexLt]; simp [lexLt_irrefl a]

theorem canLay_iL (xs : List Int) : (iL xs).canLay0 = true := by
  unfold iL; rw [PyData.canLay0]; exact canLayAll_of fun d hd => by obtain ⟨x, _, rfl⟩ := List.mem_map.mp hd; exact (Atom.int x).lay
theorem depth_iL (xs : List Int) : (iL xs).depth ≤ 61 := by
  unfold iL; rw [PyData.depth]
  have := depthAll_le (ds := xs.map PyData.int) (k := 60) fun d hd => by obtain ⟨x, _, rfl⟩ := List.mem_map.mp hd; exact (Atom.int x).depth
  omega

theorem rich_lt_pairs {prog : Program} {w : World} {A : Around} {E : Value → Shared → Prop} {s : Shared} {u v : Value} {p q : List Int × List Int} {as bs : List Addr} {Q : Value → Shared → Prop} (ru : Rd s.heap u (pairD p) as) (rv : Rd s.heap v (pairD q) bs) (hu : A.units + 100 < cLine) (h : Q (.bool (pairLt p q)) s) :
    wpAny (model prog w) A (richCompare .Lt u v) Q E s := by
  obtain ⟨a, b⟩ := p
  obtain ⟨a', b'⟩ := q
  have ru' : Rd s.heap u (.tuple [iL a, iL b]) as := ru
  have rv' : Rd s.heap v (.tuple [iL a', iL b']) bs := rv
  cases ru' with
  | @tuple l vs n _ as1 h1 r1 =>
  cases rv' with
  | @tuple l2 vs2 n2 _ as2 h2 r2 =>
  obtain ⟨v1, vs', _, _, rfl, rfl, ra, r1'⟩ := r1.uncons
  obtain ⟨v2, vs'', _, _, rfl, rfl, rb, r1''⟩ := r1'.uncons
  obtain rfl : vs'' = [] := by cases r1''; rfl
  obtain ⟨w1, ws', _, _, rfl, rfl, ra', r2'⟩ := r2.uncons
  obtain ⟨w2, ws'', _, _, rfl, rfl, rb', r2''⟩ := r2'.uncons
  obtain rfl : ws'' = [] := by cases r2''; rfl
  have hin : A.in1.units ≤ A.units + 1 := by show A.units + 1 ≤ A.units + 1; omega
  have eqOf : ∀ {u v : Value} {x y : List Int} {as bs : List Addr}, Rd s.heap u (iL x) as → Rd s.heap v (iL y) bs → EqAt A.in1 s u v (x == y) := fun {u v x y as bs} hx hy prog w E Q hq => by
    refine eqBoolOverData prog w A.in1 E s u v _ _ _ _ Q hx.reads hy.reads (canLay_iL x) (canLay_iL y) ?_ (by rw [eqv_iL]; exact hq)
    have := Nat.min_le_left (iL x).depth (iL y).depth
    have := depth_iL x
    omega
  have ltOf : ∀ {u v : Value} {x y : List Int} {as bs : List Addr}, Rd s.heap u (iL x) as → Rd s.heap v (iL y) bs → LtAt A.in1 s u v (lexLt x y) := fun {u v x y as bs} hx hy prog w E Q hq => rich_lt_lists hx hy (by omega) hq
  have hc : pairLt (a, b) (a', b') = if a == a' then lexLt b b' else lexLt a a' := rfl
  refine richCompare_meets_room (op := .Lt) ⟨_, h1, rfl⟩ ⟨_, h2, rfl⟩ PySem.F.slot_tuple_lt PySem.F.entry_tuple_lt (PySem.F.args_tuple_lt_2 _ _) (tuple_ltAt l l2 v1 v2 w1 w2 n n2 (a == a') (b == b') (pairLt (a, b) (a', b')))
    ⟨h1, h2, eqOf ra ra', eqOf rb rb', fun e => ?_, fun e e' => ?_, fun e e' => ?_, show Value.bool (pairLt (a, b) (a', b')) ≠ Value.notImplemented ∧ Q (.bool (pairLt (a, b) (a', b'))) s from ⟨(fun x => nomatch x), h⟩⟩ (by omega)
  · rw [hc, e, if_neg Bool.false_ne_true]; exact ltOf ra ra'
  · rw [hc, e, if_pos rfl]; exact ltOf rb rb'
  · rw [hc, e, if_pos rfl]
    have : b = b' := by simpa using e'
    rw [this]; exact lexLt_irrefl b'

section
variable {prog : Program} {w : World} {A : Around} {E : Value → Shared → Prop} {R : Result → Shared → Prop}

theorem min_loopD (hh : A.handled = none) {h₀ : Heap} {l I S : Addr} {vs : List Value} (hl : h₀.IsList l vs.toArray) (hI : h₀.get? I = none) (hS : h₀.get? S = none) (hSI : S ≠ I) (bt : Nat → Nat → Bool)
    (hcmp : ∀ i j vi vj (s' : Shared) (Q : Value → Shared → Prop) (E : Value → Shared → Prop), vs[i]? = some vi → vs[j]? = some vj → Ext h₀ s'.heap → Q (.bool (bt i j)) s' → wpAny (model prog w) A.in1 (richCompare .Lt vi vj) Q E s') :
    ∀ (k j : Nat) (s : Shared) (vb : Value) (c : Nat), vs.length - (j + 1) = k → j + 1 ≤ vs.length → Ext h₀ s.heap → s.heap.IsListIter I l (j + 1) → vs[argBest bt j]? = some vb →
      s.heap.get? S = some { cls := .type "list", dict := none, data := .seq #[vb, vb] c, slots := #[] } →
      (∀ v h' tk, vs[argBest bt (vs.length - 1)]? = some v → Ext h₀ h' → R (.ok (.ret v)) { s with heap := h', toks := tk }) →
      codeAny (model prog w) A (.builtin "min.loop" ⟨[.ref I, .none, .ref S], []⟩) R s := by
  have hname : (toString "min" ++ toString ".loop" : String) = "min.loop" := by decide
  have hlI : l ≠ I := fun q => by obtain ⟨o, ho, _⟩ := hl; rw [q, hI] at ho; cases ho
  have W := Walks.list (prog := prog) (w := w) (A := A.in1) hh I l hlI vs.toArray
  have lstAt : ∀ {h : Heap}, Ext h₀ h → h.IsList l vs.toArray := fun x => by obtain ⟨o, ho, r⟩ := hl; exact ⟨o, x _ _ ho, r⟩
  intro k
  induction k with
  | zero =>
    intro j s vb c hk hj x hit hb hs hR
    have hin : j + 1 = vs.length := by omega
    refine codeAny_builtin PySem.F.entry_min_loop ?_
    rw [Around.under_plainId PySem.F.plain_min_loop _]
    show wpAny _ A.in1 (seqItems? (.ref S) >>= _) _ _ s
    refine wpAny_bind (wpAny_seqItems hs rfl ?_)
    show wpAny _ A.in1 (tryCatch (pyNext (.ref I)) _ >>= _) _ _ s
    refine wpAny_bind (wpAny_tryCatch (W.done s _ _ ⟨by simp only [List.size_toArray]; rw [← hin]; exact hit, lstAt x⟩ fun h' tk hk' => ?_))
    have hS' := hk' S _ (by simpa using hSI) hs
    have x' : Ext h₀ h' := fun b o ho => hk' b o (fun q => by rw [List.mem_singleton.mp q, hI] at ho; cases ho) (x b o ho)
    show wpAny _ A.in1 (updateSeq S (fun _ => #[]) >>= _) _ _ _
    refine wpAny_bind ?_
    refine wpAny_updateSeq hS' rfl (wpAny_bind (wpAny_letGo (wpAny_pure ?_)))
    refine hR vb _ tk (by rw [← hin]; exact hb) fun b o ho => (Heap.get?_update_other _ _ (fun q => by rw [← q, hS] at ho; cases ho)).trans (x' b o ho)
  | succ k ih =>
    intro j s vb c hk hj x hit hb hs hR
    have hlt : j + 1 < vs.length := by omega
    refine codeAny_builtin PySem.F.entry_min_loop ?_
    rw [Around.under_plainId PySem.F.plain_min_loop _]
    show wpAny _ A.in1 (seqItems? (.ref S) >>= _) _ _ s
    refine wpAny_bind (wpAny_seqItems hs rfl ?_)
    show wpAny _ A.in1 (tryCatch (pyNext (.ref I)) _ >>= _) _ _ s
    refine wpAny_bind (wpAny_tryCatch (W.item (j + 1) s _ _ (by simpa using hlt) ⟨hit, lstAt x⟩ fun v h' tk hP hst' hk' => ?_))
    have hP' : vs[j + 1]? = some v := by simpa using hP
    have hS' := hk' S _ (by simpa using hSI) hs
    have x' : Ext h₀ h' := fun b o ho => hk' b o (fun q => by rw [List.mem_singleton.mp q, hI] at ho; cases ho) (x b o ho)
    show wpAny _ A.in1 (tryCatch (holding [v, v] (richCompare .Lt v vb >>= _)) _ >>= _) _ _ _
    refine wpAny_bind (wpAny_tryCatch (wpAny_holding (wpAny_bind (hcmp (j + 1) (argBest bt j) v vb { s with heap := h', toks := tk } _ _ hP' hb x' ?_))))
    refine wpAny_bind (wpAny_holding (wpAny_truthy_bool ?_))
    refine wpAny_bind (wpAny_letGo (wpAny_pure ?_))
    cases hbt : bt (j + 1) (argBest bt j) with
    | true =>
      simp only [if_true]
      refine wpAny_bind ?_
      refine wpAny_updateSeq hS' rfl (wpAny_bind (wpAny_letGo ?_))
      rw [hname]
      refine wpAny_pure ⟨plainId_quiet PySem.F.plain_min_loop _, ih (j + 1) _ v _ (by omega) hlt (fun b o ho => (Heap.get?_update_other _ _ (fun q => by rw [← q, hS] at ho; cases ho)).trans (x' b o ho)) ?_ (by simp only [argBest, hbt, if_true]; exact hP') (Heap.get?_update_self _ hS' rfl) fun v' h'' tk'' hb' x'' => hR v' h'' tk'' hb' x''⟩
      obtain ⟨o, ho, r⟩ := hst'.1
      exact ⟨o, (Heap.get?_update_other _ _ hSI).trans ho, r⟩
    | false =>
      simp only [Bool.false_eq_true, if_false]
      refine wpAny_bind (wpAny_letGo ?_)
      rw [hname]
      exact wpAny_pure ⟨plainId_quiet PySem.F.plain_min_loop _, ih (j + 1) _ vb c (by omega) hlt x' hst'.1 (by simp only [argBest, hbt, Bool.false_eq_true, if_false]; exact hb) hS' fun v' h'' tk'' hb' x'' => hR v' h'' tk'' hb' x''⟩

theorem min_callD {s : Shared} {Q : Value → Shared → Prop} (hh : A.handled = none) {l : Addr} {vs : List Value} {c : Nat} (hl : s.heap.get? l = some { cls := .type "list", data := .seq vs.toArray c }) (hn : 0 < vs.length) (bt : Nat → Nat → Bool)
    (hcmp : ∀ i j vi vj (s' : Shared) (Q : Value → Shared → Prop) (E : Value → Shared → Prop), vs[i]? = some vi → vs[j]? = some vj → Ext s.heap s'.heap → Q (.bool (bt i j)) s' → wpAny (model prog w) A.in1 (richCompare .Lt vi vj) Q E s')
    (h : ∀ v h' tk, vs[argBest bt (vs.length - 1)]? = some v → Ext s.heap h' → Q v { s with heap := h', toks := tk }) : wpAny (model prog w) A (call (.builtin "min") [.ref l]) Q E s := by
  have hname : (toString "min" ++ toString ".loop" : String) = "min.loop" := by decide
  have hil : s.heap.IsList l vs.toArray := ⟨_, hl, rfl, _, rfl⟩
  have hlI : l ≠ s.heap.objs.size := Nat.ne_of_lt (Heap.lt_size hl)
  refine call_function_tree PySem.F.kind_min PySem.F.plain_min PySem.F.entry_min (PySem.F.args_min1 _) ?_
  show wpAny _ A.in1 (Builtin.Builtins.bindParams "min" ["key", "default"] 0 ⟨[], []⟩ >>= _) _ _ s
  refine wpAny_bind (wpAny_of_eq (show Builtin.Builtins.bindParams "min" ["key", "default"] 0 ⟨[], []⟩ = pure [none, none] from rfl) ?_)
  refine wpAny_bind (wpAny_pure ?_)
  refine wpAny_bind (wpAny_pyIter_list hil ?_)
  refine wpAny_bind (wpAny_newObj_type ?_)
  rw [hname]
  generalize hh1 : s.heap.push _ = h1
  have x1 : Ext s.heap h1 := hh1 ▸ Ext.push _ _
  have hit1 : h1.IsListIter s.heap.objs.size l 0 := hh1 ▸ ⟨_, Heap.get?_push_size _ rfl, rfl, rfl⟩
  have hI : s.heap.get? s.heap.objs.size = none := push_new _
  have hIlt : s.heap.objs.size < h1.objs.size := by rw [← hh1, Heap.size_push]; exact Nat.lt_succ_self _
  generalize s.heap.objs.size = I at *
  have hS1 : h1.get? h1.objs.size = none := push_new _
  have hSI : h1.objs.size ≠ I := fun q => by rw [q] at hIlt; exact Nat.lt_irrefl _ hIlt
  show wpAny _ A.in1 (again (.builtin "min.loop" ⟨[.ref I, .none, .ref h1.objs.size], []⟩)) _ _ _
  generalize hh2 : h1.push { cls := .type "list", dict := none, data := .seq ([] : List Value).toArray } = h2
  have x2 : Ext h1 h2 := hh2 ▸ Ext.push _ _
  have hS2 : h2.get? h1.objs.size = some { cls := .type "list", dict := none, data := .seq #[] 0, slots := #[] } := hh2 ▸ Heap.get?_push_size _ rfl
  have hS : s.heap.get? h1.objs.size = none := x1.none hS1
  generalize h1.objs.size = S at *
  refine wpAny_pure ⟨plainId_quiet PySem.F.plain_min_loop _, ?_⟩
  have hit2 : h2.IsListIter I l 0 := by obtain ⟨o, ho, r⟩ := hit1; exact ⟨o, x2 _ _ ho, r⟩
  have hil2 : h2.IsList l vs.toArray := by obtain ⟨o, ho, r⟩ := hil; exact ⟨o, x2 _ _ (x1 _ _ ho), r⟩
  have W := Walks.list (prog := prog) (w := w) (A := A.in1) hh I l hlI vs.toArray
  refine codeAny_builtin PySem.F.entry_min_loop ?_
  rw [Around.under_plainId PySem.F.plain_min_loop _]
  show wpAny _ A.in1 (seqItems? (.ref S) >>= _) _ _ _
  refine wpAny_bind (wpAny_seqItems hS2 rfl ?_)
  show wpAny _ A.in1 (tryCatch (pyNext (.ref I)) _ >>= _) _ _ _
  refine wpAny_bind (wpAny_tryCatch (W.item 0 { s with heap := h2 } _ _ (by simpa using hn) ⟨hit2, hil2⟩ fun v h' tk hP hst' hk' => ?_))
  have hP' : vs[0]? = some v := by simpa using hP
  have hS' := hk' S _ (by simpa using hSI) hS2
  have x' : Ext s.heap h' := fun b o ho => hk' b o (fun q => by rw [List.mem_singleton.mp q, hI] at ho; cases ho) (x2 b o (x1 b o ho))
  show wpAny _ A.in1 (updateSeq S (fun _ => #[v, v]) >>= _) _ _ _
  refine wpAny_bind ?_
  refine wpAny_updateSeq hS' rfl ?_
  rw [hname]
  refine wpAny_pure ⟨plainId_quiet PySem.F.plain_min_loop _, min_loopD hh hil hI hS hSI bt hcmp _ 0 _ v _ rfl hn (fun b o ho => (Heap.get?_update_other _ _ (fun q => by rw [← q, hS] at ho; cases ho)).trans (x' b o ho)) ?_ hP' (Heap.get?_update_self _ hS' rfl) fun v' h'' tk'' hb' x'' => h v' h'' tk'' hb' x''⟩
  obtain ⟨o, ho, r⟩ := hst'.1
  exact ⟨o, (Heap.get?_update_other _ _ hSI).trans ho, r⟩
end

def bestP (L : List (List Int × List Int)) : List Int × List Int := L.getD (argBest (fun i j => pairLt (L.getD i ([], [])) (L.getD j ([], []))) (L.length - 1)) ([], [])
theorem argBest_le (bt : Nat → Nat → Bool) : ∀ k, argBest bt k ≤ k
  | 0 => Nat.le_refl 0
  | k + 1 => by
    unfold argBest; split
    · exact Nat.le_refl _
    · exact Nat.le_succ_of_le (argBest_le bt k)
theorem pairLt_irrefl (p : List Int × List Int) : pairLt p p = false := by unfold pairLt; simp [lexLt_irrefl]
theorem bestP_eq {L : List (List Int × List Int)} {p : List Int × List Int} (hp : p ∈ L) (hlt : ∀ q ∈ L, q ≠ p → pairLt p q = true ∧ pairLt q p = false) : bestP L = p := by
  obtain ⟨m, hm, e⟩ := List.getElem_of_mem hp
  have hD : ∀ i, i < L.length → L.getD i ([], []) ∈ L := fun i hi => by
    rw [List.getD_eq_getElem?_getD, List.getElem?_eq_getElem hi]; exact List.getElem_mem _
  have hmD : L.getD m ([], []) = p := by rw [List.getD_eq_getElem?_getD, List.getElem?_eq_getElem hm]; exact e
  have key : ∀ k, m ≤ k → k < L.length → L.getD (argBest (fun i j => pairLt (L.getD i ([], [])) (L.getD j ([], []))) k) ([], []) = p := by
    intro k
    induction k with
    | zero => intro h _; obtain rfl : m = 0 := by omega
              exact hmD
    | succ k ih =>
      intro h hk
      rw [argBest]
      have hb := hD _ (Nat.lt_of_le_of_lt (argBest_le (fun i j => pairLt (L.getD i ([], [])) (L.getD j ([], []))) k) (by omega : k < L.length))
      generalize argBest (fun i j => pairLt (L.getD i ([], [])) (L.getD j ([], []))) k = a at ih hb ⊢
      by_cases q : m = k + 1
      · rw [← q, hmD]
        by_cases q2 : L.getD a ([], []) = p
        · rw [q2, pairLt_irrefl, if_neg Bool.false_ne_true]; exact q2
        · rw [(hlt _ hb q2).1, if_pos rfl]; exact hmD
      · have hp' := ih (by omega) (by omega)
        rw [hp']
        by_cases q2 : L.getD (k + 1) ([], []) = p
        · rw [q2, pairLt_irrefl, if_neg Bool.false_ne_true]; exact hp'
        · rw [(hlt _ (hD _ hk) q2).2, if_neg Bool.false_ne_true]; exact hp'
  exact key (L.length - 1) (by omega) (by omega)

theorem CallOk.minP {K : Cx} {n : Nat} {L : List (List Int × List Int)} (hne : L ≠ []) : CallOk K n (.builtin "min") [.py (.list (L.map pairD))] (.py (pairD (bestP L))) false := Hide.mk fun {A s X E vs as} ro ok rd _ ha => by
  cases rd with
  | cons r rs =>
    cases rs
    have q : Rd s.heap _ (.list (L.map pairD)) _ := r
    clear r
    cases q with
    | @list l ws k _ bs e r =>
      have hlen : ws.length = L.length := by rw [r.length]; simp
      have rdAt : ∀ (i : Nat) (v : Value), ws[i]? = some v → ∃ cs, Rd s.heap v (pairD (L.getD i ([], []))) cs ∧ ∀ b ∈ cs, b ∈ bs := fun i v hv => by
        obtain ⟨d, cs, h1, h2, h3⟩ := r.get hv
        have hi : i < L.length := by have := (List.getElem?_eq_some_iff.mp hv).1; omega
        rw [List.getElem?_map, List.getElem?_eq_getElem hi] at h1
        refine ⟨cs, ?_, h3⟩
        rw [List.getD_eq_getElem?_getD, List.getElem?_eq_getElem hi]
        simp at h1; rw [Option.getD_some, h1]; exact h2
      refine min_callD ro.quiet e (by rw [hlen]; exact List.length_pos_iff.mpr hne) (fun i j => pairLt (L.getD i ([], [])) (L.getD j ([], []))) (fun i j vi vj s' Q' E' hi hj x hq => ?_) fun v h' tk hv x => ?_
      · obtain ⟨c1, r1, _⟩ := rdAt i vi hi
        obtain ⟨c2, r2, _⟩ := rdAt j vj hj
        refine rich_lt_pairs (r1.ext x) (r2.ext x) ?_ hq
        have := ro.units
        show A.units + 1 + 100 < cLine
        omega
      · rw [hlen] at hv
        obtain ⟨cs, r1, h3⟩ := rdAt _ v hv
        exact ⟨h', tk, cs, rfl, x, r1.ext x, fun b hb hx => ha b (by simp [h3 b hb]) hx, nofun⟩
end Mine

namespace Mine

def rowRec : DefRec := ((recsOf PySem.Challenge.pw_dn0018_02).getD 1 c3Rec)
def keRec : DefRec := ((recsOf PySem.Challenge.pw_dn0018_02).getD 2 c3Rec)
def orRec : DefRec := ((recsOf PySem.Challenge.pw_dn0018_02).getD 3 c3Rec)
def lawRec : DefRec := ((recsOf PySem.Challenge.pw_dn0018_02).getD 4 c3Rec)
def rowSc : Scope := rowRec.scope
def keSc : Scope := keRec.scope
def orSc : Scope := orRec.scope
def lawSc : Scope := lawRec.scope
def stR (i : Nat) : Stmt := rowRec.body.getD i (.Pass ⟨0, 0, 0, 0⟩)
def stK (i : Nat) : Stmt := keRec.body.getD i (.Pass ⟨0, 0, 0, 0⟩)
def stO (i : Nat) : Stmt := orRec.body.getD i (.Pass ⟨0, 0, 0, 0⟩)
def st2 (i : Nat) : Stmt := lawRec.body.getD i (.Pass ⟨0, 0, 0, 0⟩)

/-! ### the rows -/
def open2 (R : List (List Int)) (x : Int) : List (List Int) := if x / 6 % 3 == 1 then R ++ [[]] else R
def takes2 (R : List (List Int)) (x : Int) : Bool := x / 6 % 3 == 2 || !(lastRow R).contains (x % 6)
def put2 (R : List (List Int)) (x : Int) : List (List Int) := if takes2 R x then addLast R (x % 6) else R
def grow2 (R : List (List Int)) (x : Int) : List (List Int) := put2 (open2 R x) x
def rows2 (xs : List Int) : List (List Int) := xs.foldl grow2 [[]]
structure Rows2 (R : List (List Int)) (n : Nat) : Prop where
  ne : R ≠ []
  flat : R.flatten.length ≤ n
  len : R.length ≤ n + 1
  six : ∀ r ∈ R, ∀ x ∈ r, 0 ≤ x ∧ x < 6
theorem Rows2.opens {R : List (List Int)} {n : Nat} (h : Rows2 R n) (x : Int) : (open2 R x) ≠ [] ∧ (open2 R x).flatten.length ≤ n ∧ (open2 R x).length ≤ n + 2 ∧ ∀ r ∈ open2 R x, ∀ z ∈ r, 0 ≤ z ∧ z < 6 := by
  unfold open2
  split
  · refine ⟨by simp, by simpa using h.flat, by have := h.len; simp; omega, fun r hr z hz => ?_⟩
    rcases List.mem_append.mp hr with hr | hr
    · exact h.six r hr z hz
    · rw [List.mem_singleton.mp hr] at hz; cases hz
  · exact ⟨h.ne, h.flat, by have := h.len; omega, h.six⟩
theorem Rows2.grow {R : List (List Int)} {n : Nat} (h : Rows2 R n) (x : Int) : Rows2 (grow2 R x) (n + 1) := by
  obtain ⟨h1, h2, h3, h4⟩ := h.opens x
  unfold grow2 put2
  generalize open2 R x = R1 at *
  split
  · obtain ⟨R', r, rfl⟩ := rows_snoc h1
    rw [addLast_concat]
    refine ⟨by simp, ?_, ?_, fun t ht z hz => ?_⟩
    · simp at h2 ⊢; omega
    · simp at h3 ⊢; omega
    · rcases List.mem_append.mp ht with ht | ht
      · exact h4 t (by simp [ht]) z hz
      · rw [List.mem_singleton.mp ht] at hz
        rcases List.mem_append.mp hz with hz | hz
        · exact h4 r (by simp) z hz
        · rw [List.mem_singleton.mp hz]; omega
  · exact ⟨h1, by omega, by omega, h4⟩
theorem rows2_ok (xs : List Int) : Rows2 (rows2 xs) xs.length := by
  have : ∀ (l : List Int) (R : List (List Int)) (n : Nat), Rows2 R n → Rows2 (l.foldl grow2 R) (n + l.length) := by
    intro l
    induction l with
    | nil => intro R n h; simpa using h
    | cons x l ih => intro R n h; have := ih _ _ (h.grow x); rw [List.length_cons, show n + (l.length + 1) = n + 1 + l.length by omega]; exact this
  have h0 : Rows2 [[]] 0 := ⟨by simp, by simp, by simp, fun r hr x hx => by rw [List.mem_singleton.mp hr] at hx; cases hx⟩
  have := this xs [[]] 0 h0
  rw [Nat.zero_add] at this
  exact this
theorem row_le_flat {R : List (List Int)} {r : List Int} (h : r ∈ R) : r.length ≤ R.flatten.length := by
  have := length_le_tot h
  rw [List.length_flatten]; exact this

section
variable {K : Cx} {n : Nat} {xs : List Int} {sh ow : List (Str × D)} {Q : Out → Prop}

theorem rowSt1 (B : BG K) (hxs : xs.length ≤ 63) (hs : Sub [("script", .py (iL xs))] sh) (ho : Sub [("rows", .py (iLL [[]]))] ow)
    (hq : ∀ sh' ow', Sub [("script", .py (iL xs))] sh' → Sub [("rows", .py (iLL (rows2 xs)))] ow' → Q (.next sh' ow')) : Ex1 K false n rowSc sh ow (stR 1) Q := by
  refine Ex1.for (its := xs.map .int) (Ev.iter (Ev.name (hs _ _ rfl))) (fun i sh' ow' => Sub [("script", .py (iL xs))] sh' ∧ Sub [("rows", .py (iLL (rows2 (xs.take i))))] ow') ⟨hs, ho⟩ (fun i di sh' ow' hi hI => ?_) (fun sh' ow' hI => ?_)
  · obtain ⟨hS, hO⟩ := hI
    obtain ⟨x, hx, rfl⟩ : ∃ x, xs[i]? = some x ∧ PyData.int x = di := by
      rw [List.getElem?_map] at hi
      cases q : xs[i]? with
      | none => rw [q] at hi; cases hi
      | some x => rw [q] at hi; exact ⟨x, rfl, by simpa using hi⟩
    have hil : i < xs.length := (List.getElem?_eq_some_iff.mp hx).1
    have hstep : rows2 (xs.take (i + 1)) = grow2 (rows2 (xs.take i)) x := by
      unfold rows2
      rw [List.take_succ_eq_append_getElem hil, List.foldl_append, (List.getElem?_eq_some_iff.mp hx).2]; rfl
    have hok := rows2_ok (xs.take i)
    have hnl : (xs.take i).length ≤ 63 := by rw [List.length_take]; omega
    generalize rows2 (xs.take i) = R0 at hO hstep hok
    obtain ⟨hne, hfl, hRl, _⟩ := hok.opens x
    have hR0 : R0.length ≤ 64 := by have := hok.len; omega
    have hgo : open2 R0 x = if (x / 6 % 3 == 1) = true then R0 ++ [[]] else R0 := rfl
    refine ⟨_, _, AsgS.name, Ex.subs2 (Sub.pushC hS (by rfl)) (Sub.del hO (by rfl)) ?_⟩
    refine Ex.cons (Ex1.if (b := x / 6 % 3 == 1) (Tr.cmp (Ev.modI (Ev.divI (Ev.name (by rfl)) Ev.cInt (by decide) (by decide)) Ev.cInt (by decide)) Ev.cInt CmpOk.eqI) (fun h => Ex.cons (Ex1.append (ds := R0.map iL) (d := .list []) (by rfl) (Ev.list EvAll.nil) (by rw [List.length_map, sizeLine_eq]; omega) (Ex.nil ?_))) (fun h => Ex.nil ?_))
    all_goals
      obtain ⟨R, hR⟩ : ∃ R, R = open2 R0 x := ⟨_, rfl⟩
      rw [← hR] at hne hfl hRl
      rw [h] at hgo
      first | rw [if_pos rfl] at hgo | rw [if_neg Bool.false_ne_true] at hgo
      rw [← hR] at hgo
      have hgr : grow2 R0 x = put2 R x := by unfold grow2; rw [hR]
      rw [hgr] at hstep
      refine Ex.subs2 (l := [("x", .py (.int x)), ("script", .py (iL xs))]) (l2 := [("rows", .py (iLL R))]) (Sub.cons rfl (Sub.cons rfl Sub.nil)) (Sub.cons (by unfold iLL; rw [hgo]; first | rfl | (rw [List.map_append]; rfl)) Sub.nil) ?_
      obtain ⟨R', r, hRr⟩ := rows_snoc hne
      have hlr : lastRow R = r := by rw [hRr, lastRow_concat]
      have hl1 : R.length - 1 = R'.length := by rw [hRr]; simp
      have hr63 : r.length ≤ 63 := by
        have := row_le_flat (R := R) (r := r) (by rw [hRr]; simp); omega
      have hsz : R.length ≤ sizeLine := by rw [sizeLine_eq]; omega
      have hpos : 0 < R.length := List.length_pos_iff.mpr hne
      refine Ex.cons (Ex1.if (b := takes2 R x) (Tr.cast (Tr.orCons (b := x / 6 % 3 == 2) (c := !(lastRow R).contains (x % 6)) (Tr.cmp (Ev.modI (Ev.divI (Ev.name (by rfl)) Ev.cInt (by decide) (by decide)) Ev.cInt (by decide)) Ev.cInt CmpOk.eqI) fun _ => Tr.cast (Tr.orCons (c := false) (Tr.cmp (Ev.modI (Ev.name (by rfl)) Ev.cInt (by decide)) (Ev.itemNeg (ds := R.map iL) (i := -1) (d := iL (lastRow R)) (Ev.name (by rfl)) (Ev.negI Ev.cInt) (by decide) (by simp; omega) ?_ (by simpa using hsz)) CmpOk.notInIL) fun _ => Tr.orNil) (by simp)) rfl) (fun h => ?_) (fun h => ?_))
      · have e : ((-1 : Int) + ((R.map iL).length : Nat)).toNat = R.length - 1 := by simp; omega
        rw [e, List.getElem?_map, hl1, hRr]
        simp [lastRow_concat]
      · refine Ex.cons (Ex1.itemAppend (ds := R.map iL) (es := r.map .int) (i := R.length - 1) (k := -1) (d := .int (x % 6)) (by rfl) (Ev.negI Ev.cInt) (.inr ⟨by decide, by simp; omega, by simp; omega⟩) (by simpa using hsz) (by rw [hl1, hRr]; simp [iL]) (Ev.modI (Ev.name (by rfl)) Ev.cInt (by decide)) (fun r => r.flat trivial) (by rw [List.length_map]; exact le_size hr63) ?_)
        refine Ex.nil (Ex.nil ⟨Sub.cons rfl Sub.nil, ?_⟩)
        have hr : put2 R x = R' ++ [r ++ [x % 6]] := by unfold put2; rw [h, if_pos rfl, hRr, addLast_concat]
        rw [hstep, hr]
        refine Sub.cons ?_ Sub.nil
        show some (D.py (.list ((R.map iL).set (R.length - 1) (.list (r.map .int ++ [.int (x % 6)]))))) = some (D.py (iLL (R' ++ [r ++ [x % 6]])))
        rw [hl1, hRr, List.map_append, List.set_append_right _ _ (by simp)]
        simp [iLL, iL]
      · refine Ex.nil (Ex.nil ⟨Sub.cons rfl Sub.nil, ?_⟩)
        have hr : put2 R x = R := by unfold put2; rw [h, if_neg Bool.false_ne_true]
        rw [hstep, hr]
        exact Sub.cons rfl Sub.nil
  · rw [List.length_map] at hI
    rw [List.take_length] at hI
    exact Ex.nil (hq sh' ow' hI.1 hI.2)

theorem row_body (B : BG K) (hxs : xs.length ≤ 63) : Ex K false n rowSc [("script", .py (iL xs))] [] rowRec.body fun o => o = .ret (.py (iLL (rows2 xs))) false := by
  show Ex K false n rowSc [("script", .py (iL xs))] [] [stR 0, stR 1, stR 2] _
  refine Ex.cons (Ex1.assignOwn (d := .py (iLL [[]])) (Ev.list (EvAll.cons (Ev.list EvAll.nil) EvAll.nil)) ?_ (.inl rfl))
  refine Ex.cons (rowSt1 B hxs (Sub.cons rfl Sub.nil) (Sub.cons rfl Sub.nil) fun sh ow h1 h2 => ?_)
  refine Ex.subs2 h1 h2 ?_
  exact Ex.cons (Ex1.ret (Ev.name (by rfl)) rfl)
theorem CallOk.row2 {fr : Addr} {ob : Obj} {pm cd doc : Value} (B : BG K) (Fr : Fn K rowRec fr ob pm cd doc) (hxs : xs.length ≤ 63) : CallOk K (n + 1) (.ref fr) [.py (iL xs)] (.py (iLL (rows2 xs))) false :=
  CallOk.def (names := ["script"]) Fr (TopOk.of (by decide)) rfl (fun vs hvs => by
    match vs, hvs with
    | [v], _ => rfl) (row_body B hxs) fun o ho => ho
end

/-! ### orders -/
def stepOk (o : List Int) (s : Int) : Bool := !(o.contains (s / 6) && o.contains (s % 6)) || decide (o.idxOf (s / 6) < o.idxOf (s % 6))
def keeps2 (st : List Int) (o : List Int) : Bool := st.all (stepOk o)
def ins2 (x : Int) (o : List Int) : List (List Int) := (List.range (o.length + 1)).map fun k => o.take k ++ [x] ++ o.drop k
def more2 (st : List Int) (os : List (List Int)) (x : Int) : List (List Int) := (os.flatMap (ins2 x)).filter (keeps2 st)
def orders2 (st ks : List Int) : List (List Int) := ks.foldl (more2 st) [[]]
theorem more2_mem {st : List Int} {os : List (List Int)} {x : Int} {o : List Int} (h : o ∈ os.flatMap (ins2 x)) : ∃ p ∈ os, ∃ k, k ≤ p.length ∧ o = p.take k ++ [x] ++ p.drop k := by
  obtain ⟨p, hp, ho⟩ := List.mem_flatMap.mp h
  obtain ⟨k, hk, rfl⟩ := List.mem_map.mp ho
  exact ⟨p, hp, k, by have := List.mem_range.mp hk; omega, rfl⟩
theorem ins2_len {x : Int} {o o' : List Int} (h : o' ∈ ins2 x o) : o'.length = o.length + 1 := by
  obtain ⟨k, hk, rfl⟩ := List.mem_map.mp h
  have := List.mem_range.mp hk
  simp only [List.length_append, List.length_take, List.length_singleton, List.length_drop]; omega
theorem flat2_len {x : Int} {i : Nat} : ∀ {os : List (List Int)}, (∀ o ∈ os, o.length = i) → (os.flatMap (ins2 x)).length = os.length * (i + 1)
  | [], _ => by simp
  | o :: os, h => by
    rw [List.flatMap_cons, List.length_append, flat2_len fun p hp => h p (.tail _ hp), List.length_cons]
    have : (ins2 x o).length = i + 1 := by unfold ins2; rw [List.length_map, List.length_range, h o (.head _)]
    rw [this, Nat.add_mul, Nat.one_mul]; omega
structure Ors (os : List (List Int)) (i : Nat) : Prop where
  each : ∀ o ∈ os, o.length = i
  len : os.length ≤ 6 ^ i
theorem Ors.more {st : List Int} {os : List (List Int)} {i : Nat} (h : Ors os i) (hi : i < 6) (x : Int) : Ors (more2 st os x) (i + 1) ∧ (os.flatMap (ins2 x)).length ≤ 6 ^ (i + 1) := by
  have h2 := flat2_len (x := x) h.each
  have h3 : (os.flatMap (ins2 x)).length ≤ 6 ^ (i + 1) := by
    rw [h2, Nat.pow_succ]; exact Nat.mul_le_mul h.len (by omega)
  refine ⟨⟨fun o ho => ?_, Nat.le_trans (List.length_filter_le ..) h3⟩, h3⟩
  obtain ⟨p, hp, ho'⟩ := List.mem_flatMap.mp (List.mem_filter.mp ho).1
  rw [ins2_len ho', h.each p hp]
theorem six_le {i : Nat} (h : i ≤ 6) : 6 ^ i ≤ 46656 := by
  have := Nat.pow_le_pow_right (n := 6) (by decide) h
  simpa using this

section
variable {K : Cx} {n : Nat} {xs o st ks : List Int} {sh ow : List (Str × D)} {Q : Out → Prop}
theorem ke_body (hst : st.length ≤ 63) (ho : o.length ≤ 6) : Ex K false n keSc [("order", .py (iL o)), ("steps", .py (iL st))] [] keRec.body fun r => r = .ret (.py (.bool (keeps2 st o))) true := by
  show Ex K false n keSc [("order", .py (iL o)), ("steps", .py (iL st))] [] [stK 0, stK 1] _
  have ho' : o.length ≤ sizeLine := le_size (by omega)
  refine Ex.cons (Ex1.for (its := st.map .int) (Ev.iter (Ev.name (by rfl))) (fun i sh' ow' => Sub [("order", .py (iL o)), ("steps", .py (iL st))] sh' ∧ keeps2 (st.take i) o = true) ⟨Sub.refl, rfl⟩ (fun i di sh' ow' hi hI => ?_) (fun sh' ow' hI => ?_))
  · obtain ⟨hS, hk⟩ := hI
    obtain ⟨x, hx, rfl⟩ : ∃ x, st[i]? = some x ∧ PyData.int x = di := by
      rw [List.getElem?_map] at hi
      cases q : st[i]? with
      | none => rw [q] at hi; cases hi
      | some x => rw [q] at hi; exact ⟨x, rfl, by simpa using hi⟩
    have hil : i < st.length := (List.getElem?_eq_some_iff.mp hx).1
    have hstep : keeps2 (st.take (i + 1)) o = stepOk o x := by
      unfold keeps2 at hk ⊢
      rw [List.take_succ_eq_append_getElem hil, List.all_append, hk, (List.getElem?_eq_some_iff.mp hx).2]; simp
    have hno : stepOk o x = false → keeps2 st o = false := fun h => by
      unfold keeps2; rw [List.all_eq_false]; exact ⟨x, List.mem_of_getElem? hx, by simp [h]⟩
    refine ⟨_, _, AsgS.name, Ex.subs2 (l2 := []) (Sub.pushC hS (by rfl)) Sub.nil ?_⟩
    have hdiv : ∀ {σ : List (Str × D)} {p q r : Pos} {z : Nat}, σ.lookup ("step" : Str) = some (.py (.int x)) → Ev K n keSc σ (.BinOp (.Name "step" p) .FloorDiv (.Constant (.int 6) z q) r) (.py (.int (x / 6))) true := fun h => Ev.divI (Ev.name h) Ev.cInt (by decide) (by decide)
    have hmod : ∀ {σ : List (Str × D)} {p q r : Pos} {z : Nat}, σ.lookup ("step" : Str) = some (.py (.int x)) → Ev K n keSc σ (.BinOp (.Name "step" p) .Mod (.Constant (.int 6) z q) r) (.py (.int (x % 6))) true := fun h => Ev.modI (Ev.name h) Ev.cInt (by decide)
    refine Ex.cons (Ex1.if (b := o.contains (x / 6) && o.contains (x % 6)) (Tr.andCons (Tr.cmp (hdiv (by rfl)) (Ev.name (by rfl)) CmpOk.inIL) fun _ => Tr.cast (Tr.andCons (c := true) (Tr.cmp (hmod (by rfl)) (Ev.name (by rfl)) CmpOk.inIL) fun _ => Tr.andNil) (by simp)) (fun h => ?_) (fun h => ?_))
    · have h1 : x / 6 ∈ o := by simp at h; exact h.1
      have h2 : x % 6 ∈ o := by simp at h; exact h.2
      refine Ex.cons (Ex1.if (b := decide (((o.idxOf (x % 6) : Nat) : Int) ≤ (o.idxOf (x / 6) : Nat))) (Tr.cmp (Ev.indexOf (xs := o) (i := x / 6) (Ev.name (by rfl)) (hdiv (by rfl)) h1 ho') (Ev.indexOf (xs := o) (i := x % 6) (Ev.name (by rfl)) (hmod (by rfl)) h2 ho') CmpOk.geI) (fun h3 => ?_) (fun h3 => ?_))
      · refine Ex.cons (Ex1.ret Ev.cBool ?_)
        have : stepOk o x = false := by unfold stepOk; rw [h]; simp at h3 ⊢; omega
        show Out.ret _ _ = _
        rw [hno this]
      · refine Ex.nil (Ex.nil (Ex.nil ⟨Sub.cons rfl (Sub.cons rfl Sub.nil), ?_⟩))
        rw [hstep]; unfold stepOk; rw [h]; simp at h3 ⊢; omega
    · refine Ex.nil (Ex.nil ⟨Sub.cons rfl (Sub.cons rfl Sub.nil), ?_⟩)
      rw [hstep]; unfold stepOk; rw [h]; rfl
  · rw [List.length_map, List.take_length] at hI
    refine Ex.nil (Ex.cons (Ex1.ret Ev.cBool ?_))
    rw [hI.2]
theorem CallOk.ke {fr : Addr} {ob : Obj} {pm cd doc : Value} (Fr : Fn K keRec fr ob pm cd doc) (hst : st.length ≤ 63) (ho : o.length ≤ 6) : CallOk K (n + 1) (.ref fr) [.py (iL o), .py (iL st)] (.py (.bool (keeps2 st o))) true :=
  CallOk.def (names := ["order", "steps"]) Fr (TopOk.of (by decide)) rfl (fun vs hvs => by
    match vs, hvs with
    | [v, u], _ => rfl) (ke_body hst ho) fun o ho => ho

theorem or_body {fk : Addr} {ok : Obj} {pmk cdk dock : Value} (B : BG K) (Fk : Fn K keRec fk ok pmk cdk dock) (hst : st.length ≤ 63) (hks : ks.length ≤ 6) :
    Ex K false (n + 1) orSc [("numbers", .py (iL ks)), ("steps", .py (iL st))] [] orRec.body fun r => r = .ret (.py (iLL (orders2 st ks))) false := by
  show Ex K false (n + 1) orSc [("numbers", .py (iL ks)), ("steps", .py (iL st))] [] [stO 0, stO 1, stO 2] _
  have hor : ∀ i, i ≤ ks.length → Ors (orders2 st (ks.take i)) i := by
    intro i
    induction i with
    | zero => intro _; exact ⟨fun o ho => by rw [List.mem_singleton.mp ho]; rfl, by show 1 ≤ 1; omega⟩
    | succ i ih =>
      intro hi
      have := ((ih (by omega)).more (st := st) (by omega) ks[i]).1
      unfold orders2 at this ⊢
      rw [List.take_succ_eq_append_getElem (by omega), List.foldl_append]; exact this
  refine Ex.cons (Ex1.assign (d := .py (iLL [[]])) (Ev.list (EvAll.cons (Ev.list EvAll.nil) EvAll.nil)) ?_)
  refine Ex.cons (Ex1.for (its := ks.map .int) (Ev.iter (Ev.name (by rfl))) (fun i sh' ow' => Sub [("orders", .py (iLL (orders2 st (ks.take i)))), ("numbers", .py (iL ks)), ("steps", .py (iL st))] sh') (Sub.cons rfl (Sub.cons rfl (Sub.cons rfl Sub.nil))) (fun i di sh' ow' hi hS => ?_) (fun sh' ow' hI => ?_))
  · obtain ⟨x, hx, rfl⟩ : ∃ x, ks[i]? = some x ∧ PyData.int x = di := by
      rw [List.getElem?_map] at hi
      cases q : ks[i]? with
      | none => rw [q] at hi; cases hi
      | some x => rw [q] at hi; exact ⟨x, rfl, by simpa using hi⟩
    have hil : i < ks.length := (List.getElem?_eq_some_iff.mp hx).1
    have hO := hor i (by omega)
    have hstep : orders2 st (ks.take (i + 1)) = more2 st (orders2 st (ks.take i)) x := by
      unfold orders2
      rw [List.take_succ_eq_append_getElem hil, List.foldl_append, (List.getElem?_eq_some_iff.mp hx).2]; rfl
    rw [hstep]
    generalize orders2 st (ks.take i) = os at hS hO
    obtain ⟨hO2, hfl⟩ := hO.more (st := st) (by omega) x
    have h6 := six_le (i := i + 1) (by omega)
    have h6' := six_le (i := i) (by omega)
    have hol : os.length ≤ sizeLine := by have := hO.len; rw [sizeLine_eq]; omega
    have hol2 : (os.flatMap (ins2 x)).length ≤ sizeLine := by rw [sizeLine_eq]; omega
    have hoi : ∀ o ∈ os, o.length ≤ 63 := fun o ho => by rw [hO.each o ho]; omega
    refine ⟨_, _, AsgS.name (.inr rfl), Ex.subs2 (l2 := []) (Sub.pushC hS (by rfl)) Sub.nil ?_⟩
    have hcomp : (((os.filter fun _ => true).flatMap fun a => ((List.range (a.length + 1)).filter fun _ => true).map fun k => iL (a.take k ++ [x] ++ a.drop k)) : List PyData) = (os.flatMap (ins2 x)).map iL := by
      rw [List.filter_eq_self.mpr (by simp), List.map_flatMap]
      congr 1; funext a
      rw [List.filter_eq_self.mpr (by simp)]; unfold ins2; rw [List.map_map]; rfl
    refine Ex.cons (Ex1.assignCm (out := (os.flatMap (ins2 x)).map iL) (fr := false) (Cm.cast (Cm.two os iL (fun o => List.range (o.length + 1)) (fun (k : Nat) => .int (k : Int)) (fun _ _ => true) (fun a k => iL (a.take k ++ [x] ++ a.drop k)) (fun _ => true) (Ev.iterLL (Ev.name (by rfl))) (fun _ _ => TrAll.nil)
      (fun o ho _ => EvIt.range1 (k := o.length + 1) B (Ev.cast (Ev.addI (Ev.lenIL (xs := o) B (Ev.name (by rfl)) (le_size (hoi o ho))) Ev.cInt) (by simp)) (by rw [sizeLine_eq]; have := hoi o ho; omega)) (fun _ _ _ _ _ => TrAll.nil)
      (fun o ho _ k hk _ => Ev.weak (Ev.addLI (xs := o.take k ++ [x]) (ys := o.drop k) (Ev.addLI (xs := o.take k) (ys := [x]) (Ev.uptoIL (xs := o) (k := k) (Ev.name (by rfl)) (Ev.name (by rfl)) (le_size (hoi o ho))) (Ev.list (ds := [.int x]) (EvAll.cons (Ev.name (by rfl)) EvAll.nil)  (by show 1 ≤ sizeLine; decide)) ?_) (Ev.fromIL (xs := o) (k := k) (Ev.name (by rfl)) (Ev.name (by rfl)) (le_size (hoi o ho))) ?_)) (by rw [hcomp, List.length_map]; exact hol2)) hcomp) ?_ rfl (swap_true rfl rfl rfl rfl))
    · have := hoi o ho; rw [sizeLine_eq]; simp only [List.length_take, List.length_singleton]; omega
    · have := hoi o ho; rw [sizeLine_eq]; simp only [List.length_append, List.length_take, List.length_singleton, List.length_drop]; omega
    refine Ex.cons (Ex1.assignCm (out := (more2 st os x).map iL) (fr := false) (Cm.one (os.flatMap (ins2 x)) iL (keeps2 st) iL (Ev.iterLL (Ev.name (by rfl))) (fun o ho => TrAll.one (Tr.val (Ev.callF Fk (EvArgs.cons (Ev.name (by rfl)) (EvArgs.cons (Ev.name (by rfl)) EvArgs.nil)) (CallOk.ke Fk hst (by
      obtain ⟨p, hp, ho'⟩ := List.mem_flatMap.mp ho
      rw [ins2_len ho', hO.each p hp]; omega))) TruthOk.bool)) (fun o _ _ => Ev.name (by rfl)) hol2) ?_ rfl (swap_true rfl rfl rfl rfl))
    exact Ex.nil (Sub.cons rfl (Sub.cons rfl (Sub.cons rfl Sub.nil)))
  · rw [List.length_map, List.take_length] at hI
    refine Ex.nil (Ex.subs2 (l2 := []) hI Sub.nil ?_)
    exact Ex.cons (Ex1.ret (Ev.name (by rfl)) rfl)
theorem CallOk.orders {fr fk : Addr} {ob ok : Obj} {pm cd doc pmk cdk dock : Value} (B : BG K) (Fr : Fn K orRec fr ob pm cd doc) (Fk : Fn K keRec fk ok pmk cdk dock) (hst : st.length ≤ 63) (hks : ks.length ≤ 6) :
    CallOk K (n + 2) (.ref fr) [.py (iL ks), .py (iL st)] (.py (iLL (orders2 st ks))) false :=
  CallOk.def (names := ["numbers", "steps"]) Fr (TopOk.of (by decide)) rfl (fun vs hvs => by
    match vs, hvs with
    | [v, u], _ => rfl) (or_body B Fk hst hks) fun o ho => ho
end
end Mine

namespace Mine

def stepF (k : Nat) (acc : List (Int × PyData)) (x : Int) : List (Int × PyData) := if x ∈ keysD acc then acc else acc ++ [(x, .int (k : Int))]
def firstU (R : List (List Int)) (i : Nat) : List (Int × PyData) := (List.range i).foldl (fun acc k => (R.getD k []).foldl (stepF k) acc) []
theorem foldF_keys (k : Nat) : ∀ (l : List Int) (acc : List (Int × PyData)), keysD (l.foldl (stepF k) acc) = l.foldl step_dedup (keysD acc)
  | [], acc => rfl
  | x :: l, acc => by
    rw [List.foldl_cons, List.foldl_cons, foldF_keys k l]
    congr 1
    unfold stepF step_dedup
    by_cases q : x ∈ keysD acc
    · rw [if_pos q]; simp [q]
    · rw [if_neg q]; simp [q]; unfold keysD; simp
theorem firstU_succ (R : List (List Int)) (i : Nat) : firstU R (i + 1) = (R.getD i []).foldl (stepF i) (firstU R i) := by
  unfold firstU; rw [List.range_succ, List.foldl_append]; rfl
theorem firstU_keys (R : List (List Int)) : ∀ i, i ≤ R.length → keysD (firstU R i) = dedup (R.take i).flatten
  | 0, _ => rfl
  | i + 1, h => by
    rw [firstU_succ, foldF_keys, firstU_keys R i (by omega)]
    unfold dedup
    rw [List.take_succ_eq_append_getElem (by omega), List.flatten_append, List.foldl_append]
    congr 1
    rw [List.getD_eq_getElem?_getD, List.getElem?_eq_getElem (by omega)]; simp
def firstD (R : List (List Int)) : List (Int × PyData) := firstU R R.length
def frow (R : List (List Int)) (x : Int) : Int := ((R.findIdx fun r => r.contains x : Nat) : Int)

def pairs2 (R : List (List Int)) : List Int := R.flatMap fun r => (List.range (r.length - 1)).map fun i => 6 * r.getD i 0 + r.getD (1 + i) 0
def steps2 (R : List (List Int)) : List Int := srt (dedup (pairs2 R))
theorem pairs2_len (R : List (List Int)) : (pairs2 R).length ≤ R.flatten.length := by
  unfold pairs2
  induction R with
  | nil => simp
  | cons r R ih => rw [List.flatMap_cons, List.length_append, List.flatten_cons, List.length_append, List.length_map, List.length_range]; omega
def kept2 (R : List (List Int)) : List (List Int × List Int) := (orders2 (steps2 R) (dedup R.flatten)).map fun o => (o.map (frow R), o)

structure Law02 (R : List (List Int)) : Prop where
  first : ∀ x ∈ dedup R.flatten, atD (firstD R) x = some (.int (frow R x))
  orders : ∀ o ∈ orders2 (steps2 R) (dedup R.flatten), ∀ x ∈ o, x ∈ dedup R.flatten
  bad : (m3 R).2.2 = false → kept2 R = []
  good : (m3 R).2.2 = true → kept2 R ≠ [] ∧ (bestP (kept2 R)).2 = (m3 R).1

theorem shp_pairs (L : List (List Int × List Int)) : Shp (.list (L.map pairD)) := by
  have h1 : ∀ p, (pairD p).canLay0 = true := fun p => by
    unfold pairD; rw [PyData.canLay0]
    exact canLayAll_of fun d hd => by
      rcases List.mem_cons.mp hd with rfl | hd
      · exact canLay_iL _
      · rw [List.mem_singleton.mp hd]; exact canLay_iL _
  have h2 : ∀ p, (pairD p).depth ≤ 62 := fun p => by
    unfold pairD; rw [PyData.depth]
    have := depthAll_le (ds := [iL p.1, iL p.2]) (k := 61) fun d hd => by
      rcases List.mem_cons.mp hd with rfl | hd
      · exact depth_iL _
      · rw [List.mem_singleton.mp hd]; exact depth_iL _
    omega
  have h3 := canLayAll_of (ds := L.map pairD) fun d hd => by obtain ⟨r, _, rfl⟩ := List.mem_map.mp hd; exact h1 r
  have h4 := depthAll_le (ds := L.map pairD) (k := 62) fun d hd => by obtain ⟨r, _, rfl⟩ := List.mem_map.mp hd; exact h2 r
  simp [Shp, SeqAt.shaped, PyData.canLay0, h3, PyData.depth]; omega
theorem CmpOk.nePairs {K : Cx} {n : Nat} {L : List (List Int × List Int)} : CmpOk K n .NotEq (.py (.list (L.map pairD))) (.py (.list [])) (!L.isEmpty) :=
  CmpOk.cast (CmpOk.neD (shp_pairs L) (shp_ints [])) (by cases L <;> simp [PyData.eqv, PyData.eqvAll])

section
variable {K : Cx} {n : Nat} {xs ks : List Int} {R : List (List Int)} {sh ow : List (Str × D)} {Q : Out → Prop}
variable {fc fr fk fo : Addr} {oc or ok oo : Obj} {pmc cdc docc pmr cdr docr pmk cdk dock pmo cdo doco : Value}
def env2 (xs : List Int) (R : List (List Int)) : List (Str × D) := [("rows", .py (iLL R)), ("script", .py (iL xs))]

theorem st2_2 (B : BG K) (hR : R.length ≤ 64) (hfl : R.flatten.length ≤ 63) (hs : Sub (env2 xs R) sh) (ho : Sub [("first", .dict [])] ow)
    (hq : ∀ sh' ow', Sub (env2 xs R) sh' → Sub [("first", .dict (firstD R))] ow' → Q (.next sh' ow')) : Ex1 K true n lawSc sh ow (st2 2) Q := by
  refine Ex1.for (its := (List.range R.length).map fun i => .int (i : Nat)) (EvIt.range1 (k := R.length) B (Ev.lenLL B (Ev.name (hs ("rows" : Str) _ rfl)) (by rw [sizeLine_eq]; omega)) (by rw [sizeLine_eq]; omega)) (fun i sh' ow' => Sub (env2 xs R) sh' ∧ Sub [("first", .dict (firstU R i))] ow') ⟨hs, ho⟩ (fun i di sh' ow' hi hI => ?_) (fun sh' ow' hI => ?_)
  · obtain ⟨hS, hO⟩ := hI
    have hil : i < R.length := by
      have := (List.getElem?_eq_some_iff.mp hi).1
      simpa using this
    obtain rfl : PyData.int (i : Nat) = di := by
      rw [List.getElem?_map, List.getElem?_range hil] at hi; simpa using hi
    have hkl : ∀ j, (((R.getD i []).take j).foldl (stepF i) (firstU R i)).length ≤ 63 := fun j => by
      have e1 : (((R.getD i []).take j).foldl (stepF i) (firstU R i)).length = (keysD (((R.getD i []).take j).foldl (stepF i) (firstU R i))).length := by unfold keysD; simp
      rw [e1, foldF_keys, firstU_keys R i (by omega)]
      unfold dedup
      rw [← List.foldl_append]
      have e2 := length_dedup_le ((R.take i).flatten ++ (R.getD i []).take j)
      have e3 : ((R.take i).flatten ++ (R.getD i []).take j).length ≤ R.flatten.length := by
        have e : R = R.take i ++ R.getD i [] :: R.drop (i + 1) := by
          rw [List.getD_eq_getElem?_getD, List.getElem?_eq_getElem hil]; simp
        conv => rhs; rw [e]
        simp only [List.flatten_append, List.flatten_cons, List.length_append, List.length_take]; omega
      unfold dedup at e2
      omega
    rw [firstU_succ]
    refine ⟨_, _, AsgS.name, Ex.subs2 (Sub.pushC hS (by rfl)) (Sub.del hO (by rfl)) ?_⟩
    refine Ex.cons (Ex1.for (its := (R.getD i []).map .int) (Ev.iter (Ev.itemLL (P := R) (k := i) (Ev.name (by rfl)) (Ev.name (by rfl)) hil (by rw [sizeLine_eq]; omega)))
      (fun j sh' ow' => Sub (("k", .py (.int (i : Nat))) :: env2 xs R) sh' ∧ Sub [("first", .dict (((R.getD i []).take j).foldl (stepF i) (firstU R i)))] ow') ⟨Sub.refl, Sub.refl⟩ (fun j dj sh' ow' hj hJ => ?_) (fun sh' ow' hJ => ?_))
    · obtain ⟨hS, hO⟩ := hJ
      obtain ⟨x, hx, rfl⟩ : ∃ x, (R.getD i [])[j]? = some x ∧ PyData.int x = dj := by
        rw [List.getElem?_map] at hj
        cases q : (R.getD i [])[j]? with
        | none => rw [q] at hj; cases hj
        | some x => rw [q] at hj; exact ⟨x, rfl, by simpa using hj⟩
      have hjl : j < (R.getD i []).length := (List.getElem?_eq_some_iff.mp hx).1
      have hstep : ((R.getD i []).take (j + 1)).foldl (stepF i) (firstU R i) = stepF i (((R.getD i []).take j).foldl (stepF i) (firstU R i)) x := by
        rw [List.take_succ_eq_append_getElem hjl, (List.getElem?_eq_some_iff.mp hx).2, List.foldl_append]; rfl
      have hml := hkl j
      rw [hstep]
      generalize ((R.getD i []).take j).foldl (stepF i) (firstU R i) = M at hO hml
      refine ⟨_, _, AsgS.name, Ex.subs2 (Sub.pushC hS (by rfl)) (Sub.del hO (by rfl)) ?_⟩
      refine Ex.cons (Ex1.if (b := !decide (x ∈ keysD M)) (Tr.cmp (Ev.name (by rfl)) (Ev.name (by rfl)) CmpOk.notInD) (fun h => ?_) (fun h => ?_))
      · have hn : x ∉ keysD M := by simpa using h
        refine Ex.cons (Ex1.setNew (kvs := M) (d := .int (i : Nat)) (i := x) (by rfl) (Ev.name (by rfl)) (Ev.name (by rfl)) (fun r => r.flat trivial) hn (le_size hml) ?_)
        refine Ex.nil (Ex.nil ⟨Sub.cons rfl (Sub.cons rfl (Sub.cons rfl Sub.nil)), ?_⟩)
        have : stepF i M x = M ++ [(x, .int (i : Nat))] := by unfold stepF; rw [if_neg hn]
        rw [this]
        exact Sub.cons rfl Sub.nil
      · have hn : x ∈ keysD M := by simpa using h
        refine Ex.nil (Ex.nil ⟨Sub.cons rfl (Sub.cons rfl (Sub.cons rfl Sub.nil)), ?_⟩)
        have : stepF i M x = M := by unfold stepF; rw [if_pos hn]
        rw [this]
        exact Sub.cons rfl Sub.nil
    · rw [List.length_map, List.take_length] at hJ
      refine Ex.nil (Ex.nil ⟨fun x d hx => hJ.1 x d ?_, hJ.2⟩)
      unfold env2 at hx ⊢
      by_cases q : x = "k"
      · subst q; cases hx
      · rw [List.lookup_cons, show (x == ("k" : Str)) = false by simpa using q]; exact hx
  · rw [List.length_map, List.length_range] at hI
    exact Ex.nil (hq sh' ow' hI.1 hI.2)

def env2b (xs : List Int) (R : List (List Int)) : List (Str × D) := [("kept", .py (.list ((kept2 R).map pairD))), ("rows", .py (iLL R)), ("script", .py (iL xs))]

theorem st2_5 (B : BG K) (Fc : Fn K c3Rec fc oc pmc cdc docc) (hR : R.length ≤ 64) (hfl : R.flatten.length ≤ 63) (hbad : (m3 R).2.2 = false → kept2 R = [])
    (hq0 : Q (.ret (.py (.bool true)) true)) (hq : (m3 R).2.2 = true → Q (.next (env2b xs R) [("told", .py (iL (m3 R).1))])) : Ex1 K true (n + 1) lawSc (env2b xs R) [] (st2 5) Q := by
  have hrl : ∀ r ∈ R, r.length ≤ sizeLine := fun r hr => le_size (Nat.le_trans (row_le_flat hr) hfl)
  have htot : tot R ≤ 63 := by have : tot R = R.flatten.length := by rw [List.length_flatten]; rfl
                               omega
  have e := mg3_ints R
  refine Ex1.tryC3 (rows := R.map (List.map PyData.int)) Fc B.rt (Ev.cast (Ev.ofCm (Cm.copy B (Ev.iterLL (Ev.name (by rfl))) hrl (by rw [sizeLine_eq]; omega))) (congrArg D.py (iLL_eq R))) (atoms_ints R) (by rw [List.length_map, sizeLine_eq]; omega) (by rw [tot_ints]; exact le_size htot) (fun out rest run => ?_) (fun run => ?_)
  · rw [e] at run
    injection run with r1 r2
    injection r2 with r2 r3
    have := hq r3
    rw [← r1]
    exact this
  · intro A env s X g ea S hexc
    rw [e] at run
    have hk := hbad run
    refine wpAny_execs_cons (wpAny_Return_some (wpAny_Compare1 ?_ (by rfl)))
    obtain ⟨v, as, h1, h2, h3⟩ := S.inAll.vars ("kept" : Str) (.py (.list ((kept2 R).map pairD))) (by rfl)
    rw [hk] at h2
    have h2' : Rd s.heap v (.list []) as := h2
    refine wpAny_Name (loadName_at S.henv h1 ?_ (by decide)) (by decide)
    refine List_ (args_nil ?_)
    refine wpAny_newObj_type ?_
    refine SeqAt.compareEq_shaped (s := { s with heap := s.heap.push { cls := .type "list", dict := none, data := .seq ([] : List Value).toArray } }) (h2'.ext (Ext.push _ _)).reads (Rd.reads (Rd.list (vs := []) (n := 0) (Heap.get?_push_size _ rfl) .nil)) (shp_ints []) (shp_ints []) ?_ ?_
    · have := S.room.units
      show A.units + 64 < cLine
      omega
    · refine ⟨_, hq0, _, s.toks, rfl, [], fun a o ha => Ext.push _ _ a o (S.base a o ha), ?_, nofun, fun _ => ⟨.nil, nofun⟩⟩
      exact Rd.bool true

theorem law02_body (B : BG K) (Fc : Fn K c3Rec fc oc pmc cdc docc) (Fr : Fn K rowRec fr or pmr cdr docr) (Fk : Fn K keRec fk ok pmk cdk dock) (Fo : Fn K orRec fo oo pmo cdo doco) (hxs : xs.length ≤ 63) (L : Law02 (rows2 xs)) :
    Ex K true (n + 2) lawSc [("script", .py (iL xs))] [] lawRec.body fun o => o = .ret (.py (.bool true)) true := by
  show Ex K true (n + 2) lawSc [("script", .py (iL xs))] [] [st2 0, st2 1, st2 2, st2 3, st2 4, st2 5, st2 6] _
  have hok := rows2_ok xs
  refine Ex.cons (Ex1.assign (d := .py (iLL (rows2 xs))) (Ev.callF Fr (EvArgs.cons (Ev.name (by rfl)) EvArgs.nil) (CallOk.row2 B Fr hxs)) ?_)
  generalize rows2 xs = R at *
  have hR : R.length ≤ 64 := by have := hok.len; omega
  have hfl : R.flatten.length ≤ 63 := by have := hok.flat; omega
  have hr : ∀ r ∈ R, r.length ≤ 63 := fun r hr => Nat.le_trans (row_le_flat hr) hfl
  have hk6 : (dedup R.flatten).length ≤ 6 := by
    have : ∀ {a b : List Int}, a.Nodup → (∀ x ∈ a, x ∈ b) → a.length ≤ b.length := by
      intro a
      induction a with
      | nil => intro b _ _; simp
      | cons x a ih =>
        intro b h s
        obtain ⟨h1, h2⟩ := List.nodup_cons.mp h
        have hx := s x (.head _)
        have := ih (b := b.erase x) h2 fun y hy => (List.mem_erase_of_ne (fun (q : y = x) => h1 (q ▸ hy))).mpr (s y (.tail _ hy))
        have hl := List.length_erase_of_mem hx
        have : 0 < b.length := List.length_pos_of_mem hx
        rw [List.length_cons]; omega
    refine this (b := [0, 1, 2, 3, 4, 5]) (nodup_dedup _) fun x hx => ?_
    obtain ⟨r, hr, hxr⟩ := List.mem_flatten.mp (mem_dedup.mp hx)
    have := hok.six r hr x hxr
    simp; omega
  have hkeys : keysD (firstD R) = dedup R.flatten := by unfold firstD; rw [firstU_keys R _ (Nat.le_refl _), List.take_length]
  have hfdl : (firstD R).length ≤ 63 := by
    have : (firstD R).length = (keysD (firstD R)).length := by unfold keysD; simp
    rw [this, hkeys]; omega
  have hpl := Nat.le_trans (pairs2_len R) hfl
  have hdl : (dedup (pairs2 R)).length ≤ 63 := Nat.le_trans (length_dedup_le _) hpl
  have hsl : (steps2 R).length ≤ 63 := by unfold steps2; rw [srt_length]; exact hdl
  refine Ex.cons (Ex1.assignOwn (d := .dict []) Ev.dictEmpty ?_)
  refine Ex.cons (st2_2 (xs := xs) (R := R) B hR hfl (Sub.cons rfl (Sub.cons rfl Sub.nil)) (Sub.cons rfl Sub.nil) fun sh ow h1 h2 => ?_)
  refine Ex.subs2 h1 h2 ?_
  refine Ex.share (x := "first") (d := .dict (firstD R)) rfl ?_
  have hcomp : (((R.filter fun _ => true).flatMap fun r => ((List.range (r.length - 1)).filter fun _ => true).map fun i => PyData.int (6 * r.getD i 0 + r.getD (1 + i) 0)) : List PyData) = (pairs2 R).map .int := by
    rw [List.filter_eq_self.mpr (by simp)]; unfold pairs2; rw [List.map_flatMap]
    congr 1; funext r
    rw [List.filter_eq_self.mpr (by simp), List.map_map]; rfl
  refine Ex.cons (Ex1.assign (d := .py (iL (steps2 R))) (Ev.sortedS (xs := dedup (pairs2 R)) B (Ev.setIL (xs := pairs2 R) (fa := false) B (Ev.cast (Ev.ofCm (Cm.two (fr := false) R iL (fun r => List.range (r.length - 1)) (fun (i : Nat) => .int ((1 + i : Nat))) (fun _ _ => true) (fun r i => .int (6 * r.getD i 0 + r.getD (1 + i) 0)) (fun _ => true) (Ev.iterLL (Ev.name (by rfl))) (fun _ _ => TrAll.nil)
    (fun r hr' _ => EvIt.range2 (lo := 1) (hi := r.length) B Ev.cInt (Ev.lenIL (xs := r) B (Ev.name (by rfl)) (le_size (hr r hr'))) (by decide) (le_size (hr r hr'))) (fun _ _ _ _ _ => TrAll.nil) (fun r hr' _ i hi _ => ?_) (by rw [hcomp, List.length_map]; exact le_size hpl))) (by rw [hcomp]; rfl)) hdl) hdl) ?_)
  · have hi' : i < r.length - 1 := List.mem_range.mp hi
    exact Ev.weak (Ev.addI (Ev.mulI Ev.cInt (Ev.cast (Ev.prevIL (xs := r) (k := 1 + i) (Ev.name (by rfl)) (Ev.name (by rfl)) (by omega) (by omega) (le_size (hr r hr'))) (by rw [Nat.add_sub_cancel_left])) (IntMulOk.of_left (by decide))) (Ev.itemIL (xs := r) (j := 1 + i) (Ev.name (by rfl)) (Ev.name (by rfl)) (by omega) (le_size (hr r hr'))))
  have hall : ∀ (l : List (List Int)), l.filter (fun _ => true) = l := fun l => List.filter_eq_self.mpr (by simp)
  have hallI : ∀ (l : List Int), l.filter (fun _ => true) = l := fun l => List.filter_eq_self.mpr (by simp)
  have hors : ∀ i, i ≤ (dedup R.flatten).length → Ors (orders2 (steps2 R) ((dedup R.flatten).take i)) i := by
    intro i
    induction i with
    | zero => intro _; exact ⟨fun o ho => by rw [List.mem_singleton.mp ho]; rfl, by show 1 ≤ 1; omega⟩
    | succ i ih =>
      intro hi
      have := ((ih (by omega)).more (st := steps2 R) (by omega) (dedup R.flatten)[i]).1
      unfold orders2 at this ⊢
      rw [List.take_succ_eq_append_getElem (by omega), List.foldl_append]; exact this
  have hor := hors _ (Nat.le_refl _)
  rw [List.take_length] at hor
  have hol : (orders2 (steps2 R) (dedup R.flatten)).length ≤ sizeLine := by have := hor.len; have := six_le hk6; rw [sizeLine_eq]; omega
  refine Ex.cons (Ex1.assignCm (out := (kept2 R).map pairD) (fr := false) (Cm.cast (Cm.one (orders2 (steps2 R) (dedup R.flatten)) iL (fun _ => true) (fun o => pairD (o.map (frow R), o)) (Ev.iterLL (Ev.callF Fo (EvArgs.cons (Ev.cast (Ev.callT B.list (EvArgs.cons (Ev.name (by rfl)) EvArgs.nil) (CallOk.listD (kvs := firstD R) (le_size hfdl))) (by rw [hkeys])) (EvArgs.cons (Ev.name (by rfl)) EvArgs.nil)) (CallOk.orders B Fo Fk hsl hk6))) (fun _ _ => TrAll.nil)
    (fun o ho _ => Ev.tuple (ds := [iL (o.map (frow R)), iL o]) (EvAll.cons (f := false) (Ev.cast (Ev.ofCm (Cm.one (fr := false) o PyData.int (fun _ => true) (fun x => .int (frow R x)) (Ev.iter (Ev.name (by rfl))) (fun _ _ => TrAll.nil) (fun x hx _ => Ev.dictItem (kvs := firstD R) (k := x) (Ev.name (by rfl)) (Ev.name (by rfl)) (L.first x (L.orders o ho x hx))) (by rw [hor.each o ho, sizeLine_eq]; omega))) (by rw [hallI]; unfold iL; rw [List.map_map]; rfl)) (EvAll.cons (Ev.name (by rfl)) EvAll.nil))) hol) (by rw [hall]; unfold kept2; rw [List.map_map]; rfl)) ?_ rfl (swap_true rfl rfl rfl rfl))
  refine Ex.subs2 (l := env2b xs R) (l2 := []) (Sub.cons rfl (Sub.cons rfl (Sub.cons rfl Sub.nil))) Sub.nil ?_
  refine Ex.cons (st2_5 B Fc hR hfl L.bad rfl fun hm => ?_)
  obtain ⟨g1, g2⟩ := L.good hm
  refine Ex.cons (Ex1.ret (d := .py (.bool true)) (fr := true) (Ev.cast (Ev.and (p := true) (q := true) (Ev.cast (Ev.cmp (Ev.name (d := .py (.list ((kept2 R).map pairD))) (by rfl)) (Ev.list EvAll.nil) CmpOk.nePairs) (by cases q : kept2 R with | nil => exact absurd q g1 | cons _ _ => rfl)) fun _ => Ev.cast (Ev.cmp (Ev.name (d := .py (iL (m3 R).1)) (by rfl)) (Ev.itemT (ds := [iL (bestP (kept2 R)).1, iL (bestP (kept2 R)).2]) (i := 1) (fa := false) (Ev.callB B.min (EvArgs.cons (Ev.name (d := .py (.list ((kept2 R).map pairD))) (by rfl)) EvArgs.nil) (CallOk.minP g1)) Ev.cInt (by decide) rfl (by show 2 ≤ 64; decide)) (CmpOk.eqIL (xs := (m3 R).1) (ys := (bestP (kept2 R)).2))) (by rw [g2]; simp)) rfl) rfl)
end
end Mine

namespace Mine

/-! ### the first row of a number -/
theorem atD_app2 (a b : List (Int × PyData)) (z : Int) : atD (a ++ b) z = (atD a z).or (atD b z) := by
  unfold atD; rw [List.find?_append]; cases a.find? _ <;> rfl
theorem atD_none2 {a : List (Int × PyData)} {z : Int} (h : z ∉ keysD a) : atD a z = none := by
  unfold atD
  rw [List.find?_eq_none.mpr]
  · rfl
  · intro p hp q
    exact h (List.mem_map.mpr ⟨p, hp, by simpa using q⟩)
theorem atD_foldF (k : Nat) (z : Int) : ∀ (l : List Int) (acc : List (Int × PyData)), atD (l.foldl (stepF k) acc) z = (atD acc z).or (if z ∈ l then some (.int (k : Int)) else none)
  | [], acc => by simp
  | x :: l, acc => by
    rw [List.foldl_cons, atD_foldF k z l]
    unfold stepF
    by_cases q : x ∈ keysD acc
    · rw [if_pos q]
      by_cases e : z = x
      · subst e
        obtain ⟨d, hd⟩ := atD_mem q
        rw [hd]; rfl
      · simp [e]
    · rw [if_neg q, atD_app2]
      by_cases e : z = x
      · subst e
        rw [atD_none2 q]; simp [atD]
      · have : atD [(x, .int (k : Int))] z = none := by unfold atD; simp [Ne.symm e]
        rw [this]; simp [e]
theorem atD_firstU (R : List (List Int)) (x : Int) : ∀ i, i ≤ R.length → atD (firstU R i) x = if (R.findIdx fun r => r.contains x) < i then some (.int (frow R x)) else none
  | 0, _ => by simp [firstU, atD]
  | i + 1, h => by
    rw [firstU_succ, atD_foldF, atD_firstU R x i (by omega)]
    have hg : R.getD i [] = R[i] := by rw [List.getD_eq_getElem?_getD, List.getElem?_eq_getElem (by omega)]; rfl
    rw [hg]
    have hfr : frow R x = ((R.findIdx fun r => r.contains x : Nat) : Int) := rfl
    rw [hfr]
    have hi : i < R.length := by omega
    have hfi : (R.findIdx fun r => r.contains x) = i → x ∈ R[i] := fun e => by
      have := List.findIdx_getElem (xs := R) (p := fun r => r.contains x) (w := by omega)
      simp only [e] at this
      simpa using this
    have hno : i < (R.findIdx fun r => r.contains x) → x ∉ R[i] := fun hgt => by
      have := List.not_of_lt_findIdx (p := fun r : List Int => r.contains x) hgt
      simpa using this
    generalize (R.findIdx fun r => r.contains x) = m at *
    rcases Nat.lt_trichotomy m i with hlt | heq | hgt
    · rw [if_pos (show m < i from hlt), if_pos (show m < i + 1 by omega)]; rfl
    · rw [if_neg (show ¬ m < i by omega), if_pos (hfi heq), if_pos (show m < i + 1 by omega), heq]; rfl
    · rw [if_neg (show ¬ m < i by omega), if_neg (hno hgt), if_neg (show ¬ m < i + 1 by omega)]; rfl
theorem frow_lt {R : List (List Int)} {x : Int} (h : x ∈ dedup R.flatten) : (R.findIdx fun r => r.contains x) < R.length := by
  obtain ⟨r, hr, hx⟩ := List.mem_flatten.mp (mem_dedup.mp h)
  exact List.findIdx_lt_length_of_exists ⟨r, hr, by simpa using hx⟩

/-! ### ahead of one another -/
section
variable {α : Type} [DecidableEq α]
theorem pair_or {a b : α} {p : List α} (ha : a ∈ p) (hb : b ∈ p) (h : a ≠ b) : [a, b].Sublist p ∨ [b, a].Sublist p := by
  obtain ⟨u, v, rfl⟩ := List.append_of_mem ha
  rcases List.mem_append.mp hb with hb | hb
  · exact .inr (pair_append' hb (by simp))
  · rcases List.mem_cons.mp hb with rfl | hb
    · exact absurd rfl h
    · left
      exact (pair_append' (S := [a]) (U := v) (by simp) hb).trans (List.sublist_append_right u (a :: v))
theorem pair_anti {a b : α} {o : List α} (nd : o.Nodup) (h1 : [a, b].Sublist o) (h2 : [b, a].Sublist o) : False := by
  obtain ⟨u, v, rfl⟩ := List.append_of_mem (h1.mem (by simp : b ∈ [a, b]))
  have ha := pair_split nd h1
  obtain ⟨u1, u2, rfl⟩ := List.append_of_mem ha
  have hb := pair_split (a := u1) (b := u2 ++ b :: v) (by simpa using nd) (by simpa using h2)
  rw [List.nodup_append] at nd
  exact nd.2.2 b (by simp [hb]) b (by simp) rfl
theorem pair_trans {a b c : α} {o : List α} (nd : o.Nodup) (h1 : [a, b].Sublist o) (h2 : [b, c].Sublist o) : [a, c].Sublist o := by
  obtain ⟨u, v, rfl⟩ := List.append_of_mem (h2.mem (by simp : c ∈ [b, c]))
  have hb := pair_split nd h2
  obtain ⟨u1, u2, rfl⟩ := List.append_of_mem hb
  have ha := pair_split (a := u1) (b := u2 ++ c :: v) (by simpa using nd) (by simpa using h1)
  exact pair_append' (by simp [ha]) (by simp)
theorem pair_ne {a b : α} {o : List α} (nd : o.Nodup) (h : [a, b].Sublist o) : a ≠ b := fun e => by
  subst e; exact pair_anti nd h h
theorem pair_part {a b : α} {p o : List α} (nd : o.Nodup) (hp : p.Sublist o) (ha : a ∈ p) (hb : b ∈ p) (h : [a, b].Sublist o) : [a, b].Sublist p := by
  rcases pair_or ha hb (pair_ne nd h) with h' | h'
  · exact h'
  · exact (pair_anti nd h (h'.trans hp)).elim
theorem first_diff : ∀ {a b : List α}, a.length = b.length → a ≠ b → ∃ p c d u v, a = p ++ c :: u ∧ b = p ++ d :: v ∧ c ≠ d
  | [], [], _, h => absurd rfl h
  | x :: a, y :: b, hl, h => by
    by_cases q : x = y
    · subst q
      obtain ⟨p, c, d, u, v, h1, h2, h3⟩ := first_diff (a := a) (b := b) (by simpa using hl) (fun e => h (by rw [e]))
      exact ⟨x :: p, c, d, u, v, by rw [h1]; rfl, by rw [h2]; rfl, h3⟩
    · exact ⟨[], x, y, a, b, rfl, rfl, q⟩
end
theorem idx_pair {o : List Int} (nd : o.Nodup) {a b : Int} (hb : b ∈ o) : o.idxOf a < o.idxOf b ↔ [a, b].Sublist o := by
  obtain ⟨u, v, rfl⟩ := List.append_of_mem hb
  have hbu : b ∉ u := fun h => by
    rw [List.nodup_append] at nd; exact nd.2.2 b h b (by simp) rfl
  have e1 : (u ++ b :: v).idxOf b = u.length := by rw [List.idxOf_append, if_neg hbu]; simp
  rw [e1]
  constructor
  · intro h
    rw [List.idxOf_append] at h
    split at h
    · rename_i ha; exact pair_append' ha (by simp)
    · omega
  · intro h
    have ha := pair_split nd h
    rw [List.idxOf_append, if_pos ha]
    exact List.idxOf_lt_length_of_mem ha

/-! ### orders -/
def Keep (st o : List Int) : Prop := ∀ s ∈ st, s / 6 ∈ o → s % 6 ∈ o → [s / 6, s % 6].Sublist o
theorem keeps2_iff {st o : List Int} (nd : o.Nodup) : keeps2 st o = true ↔ Keep st o := by
  unfold keeps2 Keep
  rw [List.all_eq_true]
  refine forall_congr' fun s => forall_congr' fun hs => ?_
  unfold stepOk
  constructor
  · intro h h1 h2
    rw [← idx_pair nd h2]
    simpa [h1, h2] using h
  · intro h
    by_cases h1 : s / 6 ∈ o
    · by_cases h2 : s % 6 ∈ o
      · have := (idx_pair nd h2).mpr (h h1 h2)
        simp [h1, h2, this]
      · simp [h2]
    · simp [h1]
theorem Keep.part {st p o : List Int} (nd : o.Nodup) (hp : p.Sublist o) (h : Keep st o) : Keep st p := fun s hs h1 h2 => pair_part nd hp h1 h2 (h s hs (hp.mem h1) (hp.mem h2))
theorem orders2_snoc (st ks : List Int) (x : Int) : orders2 st (ks ++ [x]) = more2 st (orders2 st ks) x := by unfold orders2; rw [List.foldl_append]; rfl
theorem mem_orders {st : List Int} : ∀ {ks : List Int}, ks.Nodup → ∀ {o : List Int}, o ∈ orders2 st ks ↔ o.Perm ks ∧ Keep st o := by
  intro ks
  refine snocInd (motive := fun ks => ks.Nodup → ∀ {o : List Int}, o ∈ orders2 st ks ↔ o.Perm ks ∧ Keep st o) ?_ ?_ ks
  · intro _ o
    constructor
    · intro h
      rw [show o = [] from List.mem_singleton.mp h]
      exact ⟨.refl _, fun s _ h => by cases h⟩
    · rintro ⟨h, _⟩
      rw [List.perm_nil.mp h]; exact List.mem_singleton.mpr rfl
  · intro ks x ih nd o
    have nd' : ks.Nodup := (List.nodup_append.mp nd).1
    rw [orders2_snoc]
    unfold more2
    rw [List.mem_filter]
    constructor
    · rintro ⟨h1, h2⟩
      obtain ⟨p, hp, k, hk, rfl⟩ := more2_mem (st := st) h1
      obtain ⟨pp, _⟩ := (ih nd').mp hp
      have hperm : (p.take k ++ [x] ++ p.drop k).Perm (ks ++ [x]) := by
        refine List.Perm.trans ?_ (pp.append_right [x])
        rw [List.append_assoc]
        refine List.Perm.trans (List.Perm.append_left _ List.perm_append_comm) ?_
        rw [← List.append_assoc, List.take_append_drop]
      exact ⟨hperm, (keeps2_iff (hperm.nodup_iff.mpr nd)).mp h2⟩
    · rintro ⟨hp, hk⟩
      have ndo := hp.nodup_iff.mpr nd
      have hx : x ∈ o := hp.mem_iff.mpr (by simp)
      obtain ⟨u, v, rfl⟩ := List.append_of_mem hx
      have hsub : (u ++ v).Sublist (u ++ x :: v) := List.Sublist.append_left (List.sublist_cons_self x v) u
      have hpp : (u ++ v).Perm ks := by
        have h1 : (x :: (u ++ v)).Perm (x :: ks) := (List.perm_middle.symm.trans hp).trans (List.perm_append_comm)
        exact h1.cons_inv
      refine ⟨List.mem_flatMap.mpr ⟨u ++ v, (ih nd').mpr ⟨hpp, hk.part ndo hsub⟩, List.mem_map.mpr ⟨u.length, List.mem_range.mpr (by simp; omega), ?_⟩⟩, (keeps2_iff ndo).mpr hk⟩
      simp

/-! ### what the orders are -/
def Six (R : List (List Int)) : Prop := ∀ r ∈ R, ∀ x ∈ r, 0 ≤ x ∧ x < 6
section
variable {R : List (List Int)}
theorem adj_mem2 {a b : Int} (h : Adj R a b) : a ∈ dedup R.flatten ∧ b ∈ dedup R.flatten := by
  obtain ⟨r, hr, k, h1, h2, rfl, rfl⟩ := h
  exact ⟨mem_dedup.mpr (List.mem_flatten.mpr ⟨r, hr, getD_mem (by omega)⟩), mem_dedup.mpr (List.mem_flatten.mpr ⟨r, hr, getD_mem h2⟩)⟩
theorem mem_pairs2 {s : Int} : s ∈ pairs2 R ↔ ∃ a b, Adj R a b ∧ s = 6 * a + b := by
  unfold pairs2
  rw [List.mem_flatMap]
  constructor
  · rintro ⟨r, hr, h⟩
    obtain ⟨i, hi, rfl⟩ := List.mem_map.mp h
    have hi' := List.mem_range.mp hi
    exact ⟨_, _, ⟨r, hr, 1 + i, by omega, by omega, rfl, rfl⟩, by rw [Nat.add_sub_cancel_left]⟩
  · rintro ⟨a, b, ⟨r, hr, j, h1, h2, rfl, rfl⟩, rfl⟩
    refine ⟨r, hr, List.mem_map.mpr ⟨j - 1, List.mem_range.mpr (by omega), ?_⟩⟩
    rw [show 1 + (j - 1) = j by omega]
theorem keep_adj (six : Six R) {o : List Int} (ho : o.Perm (dedup R.flatten)) : Keep (steps2 R) o ↔ ∀ a b, Adj R a b → [a, b].Sublist o := by
  have hs : ∀ {s : Int}, s ∈ steps2 R ↔ s ∈ pairs2 R := fun {s} => by unfold steps2; exact mem_srt_dedup
  have six' : ∀ {a b : Int}, Adj R a b → (6 * a + b) / 6 = a ∧ (6 * a + b) % 6 = b := fun {a b} h => by
    obtain ⟨r, hr, k, h1, h2, rfl, rfl⟩ := h
    have e1 := six r hr _ (getD_mem (xs := r) (i := k - 1) (by omega))
    have e2 := six r hr _ (getD_mem (xs := r) (i := k) h2)
    omega
  constructor
  · intro h a b e
    have := h (6 * a + b) (hs.mpr (mem_pairs2.mpr ⟨a, b, e, rfl⟩))
    rw [(six' e).1, (six' e).2] at this
    exact this (ho.mem_iff.mpr (adj_mem2 e).1) (ho.mem_iff.mpr (adj_mem2 e).2)
  · intro h s hs' _ _
    obtain ⟨a, b, e, rfl⟩ := mem_pairs2.mp (hs.mp hs')
    rw [(six' e).1, (six' e).2]
    exact h a b e
/-- along the rows, too -/
theorem lin_rows {o : List Int} (nd : o.Nodup) (h : ∀ a b, Adj R a b → [a, b].Sublist o) {r : List Int} (hr : r ∈ R) {z c : Int} (hz : [z, c].Sublist r) : [z, c].Sublist o := by
  obtain ⟨i, j, hij, hj, rfl, rfl⟩ := pair_getD hz
  have : ∀ d, i + 1 + d < r.length → [r.getD i 0, r.getD (i + 1 + d) 0].Sublist o := by
    intro d
    induction d with
    | zero => intro hd; exact h _ _ ⟨r, hr, i + 1, by omega, hd, rfl, rfl⟩
    | succ d ih => intro hd; exact pair_trans nd (ih (by omega)) (h _ _ ⟨r, hr, i + 1 + d + 1, by omega, hd, rfl, rfl⟩)
  have := this (j - (i + 1)) (by omega)
  rw [show i + 1 + (j - (i + 1)) = j by omega] at this
  exact this

theorem lin_not_refused {o : List Int} (nd : o.Nodup) (hm : ∀ x, x ∈ dedup R.flatten → x ∈ o) (h : ∀ a b, Adj R a b → [a, b].Sublist o) : (m3 R).2.2 = true := by
  cases q : (m3 R).2.2 with
  | true => rfl
  | false =>
    have hno : ¬ ∀ r ∈ R, ∀ x ∈ r, x ∈ (m3 R).1 := fun hall => by rw [m3_done (told_runs R) hall] at q; cases q
    have : ∃ y, y ∈ o ∧ y ∉ (m3 R).1 ∧ ∃ r ∈ R, y ∈ r := by
      refine Classical.byContradiction fun hn => hno fun r hr x hx => Classical.byContradiction fun hx' => hn ⟨x, hm x (mem_dedup.mpr (List.mem_flatten.mpr ⟨r, hr, hx⟩)), hx', r, hr, hx⟩
    obtain ⟨y, hy, hyn, hyr⟩ := this
    -- the first of o that is not told and stands in a row
    have split : ∀ {l : List Int}, (∃ y ∈ l, y ∉ (m3 R).1 ∧ ∃ r ∈ R, y ∈ r) → ∃ u y v, l = u ++ y :: v ∧ (y ∉ (m3 R).1 ∧ ∃ r ∈ R, y ∈ r) ∧ ∀ z ∈ u, ¬ (z ∉ (m3 R).1 ∧ ∃ r ∈ R, z ∈ r) := by
      intro l
      induction l with
      | nil => rintro ⟨y, hy, _⟩; cases hy
      | cons x l ih =>
        intro hex
        by_cases hx : x ∉ (m3 R).1 ∧ ∃ r ∈ R, x ∈ r
        · exact ⟨[], x, l, rfl, hx, nofun⟩
        · obtain ⟨y, hy, hp⟩ := hex
          rcases List.mem_cons.mp hy with rfl | hy
          · exact absurd hp hx
          · obtain ⟨u, y', v, e, h1, h2⟩ := ih ⟨y, hy, hp⟩
            refine ⟨x :: u, y', v, by rw [e]; rfl, h1, fun z hz => ?_⟩
            rcases List.mem_cons.mp hz with rfl | hz
            · exact hx
            · exact h2 z hz
    obtain ⟨u, y, v, e, ⟨h1, r, hr, hyr⟩, h2⟩ := split ⟨y, hy, hyn, hyr⟩
    obtain ⟨r', hr', z, hz, hs⟩ := m3_stuck q r hr y hyr h1
    have hzo := lin_rows nd h hr' hs
    rw [e] at hzo nd
    have hzu := pair_split nd hzo
    exact absurd ⟨hz, r', hr', hs.mem (by simp)⟩ (h2 z hzu)

theorem lexLt_pref (p : List Int) {a b : Int} (h : a ≠ b) (u v : List Int) : lexLt (p ++ a :: u) (p ++ b :: v) = decide (a < b) := by
  induction p with
  | nil => show (if a == b then _ else _) = _; rw [show (a == b) = false by simpa using h]; rfl
  | cons x p ih => show (if x == x then lexLt (p ++ a :: u) (p ++ b :: v) else _) = _; simp [ih]

theorem frow_less {p u v : List Int} {c d : Int} (ht : (m3 R).1 = p ++ c :: u) {o : List Int} (nd : o.Nodup) (ho : o = p ++ d :: v) (hc : c ≠ d) (hdm : d ∈ dedup R.flatten) (h : ∀ a b, Adj R a b → [a, b].Sublist o) : frow R c < frow R d := by
  obtain ⟨i, r, hri, hcr, hcp, hcb, hbl⟩ := told_runs R p c u ht
  have hil : i < R.length := (List.getElem?_eq_some_iff.mp hri).1
  have h1 : (R.findIdx fun r => r.contains c) ≤ i := by
    rcases Nat.lt_or_ge i (R.findIdx fun r => r.contains c) with hlt | hge
    · have := List.not_of_lt_findIdx (p := fun r : List Int => r.contains c) hlt
      have hc' : R[i].contains c = true := by
        rw [(List.getElem?_eq_some_iff.mp hri).2]; simpa using hcr
      rw [hc'] at this; simp at this
    · exact hge
  have hdp : d ∉ p := fun hm => by
    subst ho; rw [List.nodup_append] at nd; exact nd.2.2 d hm d (by simp) rfl
  have hdb : ¬ Blk p R d := by
    rintro ⟨r', hr', z, hz, hs⟩
    have hzo := lin_rows nd h hr' hs
    subst ho
    exact hz (pair_split nd hzo)
  have hm := frow_lt hdm
  have hmem : d ∈ R[(R.findIdx fun r => r.contains d)] := by
    have := List.findIdx_getElem (xs := R) (p := fun r => r.contains d) (w := hm)
    simpa using this
  have h2 : i < (R.findIdx fun r => r.contains d) := by
    rcases Nat.lt_trichotomy i (R.findIdx fun r => r.contains d) with hlt | heq | hgt
    · exact hlt
    · have hr' : R[(R.findIdx fun r => r.contains d)]? = some r := by rw [← heq]; exact hri
      have e := (List.getElem?_eq_some_iff.mp hr').2
      rw [e] at hmem
      rcases pair_or hcr hmem hc with hs | hs
      · exact absurd ⟨r, List.mem_of_getElem? hri, c, hcp, hs⟩ hdb
      · exact absurd ⟨r, List.mem_of_getElem? hri, d, hdp, hs⟩ hcb
    · exact absurd (hbl _ _ hgt (List.getElem?_eq_getElem hm) d hmem hdp) hdb
  unfold frow
  omega

theorem law02_R (six : Six R) : Law02 R := by
  have ndk : (dedup R.flatten).Nodup := nodup_dedup _
  have hmo : ∀ {o : List Int}, o ∈ orders2 (steps2 R) (dedup R.flatten) ↔ o.Perm (dedup R.flatten) ∧ ∀ a b, Adj R a b → [a, b].Sublist o := fun {o} => by
    rw [mem_orders ndk]
    exact and_congr_right fun h => keep_adj six h
  refine ⟨fun x hx => ?_, fun o ho x hx => (hmo.mp ho).1.mem_iff.mp hx, fun hf => ?_, fun ht => ?_⟩
  · unfold firstD
    rw [atD_firstU R x _ (Nat.le_refl _), if_pos (frow_lt hx)]
  · unfold kept2
    rw [List.map_eq_nil_iff]
    refine List.eq_nil_iff_forall_not_mem.mpr fun o ho => ?_
    obtain ⟨h1, h2⟩ := hmo.mp ho
    have := lin_not_refused (R := R) (h1.nodup_iff.mpr ndk) (fun x hx => h1.mem_iff.mpr hx) h2
    rw [hf] at this; cases this
  · have hsrt := m3_sorted ht
    have hperm : (m3 R).1.Perm (dedup R.flatten) := (srt_perm _).symm.trans (hsrt ▸ srt_perm _)
    obtain ⟨ndt, hsub, _, _⟩ := m3_ok _ R (Nat.le_refl _) ht
    have hlin : ∀ a b, Adj R a b → [a, b].Sublist (m3 R).1 := fun a b e => by
      obtain ⟨r, hr, hs⟩ := e.pair; exact hs.trans (hsub r hr)
    have htm := hmo.mpr ⟨hperm, hlin⟩
    have hp0 : ((m3 R).1.map (frow R), (m3 R).1) ∈ kept2 R := List.mem_map.mpr ⟨_, htm, rfl⟩
    have hbest : bestP (kept2 R) = ((m3 R).1.map (frow R), (m3 R).1) := by
      refine bestP_eq hp0 fun q hq hne => ?_
      obtain ⟨o, ho, rfl⟩ := List.mem_map.mp hq
      obtain ⟨h1, h2⟩ := hmo.mp ho
      have hne' : (m3 R).1 ≠ o := fun e => hne (by rw [e])
      obtain ⟨p, c, d, u, v, e1, e2, hcd⟩ := first_diff ((hperm.trans h1.symm).length_eq) hne'
      have hlt := frow_less e1 (h1.nodup_iff.mpr ndk) e2 hcd (h1.mem_iff.mp (by rw [e2]; simp)) h2
      have hnf : frow R c ≠ frow R d := by omega
      have m1 : (m3 R).1.map (frow R) = p.map (frow R) ++ frow R c :: u.map (frow R) := by rw [e1]; simp
      have m2 : o.map (frow R) = p.map (frow R) ++ frow R d :: v.map (frow R) := by rw [e2]; simp
      have hml : (m3 R).1.map (frow R) ≠ o.map (frow R) := fun e => by
        rw [m1, m2] at e
        have := List.append_cancel_left e
        injection this with this _
        exact hnf this
      unfold pairLt
      refine ⟨?_, ?_⟩
      · show (if (m3 R).1.map (frow R) == o.map (frow R) then _ else lexLt ((m3 R).1.map (frow R)) (o.map (frow R))) = true
        rw [show ((m3 R).1.map (frow R) == o.map (frow R)) = false by simpa using hml, if_neg Bool.false_ne_true, m1, m2, lexLt_pref _ hnf]
        simpa using hlt
      · show (if o.map (frow R) == (m3 R).1.map (frow R) then _ else lexLt (o.map (frow R)) ((m3 R).1.map (frow R))) = false
        rw [show (o.map (frow R) == (m3 R).1.map (frow R)) = false by simpa using fun e => hml e.symm, if_neg Bool.false_ne_true, m1, m2, lexLt_pref _ (Ne.symm hnf)]
        simp; omega
    refine ⟨fun e => ?_, by rw [hbest]⟩
    rw [e] at hp0; cases hp0
theorem law02_xs (xs : List Int) : Law02 (rows2 xs) := law02_R (rows2_ok xs).six
end
end Mine

set_option maxHeartbeats 8000000
namespace Mine
open_top hd for PySem.Challenge.rw_dn0018_02
end Mine
theorem PySem.Challenge.cw_dn0018_02_holds : PySem.Challenge.rw_dn0018_02.Holds := by
  refine Mine.hd ?_
  k_fill
  intro w s₀ s₁ mg mb G Y fa o pm cd doc dV kV ho hd hcd hD hmg hg args vals as hpre hlay hrd hwl hlo
  refine Ground.open G ?_
  intro T B D TE TW
  wrow_args hpre hlay hrd hwl hlo
  rename_i xs _ _ _ _ _ _ _ l vs _ hl _ hw _ hi _ hlen _
  first | refine callC_kw (enter_call ?_) | refine enter_call ?_
  obtain ⟨fa', o', pm', cd', doc', hn', ho', hd', hc'⟩ := T.fn Mine.lawRec (by exact List.mem_cons_of_mem _ (List.mem_cons_of_mem _ (List.mem_cons_of_mem _ (List.mem_cons_of_mem _ (List.mem_cons_self)))))
  obtain ⟨fc3Rec, oc3Rec, pmc3Rec, cdc3Rec, docc3Rec, hnc3Rec, hoc3Rec, hdc3Rec, hcc3Rec⟩ := T.fn Mine.c3Rec (by exact List.mem_cons_self)
  have F_c3Rec : Mine.Fn ⟨PySem.Challenge.rw_dn0018_02.row.prog, w, s₁.heap, mg, mb⟩ Mine.c3Rec fc3Rec oc3Rec pmc3Rec cdc3Rec docc3Rec := ⟨hnc3Rec, hoc3Rec, hdc3Rec, hcc3Rec⟩
  obtain ⟨frowRec, orowRec, pmrowRec, cdrowRec, docrowRec, hnrowRec, horowRec, hdrowRec, hcrowRec⟩ := T.fn Mine.rowRec (by exact List.mem_cons_of_mem _ (List.mem_cons_self))
  have F_rowRec : Mine.Fn ⟨PySem.Challenge.rw_dn0018_02.row.prog, w, s₁.heap, mg, mb⟩ Mine.rowRec frowRec orowRec pmrowRec cdrowRec docrowRec := ⟨hnrowRec, horowRec, hdrowRec, hcrowRec⟩
  obtain ⟨fkeRec, okeRec, pmkeRec, cdkeRec, dockeRec, hnkeRec, hokeRec, hdkeRec, hckeRec⟩ := T.fn Mine.keRec (by exact List.mem_cons_of_mem _ (List.mem_cons_of_mem _ (List.mem_cons_self)))
  have F_keRec : Mine.Fn ⟨PySem.Challenge.rw_dn0018_02.row.prog, w, s₁.heap, mg, mb⟩ Mine.keRec fkeRec okeRec pmkeRec cdkeRec dockeRec := ⟨hnkeRec, hokeRec, hdkeRec, hckeRec⟩
  obtain ⟨forRec, oorRec, pmorRec, cdorRec, docorRec, hnorRec, hoorRec, hdorRec, hcorRec⟩ := T.fn Mine.orRec (by exact List.mem_cons_of_mem _ (List.mem_cons_of_mem _ (List.mem_cons_of_mem _ (List.mem_cons_self))))
  have F_orRec : Mine.Fn ⟨PySem.Challenge.rw_dn0018_02.row.prog, w, s₁.heap, mg, mb⟩ Mine.orRec forRec oorRec pmorRec cdorRec docorRec := ⟨hnorRec, hoorRec, hdorRec, hcorRec⟩
  obtain rfl : fa' = fa := by
    have : mg Mine.lawRec.name = some (.ref fa) := hmg
    rw [this] at hn'; cases hn'; rfl
  have hlen' : xs.length ≤ 63 := by omega
  have ok : (⟨PySem.Challenge.rw_dn0018_02.row.prog, w, s₁.heap, mg, mb⟩ : Mine.Cx).Ok s₁.heap := ⟨T.g, T.b, T.nolimit, .refl _⟩
  have BB : Mine.BG ⟨PySem.Challenge.rw_dn0018_02.row.prog, w, s₁.heap, mg, mb⟩ := Mine.BG.of T _ w fun x hx => by
    refine T.free x ?_ ?_ ?_ ?_ ?_ <;> (revert x hx; decide +kernel)
  refine Mine.law_top (K := ⟨_, w, s₁.heap, mg, mb⟩) (d := Mine.lawRec) (n := 5) (xs := xs) (by decide) rfl ⟨T.g, T.b, T.nolimit, .refl _⟩ ⟨hn', ho', hd', hc'⟩ (Mine.TopOk.of (by decide)) (fun v => by rfl) (Mine.rd_script hw hl hi)
    (Mine.law02_body BB F_c3Rec F_rowRec F_keRec F_orRec hlen' (Mine.law02_xs xs)) (fun h' tk x => ?_)
  exact GoodW.toG ⟨.inl ⟨_, .bool true, [], rfl, fun _ => rfl, .bool true, postW_of (by wrow_shape) (by wtm_val) (by first | rfl | (str_meet; first | done | w_fin)), fun _ => ⟨.nil, nofun⟩⟩, x, rfl, hg⟩
