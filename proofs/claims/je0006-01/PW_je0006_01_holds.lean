import PyProof.Rows.All
import Wide.All
import OpenK.AllK
import Wide.FinOn
import PySem.Challenge.RW_je0006_01
set_option Elab.async false
section
open PySem PySem.W PySem.Calls PyProof.Rows
set_option Elab.async false
set_option linter.unusedVariables false
set_option maxRecDepth 100000
namespace J
/-- the probe's way over a table of this mask, no dummies -/
def adv (mask : Nat) (p : SetTable.Probe) : SetTable.Probe := if p.more > 0 then { p with j := p.j + 1, more := p.more - 1 } else
  { p with j := (SetTable.leap mask p.i p.perturb).1, more := SetTable.runEnd mask (SetTable.leap mask p.i p.perturb).1 - (SetTable.leap mask p.i p.perturb).1, i := (SetTable.leap mask p.i p.perturb).1, perturb := (SetTable.leap mask p.i p.perturb).2 }
def tst (mask i pt : Nat) : SetTable.Probe := ⟨i, SetTable.runEnd mask i - i, i, pt, none⟩
def pn (mask : Nat) (h : Int) : Nat → SetTable.Probe
  | 0 => tst mask (SetTable.bits h % (mask + 1)) (SetTable.bits h)
  | n + 1 => adv mask (pn mask h n)
theorem pn_dummy (mask : Nat) (h : Int) : ∀ n, (pn mask h n).dummy = none
  | 0 => rfl
  | n + 1 => by
    show (adv mask (pn mask h n)).dummy = none
    unfold adv
    split <;> exact pn_dummy mask h n
theorem run_more (mask : Nat) : ∀ (k : Nat) (p : SetTable.Probe) , p.more = k → ∃ m, m ≤ k + 1 ∧ (Nat.repeat (adv mask) m p) = { p with j := (SetTable.leap mask p.i p.perturb).1, more := SetTable.runEnd mask (SetTable.leap mask p.i p.perturb).1 - (SetTable.leap mask p.i p.perturb).1, i := (SetTable.leap mask p.i p.perturb).1, perturb := (SetTable.leap mask p.i p.perturb).2 }
  | 0, p, h => ⟨1, by omega, by
    show adv mask p = _
    unfold adv
    rw [if_neg (by omega)]⟩
  | k + 1, p, h => by
    obtain ⟨m, hm, e⟩ := run_more mask k { p with j := p.j + 1, more := p.more - 1 } (by show p.more - 1 = k; omega)
    refine ⟨m + 1, by omega, ?_⟩
    have : ∀ (m : Nat) (q : SetTable.Probe), Nat.repeat (adv mask) (m + 1) q = Nat.repeat (adv mask) m (adv mask q) := by
      intro m
      induction m with
      | zero => intro q; rfl
      | succ m ih => intro q; show adv mask (Nat.repeat (adv mask) (m + 1) q) = _; rw [ih q]; rfl
    rw [this]
    have ea : adv mask p = { p with j := p.j + 1, more := p.more - 1 } := by unfold adv; rw [if_pos (by omega)]
    rw [ea]
    exact e
theorem pn_repeat (mask : Nat) (h : Int) (n : Nat) : ∀ m, Nat.repeat (adv mask) m (pn mask h n) = pn mask h (n + m)
  | 0 => rfl
  | m + 1 => by show adv mask _ = adv mask (pn mask h (n + m)); rw [pn_repeat mask h n m]
theorem runEnd_le (mask i : Nat) : SetTable.runEnd mask i - i ≤ 9 := by unfold SetTable.runEnd; split <;> omega
def lpn (mask : Nat) (h : Int) : Nat → Nat × Nat
  | 0 => (SetTable.bits h % (mask + 1), SetTable.bits h)
  | r + 1 => SetTable.leap mask (lpn mask h r).1 (lpn mask h r).2
theorem pn_turn (mask : Nat) (h : Int) : ∀ r, ∃ n, n ≤ 10 * r ∧ pn mask h n = tst mask (lpn mask h r).1 (lpn mask h r).2
  | 0 => ⟨0, Nat.le_refl _, rfl⟩
  | r + 1 => by
    obtain ⟨n, hn, e⟩ := pn_turn mask h r
    obtain ⟨m, hm, e'⟩ := run_more mask _ (pn mask h n) rfl
    refine ⟨n + m, ?_, ?_⟩
    · have : (pn mask h n).more ≤ 9 := by rw [e]; exact runEnd_le ..
      omega
    · rw [← pn_repeat, e', e]; rfl
theorem lpn_two (mask : Nat) (h : Int) : ∀ r, (lpn mask h r).2 = SetTable.bits h / 32 ^ r
  | 0 => by simp [lpn]
  | r + 1 => by
    show (lpn mask h r).2 / 32 = _
    rw [lpn_two mask h r, Nat.div_div_eq_div_mul, Nat.pow_succ]
theorem bits_lt (h : Int) : SetTable.bits h < 2 ^ 64 := by
  unfold SetTable.bits
  have h1 := Int.emod_lt_of_pos h (show (0 : Int) < 2 ^ 64 by decide)
  have h0 := Int.emod_nonneg h (show (2 ^ 64 : Int) ≠ 0 by decide)
  omega
theorem lpn_zero (mask : Nat) (h : Int) (k : Nat) : (lpn mask h (13 + k)).2 = 0 := by
  rw [lpn_two]
  refine Nat.div_eq_of_lt (Nat.lt_of_lt_of_le (bits_lt h) ?_)
  calc 2 ^ 64 ≤ 32 ^ 13 := by decide
    _ ≤ 32 ^ (13 + k) := Nat.pow_le_pow_right (by decide) (by omega)
theorem lpn_lcg (mask : Nat) (h : Int) (k : Nat) : (lpn mask h (13 + (k + 1))).1 = ((lpn mask h (13 + k)).1 * 5 + 1) % (mask + 1) := by
  show (SetTable.leap mask (lpn mask h (13 + k)).1 (lpn mask h (13 + k)).2).1 = _
  rw [lpn_zero]; rfl
theorem lpn_iter (mask : Nat) (h : Int) : ∀ k, (lpn mask h (13 + k)).1 = Nat.repeat (fun i => (i * 5 + 1) % (mask + 1)) k (lpn mask h 13).1
  | 0 => rfl
  | k + 1 => by rw [lpn_lcg, lpn_iter mask h k]; rfl
def Mask (m : Nat) : Prop := m = 7 ∨ m = 15 ∨ m = 31
theorem lcg_all {mask : Nat} (hm : Mask mask) : ∀ i, i ≤ mask → ∀ e, e ≤ mask → ∃ k, k ≤ mask ∧ Nat.repeat (fun i => (i * 5 + 1) % (mask + 1)) k i = e := by
  rcases hm with rfl | rfl | rfl
  · have : ∀ i : Fin 8, ∀ e : Fin 8, ∃ k : Fin 8, Nat.repeat (fun i => (i * 5 + 1) % (7 + 1)) k.val i.val = e.val := by decide +kernel
    intro i hi e he
    obtain ⟨k, hk⟩ := this ⟨i, by omega⟩ ⟨e, by omega⟩
    exact ⟨k, by omega, hk⟩
  · have : ∀ i : Fin 16, ∀ e : Fin 16, ∃ k : Fin 16, Nat.repeat (fun i => (i * 5 + 1) % (15 + 1)) k.val i.val = e.val := by decide +kernel
    intro i hi e he
    obtain ⟨k, hk⟩ := this ⟨i, by omega⟩ ⟨e, by omega⟩
    exact ⟨k, by omega, hk⟩
  · have : ∀ i : Fin 32, ∀ e : Fin 32, ∃ k : Fin 32, Nat.repeat (fun i => (i * 5 + 1) % (31 + 1)) k.val i.val = e.val := by decide +kernel
    intro i hi e he
    obtain ⟨k, hk⟩ := this ⟨i, by omega⟩ ⟨e, by omega⟩
    exact ⟨k, by omega, hk⟩
theorem lpn_le (mask : Nat) (h : Int) : ∀ r, (lpn mask h r).1 ≤ mask
  | 0 => Nat.le_of_lt_succ (Nat.mod_lt _ (by omega))
  | r + 1 => Nat.le_of_lt_succ (Nat.mod_lt _ (by omega))
theorem pn_all {mask : Nat} (hm : Mask mask) (h : Int) {e : Nat} (he : e ≤ mask) : ∃ n, n < 10 * SetTable.turns mask ∧ (pn mask h n).j = e := by
  obtain ⟨k, hk, e1⟩ := lcg_all hm _ (lpn_le mask h 13) e he
  obtain ⟨n, hn, e2⟩ := pn_turn mask h (13 + k)
  refine ⟨n, ?_, ?_⟩
  · unfold SetTable.turns; omega
  · rw [e2]; show (lpn mask h (13 + k)).1 = e; rw [lpn_iter, e1]
theorem some_free {mask : Nat} (hm : Mask mask) (l : List Nat) (hl : l.length ≤ 5) : ∃ e, e ≤ mask ∧ e ∉ l := by
  have h7 : 7 ≤ mask := by rcases hm with rfl | rfl | rfl <;> decide
  by_cases q : ∀ e, e ≤ 7 → e ∈ l
  · exfalso
    have hs : (List.range 8) ⊆ l := fun e he => q e (by have := List.mem_range.mp he; omega)
    have := (List.nodup_range (n := 8)).length_le_of_subset hs
    simp at this; omega
  · have ⟨e, he⟩ := Classical.not_forall.mp q
    have ⟨h1, h2⟩ := Classical.not_imp.mp he
    exact ⟨e, by omega, h2⟩
theorem least {p : Nat → Prop} (n : Nat) (h : p n) : ∃ N, N ≤ n ∧ p N ∧ ∀ k, k < N → ¬ p k := by
  induction n using Nat.strongRecOn with
  | ind n ih =>
    by_cases q : ∃ k, k < n ∧ p k
    · obtain ⟨k, hk, hp⟩ := q
      obtain ⟨N, h1, h2, h3⟩ := ih k hk hp
      exact ⟨N, by omega, h2, h3⟩
    · exact ⟨n, Nat.le_refl _, h, fun k hk hp => q ⟨k, hk, hp⟩⟩
/-- the first place on the way that is not taken -/
theorem first_free {mask : Nat} (hm : Mask mask) (h : Int) (l : List Nat) (hl : l.length ≤ 5) : ∃ N, N < 10 * SetTable.turns mask ∧ (pn mask h N).j ∉ l ∧ ∀ k, k < N → (pn mask h k).j ∈ l := by
  obtain ⟨e, he, hn⟩ := some_free hm l hl
  obtain ⟨n, h1, h2⟩ := pn_all hm h he
  obtain ⟨N, h3, h4, h5⟩ := least (p := fun n => (pn mask h n).j ∉ l) n (by rw [h2]; exact hn)
  exact ⟨N, by omega, h4, fun k hk => Classical.not_not.mp (h5 k hk)⟩
end J
end

section
open PySem PySem.W PySem.Calls PyProof.Rows
set_option Elab.async false
set_option linter.unusedVariables false
set_option maxRecDepth 100000
namespace J
def Sorted (xs : Array Nat) : Prop := ∀ (i k : Nat) (a b : Nat), i < k → xs[i]? = some a → xs[k]? = some b → a < b
theorem getD_some {xs : Array Nat} {i d a : Nat} (h : xs[i]? = some a) : xs.getD i d = a := by simp [Array.getD_eq_getD_getElem?, h]
theorem below_go {xs : Array Nat} (hs : Sorted xs) (j : Nat) : ∀ (fuel lo hi : Nat), hi - lo ≤ fuel → lo ≤ hi → hi ≤ xs.size → (∀ i a, i < lo → xs[i]? = some a → a < j) → (∀ i a, hi ≤ i → xs[i]? = some a → ¬ a < j) →
    (∀ i a, i < SetTable.below.go xs j fuel lo hi → xs[i]? = some a → a < j) ∧ (∀ i a, SetTable.below.go xs j fuel lo hi ≤ i → xs[i]? = some a → ¬ a < j) ∧ SetTable.below.go xs j fuel lo hi ≤ xs.size
  | 0, lo, hi, hf, hl, hz, h1, h2 => by
    obtain rfl : lo = hi := by omega
    exact ⟨h1, h2, hz⟩
  | fuel + 1, lo, hi, hf, hl, hz, h1, h2 => by
    unfold SetTable.below.go
    by_cases q : lo < hi
    · rw [if_pos q]
      have hm : (lo + hi) / 2 < xs.size := by omega
      have em : xs[(lo + hi) / 2]? = some xs[(lo + hi) / 2] := Array.getElem?_eq_getElem hm
      dsimp only
      rw [getD_some em]
      by_cases q2 : xs[(lo + hi) / 2] < j
      · rw [if_pos q2]
        refine below_go hs j fuel _ _ (by omega) (by omega) hz (fun i a hi' e => ?_) h2
        rcases Nat.lt_or_ge i ((lo + hi) / 2) with q3 | q3
        · have := hs i _ a _ q3 e em; omega
        · obtain rfl : i = (lo + hi) / 2 := by omega
          rw [em] at e; cases e; exact q2
      · rw [if_neg q2]
        refine below_go hs j fuel _ _ (by omega) (by omega) (by omega) h1 (fun i a hi' e => ?_)
        rcases Nat.lt_or_ge ((lo + hi) / 2) i with q3 | q3
        · have := hs _ i _ a q3 em e; omega
        · obtain rfl : i = (lo + hi) / 2 := by omega
          rw [em] at e; cases e; exact q2
    · rw [if_neg q]
      obtain rfl : lo = hi := by omega
      exact ⟨h1, h2, hz⟩
theorem below_spec {xs : Array Nat} (hs : Sorted xs) (j : Nat) : (∀ i a, i < SetTable.below xs j → xs[i]? = some a → a < j) ∧ (∀ i a, SetTable.below xs j ≤ i → xs[i]? = some a → ¬ a < j) ∧ SetTable.below xs j ≤ xs.size :=
  below_go hs j xs.size 0 xs.size (by omega) (by omega) (Nat.le_refl _) (fun i a hi => by omega) fun i a hi e => by rw [Array.getElem?_eq_none_iff.mpr hi] at e; cases e
theorem slot_live {t : SetTable} (hs : Sorted t.place) {i j : Nat} (h : t.place[i]? = some j) : t.slot j = .live i := by
  obtain ⟨h1, h2, h3⟩ := below_spec hs j
  have hb : SetTable.below t.place j = i := by
    rcases Nat.lt_trichotomy i (SetTable.below t.place j) with q | q | q
    · have := h1 i j q h; omega
    · exact q.symm
    · have hz : SetTable.below t.place j < t.place.size := Nat.lt_of_lt_of_le q (Nat.le_of_lt (Array.getElem?_eq_some_iff.mp h).1)
      have e : t.place[SetTable.below t.place j]? = some t.place[SetTable.below t.place j] := Array.getElem?_eq_getElem hz
      have a1 := h2 _ _ (Nat.le_refl _) e
      have a2 := hs _ _ _ _ q e h
      omega
  unfold SetTable.slot
  dsimp only
  rw [hb, h]
  simp
theorem slot_empty {t : SetTable} (hs : Sorted t.place) (hd : t.dummies = #[]) {j : Nat} (h : ∀ i : Nat, t.place[i]? ≠ some j) : t.slot j = .empty := by
  unfold SetTable.slot
  dsimp only
  rw [if_neg (by simpa using h _), hd]
  rfl
theorem mem_place {xs : Array Nat} {j : Nat} : j ∈ xs.toList ↔ ∃ i : Nat, xs[i]? = some j := by
  rw [List.mem_iff_getElem?]; simp
/-- what the probe meets first from the n-th place on -/
theorem go_spec {t : SetTable} (hs : Sorted t.place) (hd : t.dummies = #[]) (hashAt : Nat → Int) (h : Int) {N : Nat} (hN : (pn t.mask h N).j ∉ t.place.toList) : ∀ (fuel n : Nat), n ≤ N → N - n < fuel → (∀ k, n ≤ k → k < N → (pn t.mask h k).j ∈ t.place.toList) →
    (∃ k i, n ≤ k ∧ k < N ∧ t.place[i]? = some (pn t.mask h k).j ∧ hashAt i = h ∧ SetTable.probe.go t hashAt h fuel (pn t.mask h n) = some (.candidate (pn t.mask h k).j i (pn t.mask h (k + 1))) ∧
      ∀ k', n ≤ k' → k' < k → ∀ i', t.place[i']? = some (pn t.mask h k').j → hashAt i' ≠ h) ∨
    ((∀ k', n ≤ k' → k' < N → ∀ i', t.place[i']? = some (pn t.mask h k').j → hashAt i' ≠ h) ∧ SetTable.probe.go t hashAt h fuel (pn t.mask h n) = some (.empty (pn t.mask h N).j none))
  | 0, n, hn, hf, ho => by omega
  | fuel + 1, n, hn, hf, ho => by
    unfold SetTable.probe.go
    rcases Nat.lt_or_eq_of_le hn with q | rfl
    · obtain ⟨i, hi⟩ := mem_place.mp (ho n (Nat.le_refl _) q)
      rw [slot_live hs hi]
      dsimp only
      by_cases e : hashAt i = h
      · rw [if_pos (by simpa using e)]
        refine .inl ⟨n, i, Nat.le_refl _, q, hi, e, rfl, fun k' h1 h2 => by omega⟩
      · rw [if_neg (by simpa using e)]
        have key : ∀ i', t.place[i']? = some (pn t.mask h n).j → hashAt i' ≠ h := fun i' hi' => by
          have := (slot_live hs hi).symm.trans (slot_live hs hi')
          cases this; exact e
        rcases go_spec hs hd hashAt h hN fuel (n + 1) q (by omega) (fun k h1 h2 => ho k (by omega) h2) with ⟨k, i', a, b, c, d, e', f⟩ | ⟨a, b⟩
        · refine .inl ⟨k, i', by omega, b, c, d, e', fun k' h1 h2 => ?_⟩
          rcases Nat.lt_or_eq_of_le h1 with q' | rfl
          · exact f k' q' h2
          · exact key
        · refine .inr ⟨fun k' h1 h2 => ?_, b⟩
          rcases Nat.lt_or_eq_of_le h1 with q' | rfl
          · exact a k' q' h2
          · exact key
    · rw [slot_empty hs hd (fun i e => hN (mem_place.mpr ⟨i, e⟩)), pn_dummy]
      exact .inr ⟨fun k' h1 h2 => by omega, rfl⟩
def Rch (mask : Nat) (l : List Nat) (h : Int) (j : Nat) : Prop := ∃ n, (pn mask h n).j = j ∧ ∀ k, k < n → (pn mask h k).j ∈ l
theorem Rch.mono {mask : Nat} {l l' : List Nat} {h : Int} {j : Nat} (x : Rch mask l h j) (k : ∀ a, a ∈ l → a ∈ l') : Rch mask l' h j := let ⟨n, a, b⟩ := x; ⟨n, a, fun i hi => k _ (b i hi)⟩
/-- the table of a set of at most five, nothing ever dropped -/
structure Good (t : SetTable) (hs : List Int) : Prop where
  dm : t.dummies = #[]
  mask : Mask t.mask
  n5 : hs.length ≤ 5
  len : t.place.size = hs.length
  srt : Sorted t.place
  rch : ∀ (i : Nat) (h : Int) (j : Nat), hs[i]? = some h → t.place[i]? = some j → Rch t.mask t.place.toList h j
theorem Good.le {t : SetTable} {hs : List Int} (g : Good t hs) : t.place.toList.length ≤ 5 := by
  rw [Array.length_toList, g.len]; exact g.n5
theorem Good.way {t : SetTable} {hs : List Int} (g : Good t hs) : t.gaveWay = false := by
  unfold SetTable.gaveWay
  rcases g.mask with e | e | e <;> rw [e] <;> rfl
theorem Good.fits {t : SetTable} {hs : List Int} (g : Good t hs) : t.fits hs.length = true := by
  unfold SetTable.fits SetTable.fill
  rw [g.dm, g.len]
  have := g.n5
  simp
  rcases g.mask with e | e | e <;> rw [e] <;> omega
theorem Good.fresh (finger moves : Nat) (led : Bool) : Good (SetTable.fresh finger moves led) [] :=
  ⟨rfl, .inl rfl, by simp, rfl, fun i k a b _ e => by simp [SetTable.fresh] at e, fun i h j e => by simp at e⟩
/-- flags do not matter -/
theorem Good.congr {t t' : SetTable} {hs : List Int} (g : Good t hs) (h1 : t'.mask = t.mask) (h2 : t'.place = t.place) (h3 : t'.dummies = t.dummies) : Good t' hs :=
  ⟨h3.trans g.dm, h1 ▸ g.mask, g.n5, by rw [h2]; exact g.len, by rw [h2]; exact g.srt, by rw [h1, h2]; exact g.rch⟩
theorem get_insertAt {α : Type} {xs : Array α} {p : Nat} (hp : p ≤ xs.size) (x : α) (i : Nat) : (SetTable.insertAt xs p x)[i]? = if i < p then xs[i]? else if i = p then some x else xs[i - 1]? := by
  rw [← Array.getElem?_toList, SetTable.toList_insertAt, List.getElem?_append]
  have hl : (List.take p xs.toList).length = p := by simp; omega
  rw [hl]
  by_cases q : i < p
  · rw [if_pos q, if_pos q, List.getElem?_take_of_lt q]; simp
  · rw [if_neg q, if_neg q]
    by_cases q2 : i = p
    · subst q2; simp
    · rw [if_neg q2]
      obtain ⟨k, rfl⟩ : ∃ k, i = p + (k + 1) := ⟨i - p - 1, by omega⟩
      rw [show p + (k + 1) - p = k + 1 by omega, List.getElem?_cons_succ, List.getElem?_drop, Array.getElem?_toList]
      congr 1
theorem put_eq {t : SetTable} (hd : t.dummies = #[]) (j : Nat) : t.put j = ({ t with place := SetTable.insertAt t.place (SetTable.below t.place j) j }, SetTable.below t.place j) := by
  unfold SetTable.put
  rw [hd]
  have : SetTable.has #[] j = false := by unfold SetTable.has; simp
  rw [this]
  simp [hd]
/-- one more, at the first place on its way that is free -/
theorem Good.put {t : SetTable} {hs : List Int} (g : Good t hs) (hn : hs.length ≤ 4) {h : Int} {N : Nat} (hN : (pn t.mask h N).j ∉ t.place.toList) (hb : ∀ k, k < N → (pn t.mask h k).j ∈ t.place.toList) :
    Good (t.put (pn t.mask h N).j).1 (hs.take (t.put (pn t.mask h N).j).2 ++ h :: hs.drop (t.put (pn t.mask h N).j).2) ∧ (t.put (pn t.mask h N).j).2 ≤ hs.length ∧ (t.put (pn t.mask h N).j).1.moves = t.moves ∧ (t.put (pn t.mask h N).j).1.plain = t.plain ∧ (t.put (pn t.mask h N).j).1.mask = t.mask := by
  rw [put_eq g.dm]
  generalize hj : (pn t.mask h N).j = j at *
  obtain ⟨b1, b2, b3⟩ := below_spec g.srt j
  dsimp only
  generalize SetTable.below t.place j = p at *
  have hp : p ≤ hs.length := by rw [← g.len]; exact b3
  have gi := get_insertAt b3 j
  have hsub : ∀ a, a ∈ t.place.toList → a ∈ (SetTable.insertAt t.place p j).toList := fun a ha => by
    rw [SetTable.toList_insertAt]
    rw [← List.take_append_drop p t.place.toList] at ha
    rcases List.mem_append.mp ha with q | q
    · exact List.mem_append_left _ q
    · exact List.mem_append_right _ (.tail _ q)
  have hne : ∀ (i : Nat), t.place[i]? ≠ some j := fun i e => hN (mem_place.mpr ⟨i, e⟩)
  have hsz : (SetTable.insertAt t.place p j).size = t.place.size + 1 := by
    rw [← Array.length_toList, SetTable.toList_insertAt]; simp; omega
  refine ⟨⟨g.dm, g.mask, ?_, ?_, ?_, ?_⟩, hp, rfl, rfl, rfl⟩
  · simp; omega
  · show (SetTable.insertAt t.place p j).size = _
    rw [hsz, g.len]; simp; omega
  · intro i k a b hik ha hb'
    change (SetTable.insertAt t.place p j)[i]? = some a at ha
    change (SetTable.insertAt t.place p j)[k]? = some b at hb'
    rw [gi] at ha hb'
    by_cases q1 : i < p
    · rw [if_pos q1] at ha
      by_cases q2 : k < p
      · rw [if_pos q2] at hb'; exact g.srt i k a b hik ha hb'
      · rw [if_neg q2] at hb'
        by_cases q3 : k = p
        · rw [if_pos q3] at hb'; cases hb'; exact b1 i a q1 ha
        · rw [if_neg q3] at hb'; exact g.srt i (k - 1) a b (by omega) ha hb'
    · rw [if_neg q1] at ha
      rw [if_neg (by omega), if_neg (by omega)] at hb'
      by_cases q3 : i = p
      · rw [if_pos q3] at ha; cases ha
        have h1 := b2 (k - 1) b (by omega) hb'
        have h2 : b ≠ j := fun e => hne _ (e ▸ hb')
        omega
      · rw [if_neg q3] at ha; exact g.srt (i - 1) (k - 1) a b (by omega) ha hb'
  · intro i h' j' hi hj'
    change (SetTable.insertAt t.place p j)[i]? = some j' at hj'
    show Rch t.mask (SetTable.insertAt t.place p j).toList h' j'
    rw [gi] at hj'
    have hl : (List.take p hs).length = p := by simp; omega
    rw [List.getElem?_append, hl] at hi
    by_cases q1 : i < p
    · rw [if_pos q1] at hj' hi
      rw [List.getElem?_take_of_lt q1] at hi
      exact (g.rch i h' j' hi hj').mono hsub
    · rw [if_neg q1] at hj' hi
      by_cases q2 : i = p
      · rw [if_pos q2] at hj'; cases hj'
        subst q2
        rw [Nat.sub_self, List.getElem?_cons_zero] at hi; cases hi
        exact ⟨N, hj, fun k hk => hsub _ (hb k hk)⟩
      · rw [if_neg q2] at hj'
        obtain ⟨k, rfl⟩ : ∃ k, i = p + (k + 1) := ⟨i - p - 1, by omega⟩
        rw [show p + (k + 1) - p = k + 1 by omega, List.getElem?_cons_succ, List.getElem?_drop] at hi
        rw [show p + (k + 1) - 1 = p + k by omega] at hj'
        exact (g.rch (p + k) h' j' hi hj').mono hsub
end J
end

section
open PySem PySem.W PySem.Calls PyProof.Rows
set_option Elab.async false
set_option linter.unusedVariables false
set_option maxRecDepth 100000
namespace J
theorem run_pos {mask : Nat} {h : Int} {n0 i pt : Nat} (e : pn mask h n0 = tst mask i pt) : ∀ k, k ≤ SetTable.runEnd mask i - i → pn mask h (n0 + k) = ⟨i + k, SetTable.runEnd mask i - i - k, i, pt, none⟩
  | 0, _ => by rw [Nat.add_zero, e]; rfl
  | k + 1, hk => by
    show adv mask (pn mask h (n0 + k)) = _
    rw [run_pos e k (by omega)]
    unfold adv
    rw [if_pos (by show SetTable.runEnd mask i - i - k > 0; omega)]
    show SetTable.Probe.mk _ _ _ _ _ = _
    congr 1
theorem run_end {mask : Nat} {h : Int} {n0 i pt : Nat} (e : pn mask h n0 = tst mask i pt) : pn mask h (n0 + (SetTable.runEnd mask i - i) + 1) = tst mask (SetTable.leap mask i pt).1 (SetTable.leap mask i pt).2 := by
  show adv mask (pn mask h (n0 + (SetTable.runEnd mask i - i))) = _
  rw [run_pos e _ (Nat.le_refl _)]
  unfold adv
  rw [if_neg (by show ¬ SetTable.runEnd mask i - i - (SetTable.runEnd mask i - i) > 0; omega)]
  rfl
theorem runEnd_ge (mask i : Nat) : i ≤ SetTable.runEnd mask i := by unfold SetTable.runEnd; split <;> omega
theorem runEnd_le' {mask i : Nat} (h : i ≤ mask) : SetTable.runEnd mask i ≤ mask := by unfold SetTable.runEnd; split <;> omega
/-- who sits where -/
def Sits (mask : Nat) (owner : Array (Option Nat)) (ps : List Nat) : Prop := owner.size = mask + 1 ∧ ps.Nodup ∧ (∀ p, p ∈ ps → p ≤ mask) ∧ ∀ j, j ≤ mask → ∀ i, owner.getD j (some 0) = some i ↔ ps[i]? = some j
theorem Sits.none {mask : Nat} {owner : Array (Option Nat)} {ps : List Nat} (s : Sits mask owner ps) {j : Nat} (hj : j ≤ mask) : (owner.getD j (some 0)).isNone = true ↔ j ∉ ps := by
  rw [List.mem_iff_getElem?]
  cases e : owner.getD j (some 0) with
  | none =>
    simp only [Option.isNone_none, true_iff]
    rintro ⟨i, hi⟩
    have := (s.2.2.2 j hj i).mpr hi
    rw [e] at this; cases this
  | some i => simpa using ⟨i, (s.2.2.2 j hj i).mp e⟩
theorem free_spec {mask : Nat} {owner : Array (Option Nat)} {ps : List Nat} (s : Sits mask owner ps) (h : Int) : ∀ (fuel r0 r n0 : Nat), r0 ≤ r → r - r0 < fuel → (lpn mask h r).1 ∉ ps → pn mask h n0 = tst mask (lpn mask h r0).1 (lpn mask h r0).2 →
    (∀ k, k < n0 → (pn mask h k).j ∈ ps) → ∃ N, SetTable.layClean.free mask owner fuel (lpn mask h r0).1 (lpn mask h r0).2 = some (pn mask h N).j ∧ (pn mask h N).j ∉ ps ∧ (pn mask h N).j ≤ mask ∧ ∀ k, k < N → (pn mask h k).j ∈ ps
  | 0, r0, r, n0, h1, h2, h3, h4, h5 => by omega
  | fuel + 1, r0, r, n0, h1, h2, h3, h4, h5 => by
    unfold SetTable.layClean.free
    have hi := lpn_le mask h r0
    generalize hI : (lpn mask h r0).1 = i at *
    have hre := runEnd_ge mask i
    have hrl := runEnd_le' hi
    cases hf : (List.range (SetTable.runEnd mask i + 1 - i)).find? fun k => (owner.getD (i + k) (some 0)).isNone with
    | some k =>
      dsimp only
      have hk := List.mem_range.mp (List.mem_of_find?_eq_some hf)
      have hn := List.find?_some hf
      have hlt : ∀ k', k' < k → i + k' ∈ ps := fun k' hk' => by
        have := (List.find?_eq_some_iff_getElem.mp hf).2
        obtain ⟨idx, hidx, hge, hbefore⟩ := this
        rw [List.getElem_range] at hge
        subst hge
        have := hbefore k' hk'
        rw [List.getElem_range] at this
        have q := s.none (j := i + k') (by omega)
        simp only [Bool.not_eq_true', ] at this
        exact Classical.not_not.mp fun hc => by rw [q.mpr hc] at this; cases this
      have hp : ∀ k', k' ≤ k → (pn mask h (n0 + k')).j = i + k' := fun k' hk' => by rw [run_pos h4 k' (by omega)]
      refine ⟨n0 + k, by rw [hp k (Nat.le_refl _)], ?_, ?_, fun k' hk' => ?_⟩
      · rw [hp k (Nat.le_refl _)]; exact (s.none (by omega)).mp hn
      · rw [hp k (Nat.le_refl _)]; omega
      · rcases Nat.lt_or_ge k' n0 with q | q
        · exact h5 k' q
        · obtain ⟨d, rfl⟩ : ∃ d, k' = n0 + d := ⟨k' - n0, by omega⟩
          rw [hp d (by omega)]; exact hlt d (by omega)
    | none =>
      dsimp only
      have hall : ∀ k, k < SetTable.runEnd mask i + 1 - i → i + k ∈ ps := fun k hk => by
        have := List.find?_eq_none.mp hf k (List.mem_range.mpr hk)
        have q := s.none (j := i + k) (by omega)
        exact Classical.not_not.mp fun hc => this (q.mpr hc)
      have hr : r0 ≠ r := fun e => by
        subst e; rw [hI] at h3
        exact h3 (by simpa using hall 0 (by omega))
      have hl : SetTable.leap mask i (lpn mask h r0).2 = lpn mask h (r0 + 1) := by rw [← hI]; rfl
      rw [hl]
      refine free_spec s h fuel (r0 + 1) r (n0 + (SetTable.runEnd mask i - i) + 1) (by omega) (by omega) h3 ?_ fun k hk => ?_
      · rw [run_end h4, hl]
      · rcases Nat.lt_or_ge k n0 with q | q
        · exact h5 k q
        · obtain ⟨d, rfl⟩ : ∃ d, k = n0 + d := ⟨k - n0, by omega⟩
          rw [run_pos h4 d (by omega)]; exact hall d (by omega)
theorem free_some {mask : Nat} (hm : Mask mask) {owner : Array (Option Nat)} {ps : List Nat} (s : Sits mask owner ps) (hl : ps.length ≤ 5) (h : Int) :
    ∃ N, SetTable.layClean.free mask owner (SetTable.turns mask) (SetTable.bits h % (mask + 1)) (SetTable.bits h) = some (pn mask h N).j ∧ (pn mask h N).j ∉ ps ∧ (pn mask h N).j ≤ mask ∧ ∀ k, k < N → (pn mask h k).j ∈ ps := by
  obtain ⟨e, he, hn⟩ := some_free hm ps hl
  obtain ⟨k, hk, e1⟩ := lcg_all hm _ (lpn_le mask h 13) e he
  exact free_spec s h (SetTable.turns mask) 0 (13 + k) 0 (Nat.zero_le _) (by unfold SetTable.turns; omega) (by rw [lpn_iter, e1]; exact hn) rfl fun k hk => by omega
end J
end

section
open PySem PySem.W PySem.Calls PyProof.Rows
set_option Elab.async false
set_option linter.unusedVariables false
set_option maxRecDepth 100000
namespace J
def layF (mask : Nat) (acc : Option (Array (Option Nat) × Nat)) (h : Int) : Option (Array (Option Nat) × Nat) := do
    let (owner, k) ← acc
    let j ← SetTable.layClean.free mask owner (SetTable.turns mask) (SetTable.bits h % (mask + 1)) (SetTable.bits h)
    pure (owner.setIfInBounds j (some k), k + 1)
theorem layClean_eq (mask : Nat) (hs : Array Int) : SetTable.layClean mask hs = (hs.toList.foldl (layF mask) (some (Array.replicate (mask + 1) none, 0))).map (·.1) := by
  unfold SetTable.layClean
  rw [← Array.foldl_toList]
  rfl
theorem Sits.add {mask : Nat} {owner : Array (Option Nat)} {ps : List Nat} (s : Sits mask owner ps) {j : Nat} (hj : j ≤ mask) (hn : j ∉ ps) : Sits mask (owner.setIfInBounds j (some ps.length)) (ps ++ [j]) := by
  obtain ⟨h1, h2, h3, h4⟩ := s
  refine ⟨by simp [h1], ?_, fun p hp => ?_, fun j' hj' i => ?_⟩
  · rw [List.nodup_append]
    exact ⟨h2, by simp, fun a ha b hb e => by simp at hb; subst hb; subst e; exact hn ha⟩
  · rcases List.mem_append.mp hp with q | q
    · exact h3 p q
    · simp at q; omega
  · have hs : j < owner.size := by omega
    have hs' : j' < owner.size := by omega
    rw [Array.getD_eq_getD_getElem?, Array.getElem?_setIfInBounds]
    by_cases q : j = j'
    · subst q
      rw [if_pos rfl, if_pos hs]
      simp only [Option.getD_some, Option.some.injEq]
      constructor
      · rintro rfl; simp
      · intro e
        rcases Nat.lt_trichotomy i ps.length with q | q | q
        · rw [List.getElem?_append_left q] at e
          exact absurd (List.mem_iff_getElem?.mpr ⟨i, e⟩) hn
        · exact q.symm
        · rw [List.getElem?_eq_none_iff.mpr (by simp; omega)] at e; cases e
    · rw [if_neg q, ← Array.getD_eq_getD_getElem?, h4 j' hj' i]
      constructor
      · intro e
        have hi := (List.getElem?_eq_some_iff.mp e).1
        rw [List.getElem?_append_left hi]; exact e
      · intro e
        rcases Nat.lt_trichotomy i ps.length with q' | q' | q'
        · rw [List.getElem?_append_left q'] at e; exact e
        · subst q'; simp at e; exact absurd e q
        · rw [List.getElem?_eq_none_iff.mpr (by simp; omega)] at e; cases e
theorem lay_fold {mask : Nat} (hm : Mask mask) : ∀ (rest : List Int) (owner : Array (Option Nat)) (ps : List Nat) (hs : List Int), Sits mask owner ps → hs.length = ps.length → (∀ (i : Nat) h j, hs[i]? = some h → ps[i]? = some j → Rch mask ps h j) → ps.length + rest.length ≤ 5 →
    ∃ owner' ps', rest.foldl (layF mask) (some (owner, ps.length)) = some (owner', ps'.length) ∧ Sits mask owner' ps' ∧ ps'.length = (hs ++ rest).length ∧ ∀ (i : Nat) h j, (hs ++ rest)[i]? = some h → ps'[i]? = some j → Rch mask ps' h j
  | [], owner, ps, hs, s, hl, hr, hn => ⟨owner, ps, rfl, s, by simpa using hl.symm, by simpa using hr⟩
  | h :: rest, owner, ps, hs, s, hl, hr, hn => by
    obtain ⟨N, e, q1, q2, q3⟩ := free_some hm s (by simp at hn; omega) h
    have st : layF mask (some (owner, ps.length)) h = some (owner.setIfInBounds (pn mask h N).j (some ps.length), (ps ++ [(pn mask h N).j]).length) := by
      unfold layF
      simp only [Option.bind_eq_bind, Option.bind_some]
      rw [e]
      simp
    rw [List.foldl_cons, st]
    have hsub : ∀ a, a ∈ ps → a ∈ ps ++ [(pn mask h N).j] := fun a ha => List.mem_append_left _ ha
    obtain ⟨o', ps', a, b, c, d⟩ := lay_fold hm rest _ (ps ++ [(pn mask h N).j]) (hs ++ [h]) (s.add q2 q1) (by simp [hl]) (fun i h' j hi hj => by
      rcases Nat.lt_trichotomy i ps.length with q | q | q
      · rw [List.getElem?_append_left (by omega)] at hi
        rw [List.getElem?_append_left q] at hj
        exact (hr i h' j hi hj).mono hsub
      · subst q
        rw [← hl] at hi
        simp at hi hj
        subst hi; subst hj
        exact ⟨N, rfl, fun k hk => hsub _ (q3 k hk)⟩
      · rw [List.getElem?_eq_none_iff.mpr (by simp; omega)] at hj; cases hj) (by simp at hn ⊢; omega)
    exact ⟨o', ps', a, b, by rw [c]; simp, by simpa using d⟩
theorem sits_nil (mask : Nat) : Sits mask (Array.replicate (mask + 1) none) [] := by
  refine ⟨by simp, by simp, fun p hp => by simp at hp, fun j hj i => ?_⟩
  rw [Array.getD_eq_getD_getElem?, Array.getElem?_replicate, if_pos (by omega)]
  simp
theorem lay_clean {mask : Nat} (hm : Mask mask) (hs : List Int) (hn : hs.length ≤ 5) : ∃ owner ps, SetTable.layClean mask hs.toArray = some owner ∧ Sits mask owner ps ∧ ps.length = hs.length ∧ ∀ (i : Nat) h j, hs[i]? = some h → ps[i]? = some j → Rch mask ps h j := by
  obtain ⟨o, ps, a, b, c, d⟩ := lay_fold hm hs _ [] [] (sits_nil mask) rfl (fun i h j e => by simp at e) (by simpa using hn)
  refine ⟨o, ps, ?_, b, by simpa using c, by simpa using d⟩
  rw [layClean_eq]
  show Option.map _ (List.foldl (layF mask) (some (Array.replicate (mask + 1) none, ([] : List Nat).length)) hs) = _
  rw [a]; rfl
def liveOf (mask : Nat) (owner : Array (Option Nat)) : List (Nat × Nat) := (List.range (mask + 1)).filterMap fun j => (owner.getD j none).map (j, ·)
theorem mem_live {mask : Nat} {owner : Array (Option Nat)} {ps : List Nat} (s : Sits mask owner ps) {j i : Nat} : (j, i) ∈ liveOf mask owner ↔ ps[i]? = some j := by
  unfold liveOf
  rw [List.mem_filterMap]
  constructor
  · rintro ⟨j', hj', e⟩
    have hm := List.mem_range.mp hj'
    obtain ⟨i', e1, e2⟩ := Option.map_eq_some_iff.mp e
    cases e2
    refine (s.2.2.2 j (by omega) i).mp ?_
    rw [Array.getD_eq_getD_getElem?] at e1 ⊢
    rw [Array.getElem?_eq_getElem (by rw [s.1]; omega)] at e1 ⊢
    exact e1
  · intro e
    have hj : j ≤ mask := s.2.2.1 j (List.mem_iff_getElem?.mpr ⟨i, e⟩)
    refine ⟨j, List.mem_range.mpr (by omega), ?_⟩
    have := (s.2.2.2 j hj i).mpr e
    rw [Array.getD_eq_getD_getElem?, Array.getElem?_eq_getElem (by rw [s.1]; omega)] at this ⊢
    rw [show (some (owner[j]'(by rw [s.1]; omega))).getD none = some i from this]; rfl
theorem live_sorted (mask : Nat) (owner : Array (Option Nat)) : (liveOf mask owner).Pairwise (fun a b => a.1 < b.1) := by
  unfold liveOf
  refine List.Pairwise.filterMap (R := fun a b : Nat => a < b) _ ?_ List.pairwise_lt_range
  intro a a' haa b hb b' hb'
  obtain ⟨x, _, rfl⟩ := Option.map_eq_some_iff.mp hb
  obtain ⟨y, _, rfl⟩ := Option.map_eq_some_iff.mp hb'
  exact haa
theorem laid_spec {mask : Nat} (hm : Mask mask) (finger moves : Nat) (led plain : Bool) (hs : List Int) (hn : hs.length ≤ 5) :
    ∃ t order, SetTable.laid mask finger moves led plain hs.toArray = some (t, order) ∧ order.toList.Perm (List.range hs.length) ∧ Good t (order.toList.filterMap (hs[·]?)) ∧ t.mask = mask := by
  obtain ⟨o, ps, a, s, c, d⟩ := lay_clean hm hs hn
  have hso := live_sorted mask o
  have hnd : ((liveOf mask o).map (·.2)).Nodup := by
    unfold List.Nodup
    rw [List.pairwise_map]
    refine hso.imp_of_mem fun {x y} hx hy hxy e => ?_
    have e1 := (mem_live s (j := x.1) (i := x.2)).mp hx
    have e2 := (mem_live s (j := y.1) (i := y.2)).mp hy
    rw [e, e2] at e1
    have := Option.some.inj e1
    omega
  have hmem : ∀ i, i ∈ (liveOf mask o).map (·.2) ↔ i ∈ List.range hs.length := fun i => by
    rw [List.mem_map, List.mem_range]
    constructor
    · rintro ⟨⟨j, i'⟩, h1, rfl⟩
      have := (List.getElem?_eq_some_iff.mp ((mem_live s).mp h1)).1
      omega
    · intro hi
      exact ⟨(ps[i]'(by omega), i), (mem_live s).mpr (List.getElem?_eq_getElem (by omega)), rfl⟩
  have hperm : ((liveOf mask o).map (·.2)).Perm (List.range hs.length) := (List.perm_ext_iff_of_nodup hnd List.nodup_range).mpr hmem
  have hfl : ((liveOf mask o).map (·.2)).filterMap (hs[·]?) = (liveOf mask o).map fun x => hs.getD x.2 0 := by
    have key : ∀ l : List (Nat × Nat), (∀ x ∈ l, x.2 < hs.length) → (l.map (·.2)).filterMap (hs[·]?) = l.map fun x => hs.getD x.2 0 := by
      intro l
      induction l with
      | nil => intro _; rfl
      | cons x l ih =>
        intro hx
        have hlt := hx x (.head _)
        rw [List.map_cons, List.map_cons, List.filterMap_cons_some (b := hs.getD x.2 0), ih fun y hy => hx y (.tail _ hy)]
        rw [List.getD_eq_getElem?_getD, List.getElem?_eq_getElem hlt]; rfl
    refine key _ fun x hx => ?_
    have := (List.getElem?_eq_some_iff.mp ((mem_live s (j := x.1) (i := x.2)).mp hx)).1
    omega
  refine ⟨{ mask, place := ((liveOf mask o).map (·.1)).toArray, dummies := #[], finger, led, moves, plain }, ((liveOf mask o).map (·.2)).toArray, ?_, hperm, ⟨rfl, hm, ?_, ?_, ?_, ?_⟩, rfl⟩
  · unfold SetTable.laid
    rw [a]; rfl
  · show (List.filterMap _ ((liveOf mask o).map (·.2))).length ≤ 5
    rw [hfl, List.length_map, ← List.length_map (f := (·.2)), hperm.length_eq, List.length_range]; exact hn
  · show ((liveOf mask o).map (·.1)).toArray.size = (List.filterMap _ ((liveOf mask o).map (·.2))).length
    rw [hfl]; simp
  · intro i k x y hik hx hy
    simp only [List.getElem?_toArray, List.getElem?_map] at hx hy
    obtain ⟨x', hx', rfl⟩ := Option.map_eq_some_iff.mp hx
    obtain ⟨y', hy', rfl⟩ := Option.map_eq_some_iff.mp hy
    obtain ⟨i1, rfl⟩ := List.getElem?_eq_some_iff.mp hx'
    obtain ⟨k1, rfl⟩ := List.getElem?_eq_some_iff.mp hy'
    exact List.pairwise_iff_getElem.mp hso i k i1 k1 hik
  · intro i h j hi hj
    change (List.filterMap _ ((liveOf mask o).map (·.2)))[i]? = some h at hi
    rw [hfl] at hi
    simp only [List.getElem?_toArray, List.getElem?_map] at hi hj
    obtain ⟨x, hx, rfl⟩ := Option.map_eq_some_iff.mp hj
    rw [hx] at hi
    have hi := Option.some.inj hi
    have hp := (mem_live s (j := x.1) (i := x.2)).mp (List.mem_iff_getElem?.mpr ⟨i, hx⟩)
    have hlt := (List.getElem?_eq_some_iff.mp hp).1
    refine (d x.2 h x.1 (by rw [← hi]; show hs[x.2]? = some (hs.getD x.2 0); rw [List.getD_eq_getElem?_getD, List.getElem?_eq_getElem (by omega)]; rfl) hp).mono fun b hb => ?_
    show b ∈ ((liveOf mask o).map (·.1)).toArray.toList
    obtain ⟨k, hk⟩ := List.mem_iff_getElem?.mp hb
    exact List.mem_map.mpr ⟨(b, k), (mem_live s).mpr hk, rfl⟩
end J
end

section
open PySem PySem.W PySem.Calls PyProof.Rows
set_option Elab.async false
set_option linter.unusedVariables false
set_option maxRecDepth 100000
namespace J
section
variable {prog : Program} {w : World} {A : Around} {E : Value → Shared → Prop} {s : Shared}
def isMix : Str ⊕ Int → Value → Bool
  | .inl x, v => Value.isStrOf x v
  | .inr i, v => Value.isInt i v
theorem eqBool_si {a : Str} {t : Tok} {b : Int} {u : Tok} {Q : Bool → Shared → Prop} (h : Q false s) : wpAny (model prog w) A (eqBool (.str a t) (.int b u)) Q E s := by
  unfold eqBool
  refine wpAny_holding ?_
  show wpAny _ _ (richCompare .Eq (Value.str a t) (Value.int b u) >>= truthOfDropped) Q E s
  exact wpAny_bind (EqMixed.eq_str_int (wpAny_truthy_bool h))
theorem eqBool_is {a : Int} {t : Tok} {b : Str} {u : Tok} {Q : Bool → Shared → Prop} (h : Q false s) : wpAny (model prog w) A (eqBool (.int a t) (.str b u)) Q E s := by
  unfold eqBool
  refine wpAny_holding ?_
  show wpAny _ _ (richCompare .Eq (Value.int a t) (Value.str b u) >>= truthOfDropped) Q E s
  exact wpAny_bind (EqMixed.eq_int_str (wpAny_truthy_bool h))
theorem isMix_l {x : Str} {v : Value} (h : isMix (.inl x) v = true) : ∃ t, v = .str x t := Value.isStrOf_shape h
theorem isMix_r {x : Int} {v : Value} (h : isMix (.inr x) v = true) : ∃ t, v = .int x t := Value.isInt_shape h
def mixKind (prog : Program) (w : World) : KeyKind prog w (Str ⊕ Int) where
  is := isMix
  hash := fun k => match k with | .inl x => hashStr w x | .inr i => hashInt i
  inj := fun v a b ha hb => by
    cases a <;> cases b
    · exact congrArg _ (Value.isStrOf_inj v _ _ ha hb)
    · obtain ⟨t, rfl⟩ := isMix_l ha; obtain ⟨t, h⟩ := isMix_r hb; cases h
    · obtain ⟨t, rfl⟩ := isMix_r ha; obtain ⟨t, h⟩ := isMix_l hb; cases h
    · exact congrArg _ (Value.isInt_inj v _ _ ha hb)
  byValue := fun k v h => by
    cases k
    · obtain ⟨t, rfl⟩ := isMix_l h; rfl
    · obtain ⟨t, rfl⟩ := isMix_r h; rfl
  pyHash := fun {A E s k v Q} hv h => by
    cases k
    · exact (PySem.strKind prog w).pyHash hv h
    · exact (PySem.intKind prog w).pyHash hv h
  eqBool := fun {A E s a b u v Q} hu hv h => by
    cases a <;> cases b
    · refine (PySem.strKind prog w).eqBool hu hv ?_
      simpa using h
    · obtain ⟨t, rfl⟩ := isMix_l hu
      obtain ⟨t', rfl⟩ := isMix_r hv
      exact eqBool_si (by simpa using h)
    · obtain ⟨t, rfl⟩ := isMix_r hu
      obtain ⟨t', rfl⟩ := isMix_l hv
      exact eqBool_is (by simpa using h)
    · refine (PySem.intKind prog w).eqBool hu hv ?_
      simpa using h
  «strs» := fun k x t v h => by
    cases k
    · exact (PySem.strKind prog w).«strs» _ x t v h
    · obtain ⟨t', h'⟩ := isMix_r h; cases h'
abbrev TKey := List (Str ⊕ Int)
abbrev IsTK (prog : Program) (w : World) (h : Heap) (k : TKey) (a : Addr) : Prop := IsTupleKey (mixKind prog w) h k a
abbrev tkHash (prog : Program) (w : World) (k : TKey) : Int := tupleKeyHash (mixKind prog w) k
theorem itemsAre_no {ks : TKey} {vs : List Value} (h : ItemsAre (mixKind prog w) ks vs) : ∀ v ∈ vs, ∀ d, ofAClassStatement d v = pure false := by
  induction h with
  | nil => intro v hv; simp at hv
  | @cons k v' ks vs h1 _ ih =>
    intro v hv d
    rcases List.mem_cons.mp hv with rfl | hv
    · cases k
      · obtain ⟨t, rfl⟩ := isMix_l h1; cases d <;> rfl
      · obtain ⟨t, rfl⟩ := isMix_r h1; cases d <;> rfl
    · exact ih v hv d
theorem ofClass_no {k : TKey} {a : Addr} (hk : IsTK prog w s.heap k a) {Q : Bool → Shared → Prop} (h : Q false s) : wpAny (model prog w) A (ofAClassStatement 8 (.ref a)) Q E s := by
  have hT := hk.typeIs
  obtain ⟨o, items, n, ho, _, hd, hi⟩ := hk
  unfold ofAClassStatement
  refine wpAny_bind (wpAny_typeOf hT ?_)
  dsimp only
  rw [show ("tuple" == "tuple") = true from rfl]
  simp only [if_true]
  refine wpAny_bind (wpAny_pure ?_)
  simp only [Bool.not_true, Bool.false_eq_true, if_false]
  refine wpAny_bind (wpAny_seqItems ho hd ?_)
  dsimp only
  refine wpAny_bind ?_
  rw [← Array.forIn_toList]
  have hno := itemsAre_no hi
  refine wpAny_forIn_list _ (fun rest r s' => r.1 = none ∧ s' = s ∧ ∀ v ∈ rest, ∀ d, ofAClassStatement d v = pure false) _ ?_ ?_ _ _ ⟨rfl, rfl, hno⟩
  · rintro v rest r s' ⟨hr, rfl, hall⟩
    rw [hall v List.mem_cons_self]
    refine wpAny_bind (wpAny_pure ?_)
    simp only [Bool.false_eq_true, if_false]
    exact wpAny_pure ⟨rfl, rfl, fun u hu' => hall u (List.mem_cons_of_mem _ hu')⟩
  · rintro ⟨r1, r2⟩ s' ⟨hr, rfl, _⟩
    simp only at hr
    subst hr
    exact wpAny_pure h
theorem seen_no {k : TKey} {a : Addr} (hk : IsTK prog w s.heap k a) : ∀ (l : List Value), (∀ v ∈ l, ∃ k' p, v = .ref p ∧ IsTK prog w s.heap k' p) → ∀ {Q : Bool → Shared → Prop}, Q false s → wpAny (model prog w) A (searchCouldBeSeen (.ref a) l) Q E s := by
  intro l hl Q h
  unfold searchCouldBeSeen
  refine wpAny_bind ?_
  refine wpAny_forIn_list _ (fun rest r s' => r.1 = none ∧ s' = s ∧ ∀ v ∈ rest, ∃ k' p, v = .ref p ∧ IsTK prog w s.heap k' p) _ ?_ ?_ _ _ ⟨rfl, rfl, hl⟩
  · rintro v rest r s' ⟨hr, rfl, hall⟩
    obtain ⟨k', p, rfl, hp⟩ := hall v List.mem_cons_self
    dsimp only
    have rest' : ∀ v ∈ rest, ∃ k' p, v = Value.ref p ∧ IsTK prog w s'.heap k' p := fun u hu' => hall u (List.mem_cons_of_mem _ hu')
    split
    · exact wpAny_pure ⟨rfl, rfl, rest'⟩
    · refine wpAny_bind (wpAny_eqIsQuiet_tuple hk ?_)
      simp only [Bool.not_true, Bool.false_eq_true, if_false]
      refine wpAny_bind (wpAny_eqIsQuiet_tuple hp ?_)
      simp only [Bool.not_true, Bool.false_eq_true, if_false]
      refine wpAny_bind (ofClass_no hk ?_)
      simp only [Bool.false_eq_true, if_false]
      refine wpAny_bind (ofClass_no hp ?_)
      simp only [Bool.false_eq_true, if_false]
      exact wpAny_pure ⟨rfl, rfl, rest'⟩
  · rintro ⟨r1, r2⟩ s' ⟨hr, rfl, _⟩
    simp only at hr
    subst hr
    exact wpAny_pure h
/-- what a set of ours holds: tuples of texts and ints -/
def Elems (prog : Program) (w : World) (h : Heap) (es : Array (Int × Value)) : Prop := ∀ (i : Nat) e, es[i]? = some e → ∃ k p, e = (tkHash prog w k, .ref p) ∧ IsTK prog w h k p
def HasK (prog : Program) (w : World) (h : Heap) (es : Array (Int × Value)) (k : TKey) : Prop := ∃ (i : Nat) (e : Int × Value) (p : Addr), es[i]? = some e ∧ e.2 = .ref p ∧ IsTK prog w h k p
theorem search_ok {a x : Addr} {k : TKey} {cl : Value} {dd : Option Addr} {sl : Array (Option Value)} {es : Array (Int × Value)} {ep : Nat} {t : SetTable} {adding : Bool} (hu : A.units < cLine)
    (ho : s.heap.get? a = some ⟨cl, dd, .set es ep t, sl⟩) (G : Good t (es.toList.map (·.1))) (hx : IsTK prog w s.heap k x) (hel : Elems prog w s.heap es)
    {N : Nat} (hN : (pn t.mask (tkHash prog w k) N).j ∉ t.place.toList) (hNl : N < 10 * SetTable.turns t.mask) (hb : ∀ n, n < N → (pn t.mask (tkHash prog w k) n).j ∈ t.place.toList)
    {Q : SetFound → Shared → Prop} (h1 : HasK prog w s.heap es k → ∀ r, (adding = false → r.isSome = true) → Q (.there r) s) (h2 : ¬ HasK prog w s.heap es k → Q (.free (pn t.mask (tkHash prog w k) N).j false) s) :
    ∀ (fuel n : Nat) (st : Option SetTable.Probe), st.getD (t.probeStart (tkHash prog w k)) = pn t.mask (tkHash prog w k) n → n ≤ N → N - n < fuel →
      (∀ n', n' < n → ∀ (i : Nat) (e : Int × Value) p, t.place[i]? = some (pn t.mask (tkHash prog w k) n').j → es[i]? = some e → e.2 = .ref p → ¬ IsTK prog w s.heap k p) →
      wpAny (model prog w) A (setSearchFrom a (.ref x) (tkHash prog w k) adding fuel st) Q E s
  | 0, n, st, _, _, hf, _ => by omega
  | fuel + 1, n, st, hst, hn, hf, hbef => by
    unfold setSearchFrom
    have hfit : t.fits es.size = true := by simpa using G.fits
    refine wpAny_bind (wpAny_setState_of ho rfl hfit ?_)
    dsimp only
    rw [G.way]
    simp only [Bool.false_eq_true, if_false]
    rw [hst]
    have gs := go_spec G.srt G.dm (fun i => (es[i]?.map (·.1)).getD 0) (tkHash prog w k) hN (10 * SetTable.turns t.mask) n hn (by omega) (fun n' _ h' => hb n' h')
    have hlen : es.size = t.place.size := by rw [G.len]; simp
    rcases gs with ⟨n1, i, a1, a2, a3, a4, a5, a6⟩ | ⟨a1, a2⟩
    · have hilt : i < es.size := by rw [hlen]; exact (Array.getElem?_eq_some_iff.mp a3).1
      have hei : es[i]? = some es[i] := Array.getElem?_eq_getElem hilt
      obtain ⟨k', p, hep, hkp⟩ := hel i _ hei
      generalize hm : SetTable.probe t _ (tkHash prog w k) (pn t.mask (tkHash prog w k) n) = met
      obtain rfl : met = _ := hm.symm.trans a5
      clear hm
      dsimp only
      have hst' : ∀ v ∈ List.map (fun x => x.snd) (Array.filter (fun x => x.fst == tkHash prog w k) es).toList, ∃ k' p, v = Value.ref p ∧ IsTK prog w s.heap k' p := fun v hv => by
        obtain ⟨e, he, rfl⟩ := List.mem_map.mp hv
        rw [Array.toList_filter, List.mem_filter] at he
        obtain ⟨q, hq⟩ := List.mem_iff_getElem?.mp he.1
        obtain ⟨k1, p1, rfl, h3⟩ := hel q e (by simpa using hq)
        exact ⟨k1, p1, rfl, h3⟩
      have hsm : t.sameMemory t.moves t.mask = some true := by simp [SetTable.sameMemory]
      have hsl := slot_live G.srt a3
      have hnot : k' ≠ k → ∀ (i' : Nat) (e : Int × Value) p', t.place[i']? = some (pn t.mask (tkHash prog w k) n1).j → es[i']? = some e → e.2 = .ref p' → ¬ IsTK prog w s.heap k p' := fun hne i' e p' h3 h4 h5 h6 => by
        have := (slot_live G.srt a3).symm.trans (slot_live G.srt h3)
        cases this
        rw [hei] at h4; cases h4
        rw [hep] at h5; cases h5
        exact hne (hkp.inj h6)
      have hnext : k' ≠ k → ∀ n', n' < n1 + 1 → ∀ (i : Nat) (e : Int × Value) p, t.place[i]? = some (pn t.mask (tkHash prog w k) n').j → es[i]? = some e → e.2 = .ref p → ¬ IsTK prog w s.heap k p := fun hne n' hn' i' e p' h3 h4 h5 h6 => by
        rcases Nat.lt_or_ge n' n with q | q
        · exact hbef n' q i' e p' h3 h4 h5 h6
        · rcases Nat.lt_or_ge n' n1 with q2 | q2
          · have h7 := a6 n' q q2 i' h3
            rw [h4] at h7
            obtain ⟨k1, p1, rfl, h8⟩ := hel i' e h4
            cases h5
            exact h7 (by rw [h8.inj h6]; rfl)
          · obtain rfl : n' = n1 := by omega
            exact hnot hne i' e p' h3 h4 h5 h6
      split
      · refine wpAny_bind (seen_no hx _ hst' ?_)
        simp only [Bool.false_eq_true, if_false]
        rw [hei]
        dsimp only
        rw [hep]
        dsimp only
        refine wpAny_bind (wpAny_holding (wpAny_eqBool_tuple hu hkp hx ?_))
        refine wpAny_bind (wpAny_setState_of ho rfl hfit ?_)
        dsimp only
        rw [hsm, hsl]
        dsimp only
        by_cases e : k' = k
        · subst e
          have hh : HasK prog w s.heap es k' := ⟨i, _, p, hei, by rw [hep], hkp⟩
          rw [decide_eq_true rfl, Bool.and_true]
          cases adding
          · simp only [Bool.false_eq_true, if_false, if_true]
            rw [hei, hep]
            dsimp only
            refine wpAny_bind (wpAny_isSame_ref_self (wpAny_bind (wpAny_pure ?_)))
            simp only [if_true]
            exact wpAny_pure (h1 hh _ fun _ => rfl)
          · simp only [if_true]
            exact wpAny_pure (h1 hh _ fun z => by cases z)
        · rw [decide_eq_false e, Bool.and_false]
          simp only [Bool.false_eq_true, if_false, if_true]
          rw [hei, hep]
          dsimp only
          refine wpAny_bind (wpAny_isSame_ref_self (wpAny_bind (wpAny_pure ?_)))
          simp only [if_true]
          exact search_ok hu ho G hx hel hN hNl hb h1 h2 fuel (n1 + 1) _ rfl a2 (by omega) (hnext e)
      · rw [hei]
        dsimp only
        rw [hep]
        dsimp only
        refine wpAny_bind (wpAny_holding (wpAny_eqBool_tuple hu hkp hx ?_))
        refine wpAny_bind (wpAny_setState_of ho rfl hfit ?_)
        dsimp only
        rw [hsm, hsl]
        dsimp only
        by_cases e : k' = k
        · subst e
          have hh : HasK prog w s.heap es k' := ⟨i, _, p, hei, by rw [hep], hkp⟩
          rw [decide_eq_true rfl, Bool.and_true]
          cases adding
          · simp only [Bool.false_eq_true, if_false, if_true]
            rw [hei, hep]
            dsimp only
            refine wpAny_bind (wpAny_isSame_ref_self (wpAny_bind (wpAny_pure ?_)))
            simp only [if_true]
            exact wpAny_pure (h1 hh _ fun _ => rfl)
          · simp only [if_true]
            exact wpAny_pure (h1 hh _ fun z => by cases z)
        · rw [decide_eq_false e, Bool.and_false]
          simp only [Bool.false_eq_true, if_false, if_true]
          rw [hei, hep]
          dsimp only
          refine wpAny_bind (wpAny_isSame_ref_self (wpAny_bind (wpAny_pure ?_)))
          simp only [if_true]
          exact search_ok hu ho G hx hel hN hNl hb h1 h2 fuel (n1 + 1) _ rfl a2 (by omega) (hnext e)
    · generalize hm : SetTable.probe t _ (tkHash prog w k) (pn t.mask (tkHash prog w k) n) = met
      obtain rfl : met = _ := hm.symm.trans a2
      clear hm
      dsimp only
      refine wpAny_pure (h2 fun ⟨i, e, p, he, hp, hk⟩ => ?_)
      obtain ⟨k1, p1, he1, h8⟩ := hel i e he
      subst he1
      cases hp
      obtain rfl := h8.inj hk
      have hilt : i < t.place.size := by rw [← hlen]; exact (Array.getElem?_eq_some_iff.mp he).1
      obtain ⟨m, hm1, hm2⟩ := G.rch i (tkHash prog w k1) t.place[i] (by simp [he]) (Array.getElem?_eq_getElem hilt)
      have hpl : t.place[i]? = some (pn t.mask (tkHash prog w k1) m).j := by rw [hm1]; exact Array.getElem?_eq_getElem hilt
      have hmN : m < N := by
        rcases Nat.lt_trichotomy m N with q | q | q
        · exact q
        · subst q; exact absurd (mem_place.mpr ⟨i, hpl⟩) hN
        · exact absurd (hm2 N q) hN
      rcases Nat.lt_or_ge m n with q | q
      · exact hbef m q i _ p hpl he rfl hk
      · exact a1 m q hmN i hpl (by rw [he]; rfl)
end
end J
end

section
open PySem PySem.W PySem.Calls PyProof.Rows
set_option Elab.async false
set_option linter.unusedVariables false
set_option maxRecDepth 100000
namespace J
section
variable {prog : Program} {w : World} {A : Around} {E : Value → Shared → Prop} {s : Shared}
abbrev entT (prog : Program) (w : World) (e : Addr × TKey) : Int × Value := (tkHash prog w e.2, .ref e.1)
def SetT (prog : Program) (w : World) (h : Heap) (a : Addr) (ks : List (Addr × TKey)) : Prop :=
  ∃ es ep t, h.get? a = some { cls := .type "set", data := .set es ep t } ∧ es.toList.Perm (ks.map (entT prog w)) ∧ Good t (es.toList.map (·.1))
def TKs (prog : Program) (w : World) (h : Heap) (ks : List (Addr × TKey)) : Prop := ∀ e ∈ ks, IsTK prog w h e.2 e.1
theorem elems_of {es : Array (Int × Value)} {ks : List (Addr × TKey)} {h : Heap} (p : es.toList.Perm (ks.map (entT prog w))) (x : TKs prog w h ks) : Elems prog w h es := fun i e he => by
  have hm : e ∈ es.toList := List.mem_iff_getElem?.mpr ⟨i, by simpa using he⟩
  obtain ⟨q, hq, rfl⟩ := List.mem_map.mp (p.mem_iff.mp hm)
  exact ⟨q.2, q.1, rfl, x q hq⟩
theorem hasK_iff {es : Array (Int × Value)} {ks : List (Addr × TKey)} {h : Heap} (p : es.toList.Perm (ks.map (entT prog w))) (x : TKs prog w h ks) (k : TKey) : HasK prog w h es k ↔ k ∈ ks.map (·.2) := by
  constructor
  · rintro ⟨i, e, a, he, hp, hk⟩
    have hm : e ∈ es.toList := List.mem_iff_getElem?.mpr ⟨i, by simpa using he⟩
    obtain ⟨q, hq, rfl⟩ := List.mem_map.mp (p.mem_iff.mp hm)
    cases hp
    exact List.mem_map.mpr ⟨q, hq, (x q hq).inj hk⟩
  · intro hk
    obtain ⟨q, hq, rfl⟩ := List.mem_map.mp hk
    obtain ⟨i, hi⟩ := List.mem_iff_getElem?.mp (p.mem_iff.mpr (List.mem_map.mpr ⟨q, hq, rfl⟩))
    exact ⟨i, entT prog w q, q.1, by simpa using hi, rfl, x q hq⟩
noncomputable def inK (k : TKey) (ks : List (Addr × TKey)) : Bool := @decide (k ∈ ks.map (·.2)) (Classical.propDecidable _)
theorem inK_true {k : TKey} {ks : List (Addr × TKey)} : inK k ks = true ↔ k ∈ ks.map (·.2) := by unfold inK; exact @decide_eq_true_iff _ (Classical.propDecidable _)
theorem inK_false {k : TKey} {ks : List (Addr × TKey)} : inK k ks = false ↔ k ∉ ks.map (·.2) := by unfold inK; exact @decide_eq_false_iff_not _ (Classical.propDecidable _)
theorem search_all {a x : Addr} {k : TKey} {es : Array (Int × Value)} {ep : Nat} {t : SetTable} {adding : Bool} {cl : Value} {dd : Option Addr} {sl : Array (Option Value)} (hu : A.units < cLine) (ho : s.heap.get? a = some ⟨cl, dd, .set es ep t, sl⟩) (G : Good t (es.toList.map (·.1))) (hx : IsTK prog w s.heap k x) (hel : Elems prog w s.heap es)
    {Q : SetFound → Shared → Prop} (h1 : HasK prog w s.heap es k → ∀ r, (adding = false → r.isSome = true) → Q (.there r) s)
    (h2 : ¬ HasK prog w s.heap es k → ∀ N, (pn t.mask (tkHash prog w k) N).j ∉ t.place.toList → (∀ n, n < N → (pn t.mask (tkHash prog w k) n).j ∈ t.place.toList) → Q (.free (pn t.mask (tkHash prog w k) N).j false) s) : wpAny (model prog w) A (setSearch a (.ref x) (tkHash prog w k) adding) Q E s := by
  obtain ⟨N, a1, a2, a3⟩ := first_free G.mask (tkHash prog w k) t.place.toList G.le
  unfold setSearch
  have ht : 10 * SetTable.turns t.mask < 100000 := by
    unfold SetTable.turns
    rcases G.mask with e | e | e <;> rw [e] <;> decide
  exact search_ok hu ho G hx hel a2 a1 a3 h1 (fun hh => h2 hh N a2 a3) 100000 0 none rfl (Nat.zero_le _) (by omega) fun n' hn' => by omega
theorem notScan {x : Addr} {es : Array (Int × Value)} : byScan (.ref x) es = false := by simp [byScan, Value.scannable]
theorem find_ok {a x : Addr} {k : TKey} {ks : List (Addr × TKey)} (hu : A.units < cLine) (hS : SetT prog w s.heap a ks) (hk : TKs prog w s.heap ks) (hx : IsTK prog w s.heap k x) {Q : Option Nat → Shared → Prop}
    (h : ∀ r : Option Nat, r.isSome = inK k ks → Q r s) : wpAny (model prog w) A (setFind a (.ref x) (tkHash prog w k)) Q E s := by
  obtain ⟨es, ep, t, ho, p, G⟩ := hS
  unfold setFind setFindIn
  refine wpAny_bind (wpAny_setState_of ho rfl (by simpa using G.fits) ?_)
  dsimp only
  rw [notScan]
  simp only [Bool.false_eq_true, if_false]
  refine wpAny_bind (search_all hu ho G hx (elems_of p hk) (fun hh r hr => ?_) fun hh N _ _ => ?_)
  · exact wpAny_pure (h r (by rw [hr rfl, inK_true.mpr ((hasK_iff p hk k).mp hh)]))
  · exact wpAny_pure (h none (by rw [inK_false.mpr fun q => hh ((hasK_iff p hk k).mpr q)]; rfl))
theorem SetT.typeIs {a : Addr} {ks : List (Addr × TKey)} (hS : SetT prog w s.heap a ks) : s.TypeIs (.ref a) "set" := let ⟨_, _, _, ho, _⟩ := hS; ⟨_, ho, rfl⟩
theorem in_setT {a x : Addr} {k : TKey} {ks : List (Addr × TKey)} {Q : Value → Shared → Prop} (hu : A.units + 64 < cLine) (hS : SetT prog w s.heap a ks) (hk : TKs prog w s.heap ks) (hx : IsTK prog w s.heap k x)
    (h : ∀ tk, Q (.bool (inK k ks)) { s with toks := tk }) : wpAny (model prog w) A (compareOp .In (.ref x) (.ref a)) Q E s := by
  have u1 : A.in1.units < cLine := by show A.units + 1 < cLine; omega
  show wpAny _ _ (do return .bool (← contains (.ref a) (.ref x))) Q E s
  refine wpAny_bind ?_
  unfold contains
  try with_reducible refine wpAny_holding ?_
  refine wpAny_bind (wpAny_specialOf hS.typeIs F.slot_set_contains.lookup ?_)
  show wpAny _ _ (if (some (Value.builtin "set.__contains__") == some Value.none) = true then _ else _) _ E s
  rw [if_neg (by rw [beq_builtin_none]; exact Bool.false_ne_true)]
  refine wpAny_bind (wpAny_callSpecialUnlessNone?_slot (name := Str.ofString "__contains__") hS.typeIs F.slot_set_contains
    (wpAny_call_entry F.slot_set_contains hS.typeIs entry_set_contains ?_ (F.args_set_contains_2 _ _)))
  unfold Builtin.«frozenset.__contains__» Builtin.Frozenset.oneOther
  simp only [List.isEmpty_nil, bind_assoc]
  unfold Builtin.Frozenset.addrOf Builtin.Frozenset.withSetAsKey setContains
  refine wpAny_bind (wpAny_pure ?_)
  try dsimp only
  refine wpAny_bind (wpAny_pure ?_)
  try dsimp only
  refine wpAny_bind (wpAny_tryCatch ?_)
  refine wpAny_holding ?_
  refine wpAny_bind (wpAny_pyHash_tuple ?_ hx ?_)
  · exact u1
  refine wpAny_bind (find_ok (s := { s with toks := s.toks + (k.length + 1) }) u1 hS hk hx fun r hr => ?_)
  refine wpAny_pure ?_
  show wpAny _ _ (ret (Value.bool r.isSome)) _ _ _
  rw [hr]
  exact wpAny_pure ⟨_, rfl, wpAny_truthy_bool (wpAny_pure (h _))⟩
theorem hashBV_items {ks : TKey} {vs : List Value} (h : ItemsAre (mixKind prog w) ks vs) : ∀ v ∈ vs, ∀ d, ∃ b, hashByValue d v = pure b := by
  induction h with
  | nil => intro v hv; simp at hv
  | @cons k v' ks vs h1 _ ih =>
    intro v hv d
    rcases List.mem_cons.mp hv with rfl | hv
    · cases k
      · obtain ⟨t, rfl⟩ := isMix_l h1; exact ⟨false, by cases d <;> rfl⟩
      · obtain ⟨t, rfl⟩ := isMix_r h1; exact ⟨true, by cases d <;> rfl⟩
    · exact ih v hv d
theorem hashBV {k : TKey} {a : Addr} (hk : IsTK prog w s.heap k a) {Q : Bool → Shared → Prop} (h : ∀ b, Q b s) : wpAny (model prog w) A (hashByValue 8 (.ref a)) Q E s := by
  have hT := hk.typeIs
  obtain ⟨o, items, n, ho, _, hd, hi⟩ := hk
  unfold hashByValue
  refine wpAny_bind (wpAny_specialOf hT F.slot_tuple_hash.lookup ?_)
  dsimp only
  refine wpAny_bind (wpAny_seqItems ho hd ?_)
  refine wpAny_bind ?_
  show wpAny _ _ (forIn items _ _) _ _ s
  rw [← Array.forIn_toList]
  have hno := hashBV_items hi
  refine wpAny_forIn_list _ (fun rest r s' => r.1 = none ∧ s' = s ∧ ∀ v ∈ rest, ∀ d, ∃ b, hashByValue d v = pure b) _ ?_ ?_ _ _ ⟨rfl, rfl, hno⟩
  · rintro v rest r s' ⟨hr, rfl, hall⟩
    obtain ⟨b, hb⟩ := hall v List.mem_cons_self 7
    rw [hb]
    refine wpAny_bind (wpAny_pure ?_)
    cases b
    · simp only [Bool.not_false, if_true]
      exact wpAny_pure (wpAny_pure (h _))
    · simp only [Bool.not_true, Bool.false_eq_true, if_false]
      exact wpAny_pure ⟨rfl, rfl, fun u hu' => hall u (List.mem_cons_of_mem _ hu')⟩
  · rintro ⟨r1, r2⟩ s' ⟨hr, rfl, _⟩
    simp only at hr
    subst hr
    exact wpAny_pure (h _)
theorem above_mask : ∀ m : Nat, m ≤ 5 → Mask (SetTable.sizeAbove (SetTable.grown m) - 1) ∧ ¬ SetTable.sizeAbove (SetTable.grown m) > sizeLine := by
  have h : ∀ m : Fin 6, (SetTable.sizeAbove (SetTable.grown m.val) = 8 ∨ SetTable.sizeAbove (SetTable.grown m.val) = 16 ∨ SetTable.sizeAbove (SetTable.grown m.val) = 32) := by decide +kernel
  intro m hm
  have := h ⟨m, by omega⟩
  dsimp only at this
  have hz : sizeLine = 16777216 := sizeLine_eq
  rcases this with e | e | e <;> rw [e] <;> exact ⟨by simp [Mask], by rw [hz]; decide⟩
theorem map_toArray (es : Array (Int × Value)) : es.map (·.1) = (es.toList.map (·.1)).toArray := by
  rw [← Array.toList_map]
theorem filterMap_map {es : Array (Int × Value)} {order : List Nat} : (order.filterMap (es[·]?)).map (·.1) = order.filterMap ((es.toList.map (·.1))[·]?) := by
  rw [List.map_filterMap]
  congr 1
  funext i
  simp
/-- the table laid anew -/
theorem relay_ok {a : Addr} {es : Array (Int × Value)} {ep : Nat} {t : SetTable} {cl : Value} {dd : Option Addr} {sl : Array (Option Value)} {wanted : Nat} (ho : s.heap.get? a = some ⟨cl, dd, .set es ep t, sl⟩) (hfit : t.fits es.size = true) (hn : es.size ≤ 5) (hm : Mask (SetTable.sizeAbove wanted - 1)) (hz : ¬ SetTable.sizeAbove wanted > sizeLine)
    {Q : Unit → Shared → Prop} (h : ∀ es' t' h', h'.get? a = some ⟨cl, dd, .set es' (ep + 1) t', sl⟩ → Heap.SameBut a s.heap h' → es'.toList.Perm es.toList → Good t' (es'.toList.map (·.1)) → t'.mask = SetTable.sizeAbove wanted - 1 → Q () { s with heap := h' }) : wpAny (model prog w) A (setRelay a wanted) Q E s := by
  obtain ⟨t', order, e1, e2, e3, e4⟩ := laid_spec hm t.finger (t.movedTo (SetTable.sizeAbove wanted - 1)) t.led t.plain (es.toList.map (·.1)) (by simpa using hn)
  unfold setRelay
  refine wpAny_bind (wpAny_setState_of ho rfl hfit ?_)
  dsimp only
  rw [if_neg hz]
  have e1' : t.relaid (es.map (·.1)) wanted = some (t', order) := by unfold SetTable.relaid; rw [map_toArray]; exact e1
  rw [e1']
  have hp : (order.filterMap (es[·]?)).toList.Perm es.toList := by
    rw [Array.toList_filterMap]
    have e2' : order.toList.Perm (List.range es.size) := by simpa using e2
    exact (e2'.filterMap _).trans (by rw [filterMap_getElem?_range])
  have hsz : (order.filterMap (es[·]?)).size = es.size := by rw [← Array.length_toList, hp.length_eq, Array.length_toList]
  refine wpAny_bind (wpAny_of_eq (a := (order.filterMap (es[·]?), t')) ?_ ?_)
  · show (if ((order.filterMap (es[·]?)).size != es.size) = true then _ else _) = _
    rw [if_neg (by simp [hsz])]
  · dsimp only
    refine wpAny_storeSet_of ho rfl ?_ (by rw [hsz, sizeLine_eq]; omega)
    have hg : (s.heap.update a (Obj.putSet (order.filterMap (es[·]?)) t')).get? a = some ⟨cl, dd, .set (order.filterMap (es[·]?)) (ep + 1) t', sl⟩ := Heap.get?_update_self (Obj.putSet _ t') ho rfl
    refine h _ t' _ hg (Heap.SameBut.update ..) hp ?_ e4
    rw [Array.toList_filterMap, filterMap_map]
    exact e3
end
end J
end

section
open PySem PySem.W PySem.Calls PyProof.Rows
set_option Elab.async false
set_option linter.unusedVariables false
set_option maxRecDepth 100000
namespace J
section
variable {prog : Program} {w : World} {A : Around} {E : Value → Shared → Prop} {s : Shared}
theorem insertAt_map {α β : Type} (f : α → β) (xs : Array α) (p : Nat) (x : α) : (SetTable.insertAt xs p x).toList.map f = (xs.toList.map f).take p ++ f x :: (xs.toList.map f).drop p := by
  rw [SetTable.toList_insertAt]; simp [List.map_take, List.map_drop]
theorem addHashed_ok {a x : Addr} {k : TKey} {ks : List (Addr × TKey)} {Q : Bool → Shared → Prop} (hu : A.units < cLine) (hS : SetT prog w s.heap a ks) (hk : TKs prog w s.heap ks) (hx : IsTK prog w s.heap k x) (hab : k ∉ ks.map (·.2)) (hn : ks.length ≤ 4)
    (h : ∀ h', Heap.SameBut a s.heap h' → SetT prog w h' a (ks ++ [(x, k)]) → Q true { s with heap := h' }) : wpAny (model prog w) A (setAddHashed a (.ref x) (tkHash prog w k)) Q E s := by
  obtain ⟨es, ep, t, ho, p, G⟩ := hS
  have hfit : t.fits es.size = true := by simpa using G.fits
  have hsz : es.size = ks.length := by rw [← Array.length_toList, p.length_eq, List.length_map]
  unfold setAddHashed setAddHashedIn
  refine wpAny_holding (wpAny_bind (wpAny_setState_of ho rfl hfit ?_))
  dsimp only
  rw [notScan]
  simp only [Bool.false_eq_true, if_false]
  refine wpAny_bind (search_all hu ho G hx (elems_of p hk) (fun hh _ _ => absurd ((hasK_iff p hk k).mp hh) hab) fun hh N hN hb => ?_)
  dsimp only
  refine wpAny_bind (wpAny_setState_of ho rfl hfit ?_)
  dsimp only
  obtain ⟨G1, hp1, hm1, hpl1, hmk1⟩ := G.put (h := tkHash prog w k) (by simp [hsz]; exact hn) hN hb
  generalize hput : t.put (pn t.mask (tkHash prog w k) N).j = tp at *
  obtain ⟨t1, p1⟩ := tp
  dsimp only at G1 hp1 hm1 hpl1 hmk1 ⊢
  have fin : ∀ b : Bool, wpAny (model prog w) A (do
      storeSet a (SetTable.insertAt es p1 (tkHash prog w k, Value.ref x)) (if b = true then t1 else { t1 with plain := false })
      if (!false && (if b = true then t1 else { t1 with plain := false }).tooFull) = true then do
          setRelay a (SetTable.grown (es.size + 1))
          pure true
        else pure true) Q E s := fun b => by
    generalize ht2 : (if b = true then t1 else { t1 with plain := false }) = t2
    have G2 : Good t2 ((SetTable.insertAt es p1 (tkHash prog w k, Value.ref x)).toList.map (·.1)) := by
      rw [insertAt_map]
      subst ht2
      cases b
      · exact G1.congr rfl rfl rfl
      · exact G1
    have hz1 : (SetTable.insertAt es p1 (tkHash prog w k, Value.ref x)).size = es.size + 1 := by
      have := (SetTable.insertAt_perm es p1 (tkHash prog w k, Value.ref x)).length_eq
      simpa using this
    have hpm : (SetTable.insertAt es p1 (tkHash prog w k, Value.ref x)).toList.Perm ((ks ++ [(x, k)]).map (entT prog w)) := by
      refine (SetTable.insertAt_perm es p1 _).trans ?_
      rw [Array.toList_push, List.map_append]
      exact p.append_right _
    have hg : (s.heap.update a (Obj.putSet (SetTable.insertAt es p1 (tkHash prog w k, Value.ref x)) t2)).get? a = some { cls := .type "set", data := .set (SetTable.insertAt es p1 (tkHash prog w k, Value.ref x)) (ep + 1) t2 } := Heap.get?_update_self (Obj.putSet _ t2) ho rfl
    refine wpAny_bind (wpAny_storeSet_of ho rfl ?_ (by rw [hz1, sizeLine_eq]; omega))
    split
    · refine wpAny_bind (relay_ok (s := { s with heap := _ }) hg (by rw [hz1]; have := G2.fits; simpa [hz1] using this) (by rw [hz1]; omega) (above_mask _ (by omega)).1 (above_mask _ (by omega)).2 fun es' t' h' a1 a2 a3 a4 a5 => ?_)
      exact wpAny_pure (h h' ((Heap.SameBut.update ..).trans a2) ⟨es', _, t', a1, a3.trans hpm, a4⟩)
    · exact wpAny_pure (h _ (Heap.SameBut.update ..) ⟨_, _, t2, hg, hpm, G2⟩)
  rw [hpl1]
  split
  · exact wpAny_bind (hashBV hx fun b => fin b)
  · exact wpAny_bind (wpAny_pure (fin true))
theorem call_addT {a x : Addr} {k : TKey} {ks : List (Addr × TKey)} {Q : Value → Shared → Prop} (hu : A.units + 64 < cLine) (hS : SetT prog w s.heap a ks) (hk : TKs prog w s.heap ks) (hx : IsTK prog w s.heap k x) (hab : k ∉ ks.map (·.2)) (hn : ks.length ≤ 4)
    (h : ∀ h' tk, Heap.SameBut a s.heap h' → SetT prog w h' a (ks ++ [(x, k)]) → Q .none { s with heap := h', toks := tk }) : wpAny (model prog w) A (call (.builtin "set.add") [.ref a, .ref x]) Q E s := by
  refine wpAny_call_entry F.slot_set_add hS.typeIs F.entry_set_add ?_ (F.args_set_add_2 _ _)
  unfold Builtin.«set.add» Builtin.Frozenset.oneOther
  simp only [List.isEmpty_nil, bind_assoc]
  unfold Builtin.Frozenset.addrOf setAdd
  refine wpAny_bind (wpAny_pure ?_)
  try dsimp only
  refine wpAny_bind (wpAny_pure ?_)
  try dsimp only
  refine wpAny_bind ?_
  refine wpAny_holding ?_
  have u1 : A.in1.units < cLine := by show A.units + 1 < cLine; omega
  refine wpAny_bind (wpAny_pyHash_tuple u1 hx ?_)
  refine addHashed_ok (s := { s with toks := s.toks + (k.length + 1) }) u1 hS hk hx hab hn fun h' hsb hS' => ?_
  show wpAny _ _ (ret Value.none) _ _ _
  exact wpAny_pure ⟨_, rfl, h h' _ hsb hS'⟩
theorem roomFor_spec (t : SetTable) (n : Nat) (h0 : t.fill = 0) (hp : t.place.size = 0) (hm : t.mask = 7) (hn : n ≤ 5) : t.roomFor n = none ∨ (t.roomFor n = some (2 * n) ∧ n = 5) := by
  unfold SetTable.roomFor
  rw [h0, hm, hp]
  by_cases q : (0 + n) * 5 ≥ 7 * 3
  · rw [if_pos q]; exact .inr ⟨by congr 1; omega, by omega⟩
  · rw [if_neg q]; exact .inl rfl
theorem isSubtype_set_set : isSubtype (.type "set") (.type "set") = pure true := by rw [isSubtype_type]; kernel_rfl
theorem copy_ok {a : Addr} {ks : List (Addr × TKey)} {Q : Value → Shared → Prop} (hS : SetT prog w s.heap a ks) (hn : ks.length ≤ 5)
    (h : ∀ h' tk, (∀ b o, s.heap.get? b = some o → h'.get? b = some o) → s.heap.objs.size < h'.objs.size → SetT prog w h' s.heap.objs.size ks → Q (.ref s.heap.objs.size) { s with heap := h', toks := tk }) : wpAny (model prog w) A (Builtin.Frozenset.copyOf a) Q E s := by
  obtain ⟨es, ep, t, ho, p, G⟩ := hS
  have hfit : t.fits es.size = true := by simpa using G.fits
  have hsz : es.size = ks.length := by rw [← Array.length_toList, p.length_eq, List.length_map]
  have hT : s.TypeIs (.ref a) "set" := ⟨_, ho, rfl⟩
  unfold Builtin.Frozenset.copyOf Builtin.Frozenset.baseOf
  refine wpAny_bind (wpAny_bind (wpAny_isInstance hT isSubtype_set_set (wpAny_pure ?_)))
  simp only [if_true]
  unfold newSet setsByText
  refine wpAny_bind (wpAny_bind (wpAny_bind (wpAny_askSetting (wpAny_pure ?_))))
  dsimp only
  simp only [newObj]
  generalize hled : (!_ : Bool) = led
  refine wpAny_bind (wpAny_alloc (wpAny_pure ?_))
  have hg : (s.heap.push { cls := .type "set", data := .set #[] 0 (.fresh 0 0 led) }).get? s.heap.objs.size = some { cls := .type "set", data := .set #[] 0 (.fresh 0 0 led) } := Heap.get?_push_size _ rfl
  have ho' : (s.heap.push { cls := .type "set", data := .set #[] 0 (.fresh 0 0 led) }).get? a = some { cls := .type "set", data := .set es ep t } := Heap.get?_push_of_some _ ho
  have hne : a ≠ s.heap.objs.size := Nat.ne_of_lt (Heap.lt_size ho)
  have hnew : s.heap.objs.size < (s.heap.push { cls := .type "set", data := .set #[] 0 (.fresh 0 0 led) }).objs.size := Heap.lt_size hg
  have hold : ∀ h', Heap.SameBut s.heap.objs.size (s.heap.push { cls := .type "set", data := .set #[] 0 (.fresh 0 0 led) }) h' → (∀ b o, s.heap.get? b = some o → h'.get? b = some o) := fun h' hs b o e => (hs.2 b (Nat.ne_of_lt (Heap.lt_size e))).trans (Heap.get?_push_of_some _ e)
  refine wpAny_bind (wpAny_pure ?_)
  refine wpAny_bind ?_
  unfold setMerge
  have hne' : (s.heap.objs.size == a) = false := by simpa using fun e => hne e.symm
  rw [hne']
  simp only [Bool.false_eq_true, if_false]
  refine wpAny_bind (wpAny_setState_of (s := { s with heap := s.heap.push _ }) ho' rfl hfit ?_)
  dsimp only
  by_cases hem : es.isEmpty = true
  · rw [if_pos hem]
    have he : es = #[] := by simpa using hem
    subst he
    have hk : ks = [] := by simpa using p.length_eq.symm
    subst hk
    exact wpAny_pure (wpAny_pure (h _ _ (fun b o e => Heap.get?_push_of_some _ e) hnew ⟨#[], 0, _, hg, .rfl, Good.fresh ..⟩))
  rw [if_neg hem]
  unfold setRoomFor
  refine wpAny_bind ?_
  refine wpAny_bind (wpAny_setState_of (s := { s with heap := s.heap.push _ }) hg rfl (by rfl) ?_)
  dsimp only
  rcases roomFor_spec (SetTable.fresh 0 0 led) es.size rfl rfl rfl (by omega) with e | ⟨e, e5⟩
  · rw [e]
    refine wpAny_pure ?_
    refine wpAny_bind (wpAny_setState_of (s := { s with heap := s.heap.push { cls := .type "set", data := .set #[] 0 (.fresh 0 0 led) } }) hg rfl (by rfl) ?_)
    dsimp only
    have hfl : SetTable.fill (SetTable.fresh 0 0 led) = 0 := by unfold SetTable.fill; rw [(Good.fresh 0 0 led).dm, (Good.fresh 0 0 led).len]; rfl
    unfold SetTable.road
    rw [hfl, G.dm]
    by_cases hmm : (SetTable.mask (SetTable.fresh 0 0 led) == t.mask) = true
    · rw [hmm]
      dsimp only [bne_self_eq_false, Bool.and_self, Array.isEmpty_empty, Bool.true_and, Array.isEmpty]
      simp only [bne_self_eq_false, Bool.false_eq_true, if_false, Bool.and_self, if_true]
      refine wpAny_storeSet_of hg rfl ?_ (by rw [sizeLine_eq]; omega)
      refine wpAny_pure ?_
      refine h _ _ (hold _ ((Heap.SameBut.refl _ _).trans (Heap.SameBut.update ..))) (Heap.lt_size (Heap.get?_update_self (Obj.putSet _ _) hg rfl)) ⟨es, _, _, Heap.get?_update_self (Obj.putSet _ _) hg rfl, p, G.congr rfl rfl G.dm.symm⟩
    · rw [Bool.not_eq_true] at hmm
      rw [hmm]
      simp only [bne_self_eq_false, Bool.false_eq_true, if_false, Bool.false_and]
      rw [map_toArray]
      obtain ⟨t', order, e1, e2, e3, e4⟩ := laid_spec (Good.fresh 0 0 led).mask (SetTable.finger (SetTable.fresh 0 0 led)) (SetTable.moves (SetTable.fresh 0 0 led)) (SetTable.led (SetTable.fresh 0 0 led) && t.led) (SetTable.plain (SetTable.fresh 0 0 led) && t.plain) (es.toList.map (·.1)) (by simpa [hsz] using hn)
      rw [e1]
      have hp : (order.filterMap (es[·]?)).toList.Perm es.toList := by
        rw [Array.toList_filterMap]
        have e2' : order.toList.Perm (List.range es.size) := by simpa using e2
        exact (e2'.filterMap _).trans (by rw [filterMap_getElem?_range])
      have hsz2 : (order.filterMap (es[·]?)).size = es.size := by rw [← Array.length_toList, hp.length_eq, Array.length_toList]
      refine wpAny_bind (wpAny_of_eq (a := (order.filterMap (es[·]?), t')) ?_ ?_)
      · show (if ((order.filterMap (es[·]?)).size != es.size) = true then _ else _) = _
        rw [if_neg (by simp [hsz2])]
      · dsimp only
        refine wpAny_storeSet_of hg rfl ?_ (by rw [hsz2, sizeLine_eq]; omega)
        refine wpAny_pure ?_
        refine h _ _ (hold _ ((Heap.SameBut.refl _ _).trans (Heap.SameBut.update ..))) (Heap.lt_size (Heap.get?_update_self (Obj.putSet _ _) hg rfl)) ⟨_, _, t', Heap.get?_update_self (Obj.putSet _ _) hg rfl, hp.trans p, ?_⟩
        rw [Array.toList_filterMap, filterMap_map]
        exact e3
  · rw [e]
    refine relay_ok (s := { s with heap := s.heap.push { cls := .type "set", data := .set #[] 0 (.fresh 0 0 led) } }) hg (by rfl) (by simp) (by rw [e5]; exact .inr (.inl (by decide +kernel))) (by rw [e5, sizeLine_eq]; decide +kernel) fun es2 t2 h2 a1 a2 a3 a4 a5 => ?_
    have h0 : es2 = #[] := by
      have := a3.length_eq
      simpa using this
    subst h0
    have a4' : Good t2 [] := by simpa using a4
    refine wpAny_bind (wpAny_setState_of (s := { s with heap := h2 }) a1 rfl (by have := a4'.fits; simpa using this) ?_)
    dsimp only
    have hfl : SetTable.fill t2 = 0 := by unfold SetTable.fill; rw [a4'.dm, a4'.len]; rfl
    unfold SetTable.road
    rw [hfl, G.dm]
    by_cases hmm : (SetTable.mask t2 == t.mask) = true
    · rw [hmm]
      dsimp only [bne_self_eq_false, Bool.and_self, Array.isEmpty_empty, Bool.true_and, Array.isEmpty]
      simp only [bne_self_eq_false, Bool.false_eq_true, if_false, Bool.and_self, if_true]
      refine wpAny_storeSet_of a1 rfl ?_ (by rw [sizeLine_eq]; omega)
      refine wpAny_pure ?_
      refine h _ _ (hold _ (a2.trans (Heap.SameBut.update ..))) (Heap.lt_size (Heap.get?_update_self (Obj.putSet _ _) a1 rfl)) ⟨es, _, _, Heap.get?_update_self (Obj.putSet _ _) a1 rfl, p, G.congr rfl rfl G.dm.symm⟩
    · rw [Bool.not_eq_true] at hmm
      rw [hmm]
      simp only [bne_self_eq_false, Bool.false_eq_true, if_false, Bool.false_and]
      rw [map_toArray]
      obtain ⟨t', order, e1, e2, e3, e4⟩ := laid_spec a4'.mask (SetTable.finger t2) (SetTable.moves t2) (SetTable.led t2 && t.led) (SetTable.plain t2 && t.plain) (es.toList.map (·.1)) (by simpa [hsz] using hn)
      rw [e1]
      have hp : (order.filterMap (es[·]?)).toList.Perm es.toList := by
        rw [Array.toList_filterMap]
        have e2' : order.toList.Perm (List.range es.size) := by simpa using e2
        exact (e2'.filterMap _).trans (by rw [filterMap_getElem?_range])
      have hsz2 : (order.filterMap (es[·]?)).size = es.size := by rw [← Array.length_toList, hp.length_eq, Array.length_toList]
      refine wpAny_bind (wpAny_of_eq (a := (order.filterMap (es[·]?), t')) ?_ ?_)
      · show (if ((order.filterMap (es[·]?)).size != es.size) = true then _ else _) = _
        rw [if_neg (by simp [hsz2])]
      · dsimp only
        refine wpAny_storeSet_of a1 rfl ?_ (by rw [hsz2, sizeLine_eq]; omega)
        refine wpAny_pure ?_
        refine h _ _ (hold _ (a2.trans (Heap.SameBut.update ..))) (Heap.lt_size (Heap.get?_update_self (Obj.putSet _ _) a1 rfl)) ⟨_, _, t', Heap.get?_update_self (Obj.putSet _ _) a1 rfl, hp.trans p, ?_⟩
        rw [Array.toList_filterMap, filterMap_map]
        exact e3
theorem call_copyT {a : Addr} {ks : List (Addr × TKey)} {Q : Value → Shared → Prop} (hS : SetT prog w s.heap a ks) (hn : ks.length ≤ 5)
    (h : ∀ h' tk, (∀ b o, s.heap.get? b = some o → h'.get? b = some o) → s.heap.objs.size < h'.objs.size → SetT prog w h' s.heap.objs.size ks → Q (.ref s.heap.objs.size) { s with heap := h', toks := tk }) : wpAny (model prog w) A (call (.builtin "set.copy") [.ref a]) Q E s := by
  refine wpAny_call_entry F.slot_set_copy hS.typeIs F.entry_set_copy ?_ (F.args_set_copy_1 _)
  unfold Builtin.«set.copy» Builtin.Frozenset.noArgs
  simp only [List.isEmpty_nil]
  refine wpAny_bind (wpAny_pure ?_)
  refine wpAny_bind (copy_ok hS hn fun h' tk a1 a2 a3 => ?_)
  exact wpAny_pure ⟨_, rfl, h h' tk a1 a2 a3⟩
end
end J
end

section
open PySem PySem.W PySem.Calls PyProof.Rows
set_option Elab.async false
set_option linter.unusedVariables false
namespace J

/-- a value without its token -/
def nv : Value → Value
  | .int i _ => .int i 0
  | .str s _ => .str s 0
  | .bytes b _ => .bytes b 0
  | .float x _ => .float x 0
  | v => v
@[simp] theorem nv_ref (a : Addr) : nv (.ref a) = .ref a := rfl
@[simp] theorem nv_none : nv .none = .none := rfl
@[simp] theorem nv_bool (b : Bool) : nv (.bool b) = .bool b := rfl
@[simp] theorem nv_type (n : String) : nv (.type n) = .type n := rfl
@[simp] theorem nv_builtin (n : String) : nv (.builtin n) = .builtin n := rfl
@[simp] theorem nv_int (i : Int) (t : Tok) : nv (.int i t) = .int i 0 := rfl
@[simp] theorem nv_str (x : Str) (t : Tok) : nv (.str x t) = .str x 0 := rfl
@[simp] theorem nv_bytes (x : Array UInt8) (t : Tok) : nv (.bytes x t) = .bytes x 0 := rfl
theorem nv_to_ref {v : Value} {a : Addr} (h : nv v = .ref a) : v = .ref a := by cases v <;> simp_all [nv]
theorem nv_to_none {v : Value} (h : nv v = .none) : v = .none := by cases v <;> simp_all [nv]
theorem nv_to_bool {v : Value} {b : Bool} (h : nv v = .bool b) : v = .bool b := by cases v <;> simp_all [nv]
theorem nv_to_type {v : Value} {n : String} (h : nv v = .type n) : v = .type n := by cases v <;> simp_all [nv]
theorem nv_to_builtin {v : Value} {n : String} (h : nv v = .builtin n) : v = .builtin n := by cases v <;> simp_all [nv]
theorem nv_to_int {v : Value} {i : Int} (h : nv v = .int i 0) : ∃ t, v = .int i t := by cases v <;> simp_all [nv]
theorem nv_to_str {v : Value} {x : Str} (h : nv v = .str x 0) : ∃ t, v = .str x t := by cases v <;> simp_all [nv]
theorem nv_to_bytes {v : Value} {x : Array UInt8} (h : nv v = .bytes x 0) : ∃ t, v = .bytes x t := by cases v <;> simp_all [nv]
def nf : Flow → Flow
  | .ret v => .ret (nv v)
  | f => f
@[simp] theorem nf_next : nf .next = .next := rfl
@[simp] theorem nf_cont : nf .cont = .cont := rfl
@[simp] theorem nf_brk : nf .brk = .brk := rfl
@[simp] theorem nf_ret (v : Value) : nf (.ret v) = .ret (nv v) := rfl

abbrev Loc := List (Str × Value)

/-- what the call has made, without tokens, hashes, epochs -/
inductive AO where
  | inst (C : Addr) (fs : Loc)
  | list (xs : List Value)
  | tup (xs : List Value)
  | dS (f : Str → Option Value) (n : Nat)
  | dB (f : List UInt8 → Option Value) (n : Nat)
  | dI (f : Int → Option Value) (n : Nat)
  | setT (ks : List (Addr × TKey))
abbrev Ab := Addr → Option AO
def Ab.nil : Ab := fun _ => none
def Ab.put (σ : Ab) (a : Addr) (o : AO) : Ab := fun b => if b = a then some o else σ b
theorem put_same (σ : Ab) (a : Addr) (o : AO) : σ.put a o a = some o := by simp [Ab.put]
theorem put_ne {σ : Ab} {a b : Addr} {o : AO} (h : b ≠ a) : σ.put a o b = σ b := by simp [Ab.put, h]
theorem put_new {σ : Ab} {a b : Addr} {o o' : AO} (hb : σ b = some o') (ha : σ a = none) : σ.put a o b = some o' := by
  rw [put_ne, hb]; rintro rfl; rw [ha] at hb; cases hb

structure Cx where
  prog : Program
  w : World
  h₀ : Heap
  K : Frag
  p : Program
  loose : List Str
  mg : Str → Option Value
  mb : Str → Option Value
  X : K.In h₀
  T : TopRead p loose mg mb h₀
abbrev Cx.M (C : Cx) : Model := model C.prog C.w

def RO (C : Cx) (h : Heap) (a : Addr) : AO → Prop
  | .inst K fs => ∃ d m, a = d + 1 ∧ h.get? a = some (instObj K d) ∧ h.Ns1 d m ∧ ∀ x, (m x).map nv = fs.lookup x
  | .list xs => ∃ vs n, h.get? a = some { cls := .type "list", data := .seq vs n } ∧ vs.toList.map nv = xs
  | .tup xs => ∃ vs n, h.get? a = some { cls := .type "tuple", data := .seq vs n } ∧ vs.toList.map nv = xs
  | .dS f n => (a == sysModules) = false ∧ ∃ kvs, h.DictOf (PySem.strKind C.prog C.w) a kvs ∧ kvs.length ≤ n ∧ ∀ x, (valueAt kvs x).map nv = f x
  | .dB f n => (a == sysModules) = false ∧ ∃ kvs, h.DictOf (bytesKind C.prog C.w) a kvs ∧ kvs.length ≤ n ∧ ∀ x, (valueAt kvs x).map nv = f x
  | .dI f n => (a == sysModules) = false ∧ ∃ kvs, h.DictOf (PySem.intKind C.prog C.w) a kvs ∧ kvs.length ≤ n ∧ ∀ x, (valueAt kvs x).map nv = f x
  | .setT ks => SetT C.prog C.w h a ks

/-- the addresses that σ speaks of: its objects, and the dicts of its instances -/
def dom (σ : Ab) (b : Addr) : Prop := (∃ o, σ b = some o) ∨ ∃ K fs, σ (b + 1) = some (.inst K fs)

def AO.isInst : AO → Bool
  | .inst .. => true
  | _ => false

theorem RO.keeps {C : Cx} {h h' : Heap} {a : Addr} {ao : AO} (x : RO C h a ao) (k0 : ∀ o, h.get? a = some o → h'.get? a = some o)
    (k1 : ∀ d o, a = d + 1 → ao.isInst = true → h.get? d = some o → h'.get? d = some o) : RO C h' a ao := by
  cases ao with
  | inst K fs =>
    obtain ⟨d, m, e, ho, hn, hf⟩ := x
    exact ⟨d, m, e, k0 _ ho, hn.at fun o => k1 d o e rfl, hf⟩
  | list xs => obtain ⟨vs, n, ho, e⟩ := x; exact ⟨vs, n, k0 _ ho, e⟩
  | tup xs => obtain ⟨vs, n, ho, e⟩ := x; exact ⟨vs, n, k0 _ ho, e⟩
  | dS f n => obtain ⟨h1, kvs, hd, hn, h3⟩ := x; exact ⟨h1, kvs, hd.at k0, hn, h3⟩
  | dB f n => obtain ⟨h1, kvs, hd, hn, h3⟩ := x; exact ⟨h1, kvs, hd.at k0, hn, h3⟩
  | dI f n => obtain ⟨h1, kvs, hd, hn, h3⟩ := x; exact ⟨h1, kvs, hd.at k0, hn, h3⟩
  | setT ks => obtain ⟨es, ep, t, ho, r⟩ := x; exact ⟨es, ep, t, k0 _ ho, r⟩

theorem RO.alive {C : Cx} {h : Heap} {a : Addr} {ao : AO} (x : RO C h a ao) : ∃ o, h.get? a = some o := by
  cases ao with
  | inst K fs => obtain ⟨d, m, e, ho, _⟩ := x; exact ⟨_, ho⟩
  | list xs => obtain ⟨vs, n, ho, e⟩ := x; exact ⟨_, ho⟩
  | tup xs => obtain ⟨vs, n, ho, e⟩ := x; exact ⟨_, ho⟩
  | dS f n => obtain ⟨h1, kvs, ⟨o, es, ep, ho, r⟩, h3⟩ := x; exact ⟨_, ho⟩
  | dB f n => obtain ⟨h1, kvs, ⟨o, es, ep, ho, r⟩, h3⟩ := x; exact ⟨_, ho⟩
  | dI f n => obtain ⟨h1, kvs, ⟨o, es, ep, ho, r⟩, h3⟩ := x; exact ⟨_, ho⟩
  | setT ks => obtain ⟨es, ep, t, ho, r⟩ := x; exact ⟨_, ho⟩

/-- the state's heap bears σ -/
structure St (C : Cx) (σ : Ab) (h : Heap) : Prop where
  keep : ∀ b o, C.h₀.get? b = some o → h.get? b = some o
  rep : ∀ a o, σ a = some o → RO C h a o
  new : ∀ b, dom σ b → C.h₀.get? b = none
  sep : ∀ b K fs, σ (b + 1) = some (.inst K fs) → σ b = none

theorem dom_of {σ : Ab} {a : Addr} {o : AO} (h : σ a = some o) : dom σ a := .inl ⟨o, h⟩
theorem St.alive {C : Cx} {σ : Ab} {h : Heap} (S : St C σ h) {b : Addr} (d : dom σ b) : ∃ o, h.get? b = some o := by
  rcases d with ⟨o, e⟩ | ⟨K, fs, e⟩
  · exact (S.rep b o e).alive
  · obtain ⟨d, m, e', ho, hn, hf⟩ := S.rep _ _ e
    obtain rfl : b = d := Nat.add_right_cancel e'
    obtain ⟨o, _, _, ho, _⟩ := hn
    exact ⟨o, ho⟩
theorem St.fresh {C : Cx} {σ : Ab} {h : Heap} (S : St C σ h) {b : Addr} (hb : h.objs.size ≤ b) : ¬ dom σ b := fun d => by
  obtain ⟨o, e⟩ := S.alive d
  exact absurd (Heap.lt_size e) (Nat.not_lt.mpr hb)
theorem St.none {C : Cx} {σ : Ab} {h : Heap} (S : St C σ h) {b : Addr} (hb : h.objs.size ≤ b) : σ b = none := by
  cases e : σ b with
  | none => rfl
  | some o => exact absurd (dom_of e) (S.fresh hb)

/-- the generators that stood are as they were; new ones are bare -/
structure GenOk (a b : Array GenState) : Prop where
  le : a.size ≤ b.size
  old : ∀ g, g < a.size → b[g]? = a[g]?
  new : ∀ g x, a.size ≤ g → b[g]? = some x → x.bare = true
theorem GenOk.refl (a : Array GenState) : GenOk a a := ⟨Nat.le_refl _, fun _ _ => rfl, fun g x hg e => by rw [Array.getElem?_eq_none_iff.mpr hg] at e; cases e⟩
theorem GenOk.trans {a b c : Array GenState} (x : GenOk a b) (y : GenOk b c) : GenOk a c := by
  refine ⟨Nat.le_trans x.le y.le, fun g hg => ?_, fun g v hg e => ?_⟩
  · rw [y.old g (Nat.lt_of_lt_of_le hg x.le), x.old g hg]
  · rcases Nat.lt_or_ge g b.size with q | q
    · rw [y.old g q] at e; exact x.new g v hg e
    · exact y.new g v q e
theorem GenOk.bare {a b : Array GenState} (x : GenOk a b) (h : AllBare a) : AllBare b := fun y hy => by
  obtain ⟨g, hg, rfl⟩ := Array.mem_iff_getElem.mp hy
  have e : b[g]? = some b[g] := Array.getElem?_eq_getElem hg
  rcases Nat.lt_or_ge g a.size with q | q
  · rw [x.old g q, Array.getElem?_eq_getElem q] at e
    rw [← Option.some.inj e]
    exact h _ (Array.getElem_mem q)
  · exact x.new g _ q e
/-- the frames on the stack: their slots may turn where an exception flies -/
def Fz (A : Around) (b : Addr) : Prop := ∃ l, A.frames = some l ∧ ∃ e ∈ l, e.frame = some b
/-- what may change between two states; P: addresses of the frame's own; Z: of which the slots may turn -/
structure Mv (Z P : Addr → Prop) (σ σ' : Ab) (s s' : Shared) : Prop where
  kp : ∀ b o, s.heap.get? b = some o → ¬ dom σ b → ¬ P b → ¬ Z b → s'.heap.get? b = some o
  zs : ∀ b o, s.heap.get? b = some o → ¬ dom σ b → ¬ P b → (∀ vs, o.data ≠ .fields vs) → ∃ sl, s'.heap.get? b = some { o with slots := sl }
  fr : ∀ b o, s.heap.get? b = some o → ¬ dom σ b → ¬ dom σ' b ∧ ∃ o', s'.heap.get? b = some o'
  os : s'.os = s.os
  gen : GenOk s.gens s'.gens
abbrev No : Addr → Prop := fun _ => False
def own (env : Env) (b : Addr) : Prop := b = env.locals ∨ ∃ x, env.cells.lookup x = some b

theorem Mv.refl (Z P : Addr → Prop) (σ : Ab) (s : Shared) : Mv Z P σ σ s s := ⟨fun _ _ e _ _ _ => e, fun _ o e _ _ _ => ⟨o.slots, e⟩, fun _ o e n => ⟨n, o, e⟩, rfl, GenOk.refl _⟩
theorem Mv.trans {Z P : Addr → Prop} {σ σ' σ'' : Ab} {s s' s'' : Shared} (x : Mv Z P σ σ' s s') (y : Mv Z P σ' σ'' s' s'') : Mv Z P σ σ'' s s'' := by
  refine ⟨fun b o e n p z => y.kp b o (x.kp b o e n p z) (x.fr b o e n).1 p z, fun b o e n p hd => ?_, fun b o e n => ?_, y.os.trans x.os, x.gen.trans y.gen⟩
  · obtain ⟨sl, e1⟩ := x.zs b o e n p hd
    obtain ⟨sl', e2⟩ := y.zs b _ e1 (x.fr b o e n).1 p hd
    exact ⟨sl', e2⟩
  · obtain ⟨n', o', e'⟩ := x.fr b o e n
    exact y.fr b o' e' n'
theorem Mv.weaken {Z P P' : Addr → Prop} {σ σ' : Ab} {s s' : Shared} (x : Mv Z P σ σ' s s') (h : ∀ b, P b → P' b) : Mv Z P' σ σ' s s' := ⟨fun b o e n p => x.kp b o e n fun q => p (h b q), fun b o e n p => x.zs b o e n fun q => p (h b q), x.fr, x.os, x.gen⟩
/-- σ' says no more than σ -/
def Sub (σ' σ : Ab) : Prop := ∀ a o, σ' a = some o → σ a = some o
theorem Sub.refl (σ : Ab) : Sub σ σ := fun _ _ e => e
theorem Sub.trans {a b c : Ab} (x : Sub a b) (y : Sub b c) : Sub a c := fun _ _ e => y _ _ (x _ _ e)
theorem Sub.dom {σ σ' : Ab} (x : Sub σ' σ) {b : Addr} (d : dom σ' b) : dom σ b := by
  rcases d with ⟨o, e⟩ | ⟨K, fs, e⟩
  · exact .inl ⟨o, x _ _ e⟩
  · exact .inr ⟨K, fs, x _ _ e⟩
theorem St.sub {C : Cx} {σ σ' : Ab} {h : Heap} (S : St C σ h) (x : Sub σ' σ) : St C σ' h := by
  refine ⟨S.keep, fun a o e => S.rep a o (x _ _ e), fun b d => S.new b (x.dom d), fun b K fs e => ?_⟩
  cases q : σ' b with
  | none => rfl
  | some o => have := x _ _ q; rw [S.sep b K fs (x _ _ e)] at this; cases this
theorem Mv.sub {Z P : Addr → Prop} {σ σ' σ'' : Ab} {s s' : Shared} (x : Mv Z P σ σ' s s') (y : Sub σ'' σ') : Mv Z P σ σ'' s s' :=
  ⟨x.kp, x.zs, fun b o e n => ⟨fun d => (x.fr b o e n).1 (y.dom d), (x.fr b o e n).2⟩, x.os, x.gen⟩

/-- only heap and tokens turn, and what σ does not know is as it was -/
theorem Mv.heap {Z P : Addr → Prop} {σ σ' : Ab} {s : Shared} {h' : Heap} {tk : Nat} (kp : ∀ b o, s.heap.get? b = some o → ¬ dom σ b → ¬ P b → h'.get? b = some o)
    (fr : ∀ b o, s.heap.get? b = some o → ¬ dom σ b → ¬ dom σ' b ∧ ∃ o', h'.get? b = some o') : Mv Z P σ σ' s { s with heap := h', toks := tk } :=
  ⟨fun b o e n p _ => kp b o e n p, fun b o e n p _ => ⟨o.slots, kp b o e n p⟩, fr, rfl, GenOk.refl _⟩
theorem Mv.tok {Z P : Addr → Prop} {σ : Ab} {s : Shared} {tk : Nat} : Mv Z P σ σ s { s with toks := tk } := Mv.heap (fun _ _ e _ _ => e) fun _ o e n => ⟨n, o, e⟩

/-- the heap has grown, or an object that σ does not know has turned -/
theorem St.keeps {C : Cx} {σ : Ab} {h h' : Heap} (S : St C σ h) (k : ∀ b o, (dom σ b ∨ C.h₀.get? b = some o) → h.get? b = some o → h'.get? b = some o) : St C σ h' := by
  refine ⟨fun b o e => k b o (.inr e) (S.keep b o e), fun a o e => (S.rep a o e).keeps (fun o' => k a o' (.inl (dom_of e))) fun d o' hd hi hg => k d o' (.inl ?_) hg, S.new, S.sep⟩
  subst hd
  cases o with
  | inst K fs => exact .inr ⟨K, fs, e⟩
  | _ => cases hi
theorem St.ext {C : Cx} {σ : Ab} {h h' : Heap} (S : St C σ h) (k : ∀ b o, h.get? b = some o → h'.get? b = some o) : St C σ h' := S.keeps fun b o _ => k b o
theorem dom_put {σ : Ab} {a b : Addr} {o : AO} (d : dom (σ.put a o) b) (hi : o.isInst = false) : b = a ∨ dom σ b := by
  rcases d with ⟨o', e⟩ | ⟨K, fs, e⟩
  · by_cases q : b = a
    · exact .inl q
    · rw [put_ne q] at e; exact .inr (.inl ⟨o', e⟩)
  · by_cases q : b + 1 = a
    · rw [q, put_same] at e; cases e; cases hi
    · rw [put_ne q] at e; exact .inr (.inr ⟨K, fs, e⟩)

/-- a new object at a, laid into σ -/
theorem St.add {C : Cx} {σ : Ab} {h h' : Heap} (S : St C σ h) {a : Addr} {ao : AO} (hi : ao.isInst = false) (ha : h.objs.size ≤ a) (k : ∀ b o, h.get? b = some o → h'.get? b = some o) (r : RO C h' a ao) : St C (σ.put a ao) h' := by
  have S' := S.ext k
  have na := S.none ha
  refine ⟨S'.keep, fun b o e => ?_, fun b d => ?_, fun b K fs e => ?_⟩
  · by_cases q : b = a
    · subst q; rw [put_same] at e; cases e; exact r
    · rw [put_ne q] at e; exact S'.rep b o e
  · rcases dom_put d hi with rfl | d
    · cases q : C.h₀.get? b with
      | none => rfl
      | some o => exact absurd (Heap.lt_size (S.keep _ _ q)) (Nat.not_lt.mpr ha)
    · exact S.new b d
  · by_cases q : b + 1 = a
    · rw [q, put_same] at e; cases e; cases hi
    · rw [put_ne q] at e
      have := S.sep b K fs e
      by_cases q' : b = a
      · subst q'
        exact absurd (.inr ⟨K, fs, e⟩) (S.fresh ha)
      · rw [put_ne q']; exact this
theorem St.addMv {C : Cx} {Z P : Addr → Prop} {σ : Ab} {s : Shared} (S : St C σ s.heap) {a : Addr} {ao : AO} (hi : ao.isInst = false) (ha : s.heap.objs.size ≤ a) {h' : Heap} {tk : Nat} (k : ∀ b o, s.heap.get? b = some o → h'.get? b = some o) :
    Mv Z P σ (σ.put a ao) s { s with heap := h', toks := tk } := by
  refine Mv.heap (fun b o e _ _ => k b o e) fun b o e n => ⟨fun d => ?_, o, k b o e⟩
  rcases dom_put d hi with rfl | d
  · exact absurd (Heap.lt_size e) (Nat.not_lt.mpr ha)
  · exact n d
/-- an object of σ turns -/
theorem St.upd {C : Cx} {σ : Ab} {h h' : Heap} (S : St C σ h) {a : Addr} {ao ao' : AO} (e : σ a = some ao) (hi : ao.isInst = false) (hi' : ao'.isInst = false) (k : ∀ b o, b ≠ a → h.get? b = some o → h'.get? b = some o) (r : RO C h' a ao') : St C (σ.put a ao') h' := by
  refine ⟨fun b o q => k b o ?_ (S.keep b o q), fun b o q => ?_, fun b d => ?_, fun b K fs q => ?_⟩
  · rintro rfl; rw [S.new b (dom_of e)] at q; cases q
  · by_cases z : b = a
    · subst z; rw [put_same] at q; cases q; exact r
    · rw [put_ne z] at q
      refine (S.rep b o q).keeps (fun o' => k b o' z) fun d o' hd hi2 hg => k d o' ?_ hg
      rintro rfl
      subst hd
      cases o with
      | inst K fs => rw [S.sep _ _ _ q] at e; cases e
      | _ => cases hi2
  · rcases dom_put d hi' with rfl | d
    · exact S.new b (dom_of e)
    · exact S.new b d
  · by_cases z : b + 1 = a
    · rw [z, put_same] at q; cases q; cases hi'
    · rw [put_ne z] at q
      by_cases z' : b = a
      · subst z'; rw [S.sep _ _ _ q] at e; cases e
      · rw [put_ne z']; exact S.sep _ _ _ q
theorem Mv.upd {Z P : Addr → Prop} {σ : Ab} {s : Shared} {a : Addr} {ao ao' : AO} (e : σ a = some ao) (hi' : ao'.isInst = false) {h' : Heap} {tk : Nat} (k : ∀ b o, b ≠ a → s.heap.get? b = some o → h'.get? b = some o) :
    Mv Z P σ (σ.put a ao') s { s with heap := h', toks := tk } := by
  refine Mv.heap (fun b o q n _ => k b o (fun z => n (z ▸ dom_of e)) q) fun b o q n => ⟨fun d => ?_, o, k b o (fun z => n (z ▸ dom_of e)) q⟩
  rcases dom_put d hi' with rfl | d
  · exact n (dom_of e)
  · exact n d
end J
end

section
open PySem PySem.W PySem.Calls PyProof.Rows
set_option Elab.async false
set_option linter.unusedVariables false
namespace J

/-- the frame of env bears the locals m (facts of those that are named) -/
structure FOk (C : Cx) (env : Env) (m : Loc) (σ : Ab) (h : Heap) : Prop where
  fn : env.scope.kind = .function
  gl : env.globals = mainGlobals
  bi : env.builtins = builtinsNs
  nd : ∀ b, own env b → ¬ dom σ b ∧ C.h₀.get? b = none
  ns : ∃ M, h.Ns env.locals M ∧ ∀ x v, m.lookup x = some v → env.kindOf x = some .local → ∃ u, M x = some u ∧ nv u = v
  cl : ∀ x c, env.cells.lookup x = some c → c ≠ env.locals ∧ ∃ v, h.IsCell c v
  ce : ∀ x v, m.lookup x = some v → env.kindOf x = some .cell ∨ env.kindOf x = some .free → ∃ c u, env.cells.lookup x = some c ∧ h.IsCell c (some u) ∧ nv u = v
  inj : ∀ x y c, env.cells.lookup x = some c → env.cells.lookup y = some c → x = y

theorem FOk.own_alive {C : Cx} {env : Env} {m : Loc} {σ : Ab} {h : Heap} (O : FOk C env m σ h) {b : Addr} (hb : own env b) : ∃ o, h.get? b = some o := by
  rcases hb with rfl | ⟨x, hx⟩
  · obtain ⟨M, ⟨o, _, _, ho, _⟩, _⟩ := O.ns; exact ⟨o, ho⟩
  · obtain ⟨_, v, o, ho, _⟩ := O.cl x b hx; exact ⟨o, ho⟩
theorem FOk.keeps {C : Cx} {env : Env} {m : Loc} {σ σ' : Ab} {h h' : Heap} (O : FOk C env m σ h) (k : ∀ b o, own env b → h.get? b = some o → h'.get? b = some o) (nd : ∀ b, own env b → ¬ dom σ' b) : FOk C env m σ' h' := by
  refine ⟨O.fn, O.gl, O.bi, fun b hb => ⟨nd b hb, (O.nd b hb).2⟩, ?_, ?_, ?_, O.inj⟩
  · obtain ⟨M, ⟨o, es, ep, ho, r⟩, hm⟩ := O.ns
    exact ⟨M, ⟨o, es, ep, k _ _ (.inl rfl) ho, r⟩, hm⟩
  · intro x c hc
    obtain ⟨h1, v, o, ho, hd⟩ := O.cl x c hc
    exact ⟨h1, v, o, k _ _ (.inr ⟨x, hc⟩) ho, hd⟩
  · intro x v hx hk
    obtain ⟨c, u, hc, ⟨o, ho, hd⟩, hu⟩ := O.ce x v hx hk
    exact ⟨c, u, hc, ⟨o, k _ _ (.inr ⟨x, hc⟩) ho, hd⟩, hu⟩
theorem FOk.keepsS {C : Cx} {env : Env} {m : Loc} {σ σ' : Ab} {h h' : Heap} (O : FOk C env m σ h) (k : ∀ b o, own env b → h.get? b = some o → (∀ vs, o.data ≠ .fields vs) → ∃ sl, h'.get? b = some { o with slots := sl }) (nd : ∀ b, own env b → ¬ dom σ' b) : FOk C env m σ' h' := by
  refine ⟨O.fn, O.gl, O.bi, fun b hb => ⟨nd b hb, (O.nd b hb).2⟩, ?_, ?_, ?_, O.inj⟩
  · obtain ⟨M, ⟨o, es, ep, ho, hd, r⟩, hm⟩ := O.ns
    obtain ⟨sl, e⟩ := k _ _ (.inl rfl) ho fun vs q => by rw [hd] at q; cases q
    exact ⟨M, ⟨_, es, ep, e, hd, r⟩, hm⟩
  · intro x c hc
    obtain ⟨h1, v, o, ho, hd⟩ := O.cl x c hc
    obtain ⟨sl, e⟩ := k _ _ (.inr ⟨x, hc⟩) ho fun vs q => by rw [hd] at q; cases q
    exact ⟨h1, v, _, e, hd⟩
  · intro x v hx hk
    obtain ⟨c, u, hc, ⟨o, ho, hd⟩, hu⟩ := O.ce x v hx hk
    obtain ⟨sl, e⟩ := k _ _ (.inr ⟨x, hc⟩) ho fun vs q => by rw [hd] at q; cases q
    exact ⟨c, u, hc, ⟨_, e, hd⟩, hu⟩
theorem FOk.mv {C : Cx} {Z : Addr → Prop} {env : Env} {m : Loc} {σ σ' : Ab} {s s' : Shared} (O : FOk C env m σ s.heap) (M : Mv Z No σ σ' s s') : FOk C env m σ' s'.heap :=
  O.keepsS (fun b o hb e => M.zs b o e (O.nd b hb).1 id) fun b hb => by
    obtain ⟨o, e⟩ := O.own_alive hb
    exact (M.fr b o e (O.nd b hb).1).1
/-- fewer facts -/
theorem FOk.less {C : Cx} {env : Env} {m m' : Loc} {σ : Ab} {h : Heap} (O : FOk C env m σ h) (k : ∀ x v, m'.lookup x = some v → m.lookup x = some v) : FOk C env m' σ h := by
  obtain ⟨M, hM, hm⟩ := O.ns
  exact ⟨O.fn, O.gl, O.bi, O.nd, ⟨M, hM, fun x v e => hm x v (k x v e)⟩, O.cl, fun x v e => O.ce x v (k x v e), O.inj⟩

/-- the frames on the stack stand -/
def Fs (C : Cx) (A : Around) (σ : Ab) (h : Heap) : Prop := ∃ l, A.frames = some l ∧ h.FunFrames C.h₀ l ∧ ∀ env ∈ l, ∀ L, env.frame = some L → ¬ dom σ L
theorem FunFrames.turn {C : Cx} {h h' : Heap} : ∀ {l : List Env}, h.FunFrames C.h₀ l → (∀ env ∈ l, ∀ L o, env.frame = some L → h.get? L = some o → (∀ vs, o.data ≠ .fields vs) → ∃ o', h'.get? L = some o' ∧ ∀ vs, o'.data ≠ .fields vs) → h'.FunFrames C.h₀ l
  | [], _, _ => trivial
  | env :: l, ⟨a, ⟨L, o, hf, hn, ho, hd⟩, r⟩, k => ⟨a, (by
      obtain ⟨o', ho', hd'⟩ := k env (.head _) L o hf ho hd
      exact ⟨L, o', hf, hn, ho', hd'⟩), FunFrames.turn r fun e he => k e (.tail _ he)⟩
theorem Fs.mv {C : Cx} {A : Around} {σ σ' : Ab} {s s' : Shared} (x : Fs C A σ s.heap) (M : Mv (Fz A) No σ σ' s s') : Fs C A σ' s'.heap := by
  obtain ⟨l, hl, hf, hd⟩ := x
  refine ⟨l, hl, FunFrames.turn hf fun env he L o hL ho hv => let ⟨sl, e⟩ := M.zs L o ho (hd env he L hL) id hv; ⟨_, e, hv⟩, fun env he L hL => ?_⟩
  obtain ⟨L', o, hf', ho⟩ := PyProof.Rows.funFrames_in hf env he
  obtain rfl : L' = L := Option.some.inj (hf'.symm.trans hL)
  exact (M.fr L' o ho (hd env he L' hL)).1
theorem Fs.mvX {C : Cx} {A : Around} {env : Env} {m m' : Loc} {σ σ' : Ab} {s s' : Shared} (x : Fs C A σ s.heap) (M : Mv (Fz A) (own env) σ σ' s s') (O : FOk C env m σ s.heap) (O' : FOk C env m' σ' s'.heap) : Fs C A σ' s'.heap := by
  obtain ⟨l, hl, hf, hd⟩ := x
  refine ⟨l, hl, FunFrames.turn hf fun e he L o hL ho hv => ?_, fun e he L hL => ?_⟩
  · by_cases q : own env L
    · rcases q with rfl | ⟨y, hy⟩
      · obtain ⟨M', ⟨o', es, ep, ho', hd', _⟩, _⟩ := O'.ns
        exact ⟨o', ho', fun vs z => by rw [hd'] at z; cases z⟩
      · obtain ⟨_, v, o', ho', hd'⟩ := O'.cl y L hy
        exact ⟨o', ho', fun vs z => by rw [hd'] at z; cases z⟩
    · obtain ⟨sl, e'⟩ := M.zs L o ho (hd e he L hL) q hv
      exact ⟨_, e', hv⟩
  · obtain ⟨L', o, hf', ho⟩ := PyProof.Rows.funFrames_in hf e he
    obtain rfl : L' = L := Option.some.inj (hf'.symm.trans hL)
    exact (M.fr L' o ho (hd e he L' hL)).1

structure Wv (C : Cx) (A : Around) (σ₀ : Ab) (s₀ : Shared) (σ : Ab) (s : Shared) : Prop where
  st : St C σ s.heap
  fs : Fs C A σ s.heap
  mv : Mv (Fz A) No σ₀ σ s₀ s
structure Wd (C : Cx) (A : Around) (env : Env) (m : Loc) (σ₀ : Ab) (s₀ : Shared) (σ : Ab) (s : Shared) : Prop extends Wv C A σ₀ s₀ σ s where
  ok : FOk C env m σ s.heap
structure Wx (C : Cx) (A : Around) (env : Env) (m : Loc) (σ₀ : Ab) (s₀ : Shared) (σ : Ab) (s : Shared) : Prop where
  st : St C σ s.heap
  fs : Fs C A σ s.heap
  ok : FOk C env m σ s.heap
  mv : Mv (Fz A) (own env) σ₀ σ s₀ s

section
variable {α β γ δ : Type}
/-- a tree outside of any frame of ours -/
def TV (C : Cx) (A : Around) (t : Sem α) (n : α → β) (σ : Ab) (Q : β → Ab → Prop) : Prop :=
  ∀ σ₀ s₀ s (R : α → Shared → Prop) (E : Value → Shared → Prop), Wv C A σ₀ s₀ σ s → (∀ v s' σ', Wv C A σ₀ s₀ σ' s' → Q (n v) σ' → R v s') → wpAny C.M A t R E s
/-- a tree in the frame of env, which it leaves as it is -/
def TF (C : Cx) (A : Around) (env : Env) (m : Loc) (t : Sem α) (n : α → β) (σ : Ab) (Q : β → Ab → Prop) : Prop :=
  ∀ σ₀ s₀ s (R : α → Shared → Prop) (E : Value → Shared → Prop), Wd C A env m σ₀ s₀ σ s → (∀ v s' σ', Wd C A env m σ₀ s₀ σ' s' → Q (n v) σ' → R v s') → wpAny C.M A t R E s
/-- a tree in the frame of env, which it may turn -/
def TS (C : Cx) (A : Around) (env : Env) (m : Loc) (t : Sem α) (n : α → β) (σ : Ab) (Q : β → Loc → Ab → Prop) : Prop :=
  ∀ σ₀ s₀ s (R : α → Shared → Prop) (E : Value → Shared → Prop), Wx C A env m σ₀ s₀ σ s → (∀ v s' m' σ', Wx C A env m' σ₀ s₀ σ' s' → Q (n v) m' σ' → R v s') → wpAny C.M A t R E s
abbrev TE (C : Cx) (A : Around) (env : Env) (m : Loc) (e : Expr) (σ : Ab) (Q : Value → Ab → Prop) : Prop := TF C A env m (eval e env) nv σ Q
abbrev TB (C : Cx) (A : Around) (env : Env) (m : Loc) (e : Expr) (σ : Ab) (Q : Bool → Ab → Prop) : Prop := TF C A env m (isTrue e env (eval e env)) id σ Q
abbrev TX (C : Cx) (A : Around) (env : Env) (m : Loc) (st : Stmt) (σ : Ab) (Q : Flow → Loc → Ab → Prop) : Prop := TS C A env m (exec st env) nf σ Q
abbrev TXs (C : Cx) (A : Around) (env : Env) (m : Loc) (l : List Stmt) (σ : Ab) (Q : Flow → Loc → Ab → Prop) : Prop := TS C A env m (execs l env) nf σ Q

variable {C : Cx} {A : Around} {env : Env} {m : Loc} {σ σ₀ σ' : Ab} {s s₀ s' : Shared}
theorem Wv.start (S : St C σ s.heap) (F : Fs C A σ s.heap) : Wv C A σ s σ s := ⟨S, F, Mv.refl ..⟩
theorem Wv.step (W : Wv C A σ₀ s₀ σ s) (x : Wv C A σ s σ' s') : Wv C A σ₀ s₀ σ' s' := ⟨x.st, x.fs, W.mv.trans x.mv⟩
theorem Wv.go (W : Wv C A σ₀ s₀ σ s) (S : St C σ' s'.heap) (M : Mv (Fz A) No σ σ' s s') : Wv C A σ₀ s₀ σ' s' := ⟨S, W.fs.mv M, W.mv.trans M⟩
theorem Wv.tok (W : Wv C A σ₀ s₀ σ s) (t : Nat) : Wv C A σ₀ s₀ σ { s with toks := t } := W.go (s' := { s with toks := t }) W.st Mv.tok
theorem Wd.step (W : Wd C A env m σ₀ s₀ σ s) (x : Wv C A σ s σ' s') : Wd C A env m σ₀ s₀ σ' s' := ⟨W.toWv.step x, W.ok.mv x.mv⟩
theorem Wd.go (W : Wd C A env m σ₀ s₀ σ s) (S : St C σ' s'.heap) (M : Mv (Fz A) No σ σ' s s') : Wd C A env m σ₀ s₀ σ' s' := ⟨W.toWv.go S M, W.ok.mv M⟩
theorem Wd.tok (W : Wd C A env m σ₀ s₀ σ s) (t : Nat) : Wd C A env m σ₀ s₀ σ { s with toks := t } := W.go (s' := { s with toks := t }) W.st Mv.tok
theorem Wx.sub (W : Wx C A env m σ₀ s₀ σ s) (x : Sub σ' σ) : Wx C A env m σ₀ s₀ σ' s :=
  ⟨W.st.sub x, let ⟨l, a, b, c⟩ := W.fs; ⟨l, a, b, fun e he L hL d => c e he L hL (x.dom d)⟩, W.ok.keeps (fun _ _ _ e => e) fun b hb d => (W.ok.nd b hb).1 (x.dom d), W.mv.sub x⟩
theorem Wx.wd (W : Wx C A env m σ₀ s₀ σ s) : Wd C A env m σ s σ s := ⟨⟨W.st, W.fs, Mv.refl ..⟩, W.ok⟩
theorem Wx.step (W : Wx C A env m σ₀ s₀ σ s) (x : Wd C A env m σ s σ' s') : Wx C A env m σ₀ s₀ σ' s' := ⟨x.st, x.fs, x.ok, W.mv.trans (x.mv.weaken fun _ => False.elim)⟩
theorem Wx.less (W : Wx C A env m σ₀ s₀ σ s) {m' : Loc} (k : ∀ x v, m'.lookup x = some v → m.lookup x = some v) : Wx C A env m' σ₀ s₀ σ s := ⟨W.st, W.fs, W.ok.less k, W.mv⟩

theorem TS.mono {t : Sem α} {n : α → β} {Q Q' : β → Loc → Ab → Prop} (h : TS C A env m t n σ Q) (k : ∀ v m' σ', Q v m' σ' → Q' v m' σ') : TS C A env m t n σ Q' := fun σ₀ s₀ s R E W r => h σ₀ s₀ s R E W fun v s' m' σ' W' q => r v s' m' σ' W' (k _ _ _ q)
theorem TS.pre {t : Sem α} {n : α → β} {Q : β → Loc → Ab → Prop} {m' : Loc} (k : ∀ x v, m'.lookup x = some v → m.lookup x = some v) (x : Sub σ' σ) (h : TS C A env m' t n σ' Q) : TS C A env m t n σ Q := fun σ₀ s₀ s R E W r => h σ₀ s₀ s R E ((W.less k).sub x) r
/-- a tree outside of the frame, seen from the frame -/
theorem TV.tf {t : Sem α} {n : α → β} {Q : β → Ab → Prop} (h : TV C A t n σ Q) : TF C A env m t n σ Q := fun σ₀ s₀ s R E W r => h σ s s R E (Wv.start W.st W.fs) fun v s' σ' W' q => r v s' σ' (W.step W') q
end
end J
end

section
open PySem PySem.W PySem.Calls PyProof.Rows
set_option Elab.async false
set_option linter.unusedVariables false
namespace J

/-- e is v, and nothing turns -/
def EV (C : Cx) (A : Around) (env : Env) (m : Loc) (σ : Ab) (e : Expr) (v : Value) : Prop := ∀ Q : Value → Ab → Prop, Q v σ → TE C A env m e σ Q
/-- the test e is b, and nothing turns -/
def EB (C : Cx) (A : Around) (env : Env) (m : Loc) (σ : Ab) (e : Expr) (b : Bool) : Prop := ∀ Q : Bool → Ab → Prop, Q b σ → TB C A env m e σ Q

section
variable {C : Cx} {A : Around} {env : Env} {m : Loc} {σ σ₀ σ' : Ab} {s s₀ s' : Shared}

theorem EV.run {e : Expr} {v : Value} (h : EV C A env m σ e v) {R : Value → Shared → Prop} {E : Value → Shared → Prop} (W : Wd C A env m σ₀ s₀ σ s) (k : ∀ u s', nv u = v → Wd C A env m σ₀ s₀ σ s' → R u s') : wpAny C.M A (eval e env) R E s :=
  h (fun u σ' => u = v ∧ σ' = σ) ⟨rfl, rfl⟩ σ₀ s₀ s R E W fun u s' σ' W' ⟨e1, e2⟩ => k u s' e1 (e2 ▸ W')
theorem EB.run {e : Expr} {b : Bool} (h : EB C A env m σ e b) {R : Bool → Shared → Prop} {E : Value → Shared → Prop} (W : Wd C A env m σ₀ s₀ σ s) (k : ∀ s', Wd C A env m σ₀ s₀ σ s' → R b s') : wpAny C.M A (isTrue e env (eval e env)) R E s :=
  h (fun u σ' => u = b ∧ σ' = σ) ⟨rfl, rfl⟩ σ₀ s₀ s R E W fun u s' σ' W' ⟨e1, e2⟩ => (show u = b from e1) ▸ k s' (e2 ▸ W')
theorem EV.of {e : Expr} {v : Value} (h : ∀ σ₀ s₀ s (R : Value → Shared → Prop) (E : Value → Shared → Prop), Wd C A env m σ₀ s₀ σ s → (∀ u s', nv u = v → Wd C A env m σ₀ s₀ σ s' → R u s') → wpAny C.M A (eval e env) R E s) : EV C A env m σ e v :=
  fun Q q σ₀ s₀ s R E W r => h σ₀ s₀ s R E W fun u s' hu W' => r u s' σ W' (hu ▸ q)
theorem EB.of {e : Expr} {b : Bool} (h : ∀ σ₀ s₀ s (R : Bool → Shared → Prop) (E : Value → Shared → Prop), Wd C A env m σ₀ s₀ σ s → (∀ s', Wd C A env m σ₀ s₀ σ s' → R b s') → wpAny C.M A (isTrue e env (eval e env)) R E s) : EB C A env m σ e b :=
  fun Q q σ₀ s₀ s R E W r => h σ₀ s₀ s R E W fun s' W' => r b s' σ W' q
theorem EV.te {e : Expr} {v : Value} {Q : Value → Ab → Prop} (h : EV C A env m σ e v) (q : Q v σ) : TE C A env m e σ Q := h Q q
theorem EB.tb {e : Expr} {b : Bool} {Q : Bool → Ab → Prop} (h : EB C A env m σ e b) (q : Q b σ) : TB C A env m e σ Q := h Q q

-- NAMES
theorem EV_loc {x : Str} {pos : Pos} {v : Value} (hv : m.lookup x = some v) (hl : env.kindOf x = some .local) (hd : (x == ("__debug__" : Str)) = false := by decide) : EV C A env m σ (.Name x pos) v :=
  EV.of fun σ₀ s₀ s R E W k => by
    obtain ⟨M, hM, hm⟩ := W.ok.ns
    obtain ⟨u, hu, e⟩ := hm x v hv hl
    exact wpAny_Name (wpAny_loadName_local W.ok.fn hl hM hu (k u s e W)) hd
theorem EV_cell {x : Str} {pos : Pos} {v : Value} (hv : m.lookup x = some v) (hl : env.kindOf x = some .cell) (hd : (x == ("__debug__" : Str)) = false := by decide) : EV C A env m σ (.Name x pos) v :=
  EV.of fun σ₀ s₀ s R E W k => by
    obtain ⟨c, u, hc, hcell, e⟩ := W.ok.ce x v hv (.inl hl)
    exact wpAny_Name (wpAny_loadName_cell W.ok.fn hl hc hcell (k u s e W)) hd
theorem EV_glob {x : Str} {pos : Pos} {v : Value} (hv : nsIn C.K mainGlobals x = some (some v)) (hl : env.kindOf x = some .globalImplicit) (hd : (x == ("__debug__" : Str)) = false := by decide) : EV C A env m σ (.Name x pos) (nv v) :=
  EV.of fun σ₀ s₀ s R E W k => Name_function_global W.ok.fn hl (loadGlobal_global (env := env) (W.ok.gl ▸ C.T.g.keeps W.st.keep) (mg_of C.X C.T.g hv) (k v s rfl W)) hd
theorem EV_built {x : Str} {pos : Pos} {v : Value} (hv : nsIn C.K mainGlobals x = some none) (hb : bootBuiltins x = some v) (hl : env.kindOf x = some .globalImplicit) (hn : x ≠ "__name__" := by decide) (hd : (x == ("__debug__" : Str)) = false := by decide) : EV C A env m σ (.Name x pos) (nv v) :=
  EV.of fun σ₀ s₀ s R E W k => Name_function_global W.ok.fn hl (loadGlobal_builtin (env := env) (W.ok.gl ▸ C.T.g.keeps W.st.keep) (mg_none_of C.X C.T.g hv) (W.ok.bi ▸ C.T.b.keeps W.st.keep) ((C.T.builtins x hn).trans hb) (k v s rfl W)) hd

-- CONSTANTS
theorem EV_int {i : Int} {k : Nat} {pos : Pos} : EV C A env m σ (.Constant (.int i) k pos) (.int i 0) := EV.of fun σ₀ s₀ s R E W r => wpAny_Constant_int (r _ _ rfl (W.tok _))
theorem EV_str {x : Str} {k : Nat} {pos : Pos} : EV C A env m σ (.Constant (.str x) k pos) (.str x 0) := EV.of fun σ₀ s₀ s R E W r => wpAny_Constant_str (r _ _ rfl (W.tok _))
theorem EV_none {k : Nat} {pos : Pos} : EV C A env m σ (.Constant .none k pos) .none := EV.of fun σ₀ s₀ s R E W r => wpAny_Constant_none (r _ _ rfl W)
theorem EV_bool {b : Bool} {k : Nat} {pos : Pos} : EV C A env m σ (.Constant (.bool b) k pos) (.bool b) := EV.of fun σ₀ s₀ s R E W r => wpAny_Constant_bool (r _ _ rfl W)
theorem EV_bytes {b : List UInt8} {k : Nat} {pos : Pos} : EV C A env m σ (.Constant (.bytes b) k pos) (.bytes b.toArray 0) := EV.of fun σ₀ s₀ s R E W r => by
  show wpAny _ _ (mkTextBytes b.toArray) _ _ _
  unfold mkTextBytes
  exact wpAny_bind (wpAny_fresh (wpAny_pure (r _ _ rfl (W.tok _))))

-- ARITHMETIC
theorem EV_bin {l r : Expr} {op : Operator} {pos : Pos} {a b v : Value} (hl : EV C A env m σ l a) (hr : EV C A env m σ r b)
    (h : ∀ a' b', nv a' = a → nv b' = b → ∀ s (R : Value → Shared → Prop) (E : Value → Shared → Prop), St C σ s.heap → (∀ u tk, nv u = v → R u { s with toks := tk }) → wpAny C.M A (binaryOp op a' b') R E s) :
    EV C A env m σ (.BinOp l op r pos) v := EV.of fun σ₀ s₀ s R E W k =>
  wpAny_BinOp (hl.run W fun a' s₁ ha W₁ => hr.run W₁ fun b' s₂ hb W₂ => h a' b' ha hb s₂ R E W₂.st fun u tk hu => k u _ hu (W₂.tok tk))
theorem EV_add {l r : Expr} {pos : Pos} {a b : Int} (hl : EV C A env m σ l (.int a 0)) (hr : EV C A env m σ r (.int b 0)) : EV C A env m σ (.BinOp l .Add r pos) (.int (a + b) 0) :=
  EV_bin hl hr fun a' b' ha hb s R E S k => by obtain ⟨t, rfl⟩ := nv_to_int ha; obtain ⟨u, rfl⟩ := nv_to_int hb; exact PyProof.Rows.add_int (k _ _ rfl)
theorem EV_sub {l r : Expr} {pos : Pos} {a b : Int} (hl : EV C A env m σ l (.int a 0)) (hr : EV C A env m σ r (.int b 0)) : EV C A env m σ (.BinOp l .Sub r pos) (.int (a - b) 0) :=
  EV_bin hl hr fun a' b' ha hb s R E S k => by obtain ⟨t, rfl⟩ := nv_to_int ha; obtain ⟨u, rfl⟩ := nv_to_int hb; exact PyProof.Rows.sub_int (k _ _ rfl)
theorem EV_mul {l r : Expr} {pos : Pos} {a b : Int} (hl : EV C A env m σ l (.int a 0)) (hr : EV C A env m σ r (.int b 0)) (hm : IntMulOk a b) : EV C A env m σ (.BinOp l .Mult r pos) (.int (a * b) 0) :=
  EV_bin hl hr fun a' b' ha hb s R E S k => by obtain ⟨t, rfl⟩ := nv_to_int ha; obtain ⟨u, rfl⟩ := nv_to_int hb; exact PyProof.Rows.mul_int (k _ _ rfl) hm
theorem EV_mod {l r : Expr} {pos : Pos} {a b : Int} (hl : EV C A env m σ l (.int a 0)) (hr : EV C A env m σ r (.int b 0)) (hb0 : b ≠ 0) : EV C A env m σ (.BinOp l .Mod r pos) (.int (a.fmod b) 0) :=
  EV_bin hl hr fun a' b' ha hb s R E S k => by obtain ⟨t, rfl⟩ := nv_to_int ha; obtain ⟨u, rfl⟩ := nv_to_int hb; exact PyProof.Rows.mod_int hb0 (k _ _ rfl)

-- TESTS
theorem EB_val {e : Expr} {v : Value} {b : Bool} (h : EV C A env m σ e v)
    (ht : ∀ u, nv u = v → ∀ s (R : Bool → Shared → Prop) (E : Value → Shared → Prop), St C σ s.heap → (∀ tk, R b { s with toks := tk }) → wpAny C.M A (truthy u) R E s)
    (he : ∀ whole, isTrue e env whole = (do let v ← whole; standAt e.pos; holding [v] (truthy v)) := by intro _; rfl) : EB C A env m σ e b := EB.of fun σ₀ s₀ s R E W k =>
  isTrue_plain (h.run W fun u s₁ hu W₁ => ht u hu s₁ R E W₁.st fun tk => k _ (W₁.tok tk)) (he _)
theorem EB_not {x : Expr} {pos : Pos} {b : Bool} (h : EB C A env m σ x b) : EB C A env m σ (.UnaryOp .Not x pos) (!b) := EB.of fun σ₀ s₀ s R E W k => isTrue_not (h.run W fun s' W' => k s' W')
theorem EB_and_nil {pos : Pos} : EB C A env m σ (.BoolOp .And [] pos) true := EB.of fun σ₀ s₀ s R E W k => isTrue_and_nil (k s W)
theorem EB_or_nil {pos : Pos} : EB C A env m σ (.BoolOp .Or [] pos) false := EB.of fun σ₀ s₀ s R E W k => isTrue_or_nil (k s W)
theorem EB_and {x : Expr} {rest : List Expr} {pos : Pos} {b c : Bool} (h : EB C A env m σ x b) (h' : b = true → EB C A env m σ (.BoolOp .And rest pos) c) : EB C A env m σ (.BoolOp .And (x :: rest) pos) (b && c) := EB.of fun σ₀ s₀ s R E W k =>
  isTrue_and (h.run W fun s' W' => by
    cases b with
    | true => rw [if_pos rfl]; exact (h' rfl).run W' fun s'' W'' => k s'' W''
    | false => rw [if_neg Bool.false_ne_true]; exact k s' W')
theorem EB_or {x : Expr} {rest : List Expr} {pos : Pos} {b c : Bool} (h : EB C A env m σ x b) (h' : b = false → EB C A env m σ (.BoolOp .Or rest pos) c) : EB C A env m σ (.BoolOp .Or (x :: rest) pos) (b || c) := EB.of fun σ₀ s₀ s R E W k =>
  isTrue_or (h.run W fun s' W' => by
    cases b with
    | true => rw [if_pos rfl]; exact k s' W'
    | false => rw [if_neg Bool.false_ne_true]; exact (h' rfl).run W' fun s'' W'' => k s'' W'')
theorem EB_cmp {l r : Expr} {op : CmpOp} {pos : Pos} {a b : Value} {v : Bool} (hl : EV C A env m σ l a) (hr : EV C A env m σ r b)
    (h : ∀ a' b', nv a' = a → nv b' = b → ∀ s (R : Value → Shared → Prop) (E : Value → Shared → Prop), St C σ s.heap → (∀ tk, R (.bool v) { s with toks := tk }) → wpAny C.M A (compareOp op a' b') R E s)
    (hm : behindInMarks op r = false := by with_unfolding_all rfl) :
    EB C A env m σ (.Compare l [op] [r] pos) v := EB.of fun σ₀ s₀ s R E W k =>
  wpAny_isTrue_Compare1 (hl.run W fun a' s₁ ha W₁ => hr.run W₁ fun b' s₂ hb W₂ => h a' b' ha hb s₂ _ E W₂.st fun tk => wpAny_truthy_bool (k _ (W₂.tok tk))) hm
theorem EV_cmp {l r : Expr} {op : CmpOp} {pos : Pos} {a b : Value} {v : Bool} (hl : EV C A env m σ l a) (hr : EV C A env m σ r b)
    (h : ∀ a' b', nv a' = a → nv b' = b → ∀ s (R : Value → Shared → Prop) (E : Value → Shared → Prop), St C σ s.heap → (∀ tk, R (.bool v) { s with toks := tk }) → wpAny C.M A (compareOp op a' b') R E s)
    (hm : behindInMarks op r = false := by with_unfolding_all rfl) :
    EV C A env m σ (.Compare l [op] [r] pos) (.bool v) := EV.of fun σ₀ s₀ s R E W k =>
  wpAny_Compare1 (hl.run W fun a' s₁ ha W₁ => hr.run W₁ fun b' s₂ hb W₂ => h a' b' ha hb s₂ _ E W₂.st fun tk => k _ _ rfl (W₂.tok tk)) hm

/-- a comparison of two values: the op gives the bool, and nothing turns -/
def Cmp (C : Cx) (A : Around) (σ : Ab) (op : CmpOp) (a b : Value) (v : Bool) : Prop :=
  ∀ a' b', nv a' = a → nv b' = b → ∀ s (R : Value → Shared → Prop) (E : Value → Shared → Prop), St C σ s.heap → (∀ tk, R (.bool v) { s with toks := tk }) → wpAny C.M A (compareOp op a' b') R E s
theorem Cmp.eq_int (a b : Int) : Cmp C A σ .Eq (.int a 0) (.int b 0) (decide (a = b)) := fun a' b' ha hb s R E S k => by
  obtain ⟨t, rfl⟩ := nv_to_int ha; obtain ⟨u, rfl⟩ := nv_to_int hb; exact PyProof.Rows.eq_int (k _)
theorem Cmp.lt_int (a b : Int) : Cmp C A σ .Lt (.int a 0) (.int b 0) (decide (a < b)) := fun a' b' ha hb s R E S k => by
  obtain ⟨t, rfl⟩ := nv_to_int ha; obtain ⟨u, rfl⟩ := nv_to_int hb; exact PyProof.Rows.lt_int (k _)
theorem Cmp.gt_int (a b : Int) : Cmp C A σ .Gt (.int a 0) (.int b 0) (decide (b < a)) := fun a' b' ha hb s R E S k => by
  obtain ⟨t, rfl⟩ := nv_to_int ha; obtain ⟨u, rfl⟩ := nv_to_int hb; exact PyProof.Rows.gt_int (k _)
theorem Cmp.eq_str (a b : Str) : Cmp C A σ .Eq (.str a 0) (.str b 0) (a == b) := fun a' b' ha hb s R E S k => by
  obtain ⟨t, rfl⟩ := nv_to_str ha; obtain ⟨u, rfl⟩ := nv_to_str hb; exact PyProof.Rows.eq_str (k _)
theorem Cmp.is_none (a : Value) (ha : a = .none ∨ (∃ r, a = .ref r) ∨ (∃ b, a = .bool b) ∨ (∃ i, a = .int i 0) ∨ (∃ i, a = .str i 0) ∨ (∃ i, a = .bytes i 0)) : Cmp C A σ .Is a .none (a == .none) := fun a' b' ha' hb s R E S k => by
  obtain rfl := nv_to_none hb
  rcases ha with rfl | ⟨r, rfl⟩ | ⟨b, rfl⟩ | ⟨i, rfl⟩ | ⟨i, rfl⟩ | ⟨i, rfl⟩
  · obtain rfl := nv_to_none ha'; exact wpAny_is_plain rfl (k _)
  · obtain rfl := nv_to_ref ha'; exact wpAny_is_plain rfl (k _)
  · obtain rfl := nv_to_bool ha'; exact wpAny_is_plain rfl (k _)
  · obtain ⟨t, rfl⟩ := nv_to_int ha'; exact wpAny_is_plain rfl (k _)
  · obtain ⟨t, rfl⟩ := nv_to_str ha'; exact wpAny_is_plain rfl (k _)
  · obtain ⟨t, rfl⟩ := nv_to_bytes ha'; exact wpAny_is_plain rfl (k _)
end
end J
end

section
open PySem PySem.W PySem.Calls PyProof.Rows
set_option Elab.async false
set_option linter.unusedVariables false
namespace J
section
variable {C : Cx} {A : Around} {env : Env} {m : Loc} {σ σ₀ σ' : Ab} {s s₀ s' : Shared}

theorem St.K (S : St C σ s.heap) : C.K.In s.heap := C.X.keeps S.keep
/-- the object at a, as the kit says it -/
theorem St.inst {h : Heap} (S : St C σ h) {a K : Addr} {fs : Loc} (e : σ a = some (.inst K fs)) :
    ∃ d od, InstAt h a (instObj K d) K (some od) ∧ ∀ x v, fs.lookup x = some v → ∃ u, nv u = v ∧ lookIn x od = some (some u) := by
  obtain ⟨d, m, rfl, ho, ⟨od, es, ep, hd, hdat, hk, hu, hm⟩, hf⟩ := S.rep a _ e
  refine ⟨d, od, ⟨ho, rfl, rfl, hd⟩, fun x v hx => ?_⟩
  have := hf x
  rw [hx] at this
  cases hq : m x with
  | none => rw [hq] at this; cases this
  | some u =>
    rw [hq] at this
    refine ⟨u, by simpa using this, ?_⟩
    unfold lookIn
    rw [hdat]
    have hn := hm x
    rw [hq] at hn
    unfold nsFind findBy at hn
    rw [← Array.find?_toList] at hn
    dsimp only
    cases hz : es.toList.find? (·.key.isStr x) with
    | none => rw [hz] at hn; cases hn
    | some en => rw [hz] at hn; simpa using hn

def attrOwn (K : Frag) (C : Addr) (x : Str) : Bool := plainGet K C x && hasDictIn K C && (match findIn K (.ref C) x with | some attr => noGet K attr | none => false)
theorem handedIn_nv {u v : Value} (h : nv u = v) (hv : handedIn v = true) : handedIn u = true := by
  subst h
  cases u <;> simp_all [nv, handedIn]
theorem getAttr_inst {a K : Addr} {fs : Loc} {x : Str} {v : Value} {expr : Bool} (S : St C σ s.heap) (e : σ a = some (.inst K fs)) (hx : fs.lookup x = some v) (hk : attrOwn C.K K x = true) (hv : handedIn v = true)
    {R : Value → Shared → Prop} {E : Value → Shared → Prop} (k : ∀ u, nv u = v → R u { s with toks := s.toks + 1 }) : wpAny C.M A (getAttr (.ref a) x expr) R E s := by
  obtain ⟨d, od, I, hf⟩ := S.inst e
  obtain ⟨u, hu, hl⟩ := hf x v hx
  unfold attrOwn at hk
  simp only [Bool.and_eq_true] at hk
  obtain ⟨⟨h1, h2⟩, h3⟩ := hk
  split at h3
  · rename_i attr ha
    exact get_value S.K I (plainGet_of h1).1 (findObj_own h2 ha h3 hl) (handedIn_nv hu hv) (k u hu)
  · cases h3
theorem EV_attr {o : Expr} {a K : Addr} {fs : Loc} {x : Str} {v : Value} {pos : Pos} (ho : EV C A env m σ o (.ref a)) (e : σ a = some (.inst K fs)) (hx : fs.lookup x = some v) (hk : attrOwn C.K K x = true) (hv : handedIn v = true := by rfl)
    (he : eval (.Attribute o x pos) env = (do
      let r ← eval o env
      standAt pos.atName
      let r' ← holding [r] (getAttr r x true)
      letTemporaryGo o r r'
      pure r') := by with_unfolding_all rfl) : EV C A env m σ (.Attribute o x pos) v := EV.of fun σ₀ s₀ s R E W k =>
  Attribute_any_ (ho.run W fun u s₁ hu W₁ => by
    obtain rfl := nv_to_ref hu
    exact getAttr_inst W₁.st e hx hk hv fun u' hu' => k u' _ hu' (W₁.tok _)) he

-- truth of values
def Tru (C : Cx) (A : Around) (σ : Ab) (v : Value) (b : Bool) : Prop :=
  ∀ u, nv u = v → ∀ s (R : Bool → Shared → Prop) (E : Value → Shared → Prop), St C σ s.heap → (∀ tk, R b { s with toks := tk }) → wpAny C.M A (truthy u) R E s
theorem Tru.bool (b : Bool) : Tru C A σ (.bool b) b := fun u hu s R E S k => by obtain rfl := nv_to_bool hu; exact wpAny_truthy_bool (k _)
theorem Tru.inst {a K : Addr} {fs : Loc} (e : σ a = some (.inst K fs)) (hs : findIn C.K (.ref K) "__bool__" = some none) (hl : findIn C.K (.ref K) "__len__" = some none) : Tru C A σ (.ref a) true := fun u hu s R E S k => by
  obtain rfl := nv_to_ref hu
  obtain ⟨d, od, I, _⟩ := S.inst e
  unfold truthy
  refine wpAny_bind (m := callSpecial? (.ref a) (Str.ofString "__bool__")) (wpAny_bind (wpAny_bind (I.type.here ((looks_findIn S.K hs).here (wpAny_pure ?_)))))
  refine wpAny_bind (wpAny_bind (I.type.here ((looks_findIn S.K hl).here ?_)))
  exact wpAny_pure (k _)

-- lists, tuples
theorem St.isList {h : Heap} (S : St C σ h) {a : Addr} {xs : List Value} (e : σ a = some (.list xs)) : ∃ vs : Array Value, h.IsList a vs ∧ vs.toList.map nv = xs := by
  obtain ⟨vs, n, ho, hx⟩ := S.rep a _ e
  exact ⟨vs, ⟨_, ho, rfl, n, rfl⟩, hx⟩
theorem St.isTup {h : Heap} (S : St C σ h) {a : Addr} {xs : List Value} (e : σ a = some (.tup xs)) : ∃ vs : Array Value, IsTup h a vs ∧ vs.toList.map nv = xs := by
  obtain ⟨vs, n, ho, hx⟩ := S.rep a _ e
  exact ⟨vs, ⟨_, ho, rfl, n, rfl⟩, hx⟩
theorem get_of_map {vs : Array Value} {xs : List Value} (h : vs.toList.map nv = xs) {i : Nat} {v : Value} (hi : xs[i]? = some v) : ∃ u, vs[i]? = some u ∧ nv u = v := by
  subst h
  rw [List.getElem?_map, Array.getElem?_toList] at hi
  obtain ⟨u, hu, rfl⟩ := Option.map_eq_some_iff.mp hi
  exact ⟨u, hu, rfl⟩
theorem size_of_map {vs : Array Value} {xs : List Value} (h : vs.toList.map nv = xs) : vs.size = xs.length := by subst h; simp
/-- the value at a place, by an int -/
def Itm (C : Cx) (A : Around) (σ : Ab) (o i v : Value) : Prop :=
  ∀ o' i', nv o' = o → nv i' = i → ∀ s (R : Value → Shared → Prop) (E : Value → Shared → Prop), St C σ s.heap → (∀ u tk, nv u = v → R u { s with toks := tk }) → ∀ value slice : Expr, (∀ o i, subscripted slice false o i = operate [o, i] (getItem o i)) → wpAny C.M A (subscriptTail value slice o' i') R E s
theorem Itm.list {a : Addr} {xs : List Value} {i : Int} {v : Value} (e : σ a = some (.list xs)) (h0 : 0 ≤ i) (hf : i < 2 ^ 63) (hx : xs[i.toNat]? = some v) : Itm C A σ (.ref a) (.int i 0) v := fun o' i' ho hi s R E S k value slice hs => by
  obtain rfl := nv_to_ref ho
  obtain ⟨t, rfl⟩ := nv_to_int hi
  obtain ⟨vs, hl, hm⟩ := S.isList e
  obtain ⟨u, hu, hv⟩ := get_of_map hm hx
  exact tail_any hl.typeIs slot_list_getitem.lookup (wpAny_getItem_list hl h0 hf hu (k u s.toks hv)) (hs _ _)
theorem EV_item {o i : Expr} {vo vi v : Value} {pos : Pos} (ho : EV C A env m σ o vo) (hi : EV C A env m σ i vi) (h : Itm C A σ vo vi v)
    (hs : ∀ o i', subscripted i false o i' = operate [o, i'] (getItem o i') := by intro _ _; with_unfolding_all rfl) : EV C A env m σ (.Subscript o i pos) v := EV.of fun σ₀ s₀ s R E W k =>
  PyProof.Rows.Subscript_ (ho.run W fun u s₁ hu W₁ => hi.run W₁ fun j s₂ hj W₂ => h u j hu hj s₂ R E W₂.st (fun w tk hw => k w _ hw (W₂.tok tk)) _ _ hs)

-- dicts
theorem isStrKind {x : Str} {t : Tok} : (PySem.strKind C.prog C.w).is x (.str x t) = true := by simp [PySem.strKind, Value.isStrOf]
theorem isBytesKind {x : List UInt8} {t : Tok} : (bytesKind C.prog C.w).is x (.bytes x.toArray t) = true := bytesKind_is _ _ _ _
theorem isIntKind {x : Int} {t : Tok} : (PySem.intKind C.prog C.w).is x (.int x t) = true := by simp [PySem.intKind, Value.isInt]
theorem Cmp.notIn_dS {a : Addr} {f : Str → Option Value} {n : Nat} {x : Str} (e : σ a = some (.dS f n)) : Cmp C A σ .NotIn (.str x 0) (.ref a) (!(f x).isSome) := fun x' a' hx ha s R E S k => by
  obtain ⟨t, rfl⟩ := nv_to_str hx
  obtain rfl := nv_to_ref ha
  obtain ⟨h1, kvs, hd, hn, hf⟩ := S.rep a _ e
  have hg := hd.mapOf
  refine wpAny_notIn_of isStrKind h1 hg ?_
  have : (valueAt kvs x).isSome = (f x).isSome := by rw [← hf x, Option.isSome_map]
  rw [this]; exact k _
theorem Cmp.in_dI {a : Addr} {f : Int → Option Value} {n : Nat} {x : Int} (e : σ a = some (.dI f n)) : Cmp C A σ .In (.int x 0) (.ref a) (f x).isSome := fun x' a' hx ha s R E S k => by
  obtain ⟨t, rfl⟩ := nv_to_int hx
  obtain rfl := nv_to_ref ha
  obtain ⟨h1, kvs, hd, hn, hf⟩ := S.rep a _ e
  have hg := hd.mapOf
  refine wpAny_in_of isIntKind h1 hg ?_
  have : (valueAt kvs x).isSome = (f x).isSome := by rw [← hf x, Option.isSome_map]
  rw [this]; exact k _
theorem Itm.dS {a : Addr} {f : Str → Option Value} {n : Nat} {x : Str} {v : Value} (e : σ a = some (.dS f n)) (hx : f x = some v) : Itm C A σ (.ref a) (.str x 0) v := fun o' i' ho hi s R E S k value slice hs => by
  obtain rfl := nv_to_ref ho
  obtain ⟨t, rfl⟩ := nv_to_str hi
  obtain ⟨h1, kvs, hd, hn, hf⟩ := S.rep a _ e
  have hg := hd.mapOf
  have := hf x
  rw [hx] at this
  obtain ⟨u, hu, hv⟩ := Option.map_eq_some_iff.mp this
  exact tail_any hg.typeIs slot_dict_getitem.lookup (wpAny_getItem_of isStrKind hg hu (k u _ hv)) (hs _ _)
end
end J
end

section
open PySem PySem.W PySem.Calls PyProof.Rows
set_option Elab.async false
set_option linter.unusedVariables false
namespace J
section
variable {C : Cx} {A : Around} {env : Env} {m : Loc} {σ σ₀ σ' : Ab} {s s₀ s' : Shared}

-- a step that turns the heap elsewhere
theorem Wd.ext (W : Wd C A env m σ₀ s₀ σ s) {h' : Heap} {tk : Nat} (k : ∀ b o, s.heap.get? b = some o → h'.get? b = some o) : Wd C A env m σ₀ s₀ σ { s with heap := h', toks := tk } :=
  W.go (s' := { s with heap := h', toks := tk }) (W.st.ext k) (Mv.heap (fun b o e _ _ => k b o e) fun b o e n => ⟨n, o, k b o e⟩)
theorem Wv.ext (W : Wv C A σ₀ s₀ σ s) {h' : Heap} {tk : Nat} (k : ∀ b o, s.heap.get? b = some o → h'.get? b = some o) : Wv C A σ₀ s₀ σ { s with heap := h', toks := tk } :=
  W.go (s' := { s with heap := h', toks := tk }) (W.st.ext k) (Mv.heap (fun b o e _ _ => k b o e) fun b o e n => ⟨n, o, k b o e⟩)
theorem Wx.ext (W : Wx C A env m σ₀ s₀ σ s) {h' : Heap} {tk : Nat} (k : ∀ b o, s.heap.get? b = some o → h'.get? b = some o) : Wx C A env m σ₀ s₀ σ { s with heap := h', toks := tk } := W.step (W.wd.ext k)

theorem lookup_cons_self {x : Str} {v : Value} {m : Loc} : List.lookup x ((x, v) :: m) = some v := by simp [List.lookup]
theorem lookup_cons_ne {x y : Str} {v : Value} {m : Loc} (h : x ≠ y) : List.lookup x ((y, v) :: m) = m.lookup x := by
  rw [List.lookup_cons]
  have : (x == y) = false := by simpa using h
  rw [this]

-- STORES
theorem FOk.storeL (O : FOk C env m σ s.heap) {x : Str} {u : Value} {M : Str → Option Value} {h' : Heap} (hl : env.kindOf x = some .local) (hM : ∀ y v, m.lookup y = some v → env.kindOf y = some .local → ∃ u, M y = some u ∧ nv u = v)
    (hn : h'.Ns env.locals (fun y => if y = x then some u else M y)) (hs : Heap.SameBut env.locals s.heap h') : FOk C env ((x, nv u) :: m) σ h' := by
  refine ⟨O.fn, O.gl, O.bi, O.nd, ⟨_, hn, fun y v hy hk => ?_⟩, fun y c hc => ?_, fun y v hy hk => ?_, O.inj⟩
  · by_cases q : y = x
    · subst q; rw [lookup_cons_self] at hy; cases hy; exact ⟨u, by simp, rfl⟩
    · rw [lookup_cons_ne q] at hy; rw [if_neg q]; exact hM y v hy hk
  · obtain ⟨h1, v, o, ho, hd⟩ := O.cl y c hc
    exact ⟨h1, v, o, (hs.2 c h1).trans ho, hd⟩
  · have q : y ≠ x := by rintro rfl; rw [hl] at hk; rcases hk with hk | hk <;> cases hk
    rw [lookup_cons_ne q] at hy
    obtain ⟨c, u', hc, ⟨o, ho, hd⟩, hu⟩ := O.ce y v hy hk
    exact ⟨c, u', hc, ⟨o, (hs.2 c (O.cl y c hc).1).trans ho, hd⟩, hu⟩
theorem FOk.storeC (O : FOk C env m σ s.heap) {x : Str} {c : Addr} {u : Value} {h' : Heap} (hl : env.kindOf x = some .cell) (hc : env.cells.lookup x = some c)
    (hn : h'.IsCell c (some u)) (hs : Heap.SameBut c s.heap h') : FOk C env ((x, nv u) :: m) σ h' := by
  have hcL := (O.cl x c hc).1
  refine ⟨O.fn, O.gl, O.bi, O.nd, ?_, fun y c' hc' => ?_, fun y v hy hk => ?_, O.inj⟩
  · obtain ⟨M, hM, hm⟩ := O.ns
    refine ⟨M, hM.sameBut hs (Ne.symm hcL), fun y v hy hk => ?_⟩
    have q : y ≠ x := by rintro rfl; rw [hl] at hk; cases hk
    rw [lookup_cons_ne q] at hy; exact hm y v hy hk
  · obtain ⟨h1, v, o, ho, hd⟩ := O.cl y c' hc'
    by_cases q : c' = c
    · subst q; exact ⟨h1, _, hn⟩
    · exact ⟨h1, v, o, (hs.2 c' q).trans ho, hd⟩
  · by_cases q : y = x
    · subst q; rw [lookup_cons_self] at hy; cases hy; exact ⟨c, u, hc, hn, rfl⟩
    · rw [lookup_cons_ne q] at hy
      obtain ⟨c', u', hc', ⟨o, ho, hd⟩, hu⟩ := O.ce y v hy hk
      have q' : c' ≠ c := by rintro rfl; exact q (O.inj _ _ _ hc' hc)
      exact ⟨c', u', hc', ⟨o, (hs.2 c' q').trans ho, hd⟩, hu⟩
theorem Wx.turnOwn (W : Wx C A env m σ₀ s₀ σ s) {m' : Loc} {b : Addr} {h' : Heap} {tk : Nat} (hb : J.own env b) (hs : Heap.SameBut b s.heap h') (ha : ∃ o, h'.get? b = some o) (O' : FOk C env m' σ h') : Wx C A env m' σ₀ s₀ σ { s with heap := h', toks := tk } := by
  obtain ⟨nd, nh⟩ := W.ok.nd b hb
  have M : Mv (Fz A) (J.own env) σ σ s { s with heap := h', toks := tk } := Mv.heap (fun c o e _ n => (hs.2 c (fun q => n (q ▸ hb))).trans e) fun c o e n => ⟨n, (by
    by_cases q : c = b
    · subst q; exact ha
    · exact ⟨o, (hs.2 c q).trans e⟩)⟩
  refine ⟨W.st.keeps fun c o hc e => (hs.2 c ?_).trans e, W.fs.mvX (s' := { s with heap := h', toks := tk }) M W.ok O', O', W.mv.trans M⟩
  rintro rfl
  rcases hc with d | q
  · exact nd d
  · rw [nh] at q; cases q
theorem Wx.storeL (W : Wx C A env m σ₀ s₀ σ s) {x : Str} {u : Value} {R : Unit → Shared → Prop} {E : Value → Shared → Prop} (hl : env.kindOf x = some .local)
    (k : ∀ s', Wx C A env ((x, nv u) :: m) σ₀ s₀ σ s' → R () s') : wpAny C.M A (storeName env x u) R E s := by
  obtain ⟨M, hM, hm⟩ := W.ok.ns
  refine wpAny_storeName_local hl hM (fun h' hn hs => k _ (W.turnOwn (.inl rfl) hs ?_ (W.ok.storeL hl hm hn hs))) ?_
  · obtain ⟨o, _, _, ho, _⟩ := hn; exact ⟨o, ho⟩
  · rw [W.ok.fn]; rfl
theorem Wx.storeC (W : Wx C A env m σ₀ s₀ σ s) {x : Str} {u : Value} {R : Unit → Shared → Prop} {E : Value → Shared → Prop} (hl : env.kindOf x = some .cell) (hc : ∃ c, env.cells.lookup x = some c)
    (k : ∀ s', Wx C A env ((x, nv u) :: m) σ₀ s₀ σ s' → R () s') : wpAny C.M A (storeName env x u) R E s := by
  obtain ⟨c, hc⟩ := hc
  obtain ⟨_, v₀, hv⟩ := W.ok.cl x c hc
  refine wpAny_storeName_cell W.ok.fn hl hc hv fun h' hn hs => ?_
  have := W.turnOwn (tk := s.toks) (.inr ⟨x, hc⟩) hs (let ⟨o, ho, _⟩ := hn; ⟨o, ho⟩) (W.ok.storeC hl hc hn hs)
  exact k _ this
/-- the name takes a store -/
def Sto (env : Env) (x : Str) : Prop := env.kindOf x = some .local ∨ (env.kindOf x = some .cell ∧ ∃ c, env.cells.lookup x = some c)
theorem Wx.store (W : Wx C A env m σ₀ s₀ σ s) {x : Str} {u : Value} {R : Unit → Shared → Prop} {E : Value → Shared → Prop} (h : Sto env x)
    (k : ∀ s', Wx C A env ((x, nv u) :: m) σ₀ s₀ σ s' → R () s') : wpAny C.M A (storeName env x u) R E s := by
  rcases h with hl | ⟨hl, hc⟩
  · exact W.storeL hl k
  · exact W.storeC hl hc k

-- STATEMENTS
theorem TE.use {e : Expr} {Q : Value → Ab → Prop} (h : TE C A env m e σ Q) (W : Wx C A env m σ₀ s₀ σ s) {R : Value → Shared → Prop} {E : Value → Shared → Prop} (k : ∀ v s' σ', Wx C A env m σ₀ s₀ σ' s' → Q (nv v) σ' → R v s') : wpAny C.M A (eval e env) R E s :=
  h σ s s R E W.wd fun v s' σ' W' q => k v s' σ' (W.step W') q
theorem TF.use {α β : Type} {t : Sem α} {n : α → β} {Q : β → Ab → Prop} (h : TF C A env m t n σ Q) (W : Wx C A env m σ₀ s₀ σ s) {R : α → Shared → Prop} {E : Value → Shared → Prop} (k : ∀ v s' σ', Wx C A env m σ₀ s₀ σ' s' → Q (n v) σ' → R v s') : wpAny C.M A t R E s :=
  h σ s s R E W.wd fun v s' σ' W' q => k v s' σ' (W.step W') q
theorem TXs_nil {Q : Flow → Loc → Ab → Prop} (h : Q .next m σ) : TXs C A env m [] σ Q := fun σ₀ s₀ s R E W k => wpAny_execs_nil (k _ _ _ _ W h)
theorem TXs_cons {st : Stmt} {rest : List Stmt} {Q : Flow → Loc → Ab → Prop} (h : TX C A env m st σ fun f m' σ' => match f with | .next => TXs C A env m' rest σ' Q | f => Q f m' σ') : TXs C A env m (st :: rest) σ Q := fun σ₀ s₀ s R E W k => by
  refine wpAny_execs_cons (h σ₀ s₀ s _ E W fun f s' m' σ' W' q => ?_)
  cases f with
  | next => exact q σ₀ s₀ s' R E W' k
  | brk => exact k _ _ _ _ W' q
  | cont => exact k _ _ _ _ W' q
  | ret v => exact k _ _ _ _ W' q
theorem TX_assign {x : Str} {pos' pos : Pos} {value : Expr} {Q : Flow → Loc → Ab → Prop} (hx : Sto env x) (h : TE C A env m value σ fun v σ' => Q .next ((x, v) :: m) σ')
    (hs : swapsWith value (some (.Name x pos')) pos.line env = pure false := by rfl) : TX C A env m (.Assign [.Name x pos'] value pos) σ Q := fun σ₀ s₀ s R E W k =>
  wpAny_Assign_Name (h.use W fun v s' σ' W' q => W'.store hx fun s'' W'' => k _ _ _ _ W'' q) hs
theorem TX_expr {e : Expr} {pos : Pos} {Q : Flow → Loc → Ab → Prop} (h : TE C A env m e σ fun _ σ' => Q .next m σ')
    (hi : interactive env = false := by rfl) (hs : swapsWith e none pos.line env = pure false := by rfl) : TX C A env m (.Expr e pos) σ Q := fun σ₀ s₀ s R E W k =>
  wpAny_Expr_any (h.use W fun v s' σ' W' q => k _ _ _ _ W' q) hi hs
theorem TX_ret {e : Expr} {pos : Pos} {Q : Flow → Loc → Ab → Prop} (h : TE C A env m e σ fun v σ' => Q (.ret v) m σ') : TX C A env m (.Return (some e) pos) σ Q := fun σ₀ s₀ s R E W k =>
  wpAny_Return_some (h.use W fun v s' σ' W' q => k _ _ _ _ W' q)
theorem TX_if {test : Expr} {body orelse : List Stmt} {pos : Pos} {Q : Flow → Loc → Ab → Prop} (h : TB C A env m test σ fun b σ' => if b = true then TXs C A env m body σ' Q else TXs C A env m orelse σ' Q) : TX C A env m (.If test body orelse pos) σ Q := fun σ₀ s₀ s R E W k =>
  wpAny_If (TF.use h W fun b s' σ' W' q => by
    cases b with
    | true => rw [if_pos rfl]; exact (show TXs C A env m body σ' Q by simpa using q) σ₀ s₀ s' R E W' k
    | false => rw [if_neg Bool.false_ne_true]; exact (show TXs C A env m orelse σ' Q by simpa using q) σ₀ s₀ s' R E W' k)
theorem TX_ifB {test : Expr} {body orelse : List Stmt} {pos : Pos} {b : Bool} {Q : Flow → Loc → Ab → Prop} (ht : EB C A env m σ test b) (h1 : b = true → TXs C A env m body σ Q) (h2 : b = false → TXs C A env m orelse σ Q) : TX C A env m (.If test body orelse pos) σ Q :=
  TX_if (ht.tb (by cases b with | true => rw [if_pos rfl]; exact h1 rfl | false => rw [if_neg Bool.false_ne_true]; exact h2 rfl))
theorem TX_pass {pos : Pos} {Q : Flow → Loc → Ab → Prop} (h : Q .next m σ) : TX C A env m (.Pass pos) σ Q := fun σ₀ s₀ s R E W k => wpAny_Pass (k _ _ _ _ W h)
theorem TX_continue {pos : Pos} {Q : Flow → Loc → Ab → Prop} (h : Q .cont m σ) : TX C A env m (.Continue pos) σ Q := fun σ₀ s₀ s R E W k => wpAny_Continue (k _ _ _ _ W h)
theorem TE_if {test a b : Expr} {pos : Pos} {Q : Value → Ab → Prop} {c : Bool} (ht : EB C A env m σ test c) (h1 : c = true → TE C A env m a σ Q) (h2 : c = false → TE C A env m b σ Q) : TE C A env m (.IfExp test a b pos) σ Q := fun σ₀ s₀ s R E W k =>
  wpAny_IfExp (ht.run W fun s' W' => by
    cases c with
    | true => rw [if_pos rfl]; exact h1 rfl σ₀ s₀ s' R E W' k
    | false => rw [if_neg Bool.false_ne_true]; exact h2 rfl σ₀ s₀ s' R E W' k)
theorem EV_if {test a b : Expr} {pos : Pos} {c : Bool} {v : Value} (ht : EB C A env m σ test c) (h1 : c = true → EV C A env m σ a v) (h2 : c = false → EV C A env m σ b v) : EV C A env m σ (.IfExp test a b pos) v :=
  fun Q q => TE_if ht (fun h => h1 h Q q) fun h => h2 h Q q
end
end J
end

section
open PySem PySem.W PySem.Calls PyProof.Rows
set_option Elab.async false
set_option linter.unusedVariables false
namespace J
section
variable {C : Cx} {A : Around} {env : Env} {m : Loc} {σ σ₀ σ' : Ab} {s s₀ s' : Shared}

/-- the locals that a call lays -/
def locOf (binds : List (Str × Value)) : Loc := (binds.map fun p => (p.1, nv p.2)).reverse
theorem lookup_locOf {binds : List (Str × Value)} {x : Str} {v : Value} (h : (locOf binds).lookup x = some v) : ∃ u, binds.reverse.lookup x = some u ∧ nv u = v := by
  unfold locOf at h
  rw [← List.map_reverse] at h
  generalize binds.reverse = l at h ⊢
  induction l with
  | nil => cases h
  | cons p r ih =>
    obtain ⟨y, u⟩ := p
    rw [List.map_cons, List.lookup_cons] at h
    rw [List.lookup_cons]
    cases q : x == y with
    | true => rw [q] at h; exact ⟨u, rfl, by simpa using h⟩
    | false => rw [q] at h; exact ih h

theorem Wv.size (W : Wv C A σ₀ s₀ σ s) : C.h₀.get? s.heap.objs.size = none := by
  cases q : C.h₀.get? s.heap.objs.size with
  | none => rfl
  | some o => exact absurd (Heap.lt_size (W.st.keep _ _ q)) (Nat.lt_irrefl _)

/-- a call, as code -/
def TC (C : Cx) (A : Around) (f : Value) (us : List Value) (σ : Ab) (Q : Value → Ab → Prop) : Prop :=
  ∀ σ₀ s₀ s (R : Value → Shared → Prop) (E : Value → Shared → Prop), Wv C A σ₀ s₀ σ s → (∀ v s' σ', Wv C A σ₀ s₀ σ' s' → Q (nv v) σ' → R v s') →
    codeAny C.M A (.call f ⟨us, []⟩) (fun r s' => match r with | .ok (.ret v) => R v s' | .ok _ => False | .error e => E e s') s
theorem TC.tv {f : Value} {us : List Value} {Q : Value → Ab → Prop} (h : TC C A f us σ Q) : TV C A (call f us) nv σ Q := fun σ₀ s₀ s R E W k => wpAny_call (h σ₀ s₀ s R E W k)
/-- a call of a def of the text -/
theorem TC_call {f : Addr} {oc : Value} {od : Option Addr} {osl : Array (Option Value)} {fd : FuncData} {body : List Stmt} {args : List Value} {binds : List (Str × Value)} {Q : Value → Ab → Prop}
    (hA : A.depth < recursionLimit) (hf : C.K.lookup f = some ⟨oc, od, .func fd, osl⟩) (hcd : codeIn C.K fd.code fd.qualname = true) (hbody : fd.body = .stmts body)
    (hb : ∀ S, peek C.K S (bindArgs fd ⟨args, []⟩) = some binds) (hcell : ∀ x ∈ fd.scope.names, x.2 ≠ .cell) (hloc : ∀ x ∈ binds, fd.scope.names.lookup x.1 = some .local)
    (h : ∀ L, ¬ dom σ L → TXs C (A.deeper (callEnv fd L f)) (callEnv fd L f) (locOf binds) body σ fun fl _ σ' => Q (match fl with | .ret v => v | _ => .none) σ')
    (hco : fd.scope.isCoroutine = false := by rfl) (hgen : fd.scope.isGenerator = false := by rfl) (hk : fd.scope.kind = .function := by rfl)
    (hgl : fd.globals = mainGlobals := by rfl) (hbi : fd.builtins = builtinsNs := by rfl) (hcl : fd.closure = [] := by rfl) : TC C A (.ref f) args σ Q := fun σ₀ s₀ s R E W k => by
  have nL : ¬ dom σ s.heap.objs.size := W.st.fresh (Nat.le_refl _)
  have hL0 : C.h₀.get? s.heap.objs.size = none := W.size
  have hown : ∀ b, own (callEnv fd s.heap.objs.size f) b ↔ b = s.heap.objs.size := fun b => by
    unfold own callEnv newEnv
    simp [hcl]
  refine codeAny_call_def hA (W.st.K _ _ hf) rfl (C.T.nolimit.keeps W.st.keep) (codeRec_of W.st.K hcd) hbody (kp_binds W.st.K hb) hcell hloc (fun h₁ hns hk₁ => ?_) hco hgen hk
  have S₁ : St C σ h₁ := W.st.ext hk₁
  have O₁ : FOk C (callEnv fd s.heap.objs.size f) (locOf binds) σ h₁ := by
    refine ⟨hk, hgl, hbi, fun b hb => ?_, ⟨_, hns, fun x v hx _ => ?_⟩, fun x c hc => ?_, fun x v hx hkk => ?_, fun x y c hc _ => ?_⟩
    · rw [(hown b).mp hb]; exact ⟨nL, hL0⟩
    · exact lookup_locOf hx
    · exact absurd hc (by unfold callEnv newEnv; simp [hcl])
    · obtain ⟨u, hu, _⟩ := lookup_locOf hx
      have hmem : (x, u) ∈ binds := List.mem_reverse.mp (by
        have : ∀ l : List (Str × Value), l.lookup x = some u → (x, u) ∈ l := fun l => by
          induction l with
          | nil => intro q; cases q
          | cons p r ih =>
            intro q
            obtain ⟨y, w⟩ := p
            rw [List.lookup_cons] at q
            cases z : x == y with
            | true => rw [z] at q; cases q; rw [eq_of_beq z]; exact .head _
            | false => rw [z] at q; exact .tail _ (ih q)
        exact this _ hu)
      have := hloc _ hmem
      have hkk' : fd.scope.names.lookup x = some .cell ∨ fd.scope.names.lookup x = some .free := hkk
      rw [this] at hkk'
      rcases hkk' with q | q <;> cases q
    · exact absurd hc (by unfold callEnv newEnv; simp [hcl])
  have F₁ : Fs C (A.deeper (callEnv fd s.heap.objs.size f)) σ h₁ := by
    obtain ⟨l, hl, hf, hd⟩ := W.fs
    refine ⟨callEnv fd s.heap.objs.size f :: l, Around.frames_deeper hl, .cons (L := s.heap.objs.size) (by show fd.scope.kind ≠ .module; rw [hk]; decide) rfl hns hL0 (FunFrames.turn hf fun e he L o hL ho hv => ⟨o, hk₁ L o ho, hv⟩), fun e he L hL => ?_⟩
    rcases List.mem_cons.mp he with rfl | he
    · obtain rfl : s.heap.objs.size = L := Option.some.inj hL
      exact nL
    · exact hd e he L hL
  refine h _ nL σ { s with heap := h₁, toks := s.toks + binds.length } _ _ _ ⟨S₁, F₁, O₁, Mv.refl ..⟩ fun fl s' m' σ' W' q => ?_
  have M : Mv (Fz A) No σ σ' s s' := by
    have nown : ∀ b o, s.heap.get? b = some o → ¬ own (callEnv fd s.heap.objs.size f) b := fun b o e z => by
      rw [(hown b).mp z] at e
      exact absurd (Heap.lt_size e) (Nat.lt_irrefl _)
    refine ⟨fun b o e n _ z => W'.mv.kp b o (hk₁ b o e) n (nown b o e) fun ⟨l, hl, e', he', hf'⟩ => ?_, fun b o e n _ => W'.mv.zs b o (hk₁ b o e) n (nown b o e), fun b o e n => W'.mv.fr b o (hk₁ b o e) n, W'.mv.os, W'.mv.gen⟩
    obtain ⟨l0, hl0, _⟩ := W.fs
    rw [Around.frames_deeper hl0] at hl; cases hl
    rcases List.mem_cons.mp he' with rfl | h
    · obtain rfl : s.heap.objs.size = b := Option.some.inj hf'
      exact absurd (Heap.lt_size e) (Nat.lt_irrefl _)
    · exact z ⟨l0, hl0, e', h, hf'⟩
  cases fl with
  | ret v => exact k v s' σ' (W.go W'.st M) q
  | next => exact k .none s' σ' (W.go W'.st M) q
  | brk => exact k .none s' σ' (W.go W'.st M) q
  | cont => exact k .none s' σ' (W.go W'.st M) q

-- ARGUMENTS
abbrev TAs (C : Cx) (A : Around) (env : Env) (m : Loc) (pos : Pos) (es : List Expr) (σ : Ab) (Q : List Value → Ab → Prop) : Prop := TF C A env m (spliced (backTo pos (starEach es env))) (List.map nv) σ Q
theorem TAs_nil {pos : Pos} {Q : List Value → Ab → Prop} (h : Q [] σ) : TAs C A env m pos [] σ Q := fun σ₀ s₀ s R E W k => spliced_none (k [] s σ W h)
theorem TAs_cons {pos : Pos} {e : Expr} {es : List Expr} {Q : List Value → Ab → Prop} (h : TE C A env m e σ fun v σ' => TAs C A env m pos es σ' fun vs σ'' => Q (v :: vs) σ'')
    (he : starEach (e :: es) env = (false, eval e env) :: starEach es env := by rfl) : TAs C A env m pos (e :: es) σ Q := fun σ₀ s₀ s R E W k =>
  spliced_more (h σ₀ s₀ s _ E W fun v s' σ' W' q => q σ₀ s₀ s' _ E W' fun vs s'' σ'' W'' q' => k (v :: vs) s'' σ'' W'' q') he
/-- the arguments are all read-only -/
inductive EVs (C : Cx) (A : Around) (env : Env) (m : Loc) (σ : Ab) : List Expr → List Value → Prop
  | nil : EVs C A env m σ [] []
  | cons {e : Expr} {es : List Expr} {v : Value} {vs : List Value} : EV C A env m σ e v → EVs C A env m σ es vs → starEach (e :: es) env = (false, eval e env) :: starEach es env → EVs C A env m σ (e :: es) (v :: vs)
theorem EVs.tas {pos : Pos} {es : List Expr} {vs : List Value} {Q : List Value → Ab → Prop} (h : EVs C A env m σ es vs) (q : Q vs σ) : TAs C A env m pos es σ Q := by
  induction h generalizing Q with
  | nil => exact TAs_nil q
  | cons he hs hx ih => exact TAs_cons (he.te (ih q)) hx

/-- f is called with the values as; the answer, whatever tokens they bear -/
def CallR (C : Cx) (A : Around) (f : Value) (as : List Value) (σ : Ab) (Q : Value → Ab → Prop) : Prop := ∀ us, us.map nv = as → TV C A (call f us) nv σ Q

theorem CallR.run {f : Value} {as us : List Value} {Q : Value → Ab → Prop} (h : CallR C A f as σ Q) (hu : us.map nv = as) (W : Wd C A env m σ₀ s₀ σ s) {R : Value → Shared → Prop} {E : Value → Shared → Prop}
    (k : ∀ v s' σ', Wd C A env m σ₀ s₀ σ' s' → Q (nv v) σ' → R v s') : wpAny C.M A (call f us) R E s := (h us hu).tf σ₀ s₀ s R E W k
theorem callWith_own0 {pos : Pos} {f : Value} {first : List Value} {Q : Value → Ab → Prop} (hk : keepIn C.K f = true) (h : CallR C A f (first.map nv) σ Q) :
    TF C A env m (callWith pos f first (backTo pos (starEach [] env)) []) nv σ Q := fun σ₀ s₀ s R E W k =>
  callWith_K0 W.st.K hk (h.run (by simp) W k)
theorem callWith_own {pos : Pos} {f : Value} {first : List Value} {e : Expr} {es : List Expr} {Q : Value → Ab → Prop} (hk : keepIn C.K f = true)
    (h : TAs C A env m pos (e :: es) σ fun vs σ' => CallR C A f (first.map nv ++ vs) σ' Q)
    (he : starEach (e :: es) env = (false, eval e env) :: starEach es env := by rfl) (hp : (backTo pos (starEach es env)).any (·.1) = false := by rfl) :
    TF C A env m (callWith pos f first (backTo pos (starEach (e :: es) env)) []) nv σ Q := fun σ₀ s₀ s R E W k =>
  callWith_K C.X hk (h σ₀ s₀ s _ E W fun vs s' σ' W' q => ⟨W'.st.K, q.run (by simp) W' k⟩) he hp

/-- a call of a def or class by its global name -/
theorem TE_call {x : Str} {p pos : Pos} {f : Value} {e : Expr} {es : List Expr} {Q : Value → Ab → Prop} (hf : EV C A env m σ (.Name x p) f) (hr : nv f = f → ∀ u, nv u = f → u = f) (hk : keepIn C.K f = true) (hn : nv f = f)
    (h : TAs C A env m pos (e :: es) σ fun vs σ' => CallR C A f vs σ' Q)
    (he : starEach (e :: es) env = (false, eval e env) :: starEach es env := by rfl) (hp : (backTo pos (starEach es env)).any (·.1) = false := by rfl) :
    TE C A env m (.Call (.Name x p) (e :: es) [] pos) σ Q := fun σ₀ s₀ s R E W k =>
  wpAny_Call_NameR (hf.run W fun u s₁ hu W₁ => by
    obtain rfl := hr hn u hu
    exact callWith_own (first := []) hk h he hp σ₀ s₀ s₁ R E W₁ k)
theorem TE_call0 {x : Str} {p pos : Pos} {f : Value} {Q : Value → Ab → Prop} (hf : EV C A env m σ (.Name x p) f) (hr : nv f = f → ∀ u, nv u = f → u = f) (hk : keepIn C.K f = true) (hn : nv f = f)
    (h : CallR C A f [] σ Q) : TE C A env m (.Call (.Name x p) [] [] pos) σ Q := fun σ₀ s₀ s R E W k =>
  wpAny_Call_NameR (hf.run W fun u s₁ hu W₁ => by
    obtain rfl := hr hn u hu
    exact callWith_own0 (first := []) hk h σ₀ s₀ s₁ R E W₁ k)

-- METHODS of own classes
def methIn (K : Frag) (C : Addr) (x : Str) (f : Addr) : Bool := plainGet K C x && findIn K (.ref C) x == some (some (.ref f)) && typeIn K (.ref f) == some (.type "function") && keepIn K (.ref f)
theorem getMethod_inst {a K f : Addr} {fs : Loc} {x : Str} {pl : Sem Bool} (S : St C σ s.heap) (e : σ a = some (.inst K fs)) (hx : fs.lookup x = none) (hk : methIn C.K K x f = true) {R : Value × List Value → Shared → Prop} {E : Value → Shared → Prop}
    (k : R (.ref f, [.ref a]) s) : wpAny C.M A (getMethod (.ref a) x pl) R E s := by
  obtain ⟨d, m, rfl, ho, ⟨od, es, ep, hd, hdat, hk', hu, hm⟩, hf⟩ := S.rep a _ e
  unfold methIn at hk
  simp only [Bool.and_eq_true, beq_iff_eq] at hk
  obtain ⟨⟨⟨h1, h2⟩, h3⟩, h4⟩ := hk
  refine method_fn (od := some od) S.K ⟨ho, rfl, rfl, hd⟩ (plainGet_of h1).1 (plainGet_of h1).2 h2 h3 ?_ k
  have hn := hm x
  have := hf x
  rw [hx] at this
  have hmx : m x = none := by cases q : m x with | none => rfl | some u => rw [q] at this; cases this
  rw [hmx] at hn
  show (lookIn x od).map _ = _
  unfold lookIn
  rw [hdat]
  unfold nsFind findBy at hn
  rw [← Array.find?_toList] at hn
  dsimp only
  cases hz : es.toList.find? (·.key.isStr x) with
  | some en => rw [hz] at hn; cases hn
  | none =>
    have : es.toList.any (·.refKey) = false := by
      rw [List.any_eq_false]
      intro en he
      obtain ⟨n, t, h⟩ := hk' en (Array.mem_toList_iff.mp he)
      simp [DictEntry.refKey, h]
    simp [this]
/-- o.x(e, ..) of an object -/
theorem TE_meth {o : Expr} {x : Str} {apos pos : Pos} {a K f : Addr} {fs : Loc} {e : Expr} {es : List Expr} {pl : Sem Bool} {Q : Value → Ab → Prop} (ho : EV C A env m σ o (.ref a)) (hi : σ a = some (.inst K fs)) (hx : fs.lookup x = none) (hk : methIn C.K K x f = true)
    (h : TAs C A env m pos (e :: es) σ fun vs σ' => CallR C A (.ref f) (.ref a :: vs) σ' Q)
    (he : eval (.Call (.Attribute o x apos) (e :: es) [] pos) env = (do
      let ov ← eval o env
      standAt apos.atName
      let (f, first) ← holding [ov] (getMethod ov x pl)
      callWith pos f first (backTo pos (starEach (e :: es) env)) []) := by rfl)
    (he' : starEach (e :: es) env = (false, eval e env) :: starEach es env := by rfl) (hp : (backTo pos (starEach es env)).any (·.1) = false := by rfl) :
    TE C A env m (.Call (.Attribute o x apos) (e :: es) [] pos) σ Q := fun σ₀ s₀ s R E W k =>
  MethodCall_ (ho.run W fun u s₁ hu W₁ => by
    obtain rfl := nv_to_ref hu
    refine getMethod_inst W₁.st hi hx hk ?_
    unfold methIn at hk
    simp only [Bool.and_eq_true] at hk
    exact callWith_own (first := [.ref a]) hk.2 h he' hp σ₀ s₀ s₁ R E W₁ k) he
theorem TE_meth0 {o : Expr} {x : Str} {apos pos : Pos} {a K f : Addr} {fs : Loc} {pl : Sem Bool} {Q : Value → Ab → Prop} (ho : EV C A env m σ o (.ref a)) (hi : σ a = some (.inst K fs)) (hx : fs.lookup x = none) (hk : methIn C.K K x f = true)
    (h : CallR C A (.ref f) [.ref a] σ Q)
    (he : eval (.Call (.Attribute o x apos) [] [] pos) env = (do
      let ov ← eval o env
      standAt apos.atName
      let (f, first) ← holding [ov] (getMethod ov x pl)
      callWith pos f first (backTo pos (starEach [] env)) []) := by rfl) :
    TE C A env m (.Call (.Attribute o x apos) [] [] pos) σ Q := fun σ₀ s₀ s R E W k =>
  MethodCall_ (ho.run W fun u s₁ hu W₁ => by
    obtain rfl := nv_to_ref hu
    refine getMethod_inst W₁.st hi hx hk ?_
    unfold methIn at hk
    simp only [Bool.and_eq_true] at hk
    exact callWith_own0 (first := [.ref a]) hk.2 h σ₀ s₀ s₁ R E W₁ k) he
end
end J
end

section
open PySem PySem.W PySem.Calls PyProof.Rows
set_option Elab.async false
set_option linter.unusedVariables false
namespace J
section
variable {C : Cx} {A : Around} {env : Env} {m : Loc} {σ σ₀ σ' : Ab} {s s₀ s' : Shared}

-- a field of an object turns
theorem St.updInst {h h' : Heap} (S : St C σ h) {d K : Addr} {fs fs' : Loc} (e : σ (d + 1) = some (.inst K fs)) (k : ∀ b o, b ≠ d → h.get? b = some o → h'.get? b = some o) (r : RO C h' (d + 1) (.inst K fs')) : St C (σ.put (d + 1) (.inst K fs')) h' := by
  have nd : σ d = Option.none := S.sep d K fs e
  have dd : dom σ d := .inr ⟨K, fs, e⟩
  have hdom : ∀ b, dom (σ.put (d + 1) (.inst K fs')) b → dom σ b := by
    rintro b (⟨o', q⟩ | ⟨K', fs2, q⟩)
    · by_cases z : b = d + 1
      · subst z; exact dom_of e
      · rw [put_ne z] at q; exact .inl ⟨o', q⟩
    · by_cases z : b + 1 = d + 1
      · obtain rfl : b = d := Nat.add_right_cancel z; exact dd
      · rw [put_ne z] at q; exact .inr ⟨K', fs2, q⟩
  refine ⟨fun b o q => k b o ?_ (S.keep b o q), fun b o q => ?_, fun b db => S.new b (hdom b db), fun b K' fs2 q => ?_⟩
  · rintro rfl; rw [S.new b dd] at q; cases q
  · by_cases z : b = d + 1
    · subst z; rw [put_same] at q; cases q; exact r
    · rw [put_ne z] at q
      refine (S.rep b o q).keeps (fun o' => k b o' (fun w => by rw [w, nd] at q; cases q)) fun d' o' hd hi hg => k d' o' (fun w => z (by rw [hd, w])) hg
  · by_cases z : b + 1 = d + 1
    · obtain rfl : b = d := Nat.add_right_cancel z
      rw [put_ne (Nat.ne_of_lt (Nat.lt_succ_self b))]; exact nd
    · rw [put_ne z] at q
      have := S.sep b K' fs2 q
      by_cases z' : b = d + 1
      · rw [z'] at this; rw [this] at e; cases e
      · rw [put_ne z']; exact this
theorem Mv.updInst {Z P : Addr → Prop} {d K : Addr} {fs fs' : Loc} (e : σ (d + 1) = some (.inst K fs)) {h' : Heap} {tk : Nat} (k : ∀ b o, b ≠ d → s.heap.get? b = some o → h'.get? b = some o) :
    Mv Z P σ (σ.put (d + 1) (.inst K fs')) s { s with heap := h', toks := tk } := by
  have dd : dom σ d := .inr ⟨K, fs, e⟩
  refine Mv.heap (fun b o q n _ => k b o (fun z => n (z ▸ dd)) q) fun b o q n => ⟨?_, o, k b o (fun z => n (z ▸ dd)) q⟩
  rintro (⟨o', w⟩ | ⟨K', fs2, w⟩)
  · by_cases z : b = d + 1
    · subst z; exact n (dom_of e)
    · rw [put_ne z] at w; exact n (.inl ⟨o', w⟩)
  · by_cases z : b + 1 = d + 1
    · obtain rfl : b = d := Nat.add_right_cancel z; exact n dd
    · rw [put_ne z] at w; exact n (.inr ⟨K', fs2, w⟩)

def setsIn (K : Frag) (C : Addr) (x : Str) : Bool := findIn K (.ref C) "__setattr__" == some (some (.builtin "object.__setattr__")) && plainOver K C && takerIn K C x == some none && (clsIn K C).any (·.hasDict)
theorem within_of {mA : Str → Option Value} {fs : Loc} (h : ∀ x, (mA x).map nv = fs.lookup x) : Within mA (fs.map (·.1)) := fun y hy => by
  have := h y
  cases q : mA y with
  | none => exact absurd q hy
  | some u =>
    rw [q] at this
    have : ∀ l : Loc, l.lookup y = some (nv u) → y ∈ l.map (·.1) := fun l => by
      induction l with
      | nil => intro z; cases z
      | cons p r ih =>
        intro z
        obtain ⟨x, w⟩ := p
        rw [List.lookup_cons] at z
        cases c : y == x with
        | true => rw [eq_of_beq c]; exact .head _
        | false => rw [c] at z; exact .tail _ (ih z)
    exact this fs (by rw [← ‹Option.map nv (some u) = fs.lookup y›]; rfl)
open Builtin Builtin.ObjectAttr in
theorem setAttr_inst {a K : Addr} {fs : Loc} {x : Str} {u : Value} (W : Wd C A env m σ₀ s₀ σ s) (e : σ a = some (.inst K fs)) (hk : setsIn C.K K x = true) (hz : fs.length ≤ 1000)
    {R : Unit → Shared → Prop} {E : Value → Shared → Prop} (k : ∀ s', Wd C A env m σ₀ s₀ (σ.put a (.inst K ((x, nv u) :: fs))) s' → R () s') : wpAny C.M A (setAttr (.ref a) x u) R E s := by
  obtain ⟨d, mA, rfl, ho, hn, hf⟩ := W.st.rep a _ e
  obtain ⟨od, es, ep, hd, hdat, hk', hu, hm⟩ := id hn
  unfold setsIn at hk
  simp only [Bool.and_eq_true, beq_iff_eq] at hk
  obtain ⟨⟨⟨h1, h2⟩, h3⟩, h4⟩ := hk
  obtain ⟨cd, hc, hd'⟩ := any_some h4
  have I : InstAt s.heap (d + 1) (instObj K d) K (some od) := ⟨ho, rfl, rfl, hd⟩
  refine set_plain W.st.K I h1 (osa_open (s := { s with toks := s.toks + 1 }) W.st.K I h2 h3 fun b => ?_)
  refine wpAny_bind (wpAny_pure (wpAny_bind (wpAny_bind (wpAny_loadPart ho (wpAny_bind ((looks_clsIn W.st.K hc) _ _ _ _ (fun _ _ e => e) ?_))))))
  rw [hd']
  refine wpAny_pure (a := some d) (wpAny_bind (wpAny_pure (wpAny_bind ?_)))
  refine wpAny_nsSet1 hn fun h' hn' hs => ?_
  obtain ⟨oD, esD, epD, hoD, hdD, hcD⟩ := hn'.count (Within.cons x u (within_of hf))
  refine wpAny_bind (wpAny_lookBehind hoD (by rw [hdD]; exact pastItsLine_dict (Nat.le_trans hcD (by rw [List.length_cons, List.length_map, sizeLine_eq]; omega))) ?_)
  refine wpAny_pure ?_
  have kk : ∀ b o, b ≠ d → s.heap.get? b = some o → h'.get? b = some o := fun b o hb q => (hs.2 b hb).trans q
  refine k _ (W.go (s' := { s with heap := h', toks := _ }) (W.st.updInst e kk ⟨d, _, rfl, kk _ _ (Nat.ne_of_gt (Nat.lt_succ_self d)) ho, hn', fun y => ?_⟩) (Mv.updInst e kk))
  by_cases q : y = x
  · subst q; rw [lookup_cons_self]; simp
  · rw [lookup_cons_ne q, if_neg q]; exact hf y
theorem TX_setAttr {o value : Expr} {x : Str} {pos' pos : Pos} {Q : Flow → Loc → Ab → Prop}
    (h : TE C A env m value σ fun v σ' => ∃ a K fs, EV C A env m σ' o (.ref a) ∧ σ' a = some (.inst K fs) ∧ setsIn C.K K x = true ∧ fs.length ≤ 1000 ∧ Q .next m (σ'.put a (.inst K ((x, v) :: fs))))
    (hs : swapsWith value (some (.Attribute o x pos')) pos.line env = pure false := by rfl) : TX C A env m (.Assign [.Attribute o x pos'] value pos) σ Q := fun σ₀ s₀ s R E W k =>
  plainObj_wpAny_Assign_Attribute (h.use W fun v s₁ σ₁ W₁ ⟨a, K, fs, ho, e, hk, hz, q⟩ => ho.run W₁.wd fun u s₂ hu W₂ => by
    obtain rfl := nv_to_ref hu
    exact setAttr_inst W₂ e hk hz fun s₃ W₃ => k _ _ _ _ (W₁.step W₃) q) hs

-- a new object
theorem TC_make {Ca fI : Addr} {us : List Value} {Q : Value → Ab → Prop} (hm : makesIn C.K Ca = true) (hi : findIn C.K (.ref Ca) "__init__" = some (some (.ref fI))) (hf : typeIn C.K (.ref fI) = some (.type "function"))
    (h : ∀ a, σ a = none → TC C (A.under (.builtin "type.__call__" ⟨.ref Ca :: us, []⟩)) (.ref fI) (.ref a :: us) (σ.put a (.inst Ca [])) fun v σ' => v = .none ∧ Q (.ref a) σ') : TC C A (.ref Ca) us σ Q := fun σ₀ s₀ s R E W k => by
  have S := W.st
  have n0 := S.fresh (Nat.le_refl s.heap.objs.size)
  have n1 := S.fresh (Nat.le_succ s.heap.objs.size)
  have e0 := S.none (Nat.le_refl s.heap.objs.size)
  have e1 := S.none (Nat.le_succ s.heap.objs.size)
  have e2 := S.none (Nat.le_succ_of_le (Nat.le_succ s.heap.objs.size))
  have kk : ∀ b o, s.heap.get? b = some o → ((s.heap.push emptyDict).push (instObj Ca s.heap.objs.size)).get? b = some o := fun b o e => Heap.get?_push_of_some _ (Heap.get?_push_of_some _ e)
  have hx : ((s.heap.push emptyDict).push (instObj Ca s.heap.objs.size)).get? (s.heap.objs.size + 1) = some (instObj Ca s.heap.objs.size) := by
    have := Heap.get?_push_size (s.heap.push emptyDict) (o := instObj Ca s.heap.objs.size) rfl
    rwa [Heap.size_push] at this
  have hd : ((s.heap.push emptyDict).push (instObj Ca s.heap.objs.size)).get? s.heap.objs.size = some emptyDict := Heap.get?_push_of_some _ (Heap.get?_push_size _ rfl)
  have hns : ((s.heap.push emptyDict).push (instObj Ca s.heap.objs.size)).Ns1 s.heap.objs.size fun _ => none := .of_empty ⟨_, #[], 0, hd, rfl, fun _ he => by simp at he, fun _ => rfl⟩
  have hdom : ∀ b, dom (σ.put (s.heap.objs.size + 1) (.inst Ca [])) b → b = s.heap.objs.size ∨ b = s.heap.objs.size + 1 ∨ dom σ b := by
    rintro b (⟨o', w⟩ | ⟨K', fs2, w⟩)
    · by_cases z : b = s.heap.objs.size + 1
      · exact .inr (.inl z)
      · rw [put_ne z] at w; exact .inr (.inr (.inl ⟨o', w⟩))
    · by_cases z : b + 1 = s.heap.objs.size + 1
      · exact .inl (Nat.add_right_cancel z)
      · rw [put_ne z] at w; exact .inr (.inr (.inr ⟨K', fs2, w⟩))
  have S₁ : St C (σ.put (s.heap.objs.size + 1) (.inst Ca [])) ((s.heap.push emptyDict).push (instObj Ca s.heap.objs.size)) := by
    have S' := S.ext kk
    refine ⟨S'.keep, fun b o q => ?_, fun b db => ?_, fun b K' fs2 q => ?_⟩
    · by_cases z : b = s.heap.objs.size + 1
      · subst z; rw [put_same] at q; cases q
        exact ⟨s.heap.objs.size, _, rfl, hx, hns, fun _ => rfl⟩
      · rw [put_ne z] at q; exact S'.rep b o q
    · rcases hdom b db with rfl | rfl | d
      · exact W.size
      · cases q : C.h₀.get? (s.heap.objs.size + 1) with
        | none => rfl
        | some o => exact absurd (Heap.lt_size (S.keep _ _ q)) (Nat.not_lt.mpr (Nat.le_succ _))
      · exact S.new b d
    · by_cases z : b + 1 = s.heap.objs.size + 1
      · obtain rfl := Nat.add_right_cancel z
        rw [put_ne (Nat.ne_of_lt (Nat.lt_succ_self _))]; exact e0
      · rw [put_ne z] at q
        have := S.sep b K' fs2 q
        by_cases z' : b = s.heap.objs.size + 1
        · rw [z', e2] at q; cases q
        · rw [put_ne z']; exact this
  have M₁ : Mv (Fz A) No σ (σ.put (s.heap.objs.size + 1) (.inst Ca [])) s { s with heap := (s.heap.push emptyDict).push (instObj Ca s.heap.objs.size) } := by
    have := Mv.heap (Z := Fz A) (P := No) (σ := σ) (σ' := σ.put (s.heap.objs.size + 1) (.inst Ca [])) (s := s) (tk := s.toks) (h' := (s.heap.push emptyDict).push (instObj Ca s.heap.objs.size)) (fun b o e _ _ => kk b o e) fun b o e n => ⟨fun d => by
      rcases hdom b d with rfl | rfl | d
      · exact absurd (Heap.lt_size e) (Nat.lt_irrefl _)
      · exact absurd (Heap.lt_size e) (Nat.not_lt.mpr (Nat.le_succ _))
      · exact n d, o, kk b o e⟩
    exact this
  have W₁ := W.go (s' := { s with heap := (s.heap.push emptyDict).push (instObj Ca s.heap.objs.size) }) S₁ M₁
  have z := h (s.heap.objs.size + 1) e1
  refine make_core (h := s.heap) (g := s.gens) (d := s.drawn) (t := s.toks) (os := s.os) (makes_of S.K hm) (looks_findIn S.K hi) (fun self => bind_fn S.K self hf) (.inl rfl) ?_
  refine codeAny_mono (z σ₀ s₀ _ (fun v s' => v = .none ∧ R (.ref (s.heap.objs.size + 1)) s') E ⟨W₁.st, (by obtain ⟨l, hl, hr⟩ := W₁.fs; exact ⟨l, hl, hr⟩), W₁.mv⟩ fun v s' σ' W' q => ⟨nv_to_none q.1, k _ s' σ' ⟨W'.st, (by obtain ⟨l, hl, hr⟩ := W'.fs; exact ⟨l, hl, hr⟩), W'.mv⟩ q.2⟩) fun r s' x => ?_
  rcases r with e | (_ | _ | _ | v)
  · exact x
  · exact x
  · exact x
  · exact x
  · exact x
end
end J
end

section
open PySem PySem.W PySem.Calls PyProof.Rows
set_option Elab.async false
set_option linter.unusedVariables false
namespace J
section
variable {C : Cx} {A : Around} {env : Env} {m : Loc} {σ σ₀ σ' : Ab} {s s₀ s' : Shared}

theorem Wx.trans (W : Wx C A env m σ₀ s₀ σ s) {m' : Loc} (x : Wx C A env m' σ s σ' s') : Wx C A env m' σ₀ s₀ σ' s' := ⟨x.st, x.fs, x.ok, W.mv.trans x.mv⟩
theorem Wx.self (W : Wx C A env m σ₀ s₀ σ s) : Wx C A env m σ s σ s := ⟨W.st, W.fs, W.ok, Mv.refl ..⟩
theorem TS.run {α β : Type} {t : Sem α} {n : α → β} {Q : β → Loc → Ab → Prop} (h : TS C A env m t n σ Q) (W : Wx C A env m σ₀ s₀ σ s) {R : α → Shared → Prop} {E : Value → Shared → Prop}
    (k : ∀ v s' m' σ', Wx C A env m' σ₀ s₀ σ' s' → Mv (Fz A) (own env) σ σ' s s' → Q (n v) m' σ' → R v s') : wpAny C.M A t R E s :=
  h σ s s R E W.self fun v s' m' σ' W' q => k v s' m' σ' (W.trans W') W'.mv q

/-- an address that only the loop knows -/
structure Off (C : Cx) (A : Around) (env : Env) (σ : Ab) (I : Addr) : Prop where
  nd : ¬ dom σ I
  no : ¬ own env I
  nh : C.h₀.get? I = none
  nf : ∀ l, A.frames = some l → ∀ e ∈ l, e.frame ≠ some I
theorem Off.nz {I : Addr} (x : Off C A env σ I) : ¬ Fz A I := fun ⟨l, hl, e, he, q⟩ => x.nf l hl e he q
theorem Off.mv {P : Addr → Prop} {I : Addr} (x : Off C A env σ I) (M : Mv (Fz A) P σ σ' s s') (a : ∃ o, s.heap.get? I = some o) : Off C A env σ' I := ⟨let ⟨o, e⟩ := a; (M.fr I o e x.nd).1, x.no, x.nh, x.nf⟩
theorem Wx.off (W : Wx C A env m σ₀ s₀ σ s) {I : Addr} (x : Off C A env σ I) (h0 : s₀.heap.get? I = none) {h' : Heap} {tk : Nat} (hs : ∀ b o, b ≠ I → s.heap.get? b = some o → h'.get? b = some o) : Wx C A env m σ₀ s₀ σ { s with heap := h', toks := tk } := by
  have hI : ∀ b, own env b → b ≠ I := fun b hb q => x.no (q ▸ hb)
  refine ⟨W.st.keeps fun b o hb e => hs b o ?_ e, ?_, W.ok.keeps (fun b o hb e => hs b o (hI b hb) e) fun b hb => (W.ok.nd b hb).1, ?_⟩
  · rintro rfl
    rcases hb with d | q
    · exact x.nd d
    · rw [x.nh] at q; cases q
  · obtain ⟨l, hl, hf, hd⟩ := W.fs
    exact ⟨l, hl, FunFrames.turn hf fun e he L o hL ho hv => ⟨o, hs L o (fun q => x.nf l hl e he (q ▸ hL)) ho, hv⟩, hd⟩
  · refine ⟨fun b o e n p z => hs b o (fun q => ?_) (W.mv.kp b o e n p z), fun b o e n p hd => ?_, fun b o e n => ⟨(W.mv.fr b o e n).1, ?_⟩, W.mv.os, W.mv.gen⟩
    · rw [q, h0] at e; cases e
    · obtain ⟨sl, e'⟩ := W.mv.zs b o e n p hd
      exact ⟨sl, hs b _ (fun q => by rw [q, h0] at e; cases e) e'⟩
    · obtain ⟨o', e'⟩ := (W.mv.fr b o e n).2
      exact ⟨o', hs b o' (fun q => by rw [q, h0] at e; cases e) e'⟩

/-- an iterator: its own object is at I; P i: i items are drawn; Sd: what it asks of σ -/
structure Iter (C : Cx) (A : Around) (it : Value) (I : Addr) (n : Nat) (val : Nat → Value) (P : Nat → Heap → Prop) (Sd : Ab → Prop) : Prop where
  next : ∀ i σ s (R : Option Value → Shared → Prop) (E : Value → Shared → Prop), i < n → P i s.heap → St C σ s.heap → Sd σ →
    (∀ u h' tk, nv u = val i → P (i + 1) h' → (∀ b o, b ≠ I → s.heap.get? b = some o → h'.get? b = some o) → R (some u) { s with heap := h', toks := tk }) → wpAny C.M A (pyNext it) R E s
  stop : ∀ σ s (R : Option Value → Shared → Prop) (E : Value → Shared → Prop), P n s.heap → St C σ s.heap → Sd σ →
    (∀ h' tk, (∀ b o, b ≠ I → s.heap.get? b = some o → h'.get? b = some o) → R none { s with heap := h', toks := tk }) → wpAny C.M A (pyNext it) R E s
  keep : ∀ i h h', P i h → (∀ o, h.get? I = some o → h'.get? I = some o) → P i h'
  alive : ∀ i h, P i h → ∃ o, h.get? I = some o
  owned : ∀ target i s v (R : Unit → Shared → Prop) (E : Value → Shared → Prop), P i s.heap → R () s → wpAny C.M A (letOwnedTupleGo target it v) R E s
  self : ∀ i s (R : Value → Shared → Prop) (E : Value → Shared → Prop), P i s.heap → R it s → wpAny C.M A (pyIter it) R E s

/-- the loop from the iterator on -/
theorem forLoop_core {target : Expr} {it : Value} {I : Addr} {n : Nat} {val : Nat → Value} {P : Nat → Heap → Prop} {Sd : Ab → Prop} {body : List Stmt} {Q : Flow → Loc → Ab → Prop} (T : Iter C A it I n val P Sd) (Iv : Nat → Loc → Ab → Prop)
    (step : ∀ i m' σ' u, i < n → nv u = val i → Sd σ' → Iv i m' σ' → TS C A env m' (assign target env u) (fun _ => ()) σ' fun _ m₁ σ₁ => TXs C A env m₁ body σ₁ fun f m₂ σ₂ => match f with
      | .next | .cont => Sd σ₂ ∧ Iv (i + 1) m₂ σ₂
      | .brk => Q .next m₂ σ₂
      | .ret v => Q (.ret v) m₂ σ₂)
    (done : ∀ m' σ', Sd σ' → Iv n m' σ' → Q .next m' σ')
    (W : Wx C A env m σ₀ s₀ σ s) (hO : Off C A env σ I) (h0 : s₀.heap.get? I = none) (hP : P 0 s.heap) (hS : Sd σ) (hJ : Iv 0 m σ) {R : Flow → Shared → Prop} {E : Result → Shared → Prop}
    (k : ∀ f s' m' σ', Wx C A env m' σ₀ s₀ σ' s' → Q (nf f) m' σ' → R f s') :
    codeAny C.M A (.forLoop target it body [] env) (fun r s' => match r with | .ok f => R f s' | .error e => E (.error e) s') s := by
  refine codeAny_forLoop_any (fun j s' => ∃ i m' σ', j = n - i ∧ i ≤ n ∧ Wx C A env m' σ₀ s₀ σ' s' ∧ Off C A env σ' I ∧ P i s'.heap ∧ Sd σ' ∧ Iv i m' σ') ?_ n ⟨0, m, σ, rfl, Nat.zero_le _, W, hO, hP, hS, hJ⟩
  rintro j s₁ ⟨i, m₁, σ₁, rfl, hi, W₁, O₁, P₁, S₁, J₁⟩
  rcases Nat.lt_or_ge i n with hlt | hge
  · refine T.next i σ₁ s₁ _ _ hlt P₁ W₁.st S₁ fun u h' tk hu hP' hk => ?_
    have W₂ := W₁.off O₁ h0 (tk := tk) hk
    have a₂ : ∃ o, h'.get? I = some o := T.alive _ _ hP'
    refine T.owned target (i + 1) _ u _ _ hP' ?_
    refine (step i m₁ σ₁ u hlt hu S₁ J₁).run W₂ fun _ s₃ m₃ σ₃ W₃ M₃ q₃ => ?_
    have P₃ : P (i + 1) s₃.heap := T.keep _ _ _ hP' fun o e => M₃.kp I o e O₁.nd O₁.no O₁.nz
    have O₃ : Off C A env σ₃ I := O₁.mv (s := { s₁ with heap := h', toks := tk }) M₃ a₂
    refine q₃.run W₃ fun f s₄ m₄ σ₄ W₄ M₄ q₄ => ?_
    have P₄ : P (i + 1) s₄.heap := T.keep _ _ _ P₃ fun o e => M₄.kp I o e O₃.nd O₃.no O₃.nz
    have O₄ : Off C A env σ₄ I := O₃.mv M₄ (T.alive _ _ P₃)
    cases f with
    | next => exact ⟨n - (i + 1), by omega, i + 1, m₄, σ₄, rfl, hlt, W₄, O₄, P₄, q₄.1, q₄.2⟩
    | cont => exact ⟨n - (i + 1), by omega, i + 1, m₄, σ₄, rfl, hlt, W₄, O₄, P₄, q₄.1, q₄.2⟩
    | brk => exact k .next s₄ m₄ σ₄ W₄ q₄
    | ret v => exact k (.ret v) s₄ m₄ σ₄ W₄ q₄
  · obtain rfl : i = n := Nat.le_antisymm hi hge
    refine T.stop σ₁ s₁ _ _ P₁ W₁.st S₁ fun h' tk hk => ?_
    have W₂ := W₁.off O₁ h0 (tk := tk) hk
    exact wpAny_execs_nil (k .next _ m₁ σ₁ W₂ (done m₁ σ₁ S₁ J₁))

theorem Wx.newOff (W : Wx C A env m σ₀ s₀ σ s) : Off C A env σ s.heap.objs.size := by
  refine ⟨W.st.fresh (Nat.le_refl _), fun h => ?_, ?_, fun l hl e he q => ?_⟩
  · obtain ⟨o, e⟩ := W.ok.own_alive h
    exact absurd (Heap.lt_size e) (Nat.lt_irrefl _)
  · cases q : C.h₀.get? s.heap.objs.size with
    | none => rfl
    | some o => exact absurd (Heap.lt_size (W.st.keep _ _ q)) (Nat.lt_irrefl _)
  · obtain ⟨l', hl', hf, hd⟩ := W.fs
    obtain rfl : l' = l := Option.some.inj (hl'.symm.trans hl)
    obtain ⟨L, o, hL, ho⟩ := PyProof.Rows.funFrames_in hf e he
    obtain rfl : L = s.heap.objs.size := Option.some.inj (hL.symm.trans q)
    exact absurd (Heap.lt_size ho) (Nat.lt_irrefl _)

theorem letOwned_plain {target : Expr} {I : Addr} {v : Value} {T : String} {vs : Array Value} {R : Unit → Shared → Prop} {E : Value → Shared → Prop} (h : ∃ o, s.heap.get? I = some o ∧ o.cls = .type T ∧ o.data = .fields vs ∧ ["enumerate", "zip", "dict_itemiterator", "dict_reverseitemiterator", "odict_iterator", "itertools.zip_longest", "itertools.pairwise"].contains T = false) (r : R () s) :
    wpAny C.M A (letOwnedTupleGo target (.ref I) v) R E s := by
  obtain ⟨o, ho, hc, hd, hT⟩ := h
  have key : ∀ a, wpAny C.M A (do
      let o ← load I
      match o.cls, o.data with
      | .type n, .fields vs =>
        if ["enumerate", "zip", "dict_itemiterator", "dict_reverseitemiterator", "odict_iterator", "itertools.zip_longest", "itertools.pairwise"].contains n && vs[0]? == some (rawInt a) then
          rule "for.unpacks-the-owned-tuple"
          updateField I 0 .none
      | _, _ => pure ()) R E s := fun a => by
    refine wpAny_bind (wpAny_load ho ?_)
    rw [hc, hd]
    dsimp only
    rw [hT, Bool.false_and, if_neg Bool.false_ne_true]
    exact wpAny_pure r
  cases target <;> first | exact wpAny_pure r | (cases v <;> first | exact wpAny_pure r | exact key _)
theorem listIter_at' {h : Heap} {I l : Addr} {i : Nat} (x : h.IsListIter I l i) : ∃ o, h.get? I = some o ∧ o.cls = .type "list_iterator" ∧ o.data = .fields #[.ref l, .int i 0] ∧ ["enumerate", "zip", "dict_itemiterator", "dict_reverseitemiterator", "odict_iterator", "itertools.zip_longest", "itertools.pairwise"].contains "list_iterator" = false := let ⟨o, a, b, c⟩ := x; ⟨o, a, b, c, by decide⟩

/-- a list's iterator -/
theorem Iter.list {I l : Addr} {xs : List Value} (hh : A.handled = none) (hne : l ≠ I) : Iter C A (.ref I) I xs.length (fun i => xs.getD i .none) (fun i h => h.IsListIter I l i) (fun σ => σ l = some (.list xs)) := by
  refine ⟨fun i σ s R E hi hP S e k => ?_, fun σ s R E hP S e k => ?_, fun i h h' hP hk => hP.at hk, fun i h hP => let ⟨o, ho, _⟩ := hP; ⟨o, ho⟩, fun target i s v R E hP r => ?_, fun i s R E hP r => wpAny_pyIter_listiter hP r⟩
  · obtain ⟨vs, hl, hm⟩ := S.isList e
    have hx : xs[i]? = some xs[i] := List.getElem?_eq_getElem hi
    obtain ⟨u, hu, hv⟩ := get_of_map hm hx
    refine wpAny_pyNext_list_item hP hl hu fun h' hP' hs => k u h' s.toks (by rw [hv, List.getD_eq_getElem?_getD, hx]; rfl) hP' fun b o hb e => (hs.2 b hb).trans e
  · obtain ⟨vs, hl, hm⟩ := S.isList e
    have hx : vs[xs.length]? = none := by rw [Array.getElem?_eq_none_iff, size_of_map hm]; exact Nat.le_refl _
    exact wpAny_pyNext_list_end hh hP hl hx fun h' he => k h' s.toks fun b o hb e => he b o hb e
  · exact letOwned_plain (listIter_at' hP) r

theorem Wd.newOff (W : Wd C A env m σ₀ s₀ σ s) : Off C A env σ s.heap.objs.size := Wx.newOff (σ₀ := σ) (s₀ := s) ⟨W.st, W.fs, W.ok, Mv.refl ..⟩
theorem get_size (h : Heap) : h.get? h.objs.size = none := by
  cases q : h.get? h.objs.size with
  | none => rfl
  | some o => exact absurd (Heap.lt_size q) (Nat.lt_irrefl _)
theorem Mv.old {Z P : Addr → Prop} (M : Mv Z P σ σ' s s') {I : Addr} (h : s'.heap.get? I = none) (nd : ¬ dom σ I) : s.heap.get? I = none := by
  cases q : s.heap.get? I with
  | none => rfl
  | some o => obtain ⟨o', e⟩ := (M.fr I o q nd).2; rw [h] at e; cases e

theorem Wd.self (W : Wd C A env m σ₀ s₀ σ s) : Wd C A env m σ s σ s := ⟨⟨W.st, W.fs, Mv.refl ..⟩, W.ok⟩
/-- what a loop runs over -/
def Src (C : Cx) (A : Around) (env : Env) (m : Loc) (σ : Ab) (iter : Expr) (n : Nat) (val : Nat → Value) (Sd : Ab → Prop) : Prop :=
  ∀ σ₀ s₀ s (R : Value → Shared → Prop) (E E' : Value → Shared → Prop), Wd C A env m σ₀ s₀ σ s →
    (∀ I P s', Wd C A env m σ₀ s₀ σ s' → s.heap.get? I = none → Off C A env σ I → P 0 s'.heap → Iter C A (.ref I) I n val P Sd → R (.ref I) s') →
    wpAny C.M A (eval iter env) (fun x s₁ => wpAny C.M A (pyIter x) R E' s₁) E s

theorem Src.list {iter : Expr} {l : Addr} {xs : List Value} (hh : A.handled = none) (hi : EV C A env m σ iter (.ref l)) (hl : σ l = some (.list xs)) : Src C A env m σ iter xs.length (fun i => xs.getD i .none) (fun σ' => σ' l = some (.list xs)) := fun σ₀ s₀ s R E E' W k => by
  refine hi.run W.self fun u s₁ hu W₁ => ?_
  obtain rfl := nv_to_ref hu
  obtain ⟨vs, hls, hm⟩ := W₁.st.isList hl
  refine wpAny_pyIter_list hls ?_
  obtain ⟨ol, hol, _⟩ := id hls
  have kk : ∀ b o, s₁.heap.get? b = some o → (s₁.heap.push { cls := .type "list_iterator", data := .fields #[.ref l, .int 0 0] }).get? b = some o := fun b o e => Heap.get?_push_of_some _ e
  have nI : s.heap.get? s₁.heap.objs.size = none := W₁.mv.old (get_size _) (W₁.st.fresh (Nat.le_refl _))
  exact k s₁.heap.objs.size _ _ ((W.step W₁.toWv).ext (tk := s₁.toks) kk) nI W₁.newOff ⟨_, Heap.get?_push_size _ rfl, rfl, rfl⟩ (Iter.list (I := s₁.heap.objs.size) hh (Nat.ne_of_lt (Heap.lt_size hol)))

/-- for target in (a list): body -/
theorem TX_for {target iter : Expr} {body : List Stmt} {pos : Pos} {n : Nat} {val : Nat → Value} {Sd : Ab → Prop} {Q : Flow → Loc → Ab → Prop} (hi : Src C A env m σ iter n val Sd) (hl : Sd σ) (Iv : Nat → Loc → Ab → Prop) (hJ : Iv 0 m σ)
    (step : ∀ i m' σ' u, i < n → nv u = val i → Sd σ' → Iv i m' σ' → TS C A env m' (assign target env u) (fun _ => ()) σ' fun _ m₁ σ₁ => TXs C A env m₁ body σ₁ fun f m₂ σ₂ => match f with
      | .next | .cont => Sd σ₂ ∧ Iv (i + 1) m₂ σ₂
      | .brk => Q .next m₂ σ₂
      | .ret v => Q (.ret v) m₂ σ₂)
    (done : ∀ m' σ', Sd σ' → Iv n m' σ' → Q .next m' σ')
    (hs : ∀ x, foldedSetIterable iter env x = pure x := by intro _; rfl) : TX C A env m (.For target iter body [] pos) σ Q := fun σ₀ s₀ s R E W k => by
  refine wpAny_For (hi σ s s _ _ _ W.wd fun I P s₁ W₁ h0 hO hP hI => ?_) hs
  have X₁ : Wx C A env m σ s σ s₁ := W.self.step W₁
  refine codeAny_mono (forLoop_core (E := fun r s' => match r with | .ok _ => True | .error e => cameBackBy C.M A env E e s') hI Iv step done X₁ hO h0 hP hl hJ fun f s' m' σ' W' q => k f s' m' σ' (W.trans W') q) fun r s' x => ?_
  cases r <;> exact x

theorem TS_name {x : Str} {pos : Pos} {u : Value} {Q : Unit → Loc → Ab → Prop} (hx : Sto env x) (h : Q () ((x, nv u) :: m) σ) : TS C A env m (assign (.Name x pos) env u) (fun _ => ()) σ Q := fun σ₀ s₀ s R E W k =>
  wpAny_assign_Name (W.store hx fun s' W' => k _ _ _ _ W' h)
end
end J
end

section
open PySem PySem.W PySem.Calls PyProof.Rows
set_option Elab.async false
set_option linter.unusedVariables false
namespace J
section
variable {C : Cx} {A : Around} {env : Env} {m : Loc} {σ σ₀ σ' : Ab} {s s₀ s' : Shared}

theorem EVs.run {pos : Pos} {es : List Expr} {vs : List Value} (h : EVs C A env m σ es vs) (W : Wd C A env m σ₀ s₀ σ s) {R : List Value → Shared → Prop} {E : Value → Shared → Prop} (k : ∀ us s', us.map nv = vs → Wd C A env m σ₀ s₀ σ s' → R us s') :
    wpAny C.M A (spliced (backTo pos (starEach es env))) R E s :=
  h.tas (Q := fun us σ' => us = vs ∧ σ' = σ) ⟨rfl, rfl⟩ σ₀ s₀ s R E W fun us s' σ' W' ⟨e1, e2⟩ => k us s' e1 (e2 ▸ W')
theorem map_one {us : List Value} {a : Value} (h : us.map nv = [a]) : ∃ u, us = [u] ∧ nv u = a := by
  rcases us with _ | ⟨ua, _ | ⟨ub, us⟩⟩ <;> simp_all
theorem map_two {us : List Value} {a b : Value} (h : us.map nv = [a, b]) : ∃ u v, us = [u, v] ∧ nv u = a ∧ nv v = b := by
  rcases us with _ | ⟨ua, _ | ⟨ub, _ | ⟨uc, us⟩⟩⟩
  · simp at h
  · simp at h
  · exact ⟨ua, ub, rfl, by simpa using h⟩
  · simp at h
theorem Iter.range {I : Addr} (hh : A.handled = none) (a : Int) (n : Nat) : Iter C A (.ref I) I n (fun i => .int (a + (i : Int)) 0) (fun i h => IsRangeIter h I (a + (i : Nat) * 1) ((n : Int) - (i : Nat)) 1) (fun _ => True) := by
  have Wk := PyProof.Rows.LCg.range_walks (prog := C.prog) (w := C.w) (A := A) (I := I) hh a n
  refine ⟨fun i σ s R E hi hP S _ k => ?_, fun σ s R E hP S _ k => ?_, fun i h h' hP hk => hk _ hP, fun i h hP => ⟨_, hP⟩, fun target i s v R E hP r => ?_, fun i s R E hP r => Wk.self i s R E hP r⟩
  · refine Wk.item i s R E hi hP fun v h' tk hv hP' hk => ?_
    obtain ⟨t, rfl⟩ := hv
    exact k _ h' tk rfl hP' fun b o hb e => hk b o (by simpa using hb) e
  · exact Wk.done s R E hP fun h' tk hk => k h' tk fun b o hb e => hk b o (by simpa using hb) e
  · exact letOwned_plain (T := "range_iterator") ⟨_, hP, rfl, rfl, by decide⟩ r
theorem push_keeps {h : Heap} (o : Obj) : ∀ b q, h.get? b = some q → (h.push o).get? b = some q := fun b q e => Heap.get?_push_of_some _ e
/-- a new object that σ does not know -/
theorem Wd.push (W : Wd C A env m σ₀ s₀ σ s) (o : Obj) (tk : Nat) : Wd C A env m σ₀ s₀ σ { s with heap := s.heap.push o, toks := tk } := W.ext (push_keeps o)
theorem Src.rangeCore {a b : Int} {n : Nat} {t u v : Tok} {r : Addr} (hh : A.handled = none) (W : Wd C A env m σ₀ s₀ σ s) (hr : IsRange s.heap r a b 1 t u v) (hsm : Builtin.Range.small a b 1 = true) (hn : Builtin.Range.rangeSize a b 1 = (n : Int)) {R : Value → Shared → Prop} {E : Value → Shared → Prop}
    (k : ∀ I P s', Wd C A env m σ₀ s₀ σ s' → s.heap.get? I = none → Off C A env σ I → P 0 s'.heap → Iter C A (.ref I) I n (fun i => .int (a + (i : Int)) 0) P (fun _ => True) → R (.ref I) s') : wpAny C.M A (pyIter (.ref r)) R E s := by
  refine wpAny_pyIter_range hr hsm ?_
  refine k s.heap.objs.size _ _ (W.push _ s.toks) (get_size _) W.newOff ?_ (Iter.range hh a n)
  show IsRangeIter _ _ _ _ _
  rw [hn]
  simpa using Heap.get?_push_size _ rfl
/-- range(a, b) -/
theorem Src.range2 {x : Str} {p pos : Pos} {ea eb : Expr} {a b : Int} {n : Nat} (hh : A.handled = none) (hf : EV C A env m σ (.Name x p) (.type "range")) (ha : EV C A env m σ ea (.int a 0)) (hb : EV C A env m σ eb (.int b 0)) (hn : Builtin.Range.rangeSize a b 1 = (n : Int))
    (hsm : Builtin.Range.small a b 1 = true) (h1 : starEach [ea, eb] env = (false, eval ea env) :: starEach [eb] env := by rfl) (h2 : starEach [eb] env = (false, eval eb env) :: starEach [] env := by rfl)
    (hplain : (backTo pos (starEach [eb] env)).any (·.1) = false := by rfl) :
    Src C A env m σ (.Call (.Name x p) [ea, eb] [] pos) n (fun i => .int (a + (i : Int)) 0) (fun _ => True) := fun σ₀ s₀ s R E E' W k => by
  refine wpAny_Call_NameR (hf.run W.self fun u s₁ hu W₁ => ?_)
  obtain rfl := nv_to_type hu
  refine callWith_type1 ((EVs.cons ha (.cons hb .nil h2) h1).run W₁ fun us s₂ hus W₂ => ?_) h1 hplain
  obtain ⟨ua, ub, rfl, h3, h4⟩ := map_two hus
  obtain ⟨ta, rfl⟩ := nv_to_int h3
  obtain ⟨tb, rfl⟩ := nv_to_int h4
  refine call_range_2 ?_
  refine Src.rangeCore hh (W₂.push _ (s₂.toks + 1)) (IsRange.new ..) hsm hn fun I P s' W' h0 hO hP hI => k I P s' (W.step W'.toWv) ?_ hO hP hI
  refine (W₂.push { cls := .type "range", data := .fields #[.int a ta, .int b tb, .int 1 s₂.toks] } (s₂.toks + 1)).mv.old h0 hO.nd
/-- range(b) -/
theorem Src.range1 {x : Str} {p pos : Pos} {eb : Expr} {b : Int} {n : Nat} (hh : A.handled = none) (hf : EV C A env m σ (.Name x p) (.type "range")) (hb : EV C A env m σ eb (.int b 0)) (hn : Builtin.Range.rangeSize 0 b 1 = (n : Int))
    (hsm : Builtin.Range.small 0 b 1 = true) (h2 : starEach [eb] env = (false, eval eb env) :: starEach [] env := by rfl)
    (hplain : (backTo pos (starEach [] env)).any (·.1) = false := by rfl) :
    Src C A env m σ (.Call (.Name x p) [eb] [] pos) n (fun i => .int (0 + (i : Int)) 0) (fun _ => True) := fun σ₀ s₀ s R E E' W k => by
  refine wpAny_Call_NameR (hf.run W.self fun u s₁ hu W₁ => ?_)
  obtain rfl := nv_to_type hu
  refine callWith_type1 ((EVs.cons hb .nil h2).run W₁ fun us s₂ hus W₂ => ?_) h2 hplain
  obtain ⟨ub, rfl, h4⟩ := map_one hus
  obtain ⟨tb, rfl⟩ := nv_to_int h4
  refine call_range_1 ?_
  refine Src.rangeCore hh (W₂.push _ (s₂.toks + 1 + 1)) (IsRange.new ..) hsm hn fun I P s' W' h0 hO hP hI => k I P s' (W.step W'.toWv) ?_ hO hP hI
  refine (W₂.push { cls := .type "range", data := .fields #[.int 0 s₂.toks, .int b tb, .int 1 (s₂.toks + 1)] } (s₂.toks + 1 + 1)).mv.old h0 hO.nd
end
end J
end

section
open PySem PySem.W PySem.Calls PyProof.Rows
set_option Elab.async false
set_option linter.unusedVariables false
namespace J
section
variable {C : Cx} {A : Around} {env : Env} {m : Loc} {σ σ₀ σ' : Ab} {s s₀ s' : Shared}

theorem Wd.off (W : Wd C A env m σ₀ s₀ σ s) {I : Addr} (x : Off C A env σ I) (h0 : s₀.heap.get? I = none) {h' : Heap} {tk : Nat} (hs : ∀ b o, b ≠ I → s.heap.get? b = some o → h'.get? b = some o) : Wd C A env m σ₀ s₀ σ { s with heap := h', toks := tk } := by
  have hI : ∀ b, own env b → b ≠ I := fun b hb q => x.no (q ▸ hb)
  refine ⟨⟨W.st.keeps fun b o hb e => hs b o ?_ e, ?_, ?_⟩, W.ok.keeps (fun b o hb e => hs b o (hI b hb) e) fun b hb => (W.ok.nd b hb).1⟩
  · rintro rfl
    rcases hb with d | q
    · exact x.nd d
    · rw [x.nh] at q; cases q
  · obtain ⟨l, hl, hf, hd⟩ := W.fs
    exact ⟨l, hl, FunFrames.turn hf fun e he L o hL ho hv => ⟨o, hs L o (fun q => x.nf l hl e he (q ▸ hL)) ho, hv⟩, hd⟩
  · refine ⟨fun b o e n p z => hs b o (fun q => ?_) (W.mv.kp b o e n p z), fun b o e n p hd => ?_, fun b o e n => ⟨(W.mv.fr b o e n).1, ?_⟩, W.mv.os, W.mv.gen⟩
    · rw [q, h0] at e; cases e
    · obtain ⟨sl, e'⟩ := W.mv.zs b o e n p hd
      exact ⟨sl, hs b _ (fun q => by rw [q, h0] at e; cases e) e'⟩
    · obtain ⟨o', e'⟩ := (W.mv.fr b o e n).2
      exact ⟨o', hs b o' (fun q => by rw [q, h0] at e; cases e) e'⟩
theorem St.addOff {h : Heap} (S : St C σ h) {a : Addr} {ao : AO} (hi : ao.isInst = false) (na : ¬ dom σ a) (nh : C.h₀.get? a = Option.none) (r : RO C h a ao) : St C (σ.put a ao) h := by
  refine ⟨S.keep, fun b o e => ?_, fun b d => ?_, fun b K fs e => ?_⟩
  · by_cases q : b = a
    · subst q; rw [put_same] at e; cases e; exact r
    · rw [put_ne q] at e; exact S.rep b o e
  · rcases dom_put d hi with rfl | d
    · exact nh
    · exact S.new b d
  · by_cases q : b + 1 = a
    · rw [q, put_same] at e; cases e; cases hi
    · rw [put_ne q] at e
      have := S.sep b K fs e
      by_cases q' : b = a
      · subst q'; exact absurd (.inr ⟨K, fs, e⟩) na
      · rw [put_ne q']; exact this
/-- an object that only we know comes into σ -/
theorem Wd.addOff (W : Wd C A env m σ₀ s₀ σ s) {a : Addr} {ao : AO} (x : Off C A env σ a) (h0 : s₀.heap.get? a = none) (hi : ao.isInst = false) (r : RO C s.heap a ao) : Wd C A env m σ₀ s₀ (σ.put a ao) s := by
  refine ⟨⟨W.st.addOff hi x.nd x.nh r, ?_, ?_⟩, W.ok.keeps (fun b o hb e => e) fun b hb d => ?_⟩
  · obtain ⟨l, hl, hf, hd⟩ := W.fs
    refine ⟨l, hl, hf, fun e he L hL d => ?_⟩
    rcases dom_put d hi with rfl | d
    · exact x.nf l hl e he hL
    · exact hd e he L hL d
  · refine ⟨W.mv.kp, W.mv.zs, fun b o e n => ⟨fun d => ?_, (W.mv.fr b o e n).2⟩, W.mv.os, W.mv.gen⟩
    rcases dom_put d hi with rfl | d
    · rw [h0] at e; cases e
    · exact (W.mv.fr b o e n).1 d
  · rcases dom_put d hi with rfl | d
    · exact x.no hb
    · exact (W.ok.nd b hb).1 d

theorem cm_loop {prog : Program} {w : World} {elt target iter : Expr} {ifs : List Expr} {scope : Scope} {pos : Pos} {it acc : Value} {env : Env} {R : Result → Shared → Prop} (I : Nat → Shared → Prop)
    (turn : ∀ n s, I n s → wpAny (model prog w) A (pyNext it) (fun r s₁ => match r with
      | none => R (.ok .next) s₁
      | some v => wpAny (model prog w) A (letOwnedTupleGo target it v) (fun _ s₀ => wpAny (model prog w) A (assign target env v) (fun _ s₂ =>
          wpAny (model prog w) A (forIn ifs true fun c r => if r = true then do let ok ← isTrue c env (eval c env); pure (ForInStep.yield ok) else pure (ForInStep.yield r)) (fun ok s₃ => if ok = true then wpAny (model prog w) A (eval elt env) (fun x s₄ =>
            wpAny (model prog w) A (call (.builtin "list.append") [acc, x]) (fun _ s₅ => ∃ m, m < n ∧ I m s₅) (notedBy (model prog w) A env fun e s' => R (.error e) s') s₄) (notedBy (model prog w) A env fun e s' => R (.error e) s') s₃
            else ∃ m, m < n ∧ I m s₃) (notedBy (model prog w) A env fun e s' => R (.error e) s') s₂)
          (notedBy (model prog w) A env fun e s' => R (.error e) s') s₀) (notedBy (model prog w) A env fun e s' => R (.error e) s') s₁) (notedBy (model prog w) A env fun e s' => R (.error e) s') s)
    (n : Nat) (h : I n s) : codeAny (model prog w) A (.compLoop (.ListComp elt [⟨target, iter, ifs, 0⟩] scope pos) 0 it acc env) R s := by
  refine codeAny_loop rfl I (fun n s hI => ?_) n h
  show wpAny _ A ((compTurn (.ListComp elt [⟨target, iter, ifs, 0⟩] scope pos) 0 it acc env).onRaise (fun x => do noteFrame x env; theTreesLotGoes x)) _ _ s
  refine wpAny_noted ?_
  rw [compTurn_list]
  refine wpAny_bind (wpAny_standAt (wpAny_bind (wpAny_mono (turn n s hI) (fun r s₁ h₁ => ?_) fun _ _ h' => h')))
  cases r with
  | none => exact wpAny_pure h₁
  | some v =>
    refine wpAny_bind (wpAny_mono h₁ (fun _ s₀ h₀' => ?_) fun _ _ h' => h')
    refine wpAny_bind (wpAny_mono h₀' (fun _ s₂ h₂ => ?_) fun _ _ h' => h')
    refine wpAny_bind (wpAny_mono h₂ (fun okb s₃ h₃ => ?_) fun _ _ h' => h')
    cases okb with
    | false => exact wpAny_pure ⟨rfl, h₃⟩
    | true => exact wpAny_bind (wpAny_bind (wpAny_mono h₃ (fun x s₄ h₄ => wpAny_bind (wpAny_mono h₄ (fun _ s₅ h₅ => wpAny_pure (wpAny_pure ⟨rfl, h₅⟩)) fun _ _ h' => h')) fun _ _ h' => h'))

abbrev TIfs (C : Cx) (A : Around) (env : Env) (m : Loc) (ifs : List Expr) (σ : Ab) (Q : Bool → Ab → Prop) : Prop :=
  TF C A env m (forIn ifs true fun c r => if r = true then do let ok ← isTrue c env (eval c env); pure (ForInStep.yield ok) else pure (ForInStep.yield r)) id σ Q
theorem TIfs_nil {Q : Bool → Ab → Prop} (h : Q true σ) : TIfs C A env m [] σ Q := fun σ₀ s₀ s R E W k => wpAny_tests_nil (k _ _ _ W h)
theorem TIfs_one {c : Expr} {Q : Bool → Ab → Prop} (h : TB C A env m c σ Q) : TIfs C A env m [c] σ Q := fun σ₀ s₀ s R E W k => wpAny_tests_one (h σ₀ s₀ s R E W k)

/-- the targets of a comprehension are laid: fs -/
def Tgt (C : Cx) (A : Around) (env : Env) (σ : Ab) (target : Expr) (u : Value) (fs : Loc) : Prop :=
  ∀ s M (R : Unit → Shared → Prop) (E : Value → Shared → Prop), St C σ s.heap → s.heap.Ns env.locals M → C.h₀.get? env.locals = none → ¬ dom σ env.locals →
    (∀ h' M' tk, h'.Ns env.locals M' → (∀ x v, fs.lookup x = some v → ∃ u, M' x = some u ∧ nv u = v) → (∀ b o, b ≠ env.locals → s.heap.get? b = some o → h'.get? b = some o) → R () { s with heap := h', toks := tk }) →
    wpAny C.M A (assign target env u) R E s
theorem Tgt.name {x : Str} {pos : Pos} {u : Value} (hk : env.scope.kind = .function) (hl : env.kindOf x = some .local) : Tgt C A env σ (.Name x pos) u [(x, nv u)] := fun s M R E S hM _ _ k => by
  refine wpAny_assign_Name (wpAny_storeName_local hl hM (fun h' hn hs => k h' _ _ hn (fun y v hy => ?_) fun b o hb e => hs.extBut b o hb e) (by rw [hk]; rfl))
  by_cases q : y = x
  · subst q; rw [lookup_cons_self] at hy; cases hy; exact ⟨u, by simp, rfl⟩
  · rw [lookup_cons_ne q] at hy; cases hy
/-- the frame of a comprehension at Cc: what it has captured -/
theorem FOk.comp {h : Heap} {scope : Scope} {cl : List (Str × Addr)} {Cc : Addr} {mc fs : Loc} {M : Str → Option Value} (O : FOk C env m σ h) (hk : scope.kind = .function) (hcl : ∀ x c, cl.lookup x = some c → env.cells.lookup x = some c) (hCc : ∀ x c, env.cells.lookup x = some c → c ≠ Cc)
    (hmc : ∀ x v, mc.lookup x = some v → (compEnvC scope cl Cc env).kindOf x ≠ some .local ∧ (cl.lookup x).isSome = true ∧ m.lookup x = some v ∧ (env.kindOf x = some .cell ∨ env.kindOf x = some .free))
    (hfs : ∀ x v, fs.lookup x = some v → (compEnvC scope cl Cc env).kindOf x = some .local ∧ ∃ u, M x = some u ∧ nv u = v)
    (hM : h.Ns Cc M) (nd : ¬ dom σ Cc) (nh : C.h₀.get? Cc = none) : FOk C (compEnvC scope cl Cc env) (fs ++ mc) σ h := by
  have hlk : ∀ x v, (fs ++ mc).lookup x = some v → fs.lookup x = some v ∨ (fs.lookup x = none ∧ mc.lookup x = some v) := fun x v e => by
    rw [List.lookup_append] at e
    cases q : fs.lookup x with
    | none => rw [q] at e; exact .inr ⟨rfl, by simpa using e⟩
    | some u => rw [q] at e; exact .inl (by simpa using e)
  have hc' : ∀ x c, (compEnvC scope cl Cc env).cells.lookup x = some c → env.cells.lookup x = some c := hcl
  refine ⟨hk, O.gl, O.bi, fun b hb => ?_, ⟨M, hM, fun x v e hl => ?_⟩, fun x c hc => ⟨hCc x c (hcl x c hc), (O.cl x c (hcl x c hc)).2⟩, fun x v e hl => ?_, fun x y c h1 h2 => O.inj x y c (hcl x c h1) (hcl y c h2)⟩
  · rcases hb with rfl | ⟨x, hx⟩
    · exact ⟨nd, nh⟩
    · exact O.nd b (.inr ⟨x, hcl x b hx⟩)
  · rcases hlk x v e with e | ⟨_, e⟩
    · exact (hfs x v e).2
    · exact absurd hl (hmc x v e).1
  · rcases hlk x v e with e | ⟨_, e⟩
    · rw [(hfs x v e).1] at hl; rcases hl with q | q <;> cases q
    · obtain ⟨_, h2, h3, h4⟩ := hmc x v e
      obtain ⟨c, u, hc, hcell, hu⟩ := O.ce x v h3 h4
      obtain ⟨c', hc'⟩ := Option.isSome_iff_exists.mp h2
      have := hcl x c' hc'
      rw [hc] at this; cases this
      exact ⟨c, u, hc', hcell, hu⟩

end
end J
end

section
open PySem PySem.W PySem.Calls PyProof.Rows
set_option Elab.async false
set_option linter.unusedVariables false
namespace J
section
variable {C : Cx} {A : Around} {env : Env} {m : Loc} {σ σ₀ σ' : Ab} {s s₀ s' : Shared}

/-- one turn of a comprehension -/
def CTurn (C : Cx) (A : Around) (env : Env) (scope : Scope) (cl : List (Str × Addr)) (mc : Loc) (target elt : Expr) (ifs : List Expr) (n : Nat) (val : Nat → Value) (Sd : Ab → Prop) (Iv : Nat → List Value → Ab → Prop) : Prop :=
  ∀ Cc i ys σ' u, i < n → nv u = val i → Sd σ' → Iv i ys σ' → ∃ fs, Tgt C A (compEnvC scope cl Cc env) σ' target u fs ∧ (∀ x v, fs.lookup x = some v → (compEnvC scope cl Cc env).kindOf x = some .local) ∧
    TIfs C A (compEnvC scope cl Cc env) (fs ++ mc) ifs σ' fun b σ₁ => if b = true then TE C A (compEnvC scope cl Cc env) (fs ++ mc) elt σ₁ fun v σ₂ => Sd σ₂ ∧ Iv (i + 1) (ys ++ [v]) σ₂ else Sd σ₁ ∧ Iv (i + 1) ys σ₁

structure CSt (C : Cx) (A : Around) (env : Env) (m : Loc) (σ : Ab) (s : Shared) (I D Cc : Addr) (P : Nat → Heap → Prop) (i : Nat) (ys : List Value) (σ' : Ab) (s' : Shared) : Prop where
  w : Wd C A env m σ s σ' s'
  oI : Off C A env σ' I
  oD : Off C A env σ' D
  oC : Off C A env σ' Cc
  p : P i s'.heap
  c : ∃ M, s'.heap.Ns Cc M
  d : ∃ vs, s'.heap.PlainList D vs ∧ vs.toList.map nv = ys

theorem comp_loop {elt target iter : Expr} {ifs : List Expr} {scope : Scope} {pos : Pos} {cl : List (Str × Addr)} {mc : Loc} {I D Cc : Addr} {n : Nat} {val : Nat → Value} {P : Nat → Heap → Prop} {Sd : Ab → Prop} {R : Result → Shared → Prop}
    (T : Iter C A (.ref I) I n val P Sd) (Iv : Nat → List Value → Ab → Prop) (turn : CTurn C A env scope cl mc target elt ifs n val Sd Iv)
    (hn : n ≤ sizeLine) (hk : scope.kind = .function) (hcl : ∀ x c, cl.lookup x = some c → env.cells.lookup x = some c)
    (hmc : ∀ Cc x v, mc.lookup x = some v → (compEnvC scope cl Cc env).kindOf x ≠ some .local ∧ (cl.lookup x).isSome = true ∧ m.lookup x = some v ∧ (env.kindOf x = some .cell ∨ env.kindOf x = some .free))
    (hI : s.heap.get? I = none) (hD : s.heap.get? D = none) (hC : s.heap.get? Cc = none) (hID : I ≠ D) (hIC : I ≠ Cc) (hDC : D ≠ Cc)
    (X : CSt C A env m σ s I D Cc P 0 [] σ' s') (hS : Sd σ') (hJ : Iv 0 [] σ')
    (k : ∀ (ys : List Value) (σ'' : Ab) (s'' : Shared), CSt C A env m σ s I D Cc P n ys σ'' s'' → Sd σ'' → Iv n ys σ'' → ∀ (h' : Heap) (tk : Nat), (∀ b o, b ≠ I → s''.heap.get? b = some o → h'.get? b = some o) → R (.ok .next) { s'' with heap := h', toks := tk }) :
    codeAny C.M A (.compLoop (.ListComp elt [⟨target, iter, ifs, 0⟩] scope pos) 0 (.ref I) (.ref D) (compEnvC scope cl Cc env)) R s' := by
  refine cm_loop (fun j s₁ => ∃ i ys σ₁, j = n - i ∧ i ≤ n ∧ ys.length ≤ i ∧ CSt C A env m σ s I D Cc P i ys σ₁ s₁ ∧ Sd σ₁ ∧ Iv i ys σ₁) ?_ n ⟨0, [], σ', rfl, Nat.zero_le _, Nat.le_refl _, X, hS, hJ⟩
  rintro j s₁ ⟨i, ys, σ₁, rfl, hi, hly, X₁, S₁, J₁⟩
  have hfr : ∀ x c, env.cells.lookup x = some c → c ≠ Cc := fun x c hc q => X₁.oC.no (.inr ⟨x, q ▸ hc⟩)
  rcases Nat.lt_or_ge i n with hlt | hge
  · refine T.next i σ₁ s₁ _ _ hlt X₁.p X₁.w.st S₁ fun u h' tk hu hP' hk' => ?_
    have W₂ := X₁.w.off X₁.oI hI (tk := tk) hk'
    obtain ⟨M, hM⟩ := X₁.c
    have hM₂ : h'.Ns Cc M := hM.at' fun o e => hk' _ o (Ne.symm hIC) e
    refine T.owned target (i + 1) _ u _ _ hP' ?_
    obtain ⟨fs, ht, hfs, hturn⟩ := turn Cc i ys σ₁ u hlt hu S₁ J₁
    refine ht { s₁ with heap := h', toks := tk } M _ _ W₂.st hM₂ X₁.oC.nh X₁.oC.nd fun h₃ M₃ tk₃ hM₃ hf₃ hk₃ => ?_
    have W₃ := W₂.off X₁.oC hC (tk := tk₃) hk₃
    have O₃ : FOk C (compEnvC scope cl Cc env) (fs ++ mc) σ₁ h₃ := W₃.ok.comp hk hcl hfr (hmc Cc) (fun x v e => ⟨hfs x v e, hf₃ x v e⟩) hM₃ X₁.oC.nd X₁.oC.nh
    have P₃ : P (i + 1) h₃ := T.keep _ _ _ hP' fun o e => hk₃ I o hIC e
    obtain ⟨vs, hvs, hys⟩ := X₁.d
    have D₃ : h₃.PlainList D vs := hvs.at fun o e => hk₃ D o hDC (hk' D o (Ne.symm hID) e)
    have aI : ∃ o, h₃.get? I = some o := T.alive _ _ P₃
    have aD : ∃ o, h₃.get? D = some o := let ⟨_, e⟩ := D₃; ⟨_, e⟩
    have aC : ∃ o, h₃.get? Cc = some o := let ⟨o, _, _, e, _⟩ := hM₃; ⟨o, e⟩
    refine hturn σ₁ _ { s₁ with heap := h₃, toks := tk₃ } _ _ ⟨⟨W₃.st, W₃.fs, Mv.refl ..⟩, O₃⟩ fun b s₄ σ₄ W₄ q₄ => ?_
    have Z₄ : ∀ {σ₅ s₅}, Wv C A σ₁ { s₁ with heap := h₃, toks := tk₃ } σ₅ s₅ → CSt C A env m σ s I D Cc P (i + 1) ys σ₅ s₅ := fun {σ₅ s₅} V => by
      refine ⟨W₃.step V, X₁.oI.mv V.mv aI, X₁.oD.mv V.mv aD, X₁.oC.mv V.mv aC, T.keep _ _ _ P₃ fun o e => V.mv.kp I o e X₁.oI.nd id X₁.oI.nz, ⟨M₃, hM₃.at' fun o e => V.mv.kp Cc o e X₁.oC.nd id X₁.oC.nz⟩, vs, D₃.at fun o e => V.mv.kp D o e X₁.oD.nd id X₁.oD.nz, hys⟩
    cases b with
    | false =>
      rw [if_neg Bool.false_ne_true]
      have q₄ : Sd σ₄ ∧ Iv (i + 1) ys σ₄ := by simpa using q₄
      exact ⟨n - (i + 1), by omega, i + 1, ys, σ₄, rfl, hlt, Nat.le_succ_of_le hly, Z₄ W₄.toWv, q₄.1, q₄.2⟩
    | true =>
      rw [if_pos rfl]
      have q₄ : TE C A (compEnvC scope cl Cc env) (fs ++ mc) elt σ₄ fun v σ₂ => Sd σ₂ ∧ Iv (i + 1) (ys ++ [v]) σ₂ := by simpa using q₄
      refine q₄ σ₁ _ s₄ _ _ W₄ fun v s₅ σ₅ W₅ q₅ => ?_
      have X₅ := Z₄ W₅.toWv
      obtain ⟨vs₅, hvs₅, hys₅⟩ := X₅.d
      have hsz : vs₅.size ≤ sizeLine := by rw [size_of_map hys₅]; omega
      refine wpAny_list_append_plain hvs₅ (fun h₆ hl₆ hs₆ => ?_) hsz
      have W₆ := X₅.w.off X₅.oD hD (tk := s₅.toks) (h' := h₆) fun b o hb e => hs₆.extBut b o hb e
      refine ⟨n - (i + 1), by omega, i + 1, ys ++ [nv v], σ₅, rfl, hlt, by simp; omega, ⟨W₆, X₅.oI, X₅.oD, X₅.oC, T.keep _ _ _ X₅.p fun o e => hs₆.extBut I o hID e, ?_, vs₅.push v, hl₆, ?_⟩, q₅.1, q₅.2⟩
      · obtain ⟨M, hM⟩ := X₅.c
        exact ⟨M, hM.sameBut hs₆ (Ne.symm hDC)⟩
      · rw [Array.toList_push, List.map_append, hys₅]; rfl
  · obtain rfl : i = n := Nat.le_antisymm hi hge
    refine T.stop σ₁ s₁ _ _ X₁.p X₁.w.st S₁ fun h' tk hk' => ?_
    exact k ys σ₁ s₁ X₁ S₁ J₁ h' tk hk'

/-- after a comprehension: the list is at D, and Cc is only ours -/
theorem comp_block {elt target iter : Expr} {ifs : List Expr} {scope : Scope} {pos : Pos} {cl : List (Str × Addr)} {mc : Loc} {I : Addr} {n : Nat} {val : Nat → Value} {P : Nat → Heap → Prop} {Sd : Ab → Prop} {E : Value → Shared → Prop} {RR : Value → Addr → Result → Shared → Prop}
    (T : Iter C A (.ref I) I n val P Sd) (Iv : Nat → List Value → Ab → Prop) (turn : CTurn C A env scope cl mc target elt ifs n val Sd Iv)
    (hn : n ≤ sizeLine) (hk : scope.kind = .function) (hcell : ∀ y ∈ scope.names, y.2 ≠ .cell) (hcl : ∀ x c, cl.lookup x = some c → env.cells.lookup x = some c)
    (hmc : ∀ Cc x v, mc.lookup x = some v → (compEnvC scope cl Cc env).kindOf x ≠ some .local ∧ (cl.lookup x).isSome = true ∧ m.lookup x = some v ∧ (env.kindOf x = some .cell ∨ env.kindOf x = some .free))
    (W : Wd C A env m σ s σ s') (hI : s.heap.get? I = none) (oI : Off C A env σ I) (hP : P 0 s'.heap) (aI : ∃ o, s'.heap.get? I = some o) (hS : Sd σ) (hJ : Iv 0 [] σ)
    (k : ∀ (ys : List Value) (σ'' : Ab) (s'' : Shared) (D Cc : Addr), Wd C A env m σ s (σ''.put D (.list ys)) s'' → σ'' D = none → Sd σ'' → Iv n ys σ'' → Off C A env (σ''.put D (.list ys)) Cc → s.heap.get? Cc = none → (∃ M, s''.heap.Ns Cc M) → RR (.ref D) Cc (.ok .next) s'') :
    wpAny C.M A (newList []) (fun acc s₃ => wpAny C.M A (newFunctionEnv scope env.globals cl [] env.qual none .none (some env)) (fun cenv s₄ =>
      codeAny C.M A (.compStart (.ListComp elt [⟨target, iter, ifs, 0⟩] scope pos) 0 (.ref I) acc { cenv with scope := relabel scope env }) (RR acc cenv.locals) s₄) E s₃) E s' := by
  refine wpAny_newObj_type (wpAny_newFunctionEnv hcell (by intro y hy; simp at hy) (fun h₁ hns₁ hsb₁ => ?_) hk)
  dsimp only at hns₁ hsb₁ ⊢
  generalize hH2 : s'.heap.push { cls := .type "list", dict := none, data := .seq ([] : List Value).toArray } = H2 at hns₁ hsb₁ ⊢
  have hC : H2.objs.size = s'.heap.objs.size + 1 := by rw [← hH2, Heap.size_push]
  have hDC : s'.heap.objs.size ≠ H2.objs.size := by rw [hC]; exact Nat.ne_of_lt (Nat.lt_succ_self _)
  have below : ∀ b, b < s'.heap.objs.size → b ≠ H2.objs.size ∧ b ≠ s'.heap.objs.size := fun b hb => ⟨by rw [hC]; exact Nat.ne_of_lt (Nat.lt_succ_of_lt hb), Nat.ne_of_lt hb⟩
  have old : ∀ b o, s'.heap.get? b = some o → h₁.get? b = some o := fun b o e => hsb₁.extBut b o (below b (Heap.lt_size e)).1 (Heap.get?_push_of_some _ (hH2 ▸ Heap.get?_push_of_some _ e))
  have hacc : h₁.PlainList s'.heap.objs.size #[] := ⟨_, hsb₁.extBut _ _ hDC (Heap.get?_push_of_some _ (hH2 ▸ Heap.get?_push_size _ rfl))⟩
  have W₁ : Wd C A env m σ s σ { s' with heap := h₁, toks := s'.toks + ([] : List (Str × Value)).length } := W.ext old
  have fresh : ∀ a, s'.heap.objs.size ≤ a → s'.heap.get? a = none := fun a ha => by
    cases e : s'.heap.get? a with
    | none => rfl
    | some o' => exact absurd (Heap.lt_size e) (Nat.not_lt.mpr ha)
  have offN : ∀ a, s'.heap.objs.size ≤ a → Off C A env σ a := fun a ha => by
    refine ⟨W.st.fresh ha, fun h => ?_, ?_, fun l hl e he q => ?_⟩
    · obtain ⟨o, e⟩ := W.ok.own_alive h
      exact absurd (Heap.lt_size e) (Nat.not_lt.mpr ha)
    · cases q : C.h₀.get? a with
      | none => rfl
      | some o => exact absurd (Heap.lt_size (W.st.keep _ _ q)) (Nat.not_lt.mpr ha)
    · obtain ⟨l', hl', hf, hd⟩ := W.fs
      obtain rfl : l' = l := Option.some.inj (hl'.symm.trans hl)
      obtain ⟨L, o, hL, ho⟩ := PyProof.Rows.funFrames_in hf e he
      obtain rfl : L = a := Option.some.inj (hL.symm.trans q)
      exact absurd (Heap.lt_size ho) (Nat.not_lt.mpr ha)
  have hsN : ∀ a, s'.heap.objs.size ≤ a → s.heap.get? a = none := fun a ha => W.mv.old (fresh a ha) (offN a ha).nd
  have hCs : s'.heap.objs.size ≤ H2.objs.size := by rw [hC]; exact Nat.le_succ _
  obtain ⟨oi, hoi⟩ := aI
  have hIb := below I (Heap.lt_size hoi)
  have X : CSt C A env m σ s I s'.heap.objs.size H2.objs.size P 0 [] σ { s' with heap := h₁, toks := s'.toks + ([] : List (Str × Value)).length } :=
    ⟨W₁, oI, offN _ (Nat.le_refl _), offN _ hCs, T.keep _ _ _ hP fun o e => old I o e, ⟨_, hns₁⟩, #[], hacc, rfl⟩
  have loop : ∀ s₃ : Shared, s₃ = { s' with heap := h₁, toks := s'.toks + ([] : List (Str × Value)).length } →
      codeAny C.M A (.compLoop (.ListComp elt [⟨target, iter, ifs, 0⟩] scope pos) 0 (.ref I) (.ref s'.heap.objs.size) (compEnvC scope cl H2.objs.size env)) (RR (.ref s'.heap.objs.size) H2.objs.size) s₃ := by
    rintro s₃ rfl
    refine comp_loop T Iv turn hn hk hcl hmc hI (hsN _ (Nat.le_refl _)) (hsN _ hCs) hIb.2 hIb.1 hDC X hS hJ fun ys σ'' s'' X' S' J' h' tk hk' => ?_
    have W' := X'.w.off X'.oI hI (tk := tk) hk'
    obtain ⟨vs, hvs, hys⟩ := X'.d
    have D' : h'.PlainList s'.heap.objs.size vs := hvs.at fun o e => hk' _ o (Ne.symm hIb.2) e
    have D'' : RO C h' s'.heap.objs.size (.list ys) := let ⟨n, e⟩ := D'; ⟨vs, n, e, hys⟩
    have W'' := W'.addOff X'.oD (hsN _ (Nat.le_refl _)) rfl D''
    refine k ys σ'' _ _ _ W'' ?_ S' J' ⟨fun d => ?_, X'.oC.no, X'.oC.nh, X'.oC.nf⟩ (hsN _ hCs) ?_
    · cases q : σ'' s'.heap.objs.size with
      | none => rfl
      | some o => exact absurd (dom_of q) X'.oD.nd
    · rcases dom_put d rfl with q | d
      · exact hDC q.symm
      · exact X'.oC.nd d
    · obtain ⟨M, hM⟩ := X'.c
      exact ⟨M, hM.at' fun o e => hk' _ o (Ne.symm hIb.1) e⟩
  exact codeAny_compStart_list (loop _ rfl) (T.self 0 _ _ _ X.p (loop _ rfl))

/-- a list comprehension -/
theorem TE_comp {elt target iter : Expr} {ifs : List Expr} {scope : Scope} {pos : Pos} {cl : List (Str × Addr)} {mc : Loc} {n : Nat} {val : Nat → Value} {Sd : Ab → Prop} {Q : Value → Ab → Prop}
    (hi : Src C A env m σ iter n val Sd) (hl : Sd σ) (Iv : Nat → List Value → Ab → Prop) (hJ : Iv 0 [] σ) (turn : CTurn C A env scope cl mc target elt ifs n val Sd Iv)
    (done : ∀ ys σ' D, Sd σ' → Iv n ys σ' → σ' D = none → Q (.ref D) (σ'.put D (.list ys)))
    (hn : n ≤ sizeLine) (hclos : closureFor scope env = pure cl) (hcl : ∀ x c, cl.lookup x = some c → env.cells.lookup x = some c)
    (hmc : ∀ Cc x v, mc.lookup x = some v → (compEnvC scope cl Cc env).kindOf x ≠ some .local ∧ (cl.lookup x).isSome = true ∧ m.lookup x = some v ∧ (env.kindOf x = some .cell ∨ env.kindOf x = some .free))
    (hk : scope.kind = .function := by rfl) (hcell : ∀ y ∈ scope.names, y.2 ≠ .cell := by decide) (hnames : ∀ x ∈ scope.names, x.2 = .local → scope.names.lookup x.1 = some .local := by decide)
    (hs : ∀ x, foldedSetIterable iter env x = pure x := by intro _; rfl) : TE C A env m (.ListComp elt [⟨target, iter, ifs, 0⟩] scope pos) σ Q := fun σ₀ s₀ s R E W k => by
  rw [eval_ListComp]
  refine wpAny_comprehension_free (use := none) rfl hs hclos hk hnames (hi σ s s _ _ _ W.self fun I P s₂ W₂ h0 hO hP hI => ?_)
  refine comp_block (RR := fun acc C' => compPost C.M A E none R acc C') hI Iv turn hn hk hcell hcl hmc W₂ h0 hO hP (hI.alive _ _ hP) hl hJ fun ys σ'' s'' D Cc W' nD S' J' oC hC hM => ?_
  obtain ⟨M, hM⟩ := hM
  refine ⟨M, hM, fun h' hs' => ?_⟩
  have W'' := W'.off (tk := s''.toks) oC hC (h' := h') fun b o hb e => hs'.extBut b o hb e
  exact k (.ref D) _ _ (W.step W''.toWv) (done ys σ'' D S' J' nD)

end
end J
end

section
open PySem PySem.W PySem.Calls PyProof.Rows
set_option Elab.async false
set_option linter.unusedVariables false
namespace J
section
variable {C : Cx} {A : Around} {env : Env} {m : Loc} {σ σ₀ σ' : Ab} {s s₀ s' : Shared}

theorem Wd.alloc (W : Wd C A env m σ₀ s₀ σ s) {ao : AO} (hi : ao.isInst = false) (o : Obj) (tk : Nat) (r : RO C (s.heap.push o) s.heap.objs.size ao) : Wd C A env m σ₀ s₀ (σ.put s.heap.objs.size ao) { s with heap := s.heap.push o, toks := tk } :=
  W.go (s' := { s with heap := s.heap.push o, toks := tk }) (W.st.add hi (Nat.le_refl _) (push_keeps o) r) (W.st.addMv hi (Nat.le_refl _) (push_keeps o))
theorem Wd.newNone (W : Wd C A env m σ₀ s₀ σ s) : σ s.heap.objs.size = none := W.st.none (Nat.le_refl _)
theorem Wd.upd (W : Wd C A env m σ₀ s₀ σ s) {a : Addr} {ao ao' : AO} (e : σ a = some ao) (hi : ao.isInst = false) (hi' : ao'.isInst = false) {h' : Heap} (tk : Nat) (k : ∀ b o, b ≠ a → s.heap.get? b = some o → h'.get? b = some o) (r : RO C h' a ao') : Wd C A env m σ₀ s₀ (σ.put a ao') { s with heap := h', toks := tk } :=
  W.go (s' := { s with heap := h', toks := tk }) (W.st.upd e hi hi' k r) (Mv.upd e hi' k)

-- DISPLAYS
theorem TE_list {elts : List Expr} {pos : Pos} {Q : Value → Ab → Prop} (h : TAs C A env m pos elts σ fun vs σ' => vs.length ≤ sizeLine ∧ ∀ D, σ' D = none → Q (.ref D) (σ'.put D (.list vs))) : TE C A env m (.List elts pos) σ Q := fun σ₀ s₀ s R E W k =>
  wpAny_List_spliced (h σ₀ s₀ s _ E W fun vs s' σ' W' q => ⟨by simpa using q.1, k _ _ _ (W'.alloc (ao := .list (vs.map nv)) rfl { cls := .type "list", data := .seq vs.toArray } s'.toks ⟨vs.toArray, _, Heap.get?_push_size _ rfl, rfl⟩) (q.2 _ W'.newNone)⟩)
theorem TE_tup {elts : List Expr} {x1 : Nat} {pos : Pos} {Q : Value → Ab → Prop} (h : TAs C A env m pos elts σ fun vs σ' => vs.length ≤ sizeLine ∧ ∀ D, σ' D = none → Q (.ref D) (σ'.put D (.tup vs))) : TE C A env m (.Tuple elts x1 pos) σ Q := fun σ₀ s₀ s R E W k =>
  wpAny_Tuple_spliced (h σ₀ s₀ s _ E W fun vs s' σ' W' q => ⟨by simpa using q.1, k _ _ _ (W'.alloc (ao := .tup (vs.map nv)) rfl { cls := .type "tuple", data := .seq vs.toArray } s'.toks ⟨vs.toArray, _, Heap.get?_push_size _ rfl, rfl⟩) (q.2 _ W'.newNone)⟩)
theorem TE_dict0 {pos : Pos} {Q : Value → Ab → Prop} (ao : AO) (hao : ao = .dS (fun _ => none) 0 ∨ ao = .dB (fun _ => none) 0 ∨ ao = .dI (fun _ => none) 0) (h : ∀ D, σ D = none → Q (.ref D) (σ.put D ao)) : TE C A env m (.Dict [] [] pos) σ Q := fun σ₀ s₀ s R E W k => by
  refine wpAny_Dict_empty ?_
  have hsys : (s.heap.objs.size == sysModules) = false := by
    have h1 : mainGlobals < s.heap.objs.size := by
      obtain ⟨o, _, _, ho, _⟩ := C.T.g
      exact Heap.lt_size (W.st.keep _ _ ho)
    have h2 : (sysModules : Nat) < mainGlobals := by decide
    have h3 : s.heap.objs.size ≠ sysModules := fun q => Nat.lt_irrefl _ (Nat.lt_trans (q ▸ h1) h2)
    simpa using h3
  have hi : ao.isInst = false := by rcases hao with rfl | rfl | rfl <;> rfl
  refine k _ _ _ (W.alloc hi { cls := .type "dict", data := .dict #[] } s.toks ?_) (h _ W.newNone)
  rcases hao with rfl | rfl | rfl
  · exact ⟨hsys, [], Heap.DictOf.new _, Nat.le_refl _, fun _ => rfl⟩
  · exact ⟨hsys, [], Heap.DictOf.new _, Nat.le_refl _, fun _ => rfl⟩
  · exact ⟨hsys, [], Heap.DictOf.new _, Nat.le_refl _, fun _ => rfl⟩

-- NUMBERS, TEXTS
theorem EV_fdiv {l r : Expr} {pos : Pos} {a b : Int} (hl : EV C A env m σ l (.int a 0)) (hr : EV C A env m σ r (.int b 0)) (hb0 : b ≠ 0) (hs : b.natAbs < 1073741824) : EV C A env m σ (.BinOp l .FloorDiv r pos) (.int (a.fdiv b) 0) :=
  EV_bin hl hr fun a' b' ha hb s R E S k => by obtain ⟨t, rfl⟩ := nv_to_int ha; obtain ⟨u, rfl⟩ := nv_to_int hb; exact PyProof.Rows.floordiv_int hb0 (k _ _ rfl) (.inl (PyProof.noPylong_small hs))
theorem Itm.str {x : Str} {i : Nat} {c : Nat} (hi : i < 1000) (hc : x.cps[i]? = some c) : Itm C A σ (.str x 0) (.int i 0) (.str ⟨#[c]⟩ 0) := fun o' i' ho hii s R E S k value slice hs => by
  obtain ⟨t, rfl⟩ := nv_to_str ho
  obtain ⟨u, rfl⟩ := nv_to_int hii
  have hlt : i < x.cps.size := (Array.getElem?_eq_some_iff.mp hc).1
  refine tail_any (T := "str") (typeIs_str s x t) slot_str_getitem.lookup (PyProof.Rows.getItem_str (by simp; omega) ?_ (k _ _ rfl)) (hs _ _)
  have e2 : ((i : Int) < (x.cps.size : Int)) := Int.ofNat_lt.mpr hlt
  have e3 : seqIndex? (i : Int) x.length = some i := by
    have h0 : ¬ ((i : Int) < 0) := by omega
    have e4 : ((i : Int) < (x.length : Int)) := e2
    have h1 : (0 ≤ (i : Int)) := by omega
    unfold seqIndex?
    simp only [h0, if_false, e4, h1, decide_true, Bool.and_self, if_true, Int.toNat_natCast]
  rw [e3]
  exact hc
theorem TX_aug {x : Str} {pos' pos : Pos} {e : Expr} {a b : Int} {Q : Flow → Loc → Ab → Prop} (hx : env.kindOf x = some .local) (hv : m.lookup x = some (.int a 0)) (he : EV C A env m σ e (.int b 0)) (h : Q .next ((x, .int (a + b) 0) :: m) σ) :
    TX C A env m (.AugAssign (.Name x pos') .Add e pos) σ Q := fun σ₀ s₀ s R E W k => by
  refine wpAny_AugAssign_Name ?_
  obtain ⟨M, hM, hm⟩ := W.ok.ns
  obtain ⟨u, hu, e'⟩ := hm x _ hv hx
  refine wpAny_loadName_local W.ok.fn hx hM hu ?_
  obtain ⟨t, rfl⟩ := nv_to_int e'
  refine he.run W.wd fun v s₁ hv W₁ => ?_
  obtain ⟨t', rfl⟩ := nv_to_int hv
  have W₁' := W.step W₁
  refine PyProof.Rows.iadd_int ?_
  exact (W₁'.step (W₁'.wd.tok _)).storeL hx fun s₂ W₂ => k .next _ _ _ W₂ h

-- DICTS
theorem valueAt_stored {K : Type} [DecidableEq K] (kvs : List (K × Value)) (k : K) (v : Value) (x : K) : valueAt (stored kvs k v) x = if x = k then some v else valueAt kvs x := by
  unfold stored valueAt
  split
  · rename_i h
    induction kvs with
    | nil => simp at h
    | cons p r ih =>
      obtain ⟨y, w⟩ := p
      by_cases q : y = k
      · subst q
        by_cases q2 : x = y
        · subst q2; simp
        · have : ∀ r : List (K × Value), ((r.map fun kv => if kv.1 = y then (kv.1, v) else kv).find? fun kv => decide (kv.1 = x)).map (·.2) = (r.find? fun kv => decide (kv.1 = x)).map (·.2) := fun r => by
            induction r with
            | nil => rfl
            | cons p r ih =>
              obtain ⟨z, w⟩ := p
              by_cases q3 : z = y
              · subst q3; simp [List.find?_cons, Ne.symm q2, ih]; simpa using ih
              · by_cases q4 : z = x
                · subst q4; simp [q3]
                · simp [List.find?_cons, q3, q4]; simpa using ih
          have := this r
          simp [List.find?_cons, Ne.symm q2, q2]; simpa using this
      · have h' : (r.any fun kv => decide (kv.1 = k)) = true := by simpa [q] using h
        have ih := ih h'
        by_cases q2 : y = x
        · subst q2; simp [q]
        · simp [List.find?_cons, q, q2]; simpa using ih
  · rename_i h
    rw [List.find?_append]
    by_cases q : x = k
    · subst q
      have : (kvs.find? fun kv => decide (kv.1 = x)) = none := by
        rw [List.find?_eq_none]
        intro p hp e
        exact h (List.any_eq_true.mpr ⟨p, hp, e⟩)
      simp [this]
    · cases z : kvs.find? fun kv => decide (kv.1 = x) with
      | none => simp [q, Ne.symm q]
      | some p => simp [q]
end
end J
end

section
open PySem PySem.W PySem.Calls PyProof.Rows
set_option Elab.async false
set_option linter.unusedVariables false
namespace J
section
variable {C : Cx} {A : Around} {env : Env} {m : Loc} {σ σ₀ σ' : Ab} {s s₀ s' : Shared}

theorem callWith_bi {pos : Pos} {id : String} {first : List Value} {e : Expr} {es : List Expr} {Q : Value → Ab → Prop}
    (h : TAs C A env m pos (e :: es) σ fun vs σ' => CallR C A (.builtin id) (first.map nv ++ vs) σ' Q)
    (he : starEach (e :: es) env = (false, eval e env) :: starEach es env := by rfl) (hp : (backTo pos (starEach es env)).any (·.1) = false := by rfl) :
    TF C A env m (callWith pos (.builtin id) first (backTo pos (starEach (e :: es) env)) []) nv σ Q := fun σ₀ s₀ s R E W k => by
  have h' := fun (E : Value → Shared → Prop) => h σ₀ s₀ s (fun us s₁ => wpAny C.M A (call (.builtin id) (first ++ us)) R E s₁) E W fun us s' σ' W' q => q.run (by simp) W' k
  rw [he] at h' ⊢
  exact callWith_builtin (by show (false || (backTo pos (starEach es env)).any (·.1)) = false; rw [hp]; rfl) (evalArgs_plain (h' E))
/-- a builtin by its global name -/
theorem TE_bcall {x : Str} {p pos : Pos} {id : String} {e : Expr} {es : List Expr} {Q : Value → Ab → Prop} (hf : EV C A env m σ (.Name x p) (.builtin id))
    (h : TAs C A env m pos (e :: es) σ fun vs σ' => CallR C A (.builtin id) vs σ' Q)
    (he : starEach (e :: es) env = (false, eval e env) :: starEach es env := by rfl) (hp : (backTo pos (starEach es env)).any (·.1) = false := by rfl) :
    TE C A env m (.Call (.Name x p) (e :: es) [] pos) σ Q := fun σ₀ s₀ s R E W k =>
  wpAny_Call_NameR (hf.run W fun u s₁ hu W₁ => by
    obtain rfl := nv_to_builtin hu
    exact callWith_bi (first := []) h he hp σ₀ s₀ s₁ R E W₁ k)
/-- the class of a builtin object of σ -/
def AO.T : AO → String
  | .inst .. => "object"
  | .list _ => "list"
  | .tup _ => "tuple"
  | .setT _ => "set"
  | _ => "dict"
theorem St.typeIs (S : St C σ s.heap) {a : Addr} {ao : AO} (e : σ a = some ao) (hi : ao.isInst = false) : s.TypeIs (.ref a) ao.T ∧ ∃ o, s.heap.get? a = some o ∧ o.dict = Option.none := by
  have r := S.rep a ao e
  cases ao with
  | inst => cases hi
  | list xs => obtain ⟨vs, n, ho, _⟩ := r; exact ⟨⟨_, ho, rfl⟩, _, ho, rfl⟩
  | tup xs => obtain ⟨vs, n, ho, _⟩ := r; exact ⟨⟨_, ho, rfl⟩, _, ho, rfl⟩
  | dS f n => obtain ⟨_, kvs, ⟨o, es, ep, ho, hx, r⟩, _⟩ := r; exact ⟨⟨o, ho, hx.1⟩, o, ho, hx.2.1⟩
  | dB f n => obtain ⟨_, kvs, ⟨o, es, ep, ho, hx, r⟩, _⟩ := r; exact ⟨⟨o, ho, hx.1⟩, o, ho, hx.2.1⟩
  | dI f n => obtain ⟨_, kvs, ⟨o, es, ep, ho, hx, r⟩, _⟩ := r; exact ⟨⟨o, ho, hx.1⟩, o, ho, hx.2.1⟩
  | setT ks => obtain ⟨es, ep, t, ho, _⟩ := r; exact ⟨⟨_, ho, rfl⟩, _, ho, rfl⟩
/-- o.x(e, ..) of a builtin object -/
theorem TE_bmeth {o : Expr} {x : Str} {apos pos : Pos} {a : Addr} {ao : AO} {id : String} {e : Expr} {es : List Expr} {pl : Sem Bool} {Q : Value → Ab → Prop} (ho : EV C A env m σ o (.ref a)) (ha : σ a = some ao) (hi : ao.isInst = false)
    (pa : PlainAttrs ao.T) (slot : Slot ao.T x id) (hty : typeOf (.builtin id) = pure (.type "method_descriptor"))
    (h : TAs C A env m pos (e :: es) σ fun vs σ' => CallR C A (.builtin id) (.ref a :: vs) σ' Q)
    (he : eval (.Call (.Attribute o x apos) (e :: es) [] pos) env = (do
      let ov ← eval o env
      standAt apos.atName
      let (f, first) ← holding [ov] (getMethod ov x pl)
      callWith pos f first (backTo pos (starEach (e :: es) env)) []) := by rfl)
    (he' : starEach (e :: es) env = (false, eval e env) :: starEach es env := by rfl) (hp : (backTo pos (starEach es env)).any (·.1) = false := by rfl) :
    TE C A env m (.Call (.Attribute o x apos) (e :: es) [] pos) σ Q := fun σ₀ s₀ s R E W k =>
  MethodCall_ (ho.run W fun u s₁ hu W₁ => by
    obtain rfl := nv_to_ref hu
    obtain ⟨hT, hd⟩ := W₁.st.typeIs ha hi
    refine getMethod_builtin hT pa slot hty (fun b hb => by cases hb; exact hd) ?_
    exact callWith_bi (first := [.ref a]) h he' hp σ₀ s₀ s₁ R E W₁ k) he

theorem CallR.of {f : Value} {as : List Value} {Q : Value → Ab → Prop} (h : ∀ us, us.map nv = as → ∀ σ₀ s₀ s (R : Value → Shared → Prop) (E : Value → Shared → Prop), Wv C A σ₀ s₀ σ s → (∀ v s' σ', Wv C A σ₀ s₀ σ' s' → Q (nv v) σ' → R v s') → wpAny C.M A (call f us) R E s) : CallR C A f as σ Q :=
  fun us hu σ₀ s₀ s R E W k => h us hu σ₀ s₀ s R E W k
theorem Wv.upd (W : Wv C A σ₀ s₀ σ s) {a : Addr} {ao ao' : AO} (e : σ a = some ao) (hi : ao.isInst = false) (hi' : ao'.isInst = false) {h' : Heap} (tk : Nat) (k : ∀ b o, b ≠ a → s.heap.get? b = some o → h'.get? b = some o) (r : RO C h' a ao') : Wv C A σ₀ s₀ (σ.put a ao') { s with heap := h', toks := tk } :=
  W.go (s' := { s with heap := h', toks := tk }) (W.st.upd e hi hi' k r) (Mv.upd e hi' k)
theorem map_three {us : List Value} {a b c : Value} (h : us.map nv = [a, b, c]) : ∃ u v w, us = [u, v, w] ∧ nv u = a ∧ nv v = b ∧ nv w = c := by
  rcases us with _ | ⟨ua, us⟩
  · simp at h
  · obtain ⟨h1, h2⟩ := List.cons.inj h
    obtain ⟨u, v, rfl, h3, h4⟩ := map_two h2
    exact ⟨ua, u, v, rfl, h1, h3, h4⟩
/-- l.append(v) -/
theorem call_append {l : Addr} {xs : List Value} {v : Value} {Q : Value → Ab → Prop} (hl : σ l = some (.list xs)) (hn : xs.length ≤ sizeLine) (h : Q .none (σ.put l (.list (xs ++ [v])))) : CallR C A (.builtin "list.append") [.ref l, v] σ Q := CallR.of fun us hu σ₀ s₀ s R E W k => by
  obtain ⟨u, w, rfl, h1, h2⟩ := map_two hu
  obtain rfl := nv_to_ref h1
  obtain ⟨vs, n, ho, hx⟩ := W.st.rep l _ hl
  refine wpAny_list_append_plain (items := vs) ⟨n, ho⟩ (fun h' hl' hs' => ?_) (by rw [size_of_map hx]; exact hn)
  refine k .none _ _ (W.upd hl rfl rfl s.toks (fun b o hb e => hs'.extBut b o hb e) ?_) h
  obtain ⟨n', ho'⟩ := hl'
  exact ⟨_, n', ho', by rw [Array.toList_push, List.map_append, hx, ← h2]; rfl⟩
/-- l.insert(0, v) -/
theorem call_insert0 {l : Addr} {xs : List Value} {v : Value} {Q : Value → Ab → Prop} (hl : σ l = some (.list xs)) (hn : xs.length ≤ 1000) (h : Q .none (σ.put l (.list (v :: xs)))) : CallR C A (.builtin "list.insert") [.ref l, .int 0 0, v] σ Q := CallR.of fun us hu σ₀ s₀ s R E W k => by
  obtain ⟨u, i, w, rfl, h1, h2, h3⟩ := map_three hu
  obtain rfl := nv_to_ref h1
  obtain ⟨t, rfl⟩ := nv_to_int h2
  obtain ⟨vs, n, ho, hx⟩ := W.st.rep l _ hl
  have e1 := size_of_map hx
  have hs : (1000 : Nat) ≤ sizeLine := by decide
  refine call_meets PySem.F.slot_list_insert ⟨_, ho, rfl⟩ PySem.F.entry_list_insert (PySem.F.args_list_insert_3 _ _ _) (PySem.AutoSeq1.list_insert_list_int_val_1 l vs n 0 t w (by simp [Builtin.List.listFitsIndex]) (by omega)) ⟨ho, ?_⟩
  have e3 := Heap.get?_update_self (Obj.mapSeq fun xs => have k := if (0 : Int) < 0 then ((0 : Int) + (xs.size : Int)).toNat else min (0 : Int).toNat xs.size; (xs.extract 0 k).push w ++ xs.extract k) ho rfl
  exact k .none _ _ (W.upd (ao' := .list (v :: xs)) hl rfl rfl s.toks (fun b o hb e => (Heap.SameBut.update ..).extBut b o hb e) ⟨_, _, e3, by simp [hx, h3]⟩) h

-- dict.get, d[k] = v
/-- d[x] = v -/
theorem TX_setS {o i value : Expr} {pos' pos : Pos} {d : Addr} {f : Str → Option Value} {n : Nat} {x : Str} {Q : Flow → Loc → Ab → Prop}
    (h : TE C A env m value σ fun v σ' => EV C A env m σ' o (.ref d) ∧ EV C A env m σ' i (.str x 0) ∧ σ' d = some (.dS f n) ∧ n ≤ sizeLine ∧ Q .next m (σ'.put d (.dS (fun y => if y = x then some v else f y) (n + 1))))
    (hs : swapsWith value (some (.Subscript o i pos')) pos.line env = pure false := by rfl) : TX C A env m (.Assign [.Subscript o i pos'] value pos) σ Q := fun σ₀ s₀ s R E W k => by
  refine wpAny_Assign_Subscript (h.use W fun v s₁ σ₁ W₁ ⟨ho, hi, hd, hnl, q⟩ => ho.run W₁.wd fun u s₂ hu W₂ => hi.run W₂ fun w s₃ hw W₃ => ?_) hs
  obtain rfl := nv_to_ref hu
  obtain ⟨t, rfl⟩ := nv_to_str hw
  obtain ⟨hsy, kvs, hdo, hn, hf⟩ := W₃.st.rep d _ hd
  refine wpAny_setItem_pairs (knd := PySem.strKind C.prog C.w) isStrKind hdo (fun h' hdo' hs' => ?_) (Nat.le_trans hn hnl)
  refine k .next _ _ _ (W₁.step (W₃.upd (ao' := .dS (fun y => if y = x then some (nv v) else f y) (n + 1)) hd rfl rfl (s₃.toks + 1) (fun b o hb e => hs'.extBut b o hb e) ⟨hsy, _, hdo', Nat.le_trans (stored_length_le _ _ _) (Nat.succ_le_succ hn), fun y => ?_⟩)) q
  rw [valueAt_stored]
  by_cases q : y = x
  · simp [q]
  · simp only [if_neg q]; exact hf y
/-- d[x] = v -/
theorem TX_setB {o i value : Expr} {pos' pos : Pos} {d : Addr} {f : List UInt8 → Option Value} {n : Nat} {x : List UInt8} {Q : Flow → Loc → Ab → Prop}
    (h : TE C A env m value σ fun v σ' => EV C A env m σ' o (.ref d) ∧ EV C A env m σ' i (.bytes x.toArray 0) ∧ σ' d = some (.dB f n) ∧ n ≤ sizeLine ∧ Q .next m (σ'.put d (.dB (fun y => if y = x then some v else f y) (n + 1))))
    (hs : swapsWith value (some (.Subscript o i pos')) pos.line env = pure false := by rfl) : TX C A env m (.Assign [.Subscript o i pos'] value pos) σ Q := fun σ₀ s₀ s R E W k => by
  refine wpAny_Assign_Subscript (h.use W fun v s₁ σ₁ W₁ ⟨ho, hi, hd, hnl, q⟩ => ho.run W₁.wd fun u s₂ hu W₂ => hi.run W₂ fun w s₃ hw W₃ => ?_) hs
  obtain rfl := nv_to_ref hu
  obtain ⟨t, rfl⟩ := nv_to_bytes hw
  obtain ⟨hsy, kvs, hdo, hn, hf⟩ := W₃.st.rep d _ hd
  refine wpAny_setItem_pairs (knd := bytesKind C.prog C.w) isBytesKind hdo (fun h' hdo' hs' => ?_) (Nat.le_trans hn hnl)
  refine k .next _ _ _ (W₁.step (W₃.upd (ao' := .dB (fun y => if y = x then some (nv v) else f y) (n + 1)) hd rfl rfl (s₃.toks + 1) (fun b o hb e => hs'.extBut b o hb e) ⟨hsy, _, hdo', Nat.le_trans (stored_length_le _ _ _) (Nat.succ_le_succ hn), fun y => ?_⟩)) q
  rw [valueAt_stored]
  by_cases q : y = x
  · simp [q]
  · simp only [if_neg q]; exact hf y
/-- d[x] = v -/
theorem TX_setI {o i value : Expr} {pos' pos : Pos} {d : Addr} {f : Int → Option Value} {n : Nat} {x : Int} {Q : Flow → Loc → Ab → Prop}
    (h : TE C A env m value σ fun v σ' => EV C A env m σ' o (.ref d) ∧ EV C A env m σ' i (.int x 0) ∧ σ' d = some (.dI f n) ∧ n ≤ sizeLine ∧ Q .next m (σ'.put d (.dI (fun y => if y = x then some v else f y) (n + 1))))
    (hs : swapsWith value (some (.Subscript o i pos')) pos.line env = pure false := by rfl) : TX C A env m (.Assign [.Subscript o i pos'] value pos) σ Q := fun σ₀ s₀ s R E W k => by
  refine wpAny_Assign_Subscript (h.use W fun v s₁ σ₁ W₁ ⟨ho, hi, hd, hnl, q⟩ => ho.run W₁.wd fun u s₂ hu W₂ => hi.run W₂ fun w s₃ hw W₃ => ?_) hs
  obtain rfl := nv_to_ref hu
  obtain ⟨t, rfl⟩ := nv_to_int hw
  obtain ⟨hsy, kvs, hdo, hn, hf⟩ := W₃.st.rep d _ hd
  refine wpAny_setItem_pairs (knd := PySem.intKind C.prog C.w) isIntKind hdo (fun h' hdo' hs' => ?_) (Nat.le_trans hn hnl)
  refine k .next _ _ _ (W₁.step (W₃.upd (ao' := .dI (fun y => if y = x then some (nv v) else f y) (n + 1)) hd rfl rfl (s₃.toks + 1) (fun b o hb e => hs'.extBut b o hb e) ⟨hsy, _, hdo', Nat.le_trans (stored_length_le _ _ _) (Nat.succ_le_succ hn), fun y => ?_⟩)) q
  rw [valueAt_stored]
  by_cases q : y = x
  · simp [q]
  · simp only [if_neg q]; exact hf y
end
end J
end

section
open PySem PySem.W PySem.Calls PyProof.Rows
set_option Elab.async false
set_option linter.unusedVariables false
namespace J
section
variable {C : Cx} {A : Around} {env : Env} {m : Loc} {σ σ₀ σ' : Ab} {s s₀ s' : Shared}

theorem Tru.none : Tru C A σ .none false := fun u hu s R E S k => by obtain rfl := nv_to_none hu; exact PyProof.Rows.truthy_none (k s.toks)
theorem EB_tru {e : Expr} {v : Value} {b : Bool} (h : EV C A env m σ e v) (ht : Tru C A σ v b) (he : ∀ whole, isTrue e env whole = (do let v ← whole; standAt e.pos; holding [v] (truthy v)) := by intro _; rfl) : EB C A env m σ e b := EB_val h ht he
-- len
theorem call_len {l : Addr} {xs : List Value} {Q : Value → Ab → Prop} (hl : σ l = some (.list xs)) (hn : xs.length ≤ 1000) (h : Q (.int xs.length 0) σ) : CallR C A (.builtin "len") [.ref l] σ Q := CallR.of fun us hu σ₀ s₀ s R E W k => by
  obtain ⟨u, rfl, h1⟩ := map_one hu
  obtain rfl := nv_to_ref h1
  obtain ⟨vs, hls, hx⟩ := W.st.isList hl
  have e1 := size_of_map hx
  refine call_len_list hls (by omega) (k _ _ _ (W.tok _) ?_)
  rw [nv_int, e1]; exact h
theorem call_len0 {l : Addr} {items : Array Value} {n : Nat} {Q : Value → Ab → Prop} (hl : C.h₀.IsList l items) (hn : items.size = n) (hf : (n : Int) < 2 ^ 63) (h : Q (.int n 0) σ) : CallR C A (.builtin "len") [.ref l] σ Q := CallR.of fun us hu σ₀ s₀ s R E W k => by
  obtain ⟨u, rfl, h1⟩ := map_one hu
  obtain rfl := nv_to_ref h1
  obtain ⟨o, ho, r⟩ := hl
  refine call_len_list (items := items) ⟨o, W.st.keep _ _ ho, r⟩ (by rw [hn]; exact hf) (k _ _ _ (W.tok _) ?_)
  rw [nv_int, hn]; exact h

-- isinstance
theorem call_isinst {a K D : Addr} {fs : Loc} {Q : Value → Ab → Prop} (ha : σ a = some (.inst K fs)) (e : isIn C.K (.ref K) D = true) (h : Q (.bool true) σ) : CallR C A (.builtin "isinstance") [.ref a, .ref D] σ Q := CallR.of fun us hu σ₀ s₀ s R E W k => by
  obtain ⟨u, v, rfl, h1, h2⟩ := map_two hu
  obtain rfl := nv_to_ref h1
  obtain rfl := nv_to_ref h2
  obtain ⟨d, od, I, _⟩ := W.st.inst ha
  exact isi_call W.st.K (fun M => I.type) e (by intro q; cases q) (k _ _ _ W h)
theorem call_isKind {v : Value} {t : Value} {c : Value} {b : Bool} {H : Heap → Prop} {Q : Value → Ab → Prop} (hc : nv c = c) (hZ : ∀ u, nv u = v → KitX C.K u t H ∧ u ≠ .builtin "__main__.__loader__#opaque") (hH : ∀ h, St C σ h → H h) (e : kitOne C.K t c = some b) (hcu : ∀ u, nv u = c → u = c) (h : Q (.bool b) σ) : CallR C A (.builtin "isinstance") [v, c] σ Q := CallR.of fun us hu σ₀ s₀ s R E W k => by
  obtain ⟨u, w, rfl, h1, h2⟩ := map_two hu
  obtain rfl := hcu w h2
  obtain ⟨Z, hx⟩ := hZ u h1
  exact kia_one Z W.st.K (hH _ W.st) e hx fun tk => k _ _ _ (W.tok tk) h
theorem call_isList {a : Addr} {xs : List Value} {Q : Value → Ab → Prop} (ha : σ a = some (.list xs)) (e : kitOne C.K (.type "list") (.type "list") = some true) (h : Q (.bool true) σ) : CallR C A (.builtin "isinstance") [.ref a, .type "list"] σ Q :=
  call_isKind (H := KitAt a "list") rfl (fun u hu => by obtain rfl := nv_to_ref hu; exact ⟨kitx_list, by intro q; cases q⟩) (fun h S => by obtain ⟨vs, n, ho, _⟩ := S.rep a _ ha; exact ⟨_, ho, rfl⟩) e (fun u hu => nv_to_type hu) h
-- list + list, l[:]
theorem slice_all (items : Array Value) : slicePick items Option.none Option.none Option.none = items := by
  have e : slicePick items Option.none Option.none Option.none = slicePick items (some ((0 : Nat) : Int)) Option.none Option.none := by
    unfold slicePick
    congr 2
  rw [e, slicePick_from items 0 (Nat.zero_le _)]; simp
theorem TE_sliceAll {o : Expr} {p pos : Pos} {a : Addr} {xs : List Value} {Q : Value → Ab → Prop} (ho : EV C A env m σ o (.ref a)) (ha : σ a = some (.list xs)) (hn : xs.length ≤ 1000) (h : ∀ D, σ D = none → Q (.ref D) (σ.put D (.list xs)))
    (ht : ∀ ov r, letTemporaryGo o ov r = pure () := by intro _ _; rfl) : TE C A env m (.Subscript o (.Slice none none none p) pos) σ Q := fun σ₀ s₀ s R E W k =>
  wpAny_Subscript_list_slice (ho.run W fun u s₁ hu W₁ => by
    obtain rfl := nv_to_ref hu
    rw [evalPart_none]
    refine wpAny_pure (wpAny_pure ?_)
    obtain ⟨vs, n, hoo, hx⟩ := W₁.st.rep a _ ha
    have e1 := size_of_map hx
    have hs : (1000 : Nat) ≤ sizeLine := by decide
    refine ⟨a, vs, none, none, rfl, ⟨_, hoo, rfl, _, rfl⟩, by omega, .none, .none, ?_⟩
    have W₂ := W₁.push { cls := .type "slice", data := .fields #[.none, .none, .none] } s₁.toks
    have hz : (s₁.heap.push { cls := .type "slice", data := .fields #[.none, .none, .none] }).objs.size = s₁.heap.objs.size + 1 := Heap.size_push ..
    have W₃ := W₂.alloc (ao := .list xs) rfl { cls := .type "list", data := .seq (slicePick vs none none none) } s₁.toks ⟨_, _, Heap.get?_push_size _ rfl, by rw [slice_all]; exact hx⟩
    rw [← hz]
    exact k _ _ _ W₃ (h _ W₂.newNone)) ht
end
end J
end

section
open PySem PySem.W PySem.Calls PyProof.Rows
set_option Elab.async false
set_option linter.unusedVariables false
namespace J
section
variable {C : Cx} {A : Around} {env : Env} {m : Loc} {σ σ₀ σ' : Ab} {s s₀ s' : Shared}

-- set()
theorem TE_set0 {x : Str} {p pos : Pos} {Q : Value → Ab → Prop} (hf : EV C A env m σ (.Name x p) (.type "set")) (h : ∀ D, Q (.ref D) σ) (hx : starEach [] env = [] := by rfl) : TE C A env m (.Call (.Name x p) [] [] pos) σ Q := fun σ₀ s₀ s R E W k =>
  wpAny_Call_NameR (hf.run W fun u s₁ hu W₁ => by
    obtain rfl := nv_to_type hu
    rw [hx]
    exact PySem.callWith_type rfl (PySem.evalArgs_none (call_set_0 fun led => k _ _ _ (W₁.push _ s₁.toks) (h _))))

-- int.to_bytes(20, 'big')
def big20 (x : Int) : List UInt8 := (PySem.W.KTBy.low x 20).reverse
theorem call_toBytes {x : Int} {Q : Value → Ab → Prop} (h0 : 0 ≤ x) (h1 : x < 256) (h : Q (.bytes (big20 x).toArray 0) σ) : CallR C A (.builtin "int.to_bytes") [.int x 0, .int 20 0, .str (PySem.Str.ofString "big") 0] σ Q := CallR.of fun us hu σ₀ s₀ s R E W k => by
  obtain ⟨u, v, w, rfl, h3, h4, h5⟩ := map_three hu
  obtain ⟨t, rfl⟩ := nv_to_int h3
  obtain ⟨t2, rfl⟩ := nv_to_int h4
  obtain ⟨t3, rfl⟩ := nv_to_str h5
  have hb : Builtin.Int.intBits x ≤ 160 := Nat.le_trans (KTBy.bits_le (k := 1) (B := 256) rfl h0 h1) (by decide)
  refine wpAny_call_entry KTBy.slot (typeIs_int s x t) KTBy.entry ?_ (KTBy.args _ _ _)
  show wpAny _ _ (Builtin.Int.intOfSelf (.int x t) >>= fun y => _) _ _ s
  refine wpAny_bind (wpAny_of_eq (a := x) rfl ?_)
  show wpAny _ _ (Builtin.Int.intBindNamed "to_bytes" ["length", "byteorder", "signed"] 0 2 [.int 20 t2, .str (PySem.Str.ofString "big") t3] [] >>= fun l => _) _ _ s
  refine wpAny_bind (wpAny_of_eq (a := [some (.int 20 t2), some (.str (PySem.Str.ofString "big") t3), Option.none]) (by kernel_rfl) ?_)
  show wpAny _ _ (Builtin.Int.intIndex "int.to_bytes" (.int 20 t2) >>= fun n => _) _ _ s
  refine wpAny_bind (wpAny_of_eq (a := (20 : Int)) rfl ?_)
  refine KTBy.if_not (by show (decide ((20 : Int) < -(2 ^ 63 : Int)) || decide ((20 : Int) ≥ 2 ^ 63)) = false; rw [decide_eq_false (show ¬ ((20 : Int) < -(2 ^ 63 : Int)) by omega), decide_eq_false (show ¬ ((20 : Int) ≥ 2 ^ 63) by omega)]; rfl) ?_
  refine wpAny_bind (wpAny_of_eq (a := PySem.Str.ofString "big") (by kernel_rfl) ?_)
  refine wpAny_bind (wpAny_of_eq (a := false) rfl ?_)
  refine wpAny_bind (wpAny_of_eq (a := false) (by kernel_rfl) ?_)
  refine wpAny_ite_false (decide_eq_false (show ¬ ((20 : Int) < 0) by omega)) ?_
  refine wpAny_ite_false (decide_eq_false (show ¬ ((20 : Int) > 2 ^ 63 - 1 - 33) by omega)) ?_
  refine wpAny_ite_false (decide_eq_false (show ¬ ((20 : Int) > (sizeLine : Int)) by rw [sizeLine_eq]; omega)) ?_
  refine KTBy.if_not (by show (decide (x < 0) && !false) = false; rw [decide_eq_false (show ¬ x < 0 by omega)]; rfl) ?_
  refine KTBy.if_not (by show (_ && decide ((Builtin.Int.intBits x : Int) > 8 * (20 : Int))) = false; rw [decide_eq_false (show ¬ ((Builtin.Int.intBits x : Int) > 8 * (20 : Int)) by omega), Bool.and_false]) ?_
  refine wpAny_bind (wpAny_mkBytes (wpAny_pure ⟨_, rfl, k _ _ _ (W.tok _) ?_⟩) ?_)
  · exact h
  · show (List.reverse (KTBy.low x 20)).length ≤ sizeLine
    rw [List.length_reverse, KTBy.low_length]; decide
set_option maxRecDepth 100000 in
/-- o.to_bytes(..) of an int -/
theorem TE_toBytes {o : Expr} {apos pos : Pos} {x : Int} {e : Expr} {es : List Expr} {pl : Sem Bool} {Q : Value → Ab → Prop} (ho : EV C A env m σ o (.int x 0))
    (h : TAs C A env m pos (e :: es) σ fun vs σ' => CallR C A (.builtin "int.to_bytes") (.int x 0 :: vs) σ' Q)
    (he : eval (.Call (.Attribute o (PySem.Str.ofString "to_bytes") apos) (e :: es) [] pos) env = (do
      let ov ← eval o env
      standAt apos.atName
      let (f, first) ← holding [ov] (getMethod ov (PySem.Str.ofString "to_bytes") pl)
      callWith pos f first (backTo pos (starEach (e :: es) env)) []) := by rfl)
    (he' : starEach (e :: es) env = (false, eval e env) :: starEach es env := by rfl) (hp : (backTo pos (starEach es env)).any (·.1) = false := by rfl) :
    TE C A env m (.Call (.Attribute o (PySem.Str.ofString "to_bytes") apos) (e :: es) [] pos) σ Q := fun σ₀ s₀ s R E W k =>
  MethodCall_ (ho.run W fun u s₁ hu W₁ => by
    obtain ⟨t, rfl⟩ := nv_to_int hu
    exact KTBy.method (callWith_bi (first := [.int x t]) h he' hp σ₀ s₀ s₁ R E W₁ k)) he

-- ASSIGNMENTS
theorem TS_attr {o : Expr} {x : Str} {pos : Pos} {u : Value} {a K : Addr} {fs : Loc} {Q : Unit → Loc → Ab → Prop} (ho : EV C A env m σ o (.ref a)) (e : σ a = some (.inst K fs)) (hk : setsIn C.K K x = true) (hz : fs.length ≤ 1000)
    (h : Q () m (σ.put a (.inst K ((x, nv u) :: fs)))) : TS C A env m (assign (.Attribute o x pos) env u) (fun _ => ()) σ Q := fun σ₀ s₀ s R E W k => by
  rw [assign_Attribute]
  refine wpAny_bind (wpAny_holding (ho.run W.wd fun ov s₁ hu W₁ => ?_))
  obtain rfl := nv_to_ref hu
  refine wpAny_bind (wpAny_standAt (wpAny_bind (wpAny_holding (setAttr_inst W₁ e hk hz fun s₂ W₂ => ?_))))
  intro Γ p hΓ
  simp only [Sem.wp_release]
  exact k () _ _ _ (W.step W₂) h
/-- targets, in order -/
def TIn (C : Cx) (A : Around) (env : Env) (m : Loc) (ts : List (Value → Sem Unit)) (vs : List Value) (σ : Ab) (Q : Loc → Ab → Prop) : Prop :=
  ∀ us, us.map nv = vs → TS C A env m (assignInOrder ts us) (fun _ => ()) σ fun _ m' σ' => Q m' σ'
theorem TIn.nil {Q : Loc → Ab → Prop} (h : Q m σ) : TIn C A env m [] [] σ Q := fun us hu σ₀ s₀ s R E W k => by
  obtain rfl : us = [] := by simpa using hu
  exact PyProof.Rows.assignInOrder_nil (k _ _ _ _ W h)
theorem TIn.cons {t : Value → Sem Unit} {ts : List (Value → Sem Unit)} {v : Value} {vs : List Value} {Q : Loc → Ab → Prop} (h : ∀ u, nv u = v → TS C A env m (t u) (fun _ => ()) σ fun _ m' σ' => TIn C A env m' ts vs σ' Q) : TIn C A env m (t :: ts) (v :: vs) σ Q := fun us hu σ₀ s₀ s R E W k => by
  rcases us with _ | ⟨u, us⟩
  · simp at hu
  · obtain ⟨h1, h2⟩ := List.cons.inj hu
    exact PyProof.Rows.assignInOrder_cons (h u h1 σ₀ s₀ s _ E W fun v s' m' σ' W' q => q us h2 σ₀ s₀ s' _ E W' k)
theorem TS_tupT {elts : List Expr} {kk : Nat} {pos : Pos} {T : Addr} {vs : List Value} {Q : Unit → Loc → Ab → Prop} (hh : A.handled = none) (hT : σ T = some (.tup vs)) (hn : (assignEach elts env).length = vs.length) (hstar : (assignEach elts env).findIdx? (·.1) = none)
    (h : TIn C A env m ((assignEach elts env).map (·.2)) vs σ fun m' σ' => Q () m' σ') : TS C A env m (assign (.Tuple elts kk pos) env (.ref T)) (fun _ => ()) σ Q := fun σ₀ s₀ s R E W k => by
  obtain ⟨us, ht, hm⟩ := W.st.isTup hT
  refine wpAny_assign_Tuple hh ht (by rw [size_of_map hm]; exact hn) hstar fun h' he => ?_
  exact h us.toList hm σ₀ s₀ _ R E (W.ext (tk := s.toks) fun b o e => he b o (Nat.ne_of_lt (Heap.lt_size e)) e) k
theorem TS_tupL {elts : List Expr} {kk : Nat} {pos : Pos} {l : Addr} {vs : List Value} {Q : Unit → Loc → Ab → Prop} (hh : A.handled = none) (hl : σ l = some (.list vs)) (hn : (assignEach elts env).length = vs.length) (hstar : (assignEach elts env).findIdx? (·.1) = none)
    (h : TIn C A env m ((assignEach elts env).map (·.2)) vs σ fun m' σ' => Q () m' σ') : TS C A env m (assign (.Tuple elts kk pos) env (.ref l)) (fun _ => ()) σ Q := fun σ₀ s₀ s R E W k => by
  obtain ⟨us, ht, hm⟩ := W.st.isList hl
  show wpAny _ _ (assign (.Tuple elts kk pos) env (.ref l)) _ _ _
  rw [assign_Tuple]
  refine wpAny_bind (wpAny_standAt ?_)
  unfold unpack
  rw [hn, hstar, ← size_of_map hm]
  refine wpAny_bind (wpAny_holding (kun_itemsOf hh ht fun h' he => ?_))
  exact h us.toList hm σ₀ s₀ _ R E (W.ext (tk := s.toks) fun b o e => he b o (Nat.ne_of_lt (Heap.lt_size e)) e) k
/-- one target of any shape -/
theorem TX_assignT {t value : Expr} {pos : Pos} {Q : Flow → Loc → Ab → Prop} (h : TE C A env m value σ fun v σ' => ∀ u, nv u = v → TS C A env m (assign t env u) (fun _ => ()) σ' fun _ m' σ'' => Q .next m' σ'')
    (hs : swapsWithSole [t] value pos.line env = pure false := by rfl) (hw : swappedStores [t] value env = pure none := by rfl) (ha : (assignEach [t] env).map (·.2) = [assign t env] := by rfl) : TX C A env m (.Assign [t] value pos) σ Q := fun σ₀ s₀ s R E W k => by
  refine wpAny_Assign_stores (h.use W fun v s₁ σ₁ W₁ q => ?_) hs hw
  rw [ha]
  exact q v rfl σ₀ s₀ s₁ _ E W₁ fun _ s₂ m' σ₂ W₂ q₂ => k .next _ _ _ W₂ q₂
/-- x, y = (.., ..), both names of one line -/
theorem TX_swap2 {t value : Expr} {x y : Str} {pos : Pos} {Q : Flow → Loc → Ab → Prop} (hh : A.handled = none) (hx : Sto env x) (hy : Sto env y) (h : TE C A env m value σ fun v σ' => ∃ T a b, v = .ref T ∧ σ' T = some (.tup [a, b]) ∧ Q .next ((x, a) :: (y, b) :: m) σ')
    (hs : swapsWithSole [t] value pos.line env = pure false := by rfl) (hw : swappedStores [t] value env = pure (some [x, y]) := by rfl) : TX C A env m (.Assign [t] value pos) σ Q := fun σ₀ s₀ s R E W k => by
  show wpAny _ _ (exec (.Assign [t] value pos) env) _ _ _
  rw [exec_Assign_arm]
  refine wpAny_bind (wpAny_standAt ?_)
  rw [hs]
  refine wpAny_bind (wpAny_pure ?_)
  rw [if_neg (by decide)]
  refine wpAny_bind (h.use W fun v s₁ σ₁ W₁ ⟨T, a, b, hv, hT, q⟩ => ?_)
  obtain rfl := nv_to_ref hv
  rw [hw]
  refine wpAny_bind (wpAny_pure ?_)
  obtain ⟨us, ht, hm⟩ := W₁.st.isTup hT
  obtain ⟨u, v, huv, h1, h2⟩ := map_two hm
  have hz : us.size = 2 := by rw [size_of_map hm]; rfl
  unfold assignStores
  dsimp only
  refine wpAny_bind (wpAny_rule (wpAny_bind ?_))
  have hlen : ([x, y] : List Str).length = us.size := by rw [hz]; rfl
  rw [hlen]
  refine unpackItems_tuple hh ht fun h' he => ?_
  have W₂ := W₁.ext (tk := s₁.toks) fun b o e => he b o (Nat.ne_of_lt (Heap.lt_size e)) e
  rw [huv]
  show wpAny _ _ (assignInOrder [bindName env y, bindName env x] [v, u] >>= _) _ _ _
  refine wpAny_bind (PyProof.Rows.assignInOrder_cons ?_)
  refine wpAny_bindName (W₂.store hy fun s₃ W₃ => PyProof.Rows.assignInOrder_cons (wpAny_bindName (W₃.store hx fun s₄ W₄ => PyProof.Rows.assignInOrder_nil (wpAny_pure (k .next _ _ _ W₄ ?_)))))
  rw [h1, h2]; exact q
end
end J
end

section
open PySem PySem.W PySem.Calls PyProof.Rows
set_option Elab.async false
set_option linter.unusedVariables false
namespace J
section
variable {C : Cx} {A : Around} {env : Env} {m : Loc} {σ σ₀ σ' : Ab} {s s₀ s' : Shared}
theorem put_put {σ : Ab} {a : Addr} {o o' : AO} : (σ.put a o).put a o' = σ.put a o' := by
  funext b; unfold Ab.put; split <;> simp_all
theorem CallR.tc {f : Value} {as : List Value} {Q : Value → Ab → Prop} (h : ∀ us, us.map nv = as → TC C A f us σ Q) : CallR C A f as σ Q := fun us hu => (h us hu).tv
theorem nv_fix_ref {a : Addr} : nv (.ref a) = .ref a → ∀ u, nv u = .ref a → u = .ref a := fun _ u h => nv_to_ref h
theorem depth_deeper (A : Around) (e : Env) : (A.deeper e).depth = A.depth + 1 := rfl
theorem depth_make' (A : Around) (K : Addr) (us : List Value) : (A.under (.builtin "type.__call__" ⟨.ref K :: us, []⟩)).depth = A.depth + 1 := rfl
/-- what a call leaves as it was -/
def Kps (σ σ' : Ab) (P : Addr → Prop) : Prop := ∀ a o, σ a = some o → ¬ P a → σ' a = some o
theorem TC_fn {f : Addr} {oc : Value} {od : Option Addr} {osl : Array (Option Value)} {fd : FuncData} {body : List Stmt} {args : List Value} {binds : List (Str × Value)} {Q : Value → Ab → Prop}
    (hA : A.depth < recursionLimit) (hf : C.K.lookup f = some ⟨oc, od, .func fd, osl⟩) (hcd : codeIn C.K fd.code fd.qualname = true) (hbody : fd.body = .stmts body)
    (hb : ∀ S, peek C.K S (bindArgs fd ⟨args, []⟩) = some binds) (hcell : ∀ x ∈ fd.scope.names, x.2 ≠ .cell) (hloc : ∀ x ∈ binds, fd.scope.names.lookup x.1 = some .local) (hm : locOf binds = m)
    (h : ∀ L A', A'.depth = A.depth + 1 → A'.handled = A.handled → A'.units = A.units + 3 → TXs C A' (callEnv fd L f) m body σ fun fl _ σ' => Q (match fl with | .ret v => v | _ => .none) σ')
    (hco : fd.scope.isCoroutine = false := by rfl) (hgen : fd.scope.isGenerator = false := by rfl) (hk : fd.scope.kind = .function := by rfl)
    (hgl : fd.globals = mainGlobals := by rfl) (hbi : fd.builtins = builtinsNs := by rfl) (hcl : fd.closure = [] := by rfl) : TC C A (.ref f) args σ Q :=
  TC_call hA hf hcd hbody hb hcell hloc (fun L _ => by rw [hm]; exact h L _ rfl rfl rfl) hco hgen hk hgl hbi hcl
/-- a builtin's answer as a test -/
theorem EB_bcall {x : Str} {p pos : Pos} {id : String} {e : Expr} {es : List Expr} {b : Bool} (hf : EV C A env m σ (.Name x p) (.builtin id))
    (h : ∀ Q : Value → Ab → Prop, Q (.bool b) σ → TAs C A env m pos (e :: es) σ fun vs σ' => CallR C A (.builtin id) vs σ' Q)
    (he : starEach (e :: es) env = (false, eval e env) :: starEach es env := by rfl) (hp : (backTo pos (starEach es env)).any (·.1) = false := by rfl)
    (ht : ∀ whole, isTrue (.Call (.Name x p) (e :: es) [] pos) env whole = (do let v ← whole; standAt (Expr.Call (.Name x p) (e :: es) [] pos).pos; PySem.holding [v] (truthy v)) := by intro _; rfl) :
    EB C A env m σ (.Call (.Name x p) (e :: es) [] pos) b :=
  EB_val (v := .bool b) (fun Q q => TE_bcall hf (h Q q) he hp) (Tru.bool b) ht
theorem put_comm {σ : Ab} {a b : Addr} {o o' : AO} (h : a ≠ b) : (σ.put a o).put b o' = (σ.put b o').put a o := by
  funext c; unfold Ab.put; by_cases h1 : c = b
  · subst h1; simp [Ne.symm h]
  · simp [h1]
theorem TXs_seq {st : Stmt} {rest : List Stmt} {Q : Flow → Loc → Ab → Prop} (Mid : Loc → Ab → Prop) (h : TX C A env m st σ fun f m' σ' => match f with | .next => Mid m' σ' | f => Q f m' σ')
    (k : ∀ m' σ', Mid m' σ' → TXs C A env m' rest σ' Q) : TXs C A env m (st :: rest) σ Q :=
  TXs_cons (TS.mono h fun f m' σ' q => by cases f with | next => exact k m' σ' q | _ => exact q)
/-- m says all that m₀ says -/
def Ext (m₀ m : Loc) : Prop := ∀ x v, m₀.lookup x = some v → m.lookup x = some v
theorem Ext.refl : Ext m m := fun _ _ h => h
theorem Ext.cons {m₀ : Loc} {x : Str} {v : Value} (h : Ext m₀ m) (hx : m₀.lookup x = none) : Ext m₀ ((x, v) :: m) := fun y w hy => by
  rw [lookup_cons_ne]
  · exact h y w hy
  · rintro rfl; rw [hx] at hy; cases hy
theorem Ext.pre {m₀ : Loc} {l : List Stmt} {Q : Flow → Loc → Ab → Prop} (e : Ext m₀ m) (h : TXs C A env m₀ l σ Q) : TXs C A env m l σ Q := TS.pre e (Sub.refl σ) h
theorem Ext.nil : Ext [] m := fun x v h => by cases h
theorem Ext.add {m₀ : Loc} {x : Str} {v : Value} (h : m.lookup x = some v) (r : Ext m₀ m) : Ext ((x, v) :: m₀) m := fun y w hy => by
  by_cases q : y = x
  · subst q; rw [lookup_cons_self] at hy; cases hy; exact h
  · rw [lookup_cons_ne q] at hy; exact r y w hy
end
end J
end

section
open PySem PySem.W PySem.Calls PyProof.Rows
set_option Elab.async false
set_option linter.unusedVariables false
namespace J
mutual
/-- plain data in σ -/
inductive Dat (σ : Ab) : Value → PyData → Prop
  | none : Dat σ .none .none
  | bool (b : Bool) : Dat σ (.bool b) (.bool b)
  | int (i : Int) : Dat σ (.int i 0) (.int i)
  | str (x : Str) : Dat σ (.str x 0) (.str x)
  | list {a : Addr} {xs : List Value} {ds : List PyData} : σ a = some (.list xs) → DatAll σ xs ds → Dat σ (.ref a) (.list ds)
  | tup {a : Addr} {xs : List Value} {ds : List PyData} : σ a = some (.tup xs) → DatAll σ xs ds → Dat σ (.ref a) (.tuple ds)
inductive DatAll (σ : Ab) : List Value → List PyData → Prop
  | nil : DatAll σ [] []
  | cons {v : Value} {vs : List Value} {d : PyData} {ds : List PyData} : Dat σ v d → DatAll σ vs ds → DatAll σ (v :: vs) (d :: ds)
end
section
variable {C : Cx} {A : Around} {env : Env} {m : Loc} {σ σ₀ σ' : Ab} {s s₀ s' : Shared}
mutual
theorem Dat.reads {h : Heap} (S : St C σ h) : ∀ {v : Value} {d : PyData}, Dat σ v d → ∀ u, nv u = v → ∃ as, Reads h u d as
  | _, _, .none, u, hu => by obtain rfl := nv_to_none hu; exact ⟨_, .none⟩
  | _, _, .bool b, u, hu => by obtain rfl := nv_to_bool hu; exact ⟨_, .bool b⟩
  | _, _, .int i, u, hu => by obtain ⟨t, rfl⟩ := nv_to_int hu; exact ⟨_, .int i t⟩
  | _, _, .str x, u, hu => by obtain ⟨t, rfl⟩ := nv_to_str hu; exact ⟨_, .str x t⟩
  | _, _, .list ha hd, u, hu => by
    obtain rfl := nv_to_ref hu
    obtain ⟨vs, n, ho, hx⟩ := S.rep _ _ ha
    obtain ⟨as, r⟩ := DatAll.reads S hd vs.toList hx
    exact ⟨_, .list ho rfl rfl r⟩
  | _, _, .tup ha hd, u, hu => by
    obtain rfl := nv_to_ref hu
    obtain ⟨vs, n, ho, hx⟩ := S.rep _ _ ha
    obtain ⟨as, r⟩ := DatAll.reads S hd vs.toList hx
    exact ⟨_, .tuple ho rfl rfl r⟩
theorem DatAll.reads {h : Heap} (S : St C σ h) : ∀ {vs : List Value} {ds : List PyData}, DatAll σ vs ds → ∀ us : List Value, us.map nv = vs → ∃ as, ReadsAll h us ds as
  | _, _, .nil, us, hu => by
    obtain rfl : us = [] := by simpa using hu
    exact ⟨_, .nil⟩
  | _, _, .cons hd ht, us, hu => by
    rcases us with _ | ⟨u, us⟩
    · simp at hu
    · obtain ⟨h1, h2⟩ := List.cons.inj hu
      obtain ⟨as, r⟩ := Dat.reads S hd u h1
      obtain ⟨bs, r'⟩ := DatAll.reads S ht us h2
      exact ⟨_, .cons r r'⟩
end
theorem Cmp.eq_dat {a b : Value} {da db : PyData} (ha : Dat σ a da) (hb : Dat σ b db) (la : SeqAt.shaped da = true) (lb : SeqAt.shaped db = true) (hu : A.units + 64 < cLine) : Cmp C A σ .Eq a b (PyData.eqv da db) := fun a' b' ha' hb' s R E S k => by
  obtain ⟨as, ra⟩ := ha.reads S a' ha'
  obtain ⟨bs, rb⟩ := hb.reads S b' hb'
  exact eq_dataH ra rb la lb hu (k s.toks)
theorem Cmp.ne_dat {a b : Value} {da db : PyData} (ha : Dat σ a da) (hb : Dat σ b db) (la : SeqAt.shaped da = true) (lb : SeqAt.shaped db = true) (hu : A.units + 64 < cLine) : Cmp C A σ .NotEq a b (!PyData.eqv da db) := fun a' b' ha' hb' s R E S k => by
  obtain ⟨as, ra⟩ := ha.reads S a' ha'
  obtain ⟨bs, rb⟩ := hb.reads S b' hb'
  exact ne_dataH ra rb la lb hu (k s.toks)
def iV (xs : List Int) : List Value := xs.map fun i => .int i 0
theorem dat_ints {l : Addr} {xs : List Int} (h : σ l = some (.list (iV xs))) : Dat σ (.ref l) (.list (xs.map .int)) := by
  refine .list h ?_
  clear h
  induction xs with
  | nil => exact .nil
  | cons x xs ih => exact .cons (.int x) ih
theorem eqvAll_ints : ∀ xs ys : List Int, PyData.eqvAll (xs.map .int) (ys.map .int) = decide (xs = ys)
  | [], [] => by simp [PyData.eqvAll]
  | [], y :: ys => by simp [PyData.eqvAll]
  | x :: xs, [] => by simp [PyData.eqvAll]
  | x :: xs, y :: ys => by
    simp only [List.map_cons, PyData.eqvAll, PyData.eqv, eqvAll_ints xs ys]
    by_cases h1 : x = y <;> by_cases h2 : xs = ys <;> simp [h1, h2]
theorem eqv_ints (xs ys : List Int) : PyData.eqv (.list (xs.map .int)) (.list (ys.map .int)) = decide (xs = ys) := by rw [PyData.eqv, eqvAll_ints]
theorem canLay_ints : ∀ xs : List Int, PyData.canLayAll0 (xs.map .int) = true
  | [] => by simp [PyData.canLayAll0]
  | x :: xs => by simp [PyData.canLayAll0, PyData.canLay0, canLay_ints xs]
theorem depth_ints : ∀ xs : List Int, PyData.depthAll (xs.map .int) = 0
  | [] => by simp [PyData.depthAll]
  | x :: xs => by simp [PyData.depthAll, PyData.depth, depth_ints xs]
theorem Src.listAt {l : Addr} {xs : List Value} (hh : A.handled = none) (W : Wd C A env m σ₀ s₀ σ s) (hl : σ l = some (.list xs)) {R : Value → Shared → Prop} {E : Value → Shared → Prop}
    (k : ∀ I P s', Wd C A env m σ₀ s₀ σ s' → s.heap.get? I = none → Off C A env σ I → P 0 s'.heap → Iter C A (.ref I) I xs.length (fun i => xs.getD i .none) P (fun σ' => σ' l = some (.list xs)) → R (.ref I) s') : wpAny C.M A (pyIter (.ref l)) R E s := by
  obtain ⟨vs, hls, hm⟩ := W.st.isList hl
  refine wpAny_pyIter_list hls ?_
  obtain ⟨ol, hol, _⟩ := id hls
  exact k s.heap.objs.size _ _ (W.push _ s.toks) (get_size _) W.newOff ⟨_, Heap.get?_push_size _ rfl, rfl, rfl⟩ (Iter.list (I := s.heap.objs.size) hh (Nat.ne_of_lt (Heap.lt_size hol)))

-- trees that turn σ
theorem TE_cmp {l r : Expr} {op : CmpOp} {pos : Pos} {Q : Value → Ab → Prop} (hl : TE C A env m l σ fun a σ' => TE C A env m r σ' fun b σ'' => ∃ v, Cmp C A σ'' op a b v ∧ Q (.bool v) σ'')
    (hm : behindInMarks op r = false := by with_unfolding_all rfl) : TE C A env m (.Compare l [op] [r] pos) σ Q := fun σ₀ s₀ s R E W k =>
  wpAny_Compare1 (hl σ₀ s₀ s _ E W fun a' s₁ σ₁ W₁ q₁ => q₁ σ₀ s₀ s₁ _ E W₁ fun b' s₂ σ₂ W₂ ⟨v, hc, q⟩ => hc a' b' rfl rfl s₂ _ E W₂.st fun tk => k _ _ _ (W₂.tok tk) q) hm
theorem TB_cmp {l r : Expr} {op : CmpOp} {pos : Pos} {Q : Bool → Ab → Prop} (hl : TE C A env m l σ fun a σ' => TE C A env m r σ' fun b σ'' => ∃ v, Cmp C A σ'' op a b v ∧ Q v σ'')
    (hm : behindInMarks op r = false := by with_unfolding_all rfl) : TB C A env m (.Compare l [op] [r] pos) σ Q := fun σ₀ s₀ s R E W k =>
  wpAny_isTrue_Compare1 (hl σ₀ s₀ s _ E W fun a' s₁ σ₁ W₁ q₁ => q₁ σ₀ s₀ s₁ _ E W₁ fun b' s₂ σ₂ W₂ ⟨v, hc, q⟩ => hc a' b' rfl rfl s₂ _ E W₂.st fun tk => wpAny_truthy_bool (k _ _ _ (W₂.tok tk) q)) hm
/-- a comprehension over a list that a tree gives -/
theorem TE_compL {elt target iter : Expr} {ifs : List Expr} {scope : Scope} {pos : Pos} {cl : List (Str × Addr)} {mc : Loc} {Q : Value → Ab → Prop} (hh : A.handled = none)
    (hi : TE C A env m iter σ fun v σ' => ∃ l xs, v = .ref l ∧ σ' l = some (.list xs) ∧ xs.length ≤ sizeLine ∧ ∃ Iv : Nat → List Value → Ab → Prop, Iv 0 [] σ' ∧ CTurn C A env scope cl mc target elt ifs xs.length (fun i => xs.getD i .none) (fun σ'' => σ'' l = some (.list xs)) Iv ∧
      ∀ ys σ'' D, σ'' l = some (.list xs) → Iv xs.length ys σ'' → σ'' D = none → Q (.ref D) (σ''.put D (.list ys)))
    (hclos : closureFor scope env = pure cl) (hcl : ∀ x c, cl.lookup x = some c → env.cells.lookup x = some c)
    (hmc : ∀ Cc x v, mc.lookup x = some v → (compEnvC scope cl Cc env).kindOf x ≠ some .local ∧ (cl.lookup x).isSome = true ∧ m.lookup x = some v ∧ (env.kindOf x = some .cell ∨ env.kindOf x = some .free))
    (hk : scope.kind = .function := by rfl) (hcell : ∀ y ∈ scope.names, y.2 ≠ .cell := by decide) (hnames : ∀ x ∈ scope.names, x.2 = .local → scope.names.lookup x.1 = some .local := by decide)
    (hs : ∀ x, foldedSetIterable iter env x = pure x := by intro _; rfl) : TE C A env m (.ListComp elt [⟨target, iter, ifs, 0⟩] scope pos) σ Q := fun σ₀ s₀ s R E W k => by
  rw [eval_ListComp]
  refine wpAny_comprehension_free (use := none) rfl hs hclos hk hnames (hi σ₀ s₀ s _ _ W fun u s₁ σ₁ W₁ ⟨l, xs, hu, hl, hn, Iv, hJ, turn, done⟩ => ?_)
  obtain rfl := nv_to_ref hu
  refine Src.listAt hh W₁.self hl fun I P s₂ W₂ h0 hO hP hI => ?_
  refine comp_block (RR := fun acc C' => compPost C.M A E none R acc C') hI Iv turn hn hk hcell hcl hmc W₂ h0 hO hP (hI.alive _ _ hP) hl hJ fun ys σ'' s'' D Cc W' nD S' J' oC hC hM => ?_
  obtain ⟨M, hM⟩ := hM
  refine ⟨M, hM, fun h' hs' => ?_⟩
  have W'' := W'.off (tk := s''.toks) oC hC (h' := h') fun b o hb e => hs'.extBut b o hb e
  exact k (.ref D) _ _ (W₁.step W''.toWv) (done ys σ'' D S' J' nD)
-- the input's list
theorem Tru.list0 {l : Addr} {vs : Array Value} (hl : C.h₀.IsList l vs) (hn : vs.size ≤ 1000) : Tru C A σ (.ref l) (decide (vs.size ≠ 0)) := fun u hu s R E S k => by
  obtain rfl := nv_to_ref hu
  obtain ⟨o, ho, r⟩ := hl
  refine wpAny_truthy_list (items := vs) ⟨o, S.keep _ _ ho, r⟩ (by omega) ?_
  have e : (!vs.isEmpty) = decide (vs.size ≠ 0) := by
    unfold Array.isEmpty
    by_cases q : vs.size = 0 <;> simp [q]
  rw [e]; exact k _
theorem Itm.list0 {l : Addr} {vs : Array Value} {i : Int} {v u : Value} (hl : C.h₀.IsList l vs) (h0 : 0 ≤ i) (hf : i < 2 ^ 63) (hx : vs[i.toNat]? = some u) (hv : nv u = v) : Itm C A σ (.ref l) (.int i 0) v := fun o' i' ho hi s R E S k value slice hs => by
  obtain rfl := nv_to_ref ho
  obtain ⟨t, rfl⟩ := nv_to_int hi
  obtain ⟨o, hoo, r⟩ := hl
  have hl' : s.heap.IsList l vs := ⟨o, S.keep _ _ hoo, r⟩
  exact tail_any hl'.typeIs slot_list_getitem.lookup (wpAny_getItem_list hl' h0 hf hx (k u s.toks hv)) (hs _ _)
theorem TE_item {o i : Expr} {pos : Pos} {Q : Value → Ab → Prop} (ho : TE C A env m o σ fun vo σ' => ∃ vi v, EV C A env m σ' i vi ∧ Itm C A σ' vo vi v ∧ Q v σ')
    (hs : ∀ o i', subscripted i false o i' = operate [o, i'] (getItem o i') := by intro _ _; with_unfolding_all rfl) : TE C A env m (.Subscript o i pos) σ Q := fun σ₀ s₀ s R E W k =>
  PyProof.Rows.Subscript_ (ho σ₀ s₀ s _ E W fun u s₁ σ₁ W₁ ⟨vi, v, hi, h, q⟩ => hi.run W₁ fun j s₂ hj W₂ => h u j rfl hj s₂ R E W₂.st (fun w tk hw => k w _ _ (W₂.tok tk) (hw ▸ q)) _ _ hs)
theorem ints_get {vs : List Value} {ns : List Int} (h : IntsAre vs ns) : ∀ {i : Nat}, i < ns.length → ∃ u, vs[i]? = some u ∧ nv u = .int (ns.getD i 0) 0 := by
  induction h with
  | nil => intro i hi; cases hi
  | cons n t _ ih =>
    intro i hi
    cases i with
    | zero => exact ⟨_, rfl, rfl⟩
    | succ j => exact ih (by simpa using hi)
theorem ints_size {vs : List Value} {ns : List Int} (h : IntsAre vs ns) : vs.length = ns.length := by
  induction h with
  | nil => rfl
  | cons n t _ ih => simp [ih]
/-- the int at a place, or 0 -/
def gi (ns : List Int) (i : Int) : Int := ns.getD i.toNat 0
theorem EV_call {e : Expr} {v : Value} (h : ∀ Q : Value → Ab → Prop, Q v σ → TE C A env m e σ Q) : EV C A env m σ e v := h
theorem fmod_range {a b : Int} (hb : 0 < b) : 0 ≤ a.fmod b ∧ a.fmod b < b := ⟨Int.fmod_nonneg_of_pos a hb, Int.fmod_lt_of_pos a hb⟩
theorem cl_nil {cells : List (Str × Addr)} : ∀ x c, ([] : List (Str × Addr)).lookup x = some c → cells.lookup x = some c := fun x c h => by cases h
theorem cl_cons {cells cl : List (Str × Addr)} {y : Str} {d : Addr} (h : cells.lookup y = some d) (r : ∀ x c, cl.lookup x = some c → cells.lookup x = some c) : ∀ x c, ((y, d) :: cl).lookup x = some c → cells.lookup x = some c := fun x c hx => by
  rw [List.lookup_cons] at hx
  cases q : x == y with
  | true => rw [q] at hx; cases hx; rw [eq_of_beq q]; exact h
  | false => rw [q] at hx; exact r x c hx
def McOk (env : Env) (m : Loc) (scope : Scope) (cl : List (Str × Addr)) (mc : Loc) : Prop :=
  ∀ Cc x v, mc.lookup x = some v → (compEnvC scope cl Cc env).kindOf x ≠ some .local ∧ (cl.lookup x).isSome = true ∧ m.lookup x = some v ∧ (env.kindOf x = some .cell ∨ env.kindOf x = some .free)
theorem mc_nil {scope : Scope} {cl : List (Str × Addr)} : McOk env m scope cl [] := fun Cc x v h => by cases h
theorem mc_cons {scope : Scope} {cl : List (Str × Addr)} {mc : Loc} {y : Str} {w : Value} (hk : ∀ Cc, (compEnvC scope cl Cc env).kindOf y = some .cell) (hs : (cl.lookup y).isSome = true) (hm : m.lookup y = some w) (he : env.kindOf y = some .cell) (r : McOk env m scope cl mc) : McOk env m scope cl ((y, w) :: mc) := fun Cc x v hx => by
  by_cases q : x = y
  · subst q
    rw [lookup_cons_self] at hx; cases hx
    exact ⟨(by rw [hk]; intro z; cases z), hs, hm, .inl he⟩
  · rw [lookup_cons_ne q] at hx; exact r Cc x v hx
theorem fs_one {x y : Str} {v w : Value} (h : List.lookup x [(y, w)] = some v) (hk : env.kindOf y = some .local) : env.kindOf x = some .local := by
  by_cases q : x = y
  · subst q; exact hk
  · rw [lookup_cons_ne q] at h; cases h
end
end J
end

section
open PySem PySem.W PySem.Calls PyProof.Rows
set_option Elab.async false
set_option linter.unusedVariables false
namespace J
section
variable {C : Cx} {A : Around} {env : Env} {m : Loc} {σ σ₀ σ' : Ab} {s s₀ s' : Shared}
theorem wp_peekA' {α : Type} {K : Frag} {M : Model} {A : Around} {E : Value → Shared → Prop} {Q : α → Shared → Prop} {s : Shared} {o : Obj} (X : K.In s.heap) :
    ∀ (t : Sem α) (g : Addr → Sem α), peekA K ⟨M.prog, M.w.params⟩ t = some (o, g) → wpAny M A (g s.heap.objs.size) Q E { s with heap := s.heap.push o } → wpAny M A t Q E s := by
  intro t
  induction t with
  | rule _ k ih => intro g e q Γ p hΓ; exact ih () g e q Γ p hΓ
  | point _ k ih => intro g e q Γ p hΓ; exact ih () g e q Γ p hΓ
  | ask k ih => intro g e q Γ p hΓ; exact ih _ g e q Γ p hΓ
  | load a _ k ih =>
    intro g e q Γ p hΓ
    simp only [peekA] at e
    split at e
    · rename_i ob ho; exact ⟨ob, X _ _ ho, ih ob g e q Γ p hΓ⟩
    · cases e
  | alloc ob k _ =>
    intro g e q Γ p hΓ
    simp only [peekA] at e
    cases e
    exact q Γ p hΓ
  | _ => intro g e; simp [peekA] at e
/-- a call of a def that takes *rest -/
theorem TC_callV {f : Addr} {oc : Value} {od : Option Addr} {osl : Array (Option Value)} {fd : FuncData} {body : List Stmt} {args : List Value} {binds : Addr → List (Str × Value)} {ot : Obj} {g : Addr → Sem (List (Str × Value))} {m : Loc} {Q : Value → Ab → Prop}
    (hA : A.depth < recursionLimit) (hf : C.K.lookup f = some ⟨oc, od, .func fd, osl⟩) (hcd : codeIn C.K fd.code fd.qualname = true) (hbody : fd.body = .stmts body)
    (hb : ∀ S, peekA C.K S (bindArgs fd ⟨args, []⟩) = some (ot, g)) (hg : ∀ D, g D = pure (binds D)) (hcell : ∀ x ∈ fd.scope.names, x.2 ≠ .cell) (hloc : ∀ D, ∀ x ∈ binds D, fd.scope.names.lookup x.1 = some .local) (hmm : ∀ D, Ext m (locOf (binds D)))
    (h : ∀ L A', A'.depth = A.depth + 1 → A'.handled = A.handled → A'.units = A.units + 3 → TXs C A' (callEnv fd L f) m body σ fun fl _ σ' => Q (match fl with | .ret v => v | _ => .none) σ')
    (hco : fd.scope.isCoroutine = false := by rfl) (hgen : fd.scope.isGenerator = false := by rfl) (hk : fd.scope.kind = .function := by rfl)
    (hgl : fd.globals = mainGlobals := by rfl) (hbi : fd.builtins = builtinsNs := by rfl) (hcl : fd.closure = [] := by rfl) : TC C A (.ref f) args σ Q := fun σ₀ s₀ s₁ R E W₁ k => by
  refine codeAny_call_function hA (W₁.st.K _ _ hf) rfl hco hgen hbody (codeRec_of W₁.st.K hcd) (wp_peekA' W₁.st.K _ _ (hb _) ?_)
  rw [hg]
  refine wpAny_pure ?_
  generalize hbd : binds s₁.heap.objs.size = bd
  have hloc : ∀ x ∈ bd, fd.scope.names.lookup x.1 = some .local := hbd ▸ hloc _
  have hmm : Ext m (locOf bd) := hbd ▸ hmm _
  have W : Wv C A σ₀ s₀ σ { s₁ with heap := s₁.heap.push ot } := W₁.ext (tk := s₁.toks) (push_keeps ot)
  have hA' := (C.T.nolimit.keeps W.st.keep)
  generalize ({ s₁ with heap := s₁.heap.push ot } : Shared) = s at W hA' ⊢
  have nL : ¬ dom σ s.heap.objs.size := W.st.fresh (Nat.le_refl _)
  have hL0 : C.h₀.get? s.heap.objs.size = none := W.size
  have hown : ∀ b, own (callEnv fd s.heap.objs.size f) b ↔ b = s.heap.objs.size := fun b => by
    unfold own callEnv newEnv
    simp [hcl]
  refine wpAny_newFunctionEnv hcell hloc (fun h₁ hns hsb₀ => ⟨hA'.fresh _ hsb₀, codeAny_func ?_⟩) hk
  have hk₁ : ∀ b o, s.heap.get? b = some o → h₁.get? b = some o := fun b o e => hsb₀.extBut b o (Nat.ne_of_lt (Heap.lt_size e)) (Heap.get?_push_of_some _ e)
  change h₁.Ns s.heap.objs.size (fun x => bd.reverse.lookup x) at hns
  have S₁ : St C σ h₁ := W.st.ext hk₁
  have O₁ : FOk C (callEnv fd s.heap.objs.size f) (locOf bd) σ h₁ := by
    refine ⟨hk, hgl, hbi, fun b hb => ?_, ⟨_, hns, fun x v hx _ => ?_⟩, fun x c hc => ?_, fun x v hx hkk => ?_, fun x y c hc _ => ?_⟩
    · rw [(hown b).mp hb]; exact ⟨nL, hL0⟩
    · exact lookup_locOf hx
    · exact absurd hc (by unfold callEnv newEnv; simp [hcl])
    · obtain ⟨u, hu, _⟩ := lookup_locOf hx
      have hmem : (x, u) ∈ bd := List.mem_reverse.mp (by
        have : ∀ l : List (Str × Value), l.lookup x = some u → (x, u) ∈ l := fun l => by
          induction l with
          | nil => intro q; cases q
          | cons p r ih =>
            intro q
            obtain ⟨y, w⟩ := p
            rw [List.lookup_cons] at q
            cases z : x == y with
            | true => rw [z] at q; cases q; rw [eq_of_beq z]; exact .head _
            | false => rw [z] at q; exact .tail _ (ih q)
        exact this _ hu)
      have := hloc _ hmem
      have hkk' : fd.scope.names.lookup x = some .cell ∨ fd.scope.names.lookup x = some .free := hkk
      rw [this] at hkk'
      rcases hkk' with q | q <;> cases q
    · exact absurd hc (by unfold callEnv newEnv; simp [hcl])
  have F₁ : Fs C (A.deeper (callEnv fd s.heap.objs.size f)) σ h₁ := by
    obtain ⟨l, hl, hf, hd⟩ := W.fs
    refine ⟨callEnv fd s.heap.objs.size f :: l, Around.frames_deeper hl, .cons (L := s.heap.objs.size) (by show fd.scope.kind ≠ .module; rw [hk]; decide) rfl hns hL0 (FunFrames.turn hf fun e he L o hL ho hv => ⟨o, hk₁ L o ho, hv⟩), fun e he L hL => ?_⟩
    rcases List.mem_cons.mp he with rfl | he
    · obtain rfl : s.heap.objs.size = L := Option.some.inj hL
      exact nL
    · exact hd e he L hL
  refine (hmm.pre (h s.heap.objs.size (A.deeper (callEnv fd s.heap.objs.size f)) rfl rfl rfl)) σ { s with heap := h₁, toks := s.toks + bd.length } _ _ _ ⟨S₁, F₁, O₁, Mv.refl ..⟩ fun fl s' m' σ' W' q => ?_
  have M : Mv (Fz A) No σ σ' s s' := by
    have nown : ∀ b o, s.heap.get? b = some o → ¬ own (callEnv fd s.heap.objs.size f) b := fun b o e z => by
      rw [(hown b).mp z] at e
      exact absurd (Heap.lt_size e) (Nat.lt_irrefl _)
    refine ⟨fun b o e n _ z => W'.mv.kp b o (hk₁ b o e) n (nown b o e) fun ⟨l, hl, e', he', hf'⟩ => ?_, fun b o e n _ => W'.mv.zs b o (hk₁ b o e) n (nown b o e), fun b o e n => W'.mv.fr b o (hk₁ b o e) n, W'.mv.os, W'.mv.gen⟩
    obtain ⟨l0, hl0, _⟩ := W.fs
    rw [Around.frames_deeper hl0] at hl; cases hl
    rcases List.mem_cons.mp he' with rfl | h
    · obtain rfl : s.heap.objs.size = b := Option.some.inj hf'
      exact absurd (Heap.lt_size e) (Nat.lt_irrefl _)
    · exact z ⟨l0, hl0, e', h, hf'⟩
  cases fl with
  | ret v => exact k v s' σ' (W.go W'.st M) q
  | next => exact k .none s' σ' (W.go W'.st M) q
  | brk => exact k .none s' σ' (W.go W'.st M) q
  | cont => exact k .none s' σ' (W.go W'.st M) q

end
end J
end

section
open PySem PySem.W PySem.Calls PyProof.Rows
set_option Elab.async false
set_option linter.unusedVariables false
namespace J
def frs (l : List Env) : List Addr := l.filterMap (·.frame)
theorem frs_mem {A : Around} {l : List Env} {b : Addr} (hl : A.frames = some l) : b ∈ frs l ↔ Fz A b := by
  unfold frs
  rw [List.mem_filterMap]
  exact ⟨fun ⟨e, he, q⟩ => ⟨l, hl, e, he, q⟩, fun ⟨l', hl', e, he, q⟩ => ⟨e, Option.some.inj (hl'.symm.trans hl) ▸ he, q⟩⟩
/-- an exception of the class D is on its way out of a call -/
def Thrown (C : Cx) (A : Around) (σ₀ : Ab) (s₀ : Shared) (σ : Ab) (D e : Addr) (s' : Shared) : Prop :=
  ∃ s₁ l t B, A.frames = some l ∧ Wv C A σ₀ s₀ σ s₁ ∧ Heap.FlyingW B l e (.ref D) (.ref t) s'.heap ∧
    (∀ b o, s₁.heap.get? b = some o → ¬ Fz A b → (dom σ b ∨ C.h₀.get? b = some o ∨ (¬ dom σ₀ b ∧ ∃ o', s₀.heap.get? b = some o')) → B.get? b = some o) ∧ s₁.heap.UpToSlots s'.heap ∧ s'.os = s₁.os ∧ GenOk s₁.gens s'.gens
section
variable {C : Cx} {A : Around} {env : Env} {m : Loc} {σ σ₀ σ' : Ab} {s s₀ s' : Shared}
/-- statements that raise an exception of the class D -/
def TXr (C : Cx) (A : Around) (env : Env) (m : Loc) (sts : List Stmt) (σ : Ab) (D : Addr) (Q : Ab → Prop) : Prop :=
  ∀ σ₀ s₀ s (R : Flow → Shared → Prop) (E : Value → Shared → Prop), Wx C A env m σ₀ s₀ σ s → (∀ e s₁ h' m' σ' vs, Wx C A env m' σ₀ s₀ σ' s₁ → Heap.MadeExcOf s₁.heap h' e (.ref D) vs → Q σ' → E (.ref e) { s₁ with heap := h' }) → wpAny C.M A (execs sts env) R E s
/-- a call that raises -/
def TCr (C : Cx) (A : Around) (f : Value) (us : List Value) (σ : Ab) (D : Addr) (Q : Ab → Prop) : Prop :=
  ∀ σ₀ s₀ s (R : Result → Shared → Prop), Wv C A σ₀ s₀ σ s → (∀ e s' σ', Thrown C A σ₀ s₀ σ' D e s' → Q σ' → R (.error (.ref e)) s') → codeAny C.M A (.call f ⟨us, []⟩) R s
def CallRr (C : Cx) (A : Around) (f : Value) (as : List Value) (σ : Ab) (D : Addr) (Q : Ab → Prop) : Prop := ∀ us, us.map nv = as → TCr C A f us σ D Q
/-- an expression that raises -/
def TEr (C : Cx) (A : Around) (env : Env) (m : Loc) (e : Expr) (σ : Ab) (D : Addr) (Q : Ab → Prop) : Prop :=
  ∀ σ₀ s₀ s (R : Value → Shared → Prop) (E : Value → Shared → Prop), Wd C A env m σ₀ s₀ σ s → (∀ e' s' σ', Thrown C A σ₀ s₀ σ' D e' s' → Q σ' → E (.ref e') s') → wpAny C.M A (eval e env) R E s
variable {D : Addr} {Q : Ab → Prop}
theorem TXr_cons {st : Stmt} {rest : List Stmt} (h : TX C A env m st σ fun f m' σ' => f = .next ∧ TXr C A env m' rest σ' D Q) : TXr C A env m (st :: rest) σ D Q := fun σ₀ s₀ s R E W k =>
  wpAny_execs_cons (h σ₀ s₀ s _ E W fun f s' m' σ' W' ⟨hf, q⟩ => by
    cases f with
    | next => exact q σ₀ s₀ s' R E W' k
    | ret v => cases hf
    | _ => cases hf)
theorem TXr_if {test : Expr} {body orelse rest : List Stmt} {pos : Pos} (h : TB C A env m test σ fun b σ' => b = true ∧ TXr C A env m body σ' D Q) : TXr C A env m (.If test body orelse pos :: rest) σ D Q := fun σ₀ s₀ s R E W k =>
  wpAny_execs_cons (wpAny_If (TF.use h W fun b s' σ' W' ⟨hb, q⟩ => by
    cases (show b = true from hb)
    rw [if_pos rfl]
    exact q σ₀ s₀ s' _ E W' k))
/-- raise X() for a class of the text -/
theorem TXr_raise0 {x : Str} {np cpos rpos : Pos} {rest : List Stmt} {Bn B newId inN nid initId : String} {bmN bm : List Value} (hn : nsIn C.K mainGlobals x = some (some (.ref D))) (hx : env.kindOf x = some .globalImplicit) (hD : excIn C.K D bm newId = true)
    (Fn : ExcBaseFacts Bn newId inN bmN) (hBn : bm.contains (.type Bn) = true) (FB : ExcBaseFacts B nid initId bm) (hh : A.handled = none) (q : Q σ) (hd : (x == ("__debug__" : Str)) = false := by decide) :
    TXr C A env m (.Raise (some (.Call (.Name x np) [] [] cpos)) none rpos :: rest) σ D Q := fun σ₀ s₀ s R E W k => by
  have O := own_of_in C.X C.T hn hD
  obtain ⟨tl, N, nm, qn, bs, hdct, sn, sub, ab, col, dd, k0, k1, k2, k3, k5, mN, hC, hN, hni, T⟩ := O.obj
  have kp : ∀ b o, C.h₀.get? b = some o → s.heap.get? b = some o := W.st.keep
  refine wpAny_execs_cons (wpAny_Raise_call_subU (C := D) (nm := nm) (q := qn) (N := N) (bs := bs) (bm := tl) (hdct := hdct) (sn := sn) (sub := sub) (ab := ab) (col := col) (dd := dd) (k0 := k0) (k1 := k1) (k2 := k2) (k3 := k3) (k5 := k5)
    Fn hBn FB (mN := mN) (T.hasType FB.hasBase) hh rfl hni (Name_function_global W.ok.fn hx (loadGlobal_global (env := env) (W.ok.gl ▸ C.T.g.keeps kp) (mg_of C.X C.T.g hn) ⟨rfl, ?_⟩) hd))
  exact evalArgs_empty ⟨rfl, Nat.zero_le _, kp _ _ hC, hN.keeps kp, T.keeps kp, fun h' e hx => k e s h' m σ [] W hx q⟩
/-- raise X(e) -/
theorem TXr_raise1 {x : Str} {np cpos rpos : Pos} {e₀ : Expr} {rest : List Stmt} {Bn B newId inN nid initId : String} {bmN bm : List Value} (hn : nsIn C.K mainGlobals x = some (some (.ref D))) (hx : env.kindOf x = some .globalImplicit) (hD : excIn C.K D bm newId = true)
    (Fn : ExcBaseFacts Bn newId inN bmN) (hBn : bm.contains (.type Bn) = true) (FB : ExcBaseFacts B nid initId bm) (hh : A.handled = none) (ha : TE C A env m e₀ σ fun _ σ' => Q σ') (hd : (x == ("__debug__" : Str)) = false := by decide)
    (he : starEach [e₀] env = (false, eval e₀ env) :: starEach [] env := by rfl) (hplain : (backTo cpos (starEach ([] : List Expr) env)).any (·.1) = false := by rfl) :
    TXr C A env m (.Raise (some (.Call (.Name x np) [e₀] [] cpos)) none rpos :: rest) σ D Q := fun σ₀ s₀ s R E W k => by
  have O := own_of_in C.X C.T hn hD
  obtain ⟨tl, N, nm, qn, bs, hdct, sn, sub, ab, col, dd, k0, k1, k2, k3, k5, mN, hC, hN, hni, T⟩ := O.obj
  have kp : ∀ b o, C.h₀.get? b = some o → s.heap.get? b = some o := W.st.keep
  refine wpAny_execs_cons (wpAny_Raise_call_subU (C := D) (nm := nm) (q := qn) (N := N) (bs := bs) (bm := tl) (hdct := hdct) (sn := sn) (sub := sub) (ab := ab) (col := col) (dd := dd) (k0 := k0) (k1 := k1) (k2 := k2) (k3 := k3) (k5 := k5)
    Fn hBn FB (mN := mN) (T.hasType FB.hasBase) hh (by rw [he]; show (false || (backTo cpos (starEach ([] : List Expr) env)).any (·.1)) = false; rw [hplain]; rfl) hni (Name_function_global W.ok.fn hx (loadGlobal_global (env := env) (W.ok.gl ▸ C.T.g.keeps kp) (mg_of C.X C.T.g hn) ⟨rfl, ?_⟩) hd))
  have S : wpAny C.M A (spliced (backTo cpos (starEach [e₀] env))) (fun vs s₂ => vs.length ≤ sizeLine ∧ (∀ b o, C.h₀.get? b = some o → s₂.heap.get? b = some o) ∧ ∀ h' e, Heap.MadeExcOf s₂.heap h' e (.ref D) vs → E (.ref e) { s₂ with heap := h' }) E s :=
    spliced_more (ha.use W fun v s₂ σ₂ W₂ q => spliced_none ⟨(by decide : (1 : Nat) ≤ sizeLine), W₂.st.keep, fun h' e hx => k e s₂ h' m σ₂ [v] W₂ hx q⟩) he
  rw [he] at S ⊢
  exact Calls.evalArgs_plain (wpAny_mono S (fun vs s₂ h₂ => ⟨rfl, h₂.1, h₂.2.1 _ _ hC, hN.keeps h₂.2.1, T.keeps h₂.2.1, h₂.2.2⟩) fun _ _ y => y)
/-- a call of a def starts: its frame -/
theorem callee_Wx {f : Addr} {fd : FuncData} {binds : List (Str × Value)} {h₁ : Heap} {tk : Nat} (W : Wv C A σ₀ s₀ σ s) (hns : h₁.Ns s.heap.objs.size (fun x => binds.reverse.lookup x)) (hk₁ : ∀ b o, s.heap.get? b = some o → h₁.get? b = some o) (hloc : ∀ x ∈ binds, fd.scope.names.lookup x.1 = some .local)
    (hk : fd.scope.kind = .function) (hgl : fd.globals = mainGlobals) (hbi : fd.builtins = builtinsNs) (hcl : fd.closure = []) :
    Wx C (A.deeper (callEnv fd s.heap.objs.size f)) (callEnv fd s.heap.objs.size f) (locOf binds) σ { s with heap := h₁, toks := tk } σ { s with heap := h₁, toks := tk } := by
  have nL : ¬ dom σ s.heap.objs.size := W.st.fresh (Nat.le_refl _)
  have hL0 : C.h₀.get? s.heap.objs.size = none := W.size
  have hown : ∀ b, own (callEnv fd s.heap.objs.size f) b ↔ b = s.heap.objs.size := fun b => by
    unfold own callEnv newEnv
    simp [hcl]
  have S₁ : St C σ h₁ := W.st.ext hk₁
  have O₁ : FOk C (callEnv fd s.heap.objs.size f) (locOf binds) σ h₁ := by
    refine ⟨hk, hgl, hbi, fun b hb => ?_, ⟨_, hns, fun x v hx _ => ?_⟩, fun x c hc => ?_, fun x v hx hkk => ?_, fun x y c hc _ => ?_⟩
    · rw [(hown b).mp hb]; exact ⟨nL, hL0⟩
    · exact lookup_locOf hx
    · exact absurd hc (by unfold callEnv newEnv; simp [hcl])
    · obtain ⟨u, hu, _⟩ := lookup_locOf hx
      have hmem : (x, u) ∈ binds := List.mem_reverse.mp (by
        have : ∀ l : List (Str × Value), l.lookup x = some u → (x, u) ∈ l := fun l => by
          induction l with
          | nil => intro q; cases q
          | cons p r ih =>
            intro q
            obtain ⟨y, w⟩ := p
            rw [List.lookup_cons] at q
            cases z : x == y with
            | true => rw [z] at q; cases q; rw [eq_of_beq z]; exact .head _
            | false => rw [z] at q; exact .tail _ (ih q)
        exact this _ hu)
      have := hloc _ hmem
      have hkk' : fd.scope.names.lookup x = some .cell ∨ fd.scope.names.lookup x = some .free := hkk
      rw [this] at hkk'
      rcases hkk' with q | q <;> cases q
    · exact absurd hc (by unfold callEnv newEnv; simp [hcl])
  have F₁ : Fs C (A.deeper (callEnv fd s.heap.objs.size f)) σ h₁ := by
    obtain ⟨l, hl, hf, hd⟩ := W.fs
    refine ⟨callEnv fd s.heap.objs.size f :: l, Around.frames_deeper hl, .cons (L := s.heap.objs.size) (by show fd.scope.kind ≠ .module; rw [hk]; decide) rfl hns hL0 (FunFrames.turn hf fun e he L o hL ho hv => ⟨o, hk₁ L o ho, hv⟩), fun e he L hL => ?_⟩
    rcases List.mem_cons.mp he with rfl | he
    · obtain rfl : s.heap.objs.size = L := Option.some.inj hL
      exact nL
    · exact hd e he L hL
  exact ⟨S₁, F₁, O₁, Mv.refl ..⟩
/-- what the callee did, seen from outside -/
theorem callee_Wv {f : Addr} {fd : FuncData} {h₁ : Heap} {tk : Nat} {m' : Loc} {s₁ : Shared} (W : Wv C A σ₀ s₀ σ s) (hk₁ : ∀ b o, s.heap.get? b = some o → h₁.get? b = some o) (hcl : fd.closure = [])
    (X : Wx C (A.deeper (callEnv fd s.heap.objs.size f)) (callEnv fd s.heap.objs.size f) m' σ { s with heap := h₁, toks := tk } σ' s₁) : Wv C A σ₀ s₀ σ' s₁ := by
  have hown : ∀ b, own (callEnv fd s.heap.objs.size f) b ↔ b = s.heap.objs.size := fun b => by
    unfold own callEnv newEnv
    simp [hcl]
  have nown : ∀ b o, s.heap.get? b = some o → ¬ own (callEnv fd s.heap.objs.size f) b := fun b o e z => by
    rw [(hown b).mp z] at e
    exact absurd (Heap.lt_size e) (Nat.lt_irrefl _)
  have M : Mv (Fz A) No σ σ' s s₁ := by
    refine ⟨fun b o e n _ z => X.mv.kp b o (hk₁ b o e) n (nown b o e) fun ⟨l, hl, e', he', hf'⟩ => ?_, fun b o e n _ => X.mv.zs b o (hk₁ b o e) n (nown b o e), fun b o e n => X.mv.fr b o (hk₁ b o e) n, X.mv.os, X.mv.gen⟩
    obtain ⟨l0, hl0, _⟩ := W.fs
    rw [Around.frames_deeper hl0] at hl; cases hl
    rcases List.mem_cons.mp he' with rfl | h
    · obtain rfl : s.heap.objs.size = b := Option.some.inj hf'
      exact absurd (Heap.lt_size e) (Nat.lt_irrefl _)
    · exact z ⟨l0, hl0, e', h, hf'⟩
  exact W.go X.st M
/-- a call of a def whose body raises -/
theorem TCr_call {f : Addr} {oc : Value} {od : Option Addr} {osl : Array (Option Value)} {fd : FuncData} {body : List Stmt} {args : List Value} {binds : List (Str × Value)}
    (hA : A.depth < recursionLimit) (hf : C.K.lookup f = some ⟨oc, od, .func fd, osl⟩) (hcd : codeIn C.K fd.code fd.qualname = true) (hbody : fd.body = .stmts body)
    (hb : ∀ S, peek C.K S (bindArgs fd ⟨args, []⟩) = some binds) (hcell : ∀ x ∈ fd.scope.names, x.2 ≠ .cell) (hloc : ∀ x ∈ binds, fd.scope.names.lookup x.1 = some .local)
    (h : ∀ L, ¬ dom σ L → TXr C (A.deeper (callEnv fd L f)) (callEnv fd L f) (locOf binds) body σ D Q)
    (hco : fd.scope.isCoroutine = false := by rfl) (hgen : fd.scope.isGenerator = false := by rfl) (hk : fd.scope.kind = .function := by rfl)
    (hgl : fd.globals = mainGlobals := by rfl) (hbi : fd.builtins = builtinsNs := by rfl) (hcl : fd.closure = [] := by rfl) : TCr C A (.ref f) args σ D Q := fun σ₀ s₀ s R W k => by
  refine codeAny_call_def hA (W.st.K _ _ hf) rfl (C.T.nolimit.keeps W.st.keep) (codeRec_of W.st.K hcd) hbody (kp_binds W.st.K hb) hcell hloc (fun h₁ hns hk₁ => ?_) hco hgen hk
  have X := callee_Wx (f := f) (tk := s.toks + binds.length) W hns hk₁ hloc hk hgl hbi hcl
  refine h s.heap.objs.size (W.st.fresh (Nat.le_refl _)) _ _ _ _ _ X fun e s₁ h' m' σ' vs X₁ hx q => ?_
  have V := callee_Wv W hk₁ hcl X₁
  obtain ⟨l, hl, hf', hd'⟩ := V.fs
  obtain ⟨l2, hl2, hf2, hd2⟩ := X₁.fs
  rw [Around.frames_deeper hl] at hl2; cases hl2
  have hbs : (hideAll s₁.heap (frs (callEnv fd s.heap.objs.size f :: l))).StaysIn s₁.heap := fun b o q => of_hideAll _ q
  refine wpAny_leaves_madeW (base := hideAll s₁.heap (frs (callEnv fd s.heap.objs.size f :: l))) (h := s₁.heap) (cls := .ref D) (args := vs) (Around.frames_deeper hl) rfl hbs ?_ hx fun h'' t x1 x2 x3 x4 => ?_
  · exact funFrames_hide hf2 fun e he a ha => List.mem_filterMap.mpr ⟨e, he, ha⟩
  · refine k e _ σ' ⟨s₁, l, t, _, hl, V, x1, fun b o hb nz hc => hideAll_get _ hb fun hm => ?_, (Heap.UpToSlots.of_keeps hx.keeps).trans x4, rfl, GenOk.refl _⟩ q
    obtain ⟨l', hl', e', he', hfr⟩ := (frs_mem (Around.frames_deeper (env := callEnv fd s.heap.objs.size f) hl)).mp hm
    rw [Around.frames_deeper hl] at hl'; cases hl'
    rcases List.mem_cons.mp he' with rfl | h
    · obtain rfl : s.heap.objs.size = b := Option.some.inj hfr
      rcases hc with d | d | ⟨n, o', d⟩
      · exact hd2 _ (.head _) _ rfl d
      · rw [W.size] at d; cases d
      · obtain ⟨o2, e2⟩ := (W.mv.fr _ o' d n).2
        exact absurd (Heap.lt_size e2) (Nat.lt_irrefl _)
    · exact nz ⟨l, hl, e', h, hfr⟩
end
end J
end

section
open PySem PySem.W PySem.Calls PyProof.Rows
set_option Elab.async false
set_option linter.unusedVariables false
namespace J
section
variable {C : Cx} {A : Around} {env : Env} {m : Loc} {σ σ₀ σ' : Ab} {s s₀ s' : Shared} {D : Addr} {Q : Ab → Prop}
/-- the state after an exception was handled: only the frames on the stack have turned, in their slots -/
theorem Wx.after (W : Wx C A env m σ s σ s) {e : Addr} {s₁ s₂ : Shared} {B : Heap} {l : List Env} {A' : Around} (hA : A'.frames = A.frames) (hl : A.frames = some l) (V : Wv C A σ s σ' s₁)
    (hs : B.StaysIn s₂.heap) (hB : ∀ b o, s₁.heap.get? b = some o → ¬ Fz A b → (dom σ' b ∨ C.h₀.get? b = some o ∨ (¬ dom σ b ∧ ∃ o', s.heap.get? b = some o')) → B.get? b = some o)
    (hu : s₁.heap.UpToSlots s₂.heap) (ho : s₂.os = s₁.os) (hg : GenOk s₁.gens s₂.gens) : Wx C A' env m σ s σ' s₂ := by
  have ke : ∀ b o, ¬ Fz A b → (dom σ' b ∨ C.h₀.get? b = some o ∨ (¬ dom σ b ∧ ∃ o', s.heap.get? b = some o')) → s₁.heap.get? b = some o → s₂.heap.get? b = some o := fun b o z c e' => hs b o (hB b o e' z c)
  obtain ⟨l', hl', hf, hd⟩ := V.fs
  obtain rfl : l' = l := Option.some.inj (hl'.symm.trans hl)
  have fr0 : ∀ b, Fz A b → C.h₀.get? b = none ∧ ¬ dom σ' b ∧ ∃ o, s₁.heap.get? b = some o ∧ ∀ vs, o.data ≠ .fields vs := fun b ⟨l2, hl2, e2, he2, q2⟩ => by
    obtain rfl : l2 = l' := Option.some.inj (hl2.symm.trans hl)
    have := hf.mem (List.mem_filterMap.mpr ⟨e2, he2, q2⟩)
    exact ⟨this.1, hd e2 he2 b q2, this.2⟩
  have S' : St C σ' s₂.heap := V.st.keeps fun b o hb e' => ke b o (fun z => by
    obtain ⟨h1, h2, _⟩ := fr0 b z
    rcases hb with d | q
    · exact h2 d
    · rw [h1] at q; cases q) (hb.elim .inl fun q => .inr (.inl q)) e'
  have O₁ : FOk C env m σ' s₁.heap := W.ok.mv V.mv
  have O' : FOk C env m σ' s₂.heap := O₁.keepsS (fun b o _ e' hn => hu b o e' hn) fun b hb => (O₁.nd b hb).1
  have M' : Mv (Fz A) (own env) σ σ' s s₂ := by
    refine ⟨fun b o e' n p z => ke b o z (.inr (.inr ⟨n, o, e'⟩)) (V.mv.kp b o e' n id z), fun b o e' n p hn => ?_, fun b o e' n => ⟨(V.mv.fr b o e' n).1, ?_⟩, ho.trans V.mv.os, V.mv.gen.trans hg⟩
    · obtain ⟨sl, e1⟩ := V.mv.zs b o e' n id hn
      obtain ⟨sl', e2⟩ := hu b _ e1 hn
      exact ⟨sl', e2⟩
    · obtain ⟨n', o', e1⟩ := V.mv.fr b o e' n
      by_cases z : Fz A b
      · obtain ⟨_, _, o2, e2, h2⟩ := fr0 b z
        obtain ⟨sl, e3⟩ := hu b o2 e2 h2
        exact ⟨_, e3⟩
      · exact ⟨o', ke b o' z (.inr (.inr ⟨n, o, e'⟩)) e1⟩
  have F' : Fs C A' σ' s₂.heap := by
    refine ⟨l', hA.trans hl, FunFrames.turn hf fun e he L o hL ho hv => ?_, hd⟩
    obtain ⟨sl, e1⟩ := hu L o ho hv
    exact ⟨_, e1, hv⟩
  refine ⟨S', F', O', ?_⟩
  have : Fz A' = Fz A := by unfold Fz; rw [hA]
  rw [this]; exact M'
/-- statements of which the first raises -/
def TSr (C : Cx) (A : Around) (env : Env) (m : Loc) (sts : List Stmt) (σ : Ab) (D : Addr) (Q : Ab → Prop) : Prop :=
  ∀ s (R : Flow → Shared → Prop) (E : Value → Shared → Prop), Wx C A env m σ s σ s → (∀ e' s' σ', Thrown C A σ s σ' D e' s' → Q σ' → E (.ref e') s') → wpAny C.M A (execs sts env) R E s
theorem TSr_expr {e : Expr} {pos : Pos} {rest : List Stmt} (h : TEr C A env m e σ D Q)
    (hi : interactive env = false := by rfl) (hs : swapsWith e none pos.line env = pure false := by rfl) : TSr C A env m (.Expr e pos :: rest) σ D Q := fun s R E W k =>
  wpAny_execs_cons (wpAny_Expr_any (h σ s s _ E W.wd k) hi hs)
/-- try: body, except X: suite; where the body raises X -/
theorem TX_tryR {body : List Stmt} {x : Str} {hpos pos np : Pos} {b₀ : Stmt} {suite : List Stmt} {bm : List Value} {newId : String} {Qx : Flow → Loc → Ab → Prop} (hfr : ∀ l, A.frames = some l → ∃ outer, l = env :: outer) (hf : env.frame = some env.locals)
    (hn : nsIn C.K mainGlobals x = some (some (.ref D))) (hx : env.kindOf x = some .globalImplicit) (hD : excIn C.K D bm newId = true) (hbm : bm.contains (.type "BaseException") = true)
    (hb : TSr C A env m body σ D Q) (hsuite : ∀ y σ', Q σ' → TXs C (A.mark (some y)) env m (b₀ :: suite) σ' Qx) (hd : (x == ("__debug__" : Str)) = false := by decide) :
    TX C A env m (.Try body [.ExceptHandler (some (.Name x np)) none (b₀ :: suite) hpos] [] [] pos) σ Qx := fun σ₀ s₀ s R E W k => by
  refine wpAny_Try_except (hb s _ _ W.self fun e' s' σ' T q => ?_)
  obtain ⟨s₁, l, t, B, hl, V, fly, hB, hu, hos, hg⟩ := T
  obtain ⟨outer, rfl⟩ := hfr l hl
  refine wpAny_looks_onW hl hf fly fun h₄ held sm4 => ?_
  refine wpAny_landsW held fun h₅ fly5 sm5 => ?_
  have sm := (hu.trans sm4).trans sm5
  have kp5 : ∀ b o, C.h₀.get? b = some o → h₅.get? b = some o := by
    have W5 : Wx C (A.mark (some (.ref e'))) env m σ s σ' { s' with heap := h₅ } := W.self.after (s₂ := { s' with heap := h₅ }) (e := e') rfl hl V fly5.1 hB sm hos hg
    exact W5.st.keep
  have O := own_of_in C.X C.T hn hD
  obtain ⟨tl, N, nm, qn, bs, hdct, sn, sub, ab, col, dd, k0, k1, k2, k3, k5, mN, hC, hN, hni, Tl⟩ := O.obj
  refine wpAny_handleBy_cons (codeAny_handlers_test (Name_function_global W.ok.fn hx (loadGlobal_global (env := env) (W.ok.gl ▸ C.T.g.keeps kp5) (mg_of C.X C.T.g hn) ?_) hd)) (by intro q; cases q)
  obtain ⟨oe, he, hcls⟩ := fly5.there
  refine wpAny_excMatches_sub_self (g := s'.gens) (d := s'.drawn) (t := s'.toks) (os := s'.os) (kp5 _ _ hC) he hcls (Tl.hasType hbm) (codeAny_handlers_suite ?_)
  refine lands_againW (s := { s' with heap := h₅ }) fly5 fun h₇ fly7 sm7 => ?_
  have W7 : Wx C (A.mark (some (.ref e'))) env m σ s σ' { s' with heap := h₇ } := W.self.after (s₂ := { s' with heap := h₇ }) (e := e') rfl hl V fly7.1 hB (sm.trans sm7) hos hg
  exact hsuite _ σ' q σ s _ R _ W7 fun f s₈ m₈ σ₈ W₈ q => k f s₈ m₈ σ₈ (W.trans ⟨W₈.st, (by obtain ⟨l, hl', r⟩ := W₈.fs; exact ⟨l, hl', r⟩), W₈.ok, W₈.mv⟩) q
/-- try: body, where it does not raise -/
theorem TX_tryOk {body : List Stmt} {h₀ : ExceptHandler} {hs : List ExceptHandler} {pos : Pos} {Qx : Flow → Loc → Ab → Prop} (h : TXs C A env m body σ Qx) : TX C A env m (.Try body (h₀ :: hs) [] [] pos) σ Qx := fun σ₀ s₀ s R E W k => by
  refine wpAny_Try_except (h σ₀ s₀ s _ _ W fun f s' m' σ' W' q => ?_)
  cases f with
  | next => exact wpAny_execs_nil (k _ _ _ _ W' q)
  | brk => exact k _ _ _ _ W' q
  | cont => exact k _ _ _ _ W' q
  | ret v => exact k _ _ _ _ W' q
/-- o.x(e, ..) of an object that a tree gives -/
theorem TE_methG {o : Expr} {x : Str} {apos pos : Pos} {e : Expr} {es : List Expr} {pl : Sem Bool} {Qv : Value → Ab → Prop}
    (ho : TE C A env m o σ fun v σ' => ∃ a K f fs, v = .ref a ∧ σ' a = some (.inst K fs) ∧ fs.lookup x = none ∧ methIn C.K K x f = true ∧ TAs C A env m pos (e :: es) σ' fun vs σ'' => CallR C A (.ref f) (.ref a :: vs) σ'' Qv)
    (he : eval (.Call (.Attribute o x apos) (e :: es) [] pos) env = (do
      let ov ← eval o env
      standAt apos.atName
      let (f, first) ← holding [ov] (getMethod ov x pl)
      callWith pos f first (backTo pos (starEach (e :: es) env)) []) := by rfl)
    (he' : starEach (e :: es) env = (false, eval e env) :: starEach es env := by rfl) (hp : (backTo pos (starEach es env)).any (·.1) = false := by rfl) :
    TE C A env m (.Call (.Attribute o x apos) (e :: es) [] pos) σ Qv := fun σ₀ s₀ s R E W k =>
  MethodCall_ (ho σ₀ s₀ s _ E W fun u s₁ σ₁ W₁ ⟨a, K, f, fs, hu, hi, hx, hk, h⟩ => by
    obtain rfl := nv_to_ref hu
    refine getMethod_inst W₁.st hi hx hk ?_
    unfold methIn at hk
    simp only [Bool.and_eq_true] at hk
    exact callWith_own (first := [.ref a]) hk.2 h he' hp σ₀ s₀ s₁ R E W₁ k) he
theorem TEr_methG {o : Expr} {x : Str} {apos pos : Pos} {e : Expr} {es : List Expr} {pl : Sem Bool}
    (ho : TE C A env m o σ fun v σ' => ∃ a K f fs, v = .ref a ∧ σ' a = some (.inst K fs) ∧ fs.lookup x = none ∧ methIn C.K K x f = true ∧ TAs C A env m pos (e :: es) σ' fun vs σ'' => CallRr C A (.ref f) (.ref a :: vs) σ'' D Q)
    (he : eval (.Call (.Attribute o x apos) (e :: es) [] pos) env = (do
      let ov ← eval o env
      standAt apos.atName
      let (f, first) ← holding [ov] (getMethod ov x pl)
      callWith pos f first (backTo pos (starEach (e :: es) env)) []) := by rfl)
    (he' : starEach (e :: es) env = (false, eval e env) :: starEach es env := by rfl) (hp : (backTo pos (starEach es env)).any (·.1) = false := by rfl) :
    TEr C A env m (.Call (.Attribute o x apos) (e :: es) [] pos) σ D Q := fun σ₀ s₀ s R E W k =>
  MethodCall_ (ho σ₀ s₀ s _ E W fun u s₁ σ₁ W₁ ⟨a, K, f, fs, hu, hi, hx, hk, h⟩ => by
    obtain rfl := nv_to_ref hu
    refine getMethod_inst W₁.st hi hx hk ?_
    unfold methIn at hk
    simp only [Bool.and_eq_true] at hk
    exact callWith_K C.X hk.2 (h σ₀ s₀ s₁ _ E W₁ fun vs s' σ' W' q => ⟨W'.st.K, wpAny_call (codeAny_mono (q _ (by simp) σ₀ s₀ s' (fun r s'' => match r with | .ok _ => False | .error e => E e s'') W'.toWv fun e s'' σ'' T q => k e s'' σ'' T q) fun r s'' x => by
      cases r with
      | ok f => exact x.elim
      | error e => exact x)⟩) he' hp) he
/-- o.x(e, ..) where e raises -/
theorem TEr_methArg {o : Expr} {x : Str} {apos pos : Pos} {a K f : Addr} {fs : Loc} {e : Expr} {es : List Expr} {pl : Sem Bool} (ho : EV C A env m σ o (.ref a)) (hi : σ a = some (.inst K fs)) (hx : fs.lookup x = none) (hk : methIn C.K K x f = true) (h : TEr C A env m e σ D Q)
    (he : eval (.Call (.Attribute o x apos) (e :: es) [] pos) env = (do
      let ov ← eval o env
      standAt apos.atName
      let (f, first) ← holding [ov] (getMethod ov x pl)
      callWith pos f first (backTo pos (starEach (e :: es) env)) []) := by rfl)
    (he' : starEach (e :: es) env = (false, eval e env) :: starEach es env := by rfl) (hp : (backTo pos (starEach es env)).any (·.1) = false := by rfl) :
    TEr C A env m (.Call (.Attribute o x apos) (e :: es) [] pos) σ D Q := fun σ₀ s₀ s R E W k =>
  MethodCall_ (ho.run W fun u s₁ hu W₁ => by
    obtain rfl := nv_to_ref hu
    refine getMethod_inst W₁.st hi hx hk ?_
    unfold methIn at hk
    simp only [Bool.and_eq_true] at hk
    exact callWith_K C.X hk.2 (spliced_more (h σ₀ s₀ s₁ _ E W₁ k) he') he' hp) he
end
end J
end

section
open PySem PySem.W PySem.Calls PyProof.Rows
set_option Elab.async false
set_option linter.unusedVariables false
namespace J
/-- a run of a generator's code, to its end or to a yield -/
def GS (M : Model) (A : Around) (c : Code) (t : Sem Fin) (fs : List Frame) (s : Shared) (Φ : End → Shared → Prop) : Prop :=
  ∀ Γ p, Γ.code = c → Γ.Woken A → ∃ e s', Runs M Γ p t fs s e s' ∧ Φ e s'
section
variable {M : Model} {A : Around} {c : Code} {fs : List Frame} {s : Shared} {env : Env} {Φ : End → Shared → Prop} {K : Flow → Sem Fin} {H : Value → Sem Fin} {gd : Bool → Bool} {lv : List Value → List Value}
theorem gs_wrap {α : Type} {t : Sem α} {K : α → Sem Fin} {H : Value → Sem Fin} {gd lv}
    (h : wpAny M (A.over c fs) t (fun a s' => GS M A c (K a) fs s' Φ) (fun x s' => GS M A c (H x) fs s' Φ) s) : GS M A c (t.wrap K H gd lv) fs s Φ := by
  rintro Γ p rfl hΓ
  exact runs_wrap_of_wp K H gd lv t (h (Γ.over fs) p (hΓ.over fs)) (fun a p' s' h' => h' Γ p' rfl hΓ) fun x p' s' h' => h' Γ p' rfl hΓ
theorem gs_at {p' : Pos} {k : Unit → Sem Fin} (h : GS M A c (k ()) fs s Φ) : GS M A c (.at p' k) fs s Φ :=
  gs_wrap (t := standAt p') (K := k) (H := .raise) (gd := id) (lv := id) (wpAny_standAt h)
theorem gs_point {l : List Value} {k : Unit → Sem Fin} (h : GS M A c (k ()) fs s Φ) : GS M A c (.point l k) fs s Φ :=
  gs_wrap (t := point) (K := k) (H := .raise) (gd := id) (lv := fun _ => l) (wpAny_point h)
theorem gs_call {c' : Code} {h g l} {k : Result → Sem Fin} (hc : ∀ p, GS M A c' (M.den c') (.ret k h g l c p [] :: fs) s Φ) : GS M A c (.call c' h g l k) fs s Φ := by
  rintro Γ p rfl hΓ
  obtain ⟨e, s', hr, he⟩ := hc p (Γ.goto c') p rfl (hΓ.goto c')
  exact ⟨e, s', runs_call_seg hr, he⟩
theorem gs_leaf {k h g l c₁ p₁ kp} (r : Result) (hk : GS M A c₁ (k r) fs s Φ) : GS M A c (leafOf r) (.ret k h g l c₁ p₁ kp :: fs) s Φ := by
  rintro Γ p rfl hΓ
  obtain ⟨e, s', hr, he⟩ := hk (Γ.goto c₁) p₁ rfl (hΓ.goto c₁)
  exact ⟨e, s', Runs.pop r hr, he⟩
theorem gs_again {c' : Code} (hq : c'.quiet = true) (hc : GS M A c' (M.den c') fs s Φ) : GS M A c (.pure (.again c')) fs s Φ := by
  rintro Γ p rfl hΓ
  obtain ⟨e, s', hr, he⟩ := hc (Γ.goto c') p rfl (hΓ.goto c')
  exact ⟨e, s', Runs.head (c₁ := c') (fun _ _ x => .again hq x) hr, he⟩
theorem gs_end (r : Result) (h : Φ (.ret r) s) : GS M A c (leafOf r) [] s Φ := by
  rintro Γ p rfl _
  exact ⟨.ret r, s, Runs.leaf r, h⟩
theorem gs_yield {v g l} {k : Resume → Sem Fin} (hfs : splitAtGen fs = none) (h : ∀ p, Φ (.susp v g l k c p fs) s) : GS M A c (.yield v g l k) fs s Φ := by
  rintro Γ p rfl _
  exact ⟨_, s, Runs.yield' fs hfs, h p⟩
theorem gs_cons {st : Stmt} {rest : List Stmt} (h : GS M A c ((exec st env).wrap (fun f => match f with | .next => (execs rest env).wrap K H gd lv | f => K f) H gd lv) fs s Φ) : GS M A c ((execs (st :: rest) env).wrap K H gd lv) fs s Φ := by
  rw [execs_cons_wrap]; exact h
/-- yield e -/
theorem gs_Yield {e : Expr} {ypos pos : Pos} (hfs : splitAtGen fs = none) (hgd : gd false = false)
    (h : ∀ E : Value → Shared → Prop, wpAny M (A.over c fs) (eval e env) (fun v s' => ∀ p l k, (∀ x, (match x with | .ref _ => False | _ => True) → ∀ s'' Φ', GS M A c (K .next) fs s'' Φ' → GS M A c (k (.send x)) fs s'' Φ') → Φ (.susp v false l k c p fs) s') E s)
    (hco : env.scope.isCoroutine = false := by rfl) (hi : interactive env = false := by rfl) :
    GS M A c ((exec (.Expr (.Yield (some e) ypos) pos) env).wrap K H gd lv) fs s Φ := by
  rw [exec_Expr env _ pos hi rfl]
  show GS M A c (.at pos fun _ => ((eval e env >>= fun v => (standAt ypos >>= fun _ => yieldOut env v)) >>= fun x =>
    dropValue (.Yield (some e) ypos) pos x).wrap K H gd lv) fs s Φ
  have hy : ∀ v, yieldOut env v = yieldValue v := fun v => by simp only [yieldOut, hco, Bool.false_eq_true, if_false]
  simp only [hy]
  refine gs_at ?_
  rw [Sem.bind_eq_wrap', Sem.bind_eq_wrap', Sem.wrap_wrap, Sem.wrap_wrap]
  refine gs_wrap (wpAny_mono (h _) (fun v s' h' => ?_) fun _ _ x => x)
  refine gs_at (gs_yield hfs fun p => ?_)
  dsimp only [id]
  rw [hgd]
  refine h' p _ _ fun x hx s'' Φ' g => ?_
  cases x <;> first | exact g | exact hx.elim
theorem gs_func {prog : Program} {w : World} {body : List Stmt}
    (h : GS (model prog w) A (.func body env) ((execs body env).wrap (fun f => .pure (.done (.ret (match f with | .ret v => v | _ => .none)))) (fun e => (leaving env e).wrap (fun _ => .raise e) .raise id id) id id) fs s Φ) :
    GS (model prog w) A (.func body env) ((model prog w).den (.func body env)) fs s Φ := by
  show GS (model prog w) A _ (.point [] fun _ => ((execs body env).onRaise (leaving env)) >>= _) fs s Φ
  refine gs_point ?_
  rw [Sem.onRaise_eq_wrap, Sem.bind_eq_wrap', Sem.wrap_wrap]
  rw [Sem.wrap_congr (execs body env) _ _ (K' := fun f => .pure (.done (.ret (match f with | .ret v => v | _ => .none))))
    (H' := fun e => (leaving env e).wrap (fun _ => .raise e) .raise id id) (fun f => by cases f <;> rfl)
    (fun e => by rw [Sem.bind_eq_wrap, Sem.wrap_wrap]; rfl)]
  exact h
end
section
variable {C : Cx} {A : Around} {n : Nat} {c : Code} {fs : List Frame} {s s₀ : Shared} {env : Env} {Φ : End → Shared → Prop} {K : Flow → Sem Fin} {H : Value → Sem Fin} {gd : Bool → Bool} {lv : List Value → List Value} {m : Loc} {σ₀ σ : Ab}
/-- a statement without a yield, within a generator -/
theorem gs_TX {st : Stmt} {Q : Flow → Loc → Ab → Prop} (h : TX C (A.over c fs) env m st σ Q) (W : Wx C (A.over c fs) env m σ₀ s₀ σ s)
    (k : ∀ f s' m' σ', Wx C (A.over c fs) env m' σ₀ s₀ σ' s' → Q (nf f) m' σ' → GS C.M A c (K f) fs s' Φ) : GS C.M A c ((exec st env).wrap K H gd lv) fs s Φ :=
  gs_wrap (h σ₀ s₀ s _ _ W k)
theorem gs_For {target iter : Expr} {body : List Stmt} {pos : Pos} (hs : ∀ x, foldedSetIterable iter env x = pure x := by intro _; rfl)
    (h : ∀ E E' : Value → Shared → Prop, wpAny C.M (A.over c fs) (eval iter env) (fun x s₁ => wpAny C.M (A.over c fs) (pyIter x) (fun it s₂ => ∀ p k0 l0, (∀ f, k0 (.ok f) = K f) →
      GS C.M A (.forLoop target it body [] env) (C.M.den (.forLoop target it body [] env)) (.ret k0 none (gd false) l0 c p [] :: fs) s₂ Φ) E' s₁) E s) :
    GS C.M A c ((exec (.For target iter body [] pos) env).wrap K H gd lv) fs s Φ := by
  rw [exec_For]
  refine gs_at (p' := pos) ?_
  show GS _ _ _ (((eval iter env) >>= fun v => foldedSetIterable iter env v >>= fun x => (standAt iter.pos >>= fun _ => (holding [x] (pyIter x) >>= fun it => runOwn (.forLoop target it body [] env) env))).wrap K H gd lv) fs s Φ
  rw [Sem.bind_eq_wrap', Sem.wrap_wrap]
  refine gs_wrap (wpAny_mono (h _ (fun x s' => GS C.M A c (H x) fs s' Φ)) (fun x s₁ h₁ => ?_) fun _ _ e => e)
  rw [hs x]
  refine gs_at (p' := iter.pos) ?_
  show GS _ _ _ ((holding [x] (pyIter x) >>= fun it => runOwn (.forLoop target it body [] env) env).wrap K H gd lv) fs s₁ Φ
  rw [Sem.bind_eq_wrap', Sem.wrap_wrap]
  refine gs_wrap (wpAny_mono (wpAny_holding h₁) (fun it s₂ h₂ => ?_) fun _ _ e => e)
  refine gs_call fun p => ?_
  exact h₂ p _ _ fun f => rfl
/-- one turn of a for loop within a generator -/
theorem gs_forLoop {target : Expr} {it : Value} {body : List Stmt} (hh : ∀ E : Value → Shared → Prop, wpAny C.M (A.over (.forLoop target it body [] env) fs) (pyNext it) (fun r s₁ => match r with
      | none => GS C.M A (.block [] env) (C.M.den (.block [] env)) fs s₁ Φ
      | some v => ∀ E : Value → Shared → Prop, wpAny C.M (A.over (.forLoop target it body [] env) fs) (letOwnedTupleGo target it v) (fun _ s₂ => ∀ E : Value → Shared → Prop, wpAny C.M (A.over (.forLoop target it body [] env) fs) (assign target env v) (fun _ s₃ =>
          ∀ H', GS C.M A (.forLoop target it body [] env) ((execs body env).wrap (fun f => match f with
            | .next | .cont => .pure (.again (.forLoop target it body [] env))
            | .brk => .pure (.done .next)
            | .ret v => .pure (.done (.ret v))) H' id id) fs s₃ Φ) E s₂) E s₁) E s) :
    GS C.M A (.forLoop target it body [] env) (C.M.den (.forLoop target it body [] env)) fs s Φ := by
  show GS _ A _ ((forTurn target it body [] env).onRaise (fun x => do noteFrame x env; theTreesLotGoes x)) fs s Φ
  unfold forTurn
  rw [Sem.onRaise_eq_wrap]
  refine gs_at (p' := target.pos) ?_
  show GS _ _ _ ((((pyNext it).onRaise (fun _ => standAt { target.pos with line := 0 })) >>= fun r => _).wrap _ _ _ _) fs s Φ
  rw [Sem.bind_eq_wrap', Sem.wrap_wrap]
  refine gs_wrap (wpAny_onRaise (wpAny_mono (hh _) (fun r s₁ h₁ => ?_) fun _ _ h' => wpAny_standAt h'))
  cases r with
  | none => exact gs_again (by rfl) h₁
  | some v =>
    show GS _ _ _ (((letOwnedTupleGo target it v) >>= fun _ => (assign target env v >>= fun _ => (execs body env >>= fun f => _))).wrap _ _ _ _) fs s₁ Φ
    rw [Sem.bind_eq_wrap', Sem.wrap_wrap]
    refine gs_wrap (wpAny_mono (h₁ _) (fun _ s₂ h₂ => ?_) fun _ _ e => e)
    rw [Sem.bind_eq_wrap', Sem.wrap_wrap]
    refine gs_wrap (wpAny_mono (h₂ _) (fun _ s₃ h₃ => ?_) fun _ _ e => e)
    rw [Sem.bind_eq_wrap', Sem.wrap_wrap]
    rw [Sem.wrap_congr (execs body env) _ _ (K' := fun f => match f with
            | .next | .cont => .pure (.again (.forLoop target it body [] env))
            | .brk => .pure (.done .next)
            | .ret v => .pure (.done (.ret v))) (fun f => by cases f <;> rfl) (fun e => rfl)]
    exact h₃ _
theorem gs_block_nil {k0 : Result → Sem Fin} {h g l c₁ p₁ kp} (hk : GS C.M A c₁ (k0 (.ok .next)) fs s Φ) : GS C.M A (.block [] env) (C.M.den (.block [] env)) (.ret k0 h g l c₁ p₁ kp :: fs) s Φ :=
  gs_leaf (.ok .next) hk
end
end J
end

section
open PySem PySem.W PySem.Calls PyProof.Rows
set_option Elab.async false
set_option linter.unusedVariables false
namespace J
section
variable {C : Cx} {A : Around} {env : Env} {m : Loc} {σ σ₀ σ' : Ab} {s s₀ s' : Shared}
abbrev tk2 (x : Str) (i : Int) : TKey := [.inl x, .inr i]
def TkOk (σ : Ab) (ks : List (Addr × TKey)) : Prop := ∀ e ∈ ks, ∃ x i, e.2 = tk2 x i ∧ σ e.1 = some (.tup [.str x 0, .int i 0])
theorem St.isTK {h : Heap} (S : St C σ h) {p : Addr} {x : Str} {i : Int} (e : σ p = some (.tup [.str x 0, .int i 0])) : IsTK C.prog C.w h (tk2 x i) p := by
  obtain ⟨vs, n, ho, hv⟩ := S.rep p _ e
  refine ⟨_, vs, n, ho, rfl, rfl, ?_⟩
  obtain ⟨l⟩ := vs
  rcases l with _ | ⟨u, _ | ⟨v, _ | ⟨w, r⟩⟩⟩ <;> simp at hv
  obtain ⟨h1, h2⟩ := hv
  obtain ⟨t, rfl⟩ := nv_to_str h1
  obtain ⟨t', rfl⟩ := nv_to_int h2
  exact .cons (by simp [mixKind, isMix, Value.isStrOf]) (.cons (by simp [mixKind, isMix, Value.isInt]) .nil)
theorem St.tks {h : Heap} (S : St C σ h) {ks : List (Addr × TKey)} (x : TkOk σ ks) : TKs C.prog C.w h ks := fun e he => by
  obtain ⟨y, i, h1, h2⟩ := x e he
  rw [h1]; exact S.isTK h2
theorem Cmp.in_setT {a p : Addr} {ks : List (Addr × TKey)} {x : Str} {i : Int} (e : σ a = some (.setT ks)) (hk : TkOk σ ks) (hp : σ p = some (.tup [.str x 0, .int i 0])) (hu : A.units + 64 < cLine) : Cmp C A σ .In (.ref p) (.ref a) (inK (tk2 x i) ks) := fun p' a' h1 h2 s R E S k => by
  obtain rfl := nv_to_ref h1
  obtain rfl := nv_to_ref h2
  exact J.in_setT hu (S.rep a _ e) (S.tks hk) (S.isTK hp) fun tk => k tk
theorem call_addS {a p : Addr} {ks : List (Addr × TKey)} {x : Str} {i : Int} {Q : Value → Ab → Prop} (e : σ a = some (.setT ks)) (hk : TkOk σ ks) (hp : σ p = some (.tup [.str x 0, .int i 0])) (hu : A.units + 64 < cLine) (hab : tk2 x i ∉ ks.map (·.2)) (hn : ks.length ≤ 4)
    (h : Q .none (σ.put a (.setT (ks ++ [(p, tk2 x i)])))) : CallR C A (.builtin "set.add") [.ref a, .ref p] σ Q := CallR.of fun us hu' σ₀ s₀ s R E W k => by
  obtain ⟨u, v, rfl, h1, h2⟩ := map_two hu'
  obtain rfl := nv_to_ref h1
  obtain rfl := nv_to_ref h2
  exact call_addT hu (W.st.rep a _ e) (W.st.tks hk) (W.st.isTK hp) hab hn fun h' tk hs hS => k _ _ _ (W.upd (ao' := .setT (ks ++ [(p, tk2 x i)])) e rfl rfl tk (fun b o hb q => (hs.2 b hb).trans q) hS) h
theorem call_copyS {a : Addr} {ks : List (Addr × TKey)} {Q : Value → Ab → Prop} (e : σ a = some (.setT ks)) (hn : ks.length ≤ 5)
    (h : ∀ D, σ D = none → Q (.ref D) (σ.put D (.setT ks))) : CallR C A (.builtin "set.copy") [.ref a] σ Q := CallR.of fun us hu' σ₀ s₀ s R E W k => by
  obtain ⟨u, rfl, h1⟩ := map_one hu'
  obtain rfl := nv_to_ref h1
  refine call_copyT (W.st.rep a _ e) hn fun h' tk h2 h3 hS => ?_
  refine k _ _ _ ?_ (h _ (W.st.none (Nat.le_refl _)))
  exact W.go (s' := { s with heap := h', toks := tk }) (W.st.add (ao := .setT ks) rfl (Nat.le_refl _) h2 hS) (W.st.addMv (ao := .setT ks) rfl (Nat.le_refl _) h2)
/-- set() -/
theorem TE_setT0 {x : Str} {p pos : Pos} {Q : Value → Ab → Prop} (hf : EV C A env m σ (.Name x p) (.type "set")) (h : ∀ D, σ D = none → Q (.ref D) (σ.put D (.setT []))) (hx : starEach [] env = [] := by rfl) : TE C A env m (.Call (.Name x p) [] [] pos) σ Q := fun σ₀ s₀ s R E W k =>
  wpAny_Call_NameR (hf.run W fun u s₁ hu W₁ => by
    obtain rfl := nv_to_type hu
    rw [hx]
    refine PySem.callWith_type rfl (PySem.evalArgs_none (call_set_0 fun led => ?_))
    exact k _ _ _ (W₁.alloc (ao := .setT []) rfl _ s₁.toks ⟨#[], 0, _, Heap.get?_push_size _ rfl, .rfl, Good.fresh ..⟩) (h _ W₁.newNone))
end
end J
end

section
open PySem PySem.W PySem.Calls PyProof.Rows
set_option Elab.async false
set_option linter.unusedVariables false
namespace J
/-- what a run does that knows only τ, seen from σ, which says more -/
theorem St.lift {C : Cx} {P Z : Addr → Prop} {τ σ : Ab} {s s' : Shared} (S : St C σ s.heap) (x : Sub τ σ) (T : St C τ s'.heap) (M : ∀ b o, s.heap.get? b = some o → ¬ dom τ b → ¬ P b → ¬ Z b → s'.heap.get? b = some o) (hP : ∀ b, P b → ¬ dom σ b) (hZ : ∀ b, Z b → ¬ dom σ b) : St C σ s'.heap := by
  refine ⟨T.keep, fun a o e => ?_, S.new, S.sep⟩
  cases q : τ a with
  | some o' =>
    have := x a o' q
    rw [e] at this; cases this
    exact T.rep a _ q
  | none =>
    have k : ∀ b, (b = a ∨ (b + 1 = a ∧ o.isInst = true)) → ∀ ob, s.heap.get? b = some ob → s'.heap.get? b = some ob := fun b hb ob e' => by
      have db : dom σ b := by
        rcases hb with rfl | ⟨rfl, hi⟩
        · exact dom_of e
        · cases o with
          | inst K fs => exact .inr ⟨K, fs, e⟩
          | _ => cases hi
      refine M b ob e' (fun d => ?_) (fun p => hP b p db) fun z => hZ b z db
      rcases hb with rfl | ⟨rfl, hi⟩
      · rcases d with ⟨o', e2⟩ | ⟨K, fs, e2⟩
        · rw [q] at e2; cases e2
        · rw [S.sep b K fs (x _ _ e2)] at e; cases e
      · cases o with
        | inst K fs =>
          rcases d with ⟨o', e2⟩ | ⟨K', fs', e2⟩
          · have := x _ _ e2
            rw [S.sep b K fs e] at this; cases this
          · rw [q] at e2; cases e2
        | _ => cases hi
    exact (S.rep a o e).keeps (fun ob => k a (.inl rfl) ob) fun d ob hd hi => k d (.inr ⟨hd.symm, hi⟩) ob
theorem setGen_setGen (s : Shared) (g : Nat) (x y : GenState) : (s.setGen g x).setGen g y = s.setGen g y := by
  unfold Shared.setGen
  simp
theorem setGen_get {s : Shared} {g : Nat} {x : GenState} (h : g < s.gens.size) : (s.setGen g x).gens[g]? = some x := by
  unfold Shared.setGen
  simp [h]
theorem setGen_other {s : Shared} {g g' : Nat} {x : GenState} (h : g' ≠ g) : (s.setGen g x).gens[g']? = s.gens[g']? := by
  unfold Shared.setGen
  simp [h.symm]
theorem setGen_size (s : Shared) (g : Nat) (x : GenState) : (s.setGen g x).gens.size = s.gens.size := by
  unfold Shared.setGen; simp
/-- one generator apart -/
theorem Mv.both {Z P : Addr → Prop} {σ σ' : Ab} {s s' : Shared} (M : Mv Z P σ σ' s s') {g : Nat} (hg : g < s.gens.size) (x : GenState) : Mv Z P σ σ' (s.setGen g x) (s'.setGen g x) := by
  refine ⟨M.kp, M.zs, M.fr, M.os, ?_, fun g' hg' => ?_, fun g' v hg' e => ?_⟩
  · rw [setGen_size, setGen_size]; exact M.gen.le
  · rw [setGen_size] at hg'
    by_cases q : g' = g
    · subst q; rw [setGen_get hg', setGen_get (Nat.lt_of_lt_of_le hg' M.gen.le)]
    · rw [setGen_other q, setGen_other q]; exact M.gen.old g' hg'
  · rw [setGen_size] at hg'
    rw [setGen_other (by omega)] at e
    exact M.gen.new g' v hg' e
/-- from a state ahead of the generator -/
theorem Mv.over {Z P : Addr → Prop} {σ σ' : Ab} {s₀ s s' : Shared} (M : Mv Z P σ σ' s₀ s) {g : Nat} (hg : s₀.gens.size ≤ g) {x : GenState} (hx : x.bare = true) (e : s' = s.setGen g x) : Mv Z P σ σ' s₀ s' := by
  subst e
  refine ⟨M.kp, M.zs, M.fr, M.os, ?_, fun g' hg' => ?_, fun g' v hg' e => ?_⟩
  · rw [setGen_size]; exact M.gen.le
  · rw [setGen_other (by omega)]; exact M.gen.old g' hg'
  · by_cases q : g' = g
    · subst q
      rcases Nat.lt_or_ge g' s.gens.size with z | z
      · rw [setGen_get z] at e; cases e; exact hx
      · rw [Array.getElem?_eq_none_iff.mpr (by rw [setGen_size]; exact z)] at e; cases e
    · rw [setGen_other q] at e; exact M.gen.new g' v hg' e
/-- what may go on between two items; Pv: the generator's own addresses -/
structure Rs (C : Cx) (A : Around) (Pv : Addr → Prop) (τ : Ab) (s s' : Shared) : Prop where
  st : St C τ s'.heap
  fs : Fs C A τ s'.heap
  kp : ∀ b o, Pv b → s.heap.get? b = some o → s'.heap.get? b = some o
/-- what a run of the generator does -/
structure Gn (C : Cx) (A : Around) (Pv : Addr → Prop) (τ : Ab) (s s' : Shared) : Prop where
  st : St C τ s'.heap
  kp : ∀ b o, s.heap.get? b = some o → ¬ dom τ b → ¬ Pv b → ¬ Fz A b → s'.heap.get? b = some o
  zs : ∀ b o, s.heap.get? b = some o → ¬ dom τ b → ¬ Pv b → (∀ vs, o.data ≠ .fields vs) → ∃ sl, s'.heap.get? b = some { o with slots := sl }
  os : s'.os = s.os
  gen : GenOk s.gens s'.gens
def PvOk (Pv Pv' : Addr → Prop) (s s' : Shared) : Prop := ∀ b, Pv' b → (Pv b ∨ s.heap.get? b = none) ∧ ∃ o, s'.heap.get? b = some o
def GGo (M : Model) (A : Around) (gs : GenState) (s : Shared) (Φ : End → Shared → Prop) : Prop := match gs with
  | .fresh c => GS M A c (M.den c) [] s Φ
  | .suspended k _ c _ fs _ => GS M A c (k (.send .none)) fs s Φ
  | _ => False
def GEnd (C : Cx) (A : Around) (Pv : Addr → Prop) (τ : Ab) (val : Nat → Value) (N : Nat) (s : Shared) : Nat → (GenState → (Addr → Prop) → Shared → Prop) → End → Shared → Prop
  | 0, _ => fun e s₁ => match e with
    | .ret r => r = .ok (.ret .none) ∧ Gn C A Pv τ s s₁
    | .susp .. => False
  | n + 1, next => fun e s₁ => match e with
    | .ret _ => False
    | .susp v _ _ _ _ _ _ => e.quiet = true ∧ nv v = val (N - (n + 1)) ∧ Gn C A Pv τ s s₁ ∧ ∃ Pv', PvOk Pv Pv' s s₁ ∧ next e.genState Pv' s₁
/-- the generator will give n more items -/
def GR (C : Cx) (A : Around) (τ : Ab) (N : Nat) (val : Nat → Value) : Nat → GenState → (Addr → Prop) → Shared → Prop
  | 0 => fun gs Pv s => ∀ s'', Rs C A Pv τ s s'' → GGo C.M A.in1 gs s'' (GEnd C A Pv τ val N s'' 0 fun _ _ _ => False)
  | n + 1 => fun gs Pv s => ∀ s'', Rs C A Pv τ s s'' → GGo C.M A.in1 gs s'' (GEnd C A Pv τ val N s'' (n + 1) (GR C A τ N val n))
theorem GEnd.quiet {C : Cx} {A : Around} {Pv : Addr → Prop} {τ : Ab} {val : Nat → Value} {N : Nat} {s : Shared} {n : Nat} {next : GenState → (Addr → Prop) → Shared → Prop} {e : End} {s₁ : Shared} (h : GEnd C A Pv τ val N s n next e s₁) : e.quiet = true := by
  cases n with
  | zero => cases e with
    | ret r => rfl
    | susp v g l k c p fs => exact h.elim
  | succ n => cases e with
    | ret r => exact h.elim
    | susp v g l k c p fs => exact h.1
theorem wake_GS {M : Model} {A : Around} {E : Value → Shared → Prop} {s : Shared} {g : Nat} {gs : GenState} {l : List Value} {α : Type} {k : GenResult → Sem α} {Q : α → Shared → Prop} {Φ : End → Shared → Prop} (hg : s.gens[g]? = some gs)
    (hgo : GGo M A gs (s.setGen g .running) Φ) (hq : ∀ e s₁, Φ e s₁ → e.quiet = true) (hk : ∀ e s₁, Φ e s₁ → wpAny M A (k e.result) Q E (s₁.setGen g e.genState)) : wpAny M A (.resume g (.send .none) l k) Q E s := by
  intro Γ p hΓ
  rw [Sem.wp_resume]
  have hB : ∀ c, (Γ.wake c p).Woken A := fun c => hΓ.wake c p
  cases gs with
  | fresh c =>
    obtain ⟨e₁, s₁, hr, he⟩ := hgo (Γ.wake c p) p rfl (hB c)
    exact ⟨_, _, by unfold Wakes; rw [hg]; exact ⟨e₁, s₁, hr, hq e₁ s₁ he, rfl, rfl⟩, hk e₁ s₁ he Γ p hΓ⟩
  | suspended k₀ l₀ c₀ p₀ fs₀ cl =>
    obtain ⟨e₁, s₁, hr, he⟩ := hgo (Γ.wake c₀ p) p₀ rfl (hB c₀)
    exact ⟨_, _, by unfold Wakes; rw [hg]; exact ⟨e₁, s₁, hr, hq e₁ s₁ he, rfl, rfl⟩, hk e₁ s₁ he Γ p hΓ⟩
  | running => exact hgo.elim
  | finished => exact hgo.elim
section
variable {C : Cx} {A : Around} {env : Env} {P Pv : Addr → Prop} {m : Loc} {σ σ₀ σ' τ : Ab} {s s₀ s' : Shared}
theorem Fs.sub {h : Heap} (F : Fs C A σ h) (x : Sub τ σ) : Fs C A τ h := let ⟨l, a, b, c⟩ := F; ⟨l, a, b, fun e he L hL d => c e he L hL (x.dom d)⟩
/-- as Wx, whatever addresses may turn -/
structure WP (C : Cx) (A : Around) (env : Env) (m : Loc) (P : Addr → Prop) (σ₀ : Ab) (s₀ : Shared) (σ : Ab) (s : Shared) : Prop where
  st : St C σ s.heap
  fs : Fs C A σ s.heap
  ok : FOk C env m σ s.heap
  mv : Mv (Fz A) P σ₀ σ s₀ s
theorem WP.wx (W : WP C A env m (own env) σ₀ s₀ σ s) : Wx C A env m σ₀ s₀ σ s := ⟨W.st, W.fs, W.ok, W.mv⟩
theorem WP.wd (W : WP C A env m No σ₀ s₀ σ s) : Wd C A env m σ₀ s₀ σ s := ⟨⟨W.st, W.fs, W.mv⟩, W.ok⟩
theorem WP.ext {P : Addr → Prop} (W : WP C A env m P σ₀ s₀ σ s) {h' : Heap} {tk : Nat} (k : ∀ b o, s.heap.get? b = some o → h'.get? b = some o) : WP C A env m P σ₀ s₀ σ { s with heap := h', toks := tk } := by
  have W' : Wx C A env m σ s σ s := ⟨W.st, W.fs, W.ok, Mv.refl ..⟩
  have W2 := W'.ext (h' := h') (tk := tk) k
  exact ⟨W2.st, W2.fs, W2.ok, W.mv.trans (Mv.heap (fun b o e _ _ => k b o e) fun b o e n => ⟨n, o, k b o e⟩)⟩
/-- the loop's state, one generator apart -/
structure LSt (C : Cx) (A : Around) (env : Env) (m : Loc) (P : Addr → Prop) (σ₀ : Ab) (s₀ : Shared) (σ : Ab) (s : Shared) (Pv : Addr → Prop) (a g : Nat) (τ : Ab) : Prop where
  wx : WP C A env m P σ₀ s₀ σ (s.setGen g .finished)
  sub : Sub τ σ
  isg : s.heap.IsGen a g
  oa : Off C A env σ a
  oo : ∀ b, Pv b → Off C A env σ b
  no : ∀ b, Pv b → ¬ dom σ₀ b → s₀.heap.get? b = none
  al : ∀ b, Pv b → ∃ o, s.heap.get? b = some o
  ne : ∀ b, Pv b → b ≠ a
  gl : s₀.gens.size ≤ g
  gh : g < s.gens.size
theorem LSt.self {a g : Nat} (L : LSt C A env m P σ₀ s₀ σ s Pv a g τ) : Wx C A env m σ s σ s := ⟨L.wx.st, L.wx.fs, L.wx.ok, Mv.refl ..⟩
/-- a turn of the consumer -/
theorem LSt.step {a g : Nat} (L : LSt C A env m P σ₀ s₀ σ s Pv a g τ) {m' : Loc} (W : WP C A env m' P σ s σ' s') (hP : ∀ b, P b → own env b) (x : Sub τ σ') : LSt C A env m' P σ₀ s₀ σ' s' Pv a g τ := by
  have M := W.mv
  have kpa : ∀ b o, Off C A env σ b → s.heap.get? b = some o → s'.heap.get? b = some o := fun b o hb e => M.kp b o e hb.nd (fun p => hb.no (hP b p)) hb.nz
  obtain ⟨oa, noa⟩ : ∃ o, s.heap.get? a = some o := let ⟨o, _, _, ho, _⟩ := L.isg; ⟨o, ho⟩
  refine ⟨⟨W.st, W.fs, W.ok, L.wx.mv.trans (M.both L.gh .finished)⟩, x, ?_, L.oa.mv M ⟨oa, noa⟩, fun b hb => (L.oo b hb).mv M (L.al b hb), L.no, fun b hb => ?_, L.ne, L.gl, Nat.lt_of_lt_of_le L.gh M.gen.le⟩
  · obtain ⟨o, nm, qn, ho, r⟩ := L.isg
    exact ⟨o, nm, qn, kpa a o L.oa ho, r⟩
  · obtain ⟨o, ho⟩ := L.al b hb
    exact ⟨o, kpa b o (L.oo b hb) ho⟩
/-- a run of the generator -/
theorem LSt.gen {a g : Nat} (L : LSt C A env m P σ₀ s₀ σ s Pv a g τ) {s₁ : Shared} (G : Gn C A Pv τ (s.setGen g .running) s₁) {Pv' : Addr → Prop} (hP : PvOk Pv Pv' (s.setGen g .running) s₁) (x : GenState) : LSt C A env m P σ₀ s₀ σ (s₁.setGen g x) Pv' a g τ := by
  have M : ∀ b o, s.heap.get? b = some o → ¬ dom σ b → ¬ Pv b → ¬ Fz A b → s₁.heap.get? b = some o := fun b o e n p z => G.kp b o e (fun d => n (L.sub.dom d)) p z
  have Ms : ∀ b o, s.heap.get? b = some o → ¬ dom σ b → ¬ Pv b → (∀ vs, o.data ≠ .fields vs) → ∃ sl, s₁.heap.get? b = some { o with slots := sl } := fun b o e n p hd => G.zs b o e (fun d => n (L.sub.dom d)) p hd
  have Mg := G.gen
  have nz : ∀ b, Fz A b → ¬ dom σ b ∧ ∃ o, s.heap.get? b = some o ∧ ∀ vs, o.data ≠ .fields vs := fun b ⟨l, hl, e, he, q⟩ => by
    obtain ⟨l', hl', hf, hd⟩ := L.wx.fs
    obtain rfl : l' = l := Option.some.inj (hl'.symm.trans hl)
    exact ⟨hd e he b q, (hf.mem (List.mem_filterMap.mpr ⟨e, he, q⟩)).2⟩
  have al : ∀ b o, s.heap.get? b = some o → ¬ dom σ b → ¬ Pv b → ∃ o', s₁.heap.get? b = some o' := fun b o e n p => by
    by_cases z : Fz A b
    · obtain ⟨_, o2, e2, h2⟩ := nz b z
      obtain ⟨sl, e3⟩ := Ms b o2 e2 n p h2
      exact ⟨_, e3⟩
    · exact ⟨o, M b o e n p z⟩
  have S₁ : St C σ s₁.heap := St.lift (s := s.setGen g .running) (Z := Fz A) L.wx.st L.sub G.st G.kp (fun b hb => (L.oo b hb).nd) fun b z => (nz b z).1
  have O₁ : FOk C env m σ s₁.heap := L.wx.ok.keepsS (fun b o hb e hd => Ms b o e (L.wx.ok.nd b hb).1 (fun z => (L.oo b z).no hb) hd) fun b hb => (L.wx.ok.nd b hb).1
  have F₁ : Fs C A σ s₁.heap := by
    obtain ⟨l, hl, hf, hd⟩ := L.wx.fs
    refine ⟨l, hl, FunFrames.turn hf fun e he L' o hL ho hv => ?_, hd⟩
    obtain ⟨sl, e1⟩ := Ms L' o ho (hd e he L' hL) (fun z => (L.oo L' z).nf l hl e he hL) hv
    exact ⟨_, e1, hv⟩
  have hgs : g < s₁.gens.size := Nat.lt_of_lt_of_le (by rw [setGen_size]; exact L.gh) Mg.le
  have W₁ : Mv (Fz A) P σ₀ σ s₀ ((s₁.setGen g x).setGen g .finished) := by
    rw [setGen_setGen]
    refine ⟨fun b o e n p z' => M b o (L.wx.mv.kp b o e n p z') (L.wx.mv.fr b o e n).1 (fun z => ?_) z', fun b o e n p hd => ?_, fun b o e n => ⟨(L.wx.mv.fr b o e n).1, ?_⟩, G.os.trans L.wx.mv.os, ?_, fun g' hg' => ?_, fun g' v hg' e => ?_⟩
    · rw [L.no b z n] at e; cases e
    · obtain ⟨sl, e1⟩ := L.wx.mv.zs b o e n p hd
      obtain ⟨sl', e2⟩ := Ms b _ e1 (L.wx.mv.fr b o e n).1 (fun z => by rw [L.no b z n] at e; cases e) hd
      exact ⟨sl', e2⟩
    · obtain ⟨n', o', e'⟩ := L.wx.mv.fr b o e n
      exact al b o' e' n' fun z => by rw [L.no b z n] at e; cases e
    · rw [setGen_size]
      have := L.wx.mv.gen.le
      rw [setGen_size] at this
      have h2 := Mg.le
      rw [setGen_size] at h2
      omega
    · have hl := L.gl
      have h1 := L.wx.mv.gen.old g' hg'
      rw [setGen_other (by omega)] at h1 ⊢
      have h3 := L.wx.mv.gen.le
      rw [setGen_size] at h3
      have h2 := Mg.old g' (by rw [setGen_size]; omega)
      rw [setGen_other (by omega)] at h2
      rw [h2, h1]
    · by_cases q : g' = g
      · subst q; rw [setGen_get hgs] at e; cases e; rfl
      · rw [setGen_other q] at e
        rcases Nat.lt_or_ge g' s.gens.size with z | z
        · have h2 := Mg.old g' (by rw [setGen_size]; exact z)
          rw [setGen_other q] at h2
          rw [h2] at e
          exact L.wx.mv.gen.new g' v hg' (by rw [setGen_other q]; exact e)
        · exact Mg.new g' v (by rw [setGen_size]; exact z) e
  have aa : ∃ o, s.heap.get? a = some o := let ⟨o, _, _, ho, _⟩ := L.isg; ⟨o, ho⟩
  have fresh : ∀ b, s.heap.get? b = none → Off C A env σ b := fun b hb => by
    refine ⟨fun d => ?_, fun h => ?_, ?_, fun l hl e he q => ?_⟩
    · obtain ⟨o, e⟩ := L.wx.st.alive d
      change s.heap.get? b = some o at e; rw [hb] at e; cases e
    · obtain ⟨o, e⟩ := L.wx.ok.own_alive h
      change s.heap.get? b = some o at e; rw [hb] at e; cases e
    · cases q : C.h₀.get? b with
      | none => rfl
      | some o =>
        have e := L.wx.st.keep b o q
        change s.heap.get? b = some o at e; rw [hb] at e; cases e
    · obtain ⟨l', hl', hf, hd⟩ := L.wx.fs
      obtain rfl : l' = l := Option.some.inj (hl'.symm.trans hl)
      obtain ⟨L', o, hL, ho⟩ := PyProof.Rows.funFrames_in hf e he
      obtain rfl : L' = b := Option.some.inj (hL.symm.trans q)
      change s.heap.get? L' = some o at ho; rw [hb] at ho; cases ho
  refine ⟨⟨S₁, F₁, O₁, W₁⟩, L.sub, ?_, L.oa, fun b hb => ?_, fun b hb nd => ?_, fun b hb => (hP b hb).2, fun b hb q => ?_, L.gl, by rw [setGen_size]; exact hgs⟩
  · obtain ⟨o, nm, qn, ho, r⟩ := L.isg
    exact ⟨o, nm, qn, M a o ho L.oa.nd (fun z => L.ne a z rfl) L.oa.nz, r⟩
  · rcases (hP b hb).1 with h | h
    · exact L.oo b h
    · exact fresh b h
  · rcases (hP b hb).1 with h | h
    · exact L.no b h nd
    · exact L.wx.mv.old h nd
  · rcases (hP b hb).1 with h | h
    · exact L.ne b h q
    · subst q
      obtain ⟨o, ho⟩ := aa
      change s.heap.get? b = none at h; rw [h] at ho; cases ho
theorem LSt.rs {a g : Nat} (L : LSt C A env m P σ₀ s₀ σ s Pv a g τ) (x : GenState) : Rs C A Pv τ s (s.setGen g x) := ⟨L.wx.st.sub L.sub, L.wx.fs.sub L.sub, fun b o _ e => e⟩
end
end J
end

section
open PySem PySem.W PySem.Calls PyProof.Rows
set_option Elab.async false
set_option linter.unusedVariables false
namespace J
section
variable {C : Cx} {A : Around} {env : Env} {P Pv : Addr → Prop} {m : Loc} {σ σ₀ σ' τ : Ab} {s s₀ s' : Shared} {N : Nat} {val : Nat → Value}
theorem GR.on {n : Nat} {gs : GenState} (h : GR C A τ N val n gs Pv s) (k : ∀ b o, Pv b → s.heap.get? b = some o → s'.heap.get? b = some o) : GR C A τ N val n gs Pv s' := by
  cases n with
  | zero => exact fun s'' r => h s'' ⟨r.st, r.fs, fun b o hb e => r.kp b o hb (k b o hb e)⟩
  | succ n => exact fun s'' r => h s'' ⟨r.st, r.fs, fun b o hb e => r.kp b o hb (k b o hb e)⟩
theorem letOwned_gen {target : Expr} {a g : Nat} {v : Value} {R : Unit → Shared → Prop} {E : Value → Shared → Prop} (h : s.heap.IsGen a g) (r : R () s) : wpAny C.M A (letOwnedTupleGo target (.ref a) v) R E s := by
  obtain ⟨o, nm, qn, ho, hc, hd, _⟩ := h
  exact letOwned_plain (T := "generator") (vs := #[.int g 0, nm, qn]) ⟨o, ho, hc, hd, by decide⟩ r
/-- the generator is asked -/
theorem pyNext_GS {a g : Nat} {gs : GenState} {Φ : End → Shared → Prop} {Q : Option Value → Shared → Prop} {E : Value → Shared → Prop} (hh : A.handled = none) (hl : s.heap.NoLimit) (hroom : A.depth < recursionLimit) (hg : s.heap.IsGen a g) (hgs : s.gens[g]? = some gs)
    (hgo : GGo C.M A.in1 gs (s.setGen g .running) Φ) (hq : ∀ e s₁, Φ e s₁ → e.quiet = true)
    (hR : ∀ r s₁, Φ (.ret r) s₁ → r = .ok (.ret .none) ∧ ∀ h', (∀ b o, s₁.heap.get? b = some o → h'.get? b = some o) → Q none { s₁.setGen g .finished with heap := h' })
    (hY : ∀ v gd l k c p fs s₁, Φ (.susp v gd l k c p fs) s₁ → Q (some v) (s₁.setGen g (End.susp v gd l k c p fs).genState)) :
    wpAny C.M A (pyNext (.ref a)) Q E s := by
  unfold pyNext
  refine wpAny_bind (wpAny_attempt (wpAny_callSpecial?_slot (name := Str.ofString "__next__") hg.typeIs slot_gen_next
    (wpAny_call_entry slot_gen_next hg.typeIs entry_gen_next ?_ (args_gen_next _))))
  show wpAny _ _ (Builtin.Generator.genWake (.ref a) (.send .none)) _ _ s
  unfold Builtin.Generator.genWake
  refine wpAny_bind (wpAny_holding (wpAny_genNumber hg (wpAny_bind (wpAny_genState hgs ?_))))
  cases gs with
  | running => exact hgo.elim
  | finished => exact hgo.elim
  | _ =>
    refine wpAny_bind (wpAny_roomToWake hl hroom ?_)
    show wpAny _ _ (.resume g (.send .none) [] _) _ _ s
    refine wake_GS hgs hgo hq fun e s₁ he => ?_
    cases e with
    | ret r =>
      obtain ⟨rfl, hp⟩ := hR r s₁ he
      show wpAny _ _ (newExc (.type "StopIteration") [] >>= _) _ _ _
      refine wpAny_bind ?_
      simp only [newExc, newTuple]
      refine wpAny_bind (wpAny_newObj_type ?_ (by size_fits))
      refine wpAny_bind (m := firstArgMember _ _) (wpAny_of_eq (a := Value.none) (by first | rfl | (simp only [firstArgMember]; rfl)) ?_)
      refine wpAny_newObj_type ?_ (by size_fits)
      simp only [raiseNew]
      refine wpAny_bind (wpAny_bind (wpAny_handled ?_))
      rw [show A.in1.handled = none from hh]
      refine wpAny_throw ?_
      refine wpAny_bind (wpAny_isInstance (T := "StopIteration") (b := true) ⟨_, Heap.get?_push_size _ rfl, rfl⟩ isSubtype_stop ?_)
      exact wpAny_pure (hp _ fun b o hb => Heap.get?_push_of_some _ (Heap.get?_push_of_some _ hb))
    | susp v gd l k c p fs => exact wpAny_pure ⟨v, rfl, wpAny_pure (hY v gd l k c p fs s₁ he)⟩
/-- the next item of the generator -/
theorem gen_next {a g i : Nat} {gs : GenState} {R : Option Value → Shared → Prop} {E : Value → Shared → Prop} (hh : A.handled = none) (hr : A.depth < recursionLimit) (hi : i ≤ N) (L : LSt C A env m P σ₀ s₀ σ s Pv a g τ) (hgs : s.gens[g]? = some gs) (hR : GR C A τ N val (N - i) gs Pv s)
    (item : ∀ v s₁ gs' Pv', i < N → nv v = val i → LSt C A env m P σ₀ s₀ σ s₁ Pv' a g τ → s₁.gens[g]? = some gs' → GR C A τ N val (N - (i + 1)) gs' Pv' s₁ → (∀ b o, s.heap.get? b = some o → ¬ dom σ b → ¬ Pv b → ¬ Fz A b → s₁.heap.get? b = some o ∧ ¬ Pv' b) → R (some v) s₁)
    (stop : ∀ s₁, i = N → WP C A env m P σ₀ s₀ σ s₁ → (∀ b o, s.heap.get? b = some o → ¬ dom σ b → ¬ Pv b → ¬ Fz A b → s₁.heap.get? b = some o) → R none s₁) : wpAny C.M A (pyNext (.ref a)) R E s := by
  have hl : s.heap.NoLimit := C.T.nolimit.keeps L.wx.st.keep
  generalize hn : N - i = n at *
  cases n with
  | zero =>
    refine pyNext_GS hh hl hr L.isg hgs (hR _ (L.rs .running)) (fun e s₁ he => he.quiet) (fun r s₁ he => ?_) fun v gd l k c p fs s₁ he => he.elim
    obtain ⟨rfl, hG⟩ := he
    refine ⟨rfl, fun h' hk => ?_⟩
    have L₁ := L.gen hG (Pv' := fun _ => False) (fun b hb => hb.elim) .finished
    have W := L₁.wx
    rw [setGen_setGen] at W
    exact stop _ (by omega) (W.ext (h' := h') (tk := s₁.toks) hk) fun b o e n p z => hk b o (hG.kp b o e (fun d => n (L.sub.dom d)) p z)
  | succ n' =>
    refine pyNext_GS hh hl hr L.isg hgs (hR _ (L.rs .running)) (fun e s₁ he => he.quiet) (fun r s₁ he => he.elim) fun v gd l k c p fs s₁ he => ?_
    obtain ⟨hq, hv, hG, Pv', hP, hnext⟩ := he
    have L₁ := L.gen hG hP (End.susp v gd l k c p fs).genState
    have hgh : g < s₁.gens.size := by have := L₁.gh; rw [setGen_size] at this; exact this
    refine item v _ _ Pv' (by omega) (by rw [hv]; congr 1; omega) L₁ (setGen_get hgh) (by rw [show N - (i + 1) = n' by omega]; exact hnext.on (s' := s₁.setGen g _) fun b o _ e => e) ?_
    refine fun b o e n p z => ⟨hG.kp b o e (fun d => n (L.sub.dom d)) p z, fun q => ?_⟩
    rcases (hP b q).1 with h | h
    · exact p h
    · change s.heap.get? b = none at h; rw [h] at e; cases e
/-- for target in (a generator): body -/
theorem forLoop_coreG {target : Expr} {a g : Nat} {gs : GenState} {body : List Stmt} {Q : Flow → Loc → Ab → Prop} (hh : A.handled = none) (hr : A.depth < recursionLimit) (Iv : Nat → Loc → Ab → Prop)
    (step : ∀ i m' σ' u, i < N → nv u = val i → Sub τ σ' → Iv i m' σ' → TS C A env m' (assign target env u) (fun _ => ()) σ' fun _ m₁ σ₁ => TXs C A env m₁ body σ₁ fun f m₂ σ₂ => match f with
      | .next | .cont => Sub τ σ₂ ∧ Iv (i + 1) m₂ σ₂
      | _ => False)
    (done : ∀ m' σ', Sub τ σ' → Iv N m' σ' → Q .next m' σ')
    (L : LSt C A env m (own env) σ₀ s₀ σ s Pv a g τ) (hgs : s.gens[g]? = some gs) (hR : GR C A τ N val N gs Pv s) (hJ : Iv 0 m σ) {R : Flow → Shared → Prop} {E : Result → Shared → Prop}
    (k : ∀ f s' m' σ', Wx C A env m' σ₀ s₀ σ' s' → Q (nf f) m' σ' → R f s') :
    codeAny C.M A (.forLoop target (.ref a) body [] env) (fun r s' => match r with | .ok f => R f s' | .error e => E (.error e) s') s := by
  refine codeAny_forLoop_any (fun j s' => ∃ i m' σ' gs Pv, j = N - i ∧ i ≤ N ∧ LSt C A env m' (own env) σ₀ s₀ σ' s' Pv a g τ ∧ s'.gens[g]? = some gs ∧ GR C A τ N val (N - i) gs Pv s' ∧ Iv i m' σ') ?_ N ⟨0, m, σ, gs, Pv, rfl, Nat.zero_le _, L, hgs, hR, hJ⟩
  rintro j s₁ ⟨i, m₁, σ₁, gs₁, Pv₁, rfl, hi, L₁, hgs₁, hR₁, J₁⟩
  refine gen_next hh hr hi L₁ hgs₁ hR₁ (fun v s₂ gs₂ Pv₂ hlt hv L₂ hgs₂ hR₂ _ => ?_) fun s₂ hN W₂ _ => ?_
  · refine letOwned_gen L₂.isg ?_
    refine (step i m₁ σ₁ v hlt hv L₁.sub J₁).run L₂.self fun _ s₃ m₃ σ₃ W₃ M₃ q₃ => ?_
    refine q₃.run W₃ fun f s₄ m₄ σ₄ W₄ M₄ q₄ => ?_
    have fin : Sub τ σ₄ ∧ Iv (i + 1) m₄ σ₄ → ∃ j', j' < N - i ∧ ∃ i' m' σ' gs Pv, j' = N - i' ∧ i' ≤ N ∧ LSt C A env m' (own env) σ₀ s₀ σ' s₄ Pv a g τ ∧ s₄.gens[g]? = some gs ∧ GR C A τ N val (N - i') gs Pv s₄ ∧ Iv i' m' σ' := fun ⟨x, j4⟩ =>
      ⟨N - (i + 1), by omega, i + 1, m₄, σ₄, gs₂, Pv₂, rfl, hlt, L₂.step ⟨W₄.st, W₄.fs, W₄.ok, W₄.mv⟩ (fun _ h => h) x, by rw [W₄.mv.gen.old g L₂.gh]; exact hgs₂, hR₂.on fun b o hb e => W₄.mv.kp b o e (L₂.oo b hb).nd (L₂.oo b hb).no (L₂.oo b hb).nz, j4⟩
    cases f with
    | next => exact fin q₄
    | cont => exact fin q₄
    | brk => exact q₄.elim
    | ret v => exact q₄.elim
  · subst hN
    exact wpAny_execs_nil (k .next _ m₁ σ₁ W₂.wx (done m₁ σ₁ L₁.sub J₁))
/-- what a call that makes a generator leaves -/
structure GNew (C : Cx) (A : Around) (σ τ : Ab) (s s' : Shared) (Pv : Addr → Prop) (a g : Nat) (gs : GenState) (N : Nat) (val : Nat → Value) : Prop where
  wv : Wv C A σ s σ s'
  isg : s'.heap.IsGen a g
  na : s.heap.get? a = none
  no : ∀ b, Pv b → s.heap.get? b = none
  al : ∀ b, Pv b → ∃ o, s'.heap.get? b = some o
  ne : ∀ b, Pv b → b ≠ a
  gl : s.gens.size ≤ g
  hgs : s'.gens[g]? = some gs
  rd : GR C A τ N val N gs Pv s'
def GCall (C : Cx) (A : Around) (f : Value) (as : List Value) (σ τ : Ab) (N : Nat) (val : Nat → Value) : Prop := ∀ us, us.map nv = as → ∀ s (R : Value → Shared → Prop) (E : Value → Shared → Prop), Wv C A σ s σ s → (∀ s' Pv a g gs, GNew C A σ τ s s' Pv a g gs N val → R (.ref a) s') → wpAny C.M A (call f us) R E s
theorem Wd.freshOff (W : Wd C A env m σ₀ s₀ σ s) {b : Addr} (hb : s.heap.get? b = none) : Off C A env σ b := by
  refine ⟨fun d => ?_, fun h => ?_, ?_, fun l hl e he q => ?_⟩
  · obtain ⟨o, e⟩ := W.st.alive d
    rw [hb] at e; cases e
  · obtain ⟨o, e⟩ := W.ok.own_alive h
    rw [hb] at e; cases e
  · cases q : C.h₀.get? b with
    | none => rfl
    | some o => rw [W.st.keep b o q] at hb; cases hb
  · obtain ⟨l', hl', hf, hd⟩ := W.fs
    obtain rfl : l' = l := Option.some.inj (hl'.symm.trans hl)
    obtain ⟨L', o, hL, ho⟩ := PyProof.Rows.funFrames_in hf e he
    obtain rfl : L' = b := Option.some.inj (hL.symm.trans q)
    rw [hb] at ho; cases ho
theorem GNew.lst {a g : Nat} {gs : GenState} (G : GNew C A σ τ s s' Pv a g gs N val) (W : Wd C A env m σ₀ s₀ σ s) (x : Sub τ σ) : LSt C A env m P σ s σ s' Pv a g τ := by
  have M : Mv (Fz A) P σ σ s s' := G.wv.mv.weaken fun _ => False.elim
  have O := W.ok.mv G.wv.mv
  refine ⟨⟨G.wv.st, G.wv.fs, O, M.over G.gl rfl rfl⟩, x, G.isg, W.freshOff G.na, fun b hb => W.freshOff (G.no b hb), fun b hb _ => G.no b hb, G.al, G.ne, G.gl, (Array.getElem?_eq_some_iff.mp G.hgs).1⟩
/-- what gives a generator -/
def GSrc (C : Cx) (A : Around) (env : Env) (m : Loc) (σ : Ab) (iter : Expr) (τ : Ab) (N : Nat) (val : Nat → Value) : Prop :=
  ∀ σ₀ s₀ s (R : Value → Shared → Prop) (E E' : Value → Shared → Prop), Wd C A env m σ₀ s₀ σ s →
    (∀ s₁ s' Pv a g gs, Wd C A env m σ₀ s₀ σ s₁ → GNew C A σ τ s₁ s' Pv a g gs N val → R (.ref a) s') →
    wpAny C.M A (eval iter env) (fun x s₁ => wpAny C.M A (pyIter x) R E' s₁) E s
theorem TX_forG {target iter : Expr} {body : List Stmt} {pos : Pos} {Q : Flow → Loc → Ab → Prop} (hh : A.handled = none) (hr : A.depth < recursionLimit) (hi : GSrc C A env m σ iter τ N val) (hx : Sub τ σ) (Iv : Nat → Loc → Ab → Prop) (hJ : Iv 0 m σ)
    (step : ∀ i m' σ' u, i < N → nv u = val i → Sub τ σ' → Iv i m' σ' → TS C A env m' (assign target env u) (fun _ => ()) σ' fun _ m₁ σ₁ => TXs C A env m₁ body σ₁ fun f m₂ σ₂ => match f with
      | .next | .cont => Sub τ σ₂ ∧ Iv (i + 1) m₂ σ₂
      | _ => False)
    (done : ∀ m' σ', Sub τ σ' → Iv N m' σ' → Q .next m' σ')
    (hs : ∀ x, foldedSetIterable iter env x = pure x := by intro _; rfl) : TX C A env m (.For target iter body [] pos) σ Q := fun σ₀ s₀ s R E W k => by
  refine wpAny_For (hi σ s s _ _ _ W.wd fun s₁ s₂ Pv a g gs W₁ G => ?_) hs
  refine codeAny_mono (forLoop_coreG (E := fun r s' => match r with | .ok _ => True | .error e => cameBackBy C.M A env E e s') hh hr Iv step done (G.lst W₁ hx) G.hgs G.rd hJ fun f s' m' σ' W' q => k f s' m' σ' ((W.step W₁).trans W') q) fun r s' x => ?_
  cases r <;> exact x
end
end J
end

section
open PySem PySem.W PySem.Calls PyProof.Rows
set_option Elab.async false
set_option linter.unusedVariables false
namespace J
abbrev gnext (C : Cx) (A : Around) (τ : Ab) (N : Nat) (val : Nat → Value) : Nat → GenState → (Addr → Prop) → Shared → Prop
  | 0 => fun _ _ _ => False
  | n + 1 => GR C A τ N val n
theorem GR_iff {C : Cx} {A : Around} {τ : Ab} {N : Nat} {val : Nat → Value} {n : Nat} {gs : GenState} {Pv : Addr → Prop} {s : Shared} : GR C A τ N val n gs Pv s ↔ ∀ s'', Rs C A Pv τ s s'' → GGo C.M A.in1 gs s'' (GEnd C A Pv τ val N s'' n (gnext C A τ N val n)) := by
  cases n <;> exact Iff.rfl
abbrev Kfn : Flow → Sem Fin := fun f => .pure (.done (.ret (match f with | .ret v => v | _ => .none)))
section
variable {C : Cx} {A : Around} {env : Env} {m : Loc} {σ σ₀ τ : Ab} {s s₀ s' : Shared} {N : Nat} {val : Nat → Value}
/-- frames of a call of the text, of which A sees as much -/
theorem Fs.push {h : Heap} {A' : Around} {M : Str → Option Value} (F : Fs C A τ h) (hA : A'.frames = A.frames.map (env :: ·)) (hk : env.scope.kind = .function) (hf : env.frame = some env.locals) (hns : h.Ns env.locals M) (h0 : C.h₀.get? env.locals = none) (nd : ¬ dom τ env.locals) : Fs C A' τ h := by
  obtain ⟨l, hl, hff, hd⟩ := F
  refine ⟨env :: l, by rw [hA, hl]; rfl, .cons (by rw [hk]; decide) hf hns h0 hff, fun e he L hL => ?_⟩
  rcases List.mem_cons.mp he with rfl | he
  · rw [hf] at hL; cases hL; exact nd
  · exact hd e he L hL
/-- a call of a generator def of the text -/
theorem GCall_def {f : Addr} {oc : Value} {od : Option Addr} {osl : Array (Option Value)} {fd : FuncData} {body : List Stmt} {as : List Value} {m : Loc}
    (hA : A.depth < recursionLimit) (hf : C.K.lookup f = some ⟨oc, od, .func fd, osl⟩) (hcd : codeIn C.K fd.code fd.qualname = true) (hbody : fd.body = .stmts body)
    (hb : ∀ us, us.map nv = as → ∃ binds, (∀ S, peek C.K S (bindArgs fd ⟨us, []⟩) = some binds) ∧ (∀ x ∈ binds, fd.scope.names.lookup x.1 = some .local) ∧ locOf binds = m) (hcell : ∀ x ∈ fd.scope.names, x.2 ≠ .cell) (hsub : Sub τ σ)
    (h : ∀ L sR, Wx C (A.in1.over (.func body (callEnv fd L f)) []) (callEnv fd L f) m τ sR τ sR → ∀ H', GS C.M A.in1 (.func body (callEnv fd L f)) ((execs body (callEnv fd L f)).wrap Kfn H' id id) [] sR (GEnd C A (own (callEnv fd L f)) τ val N sR N (gnext C A τ N val N)))
    (hco : fd.scope.isCoroutine = false := by rfl) (hgen : fd.scope.isGenerator = true := by rfl) (hk : fd.scope.kind = .function := by rfl)
    (hgl : fd.globals = mainGlobals := by rfl) (hbi : fd.builtins = builtinsNs := by rfl) (hcl : fd.closure = [] := by rfl) : GCall C A (.ref f) as σ τ N val := fun us hus s R E W k => by
  obtain ⟨binds, hpk, hloc, hm⟩ := hb us hus
  have nL : ¬ dom σ s.heap.objs.size := W.st.fresh (Nat.le_refl _)
  have hL0 : C.h₀.get? s.heap.objs.size = none := W.size
  have hown : ∀ b, own (callEnv fd s.heap.objs.size f) b ↔ b = s.heap.objs.size := fun b => by
    unfold own callEnv newEnv
    simp [hcl]
  refine wpAny_call (codeAny_call_generator hA (W.st.K _ _ hf) rfl hco hgen hbody (codeRec_of W.st.K hcd) (kp_binds W.st.K hpk _ _ _ _ ?_))
  refine wpAny_newFunctionEnv hcell hloc (fun h₁ hns hsb₀ => ?_) hk
  have hlim : s.heap.NoLimit := C.T.nolimit.keeps W.st.keep
  refine ⟨hlim.fresh _ hsb₀, ?_⟩
  have hk₁ : ∀ b o, s.heap.get? b = some o → h₁.get? b = some o := fun b o e => hsb₀.extBut b o (Nat.ne_of_lt (Heap.lt_size e)) (Heap.get?_push_of_some _ e)
  have S₁ : St C σ h₁ := W.st.ext hk₁
  obtain ⟨oL, _, _, hoL, _⟩ := id hns
  have hLlt : s.heap.objs.size < h₁.objs.size := Heap.lt_size hoL
  have O₁ : FOk C (callEnv fd s.heap.objs.size f) m τ h₁ := by
    rw [← hm]
    refine ⟨hk, hgl, hbi, fun b hb => ?_, ⟨_, hns, fun x v hx _ => ?_⟩, fun x c hc => ?_, fun x v hx hkk => ?_, fun x y c hc _ => ?_⟩
    · rw [(hown b).mp hb]; exact ⟨fun d => nL (hsub.dom d), hL0⟩
    · exact lookup_locOf hx
    · exact absurd hc (by unfold callEnv newEnv; simp [hcl])
    · obtain ⟨u, hu, _⟩ := lookup_locOf hx
      have hmem : (x, u) ∈ binds := List.mem_reverse.mp (by
        have : ∀ l : List (Str × Value), l.lookup x = some u → (x, u) ∈ l := fun l => by
          induction l with
          | nil => intro q; cases q
          | cons p r ih =>
            intro q
            obtain ⟨y, w⟩ := p
            rw [List.lookup_cons] at q
            cases z : x == y with
            | true => rw [z] at q; cases q; rw [eq_of_beq z]; exact .head _
            | false => rw [z] at q; exact .tail _ (ih q)
        exact this _ hu)
      have := hloc _ hmem
      have hkk' : fd.scope.names.lookup x = some .cell ∨ fd.scope.names.lookup x = some .free := hkk
      rw [this] at hkk'
      rcases hkk' with q | q <;> cases q
    · exact absurd hc (by unfold callEnv newEnv; simp [hcl])
  generalize hgo : ({ cls := .type "generator", data := _ } : Obj) = go
  have kp : ∀ b o, h₁.get? b = some o → (h₁.push go).get? b = some o := fun b o e => Heap.get?_push_of_some _ e
  refine k _ (own (callEnv fd s.heap.objs.size f)) h₁.objs.size s.gens.size (.fresh (.func body (callEnv fd s.heap.objs.size f))) ⟨?_, ?_, ?_, fun b hb => ?_, fun b hb => ?_, fun b hb => ?_, Nat.le_refl _, ?_, ?_⟩
  · refine ⟨S₁.ext kp, ?_, ⟨fun b o e _ _ _ => kp b o (hk₁ b o e), fun b o e _ _ _ => ⟨o.slots, kp b o (hk₁ b o e)⟩, fun b o e n => ⟨n, o, kp b o (hk₁ b o e)⟩, rfl, ?_, fun g hg => ?_, fun g x hg e => ?_⟩⟩
    · obtain ⟨l, hl, hff, hd⟩ := W.fs
      exact ⟨l, hl, FunFrames.turn hff fun e he L o hL ho hv => ⟨o, kp L o (hk₁ L o ho), hv⟩, hd⟩
    · show _ ≤ (Array.push _ _).size
      simp
    · show (Array.push _ _)[g]? = _
      rw [Array.getElem?_push_lt hg, Array.getElem?_eq_getElem hg]
    · change (Array.push _ _)[g]? = some x at e
      rw [Array.getElem?_push] at e
      split at e
      · cases e; rfl
      · exact absurd (Array.getElem?_eq_some_iff.mp e).1 (Nat.not_lt.mpr hg)
  · exact ⟨go, _, _, Heap.get?_push_size _ (by rw [← hgo]; rfl), by rw [← hgo], by rw [← hgo], by rw [← hgo]⟩
  · cases q : s.heap.get? h₁.objs.size with
    | none => rfl
    | some o => exact absurd (Heap.lt_size (hk₁ _ _ q)) (Nat.lt_irrefl _)
  · rw [(hown b).mp hb]; exact get_size _
  · rw [(hown b).mp hb]; exact ⟨oL, kp _ _ hoL⟩
  · rw [(hown b).mp hb]; exact Nat.ne_of_lt hLlt
  · exact Array.getElem?_push_size
  · refine GR_iff.mpr fun s'' r => ?_
    show GS C.M A.in1 _ (C.M.den _) [] s'' _
    refine gs_func (h _ s'' ⟨r.st, ?_, ?_, Mv.refl ..⟩ _)
    · refine Fs.push (M := fun x => binds.reverse.lookup x) (env := callEnv fd s.heap.objs.size f) r.fs rfl hk rfl ?_ hL0 fun d => nL (hsub.dom d)
      obtain ⟨o, es, ep, ho, r'⟩ := hns
      exact ⟨o, es, ep, r.kp _ o (.inl rfl) (kp _ o ho), r'⟩
    · exact O₁.keeps (fun b o hb e => r.kp b o hb (kp b o e)) fun b hb => (O₁.nd b hb).1
/-- o.x(e, ..), a generator method of an object -/
theorem GSrc.meth {o : Expr} {x : Str} {apos pos : Pos} {a K f : Addr} {fs : Loc} {e : Expr} {v : Value} {pl : Sem Bool} (ho : EV C A env m σ o (.ref a)) (hi : σ a = some (.inst K fs)) (hx : fs.lookup x = none) (hk : methIn C.K K x f = true)
    (harg : EV C A env m σ e v) (h : GCall C A (.ref f) [.ref a, v] σ τ N val)
    (he : eval (.Call (.Attribute o x apos) [e] [] pos) env = (do
      let ov ← eval o env
      standAt apos.atName
      let (f, first) ← holding [ov] (getMethod ov x pl)
      callWith pos f first (backTo pos (starEach [e] env)) []) := by rfl)
    (he' : starEach [e] env = (false, eval e env) :: starEach [] env := by rfl) (hp : (backTo pos (starEach ([] : List Expr) env)).any (·.1) = false := by rfl) :
    GSrc C A env m σ (.Call (.Attribute o x apos) [e] [] pos) τ N val := fun σ₀ s₀ s R E E' W k => by
  refine MethodCall_ (ho.run W fun u s₁ hu W₁ => ?_) he
  obtain rfl := nv_to_ref hu
  refine getMethod_inst W₁.st hi hx hk ?_
  unfold methIn at hk
  simp only [Bool.and_eq_true] at hk
  refine callWith_K C.X hk.2 ((TAs_cons (Q := fun vs σ' => vs = [v] ∧ σ' = σ) (harg.te (TAs_nil ⟨rfl, rfl⟩)) he' : TAs C A env m pos [e] σ _) σ₀ s₀ s₁ _ E W₁ fun vs s' σ' W' q => ⟨W'.st.K, ?_⟩) he' hp
  obtain ⟨q1, rfl⟩ := q
  refine h _ (by simp [q1]) s' _ E (Wv.start W'.st W'.fs) fun s'' Pv ga g gs G => ?_
  exact wpAny_pyIter_gen G.isg (k s' s'' Pv ga g gs W' G)
end
end J
end

section
open PySem PySem.W PySem.Calls PyProof.Rows
set_option Elab.async false
set_option linter.unusedVariables false
namespace J
/-- within a generator, at the head of a loop over the list l -/
structure LG (C : Cx) (A : Around) (env : Env) (m : Loc) (τ : Ab) (Pv : Addr → Prop) (sR s : Shared) (I l : Addr) (i : Nat) : Prop where
  st : St C τ s.heap
  fs : Fs C A τ s.heap
  ok : FOk C env m τ s.heap
  mv : Mv (Fz A) Pv τ τ sR s
  op : ∀ b, own env b → Pv b
  pa : ∀ b, Pv b → ∃ o, s.heap.get? b = some o
  pd : ∀ b, Pv b → ¬ dom τ b
  off : Off C A env τ I
  ip : Pv I ∨ sR.heap.get? I = none
  it : s.heap.IsListIter I l i
section
variable {C : Cx} {A : Around} {env : Env} {m m' : Loc} {τ : Ab} {sR s s' : Shared} {Pv : Addr → Prop} {I l : Addr} {i n N : Nat} {val : Nat → Value} {xs : List Value}
theorem LG.self (L : LG C A env m τ Pv sR s I l i) : Wx C A env m τ s τ s := ⟨L.st, L.fs, L.ok, Mv.refl ..⟩
theorem LG.step (L : LG C A env m τ Pv sR s I l i) (W : Wx C A env m' τ s τ s') : LG C A env m' τ Pv sR s' I l i :=
  ⟨W.st, W.fs, W.ok, L.mv.trans (W.mv.weaken L.op), L.op, fun b hb => let ⟨o, e⟩ := L.pa b hb; (W.mv.fr b o e (L.pd b hb)).2, L.pd, L.off, L.ip, L.it.at fun o e => W.mv.kp I o e L.off.nd L.off.no L.off.nz⟩
/-- the iterator has turned -/
theorem LG.turn {j : Nat} (L : LG C A env m τ Pv sR s I l i) {h' : Heap} {tk : Nat} (hi : h'.IsListIter I l j) (hk : ∀ b o, b ≠ I → s.heap.get? b = some o → h'.get? b = some o) : LG C A env m τ Pv sR { s with heap := h', toks := tk } I l j := by
  have hI : ∀ b, own env b → b ≠ I := fun b hb q => L.off.no (q ▸ hb)
  obtain ⟨oI, hoI, _⟩ := id hi
  refine ⟨L.st.keeps fun b o hb e => hk b o ?_ e, ?_, L.ok.keeps (fun b o hb e => hk b o (hI b hb) e) fun b hb => (L.ok.nd b hb).1, ⟨fun b o e n p z => ?_, fun b o e n p hd => ?_, fun b o e n => ⟨n, ?_⟩, L.mv.os, L.mv.gen⟩, L.op, fun b hb => ?_, L.pd, L.off, L.ip, hi⟩
  · rintro rfl
    rcases hb with d | q
    · exact L.off.nd d
    · rw [L.off.nh] at q; cases q
  · obtain ⟨l', hl, hf, hd⟩ := L.fs
    exact ⟨l', hl, FunFrames.turn hf fun e he L' o hL ho hv => ⟨o, hk L' o (fun q => L.off.nf l' hl e he (q ▸ hL)) ho, hv⟩, hd⟩
  · refine hk b o (fun q => ?_) (L.mv.kp b o e n p z)
    subst q
    rcases L.ip with h | h
    · exact p h
    · rw [h] at e; cases e
  · obtain ⟨sl, e1⟩ := L.mv.zs b o e n p hd
    refine ⟨sl, hk b _ (fun q => ?_) e1⟩
    subst q
    rcases L.ip with h | h
    · exact p h
    · rw [h] at e; cases e
  · by_cases q : b = I
    · subst q; exact ⟨_, hoI⟩
    · obtain ⟨o', e'⟩ := (L.mv.fr b o e n).2
      exact ⟨o', hk b o' q e'⟩
  · by_cases q : b = I
    · subst q; exact ⟨_, hoI⟩
    · obtain ⟨o', e'⟩ := L.pa b hb
      exact ⟨o', hk b o' q e'⟩
/-- a generator's own frame, and those of its caller -/
theorem fz_over {A' : Around} (hA : A'.frames = A.frames.map (env :: ·)) (hf : env.frame = some env.locals) {b : Addr} (z : Fz A' b) : own env b ∨ Fz A b := by
  obtain ⟨l, hl, e, he, q⟩ := z
  rw [hA] at hl
  cases h : A.frames with
  | none => rw [h] at hl; cases hl
  | some l0 =>
    rw [h] at hl; cases hl
    rcases List.mem_cons.mp he with rfl | h'
    · rw [hf] at q; exact .inl (.inl (Option.some.inj q).symm)
    · exact .inr ⟨l0, h, e, h', q⟩
theorem LG.gn {A' : Around} (L : LG C A' env m τ Pv sR s I l i) (hA : A'.frames = A.frames.map (env :: ·)) (hf : env.frame = some env.locals) : Gn C A Pv τ sR s :=
  ⟨L.st, fun b o e n p z => L.mv.kp b o e n p fun z' => (fz_over hA hf z').elim (fun q => p (L.op b q)) z, L.mv.zs, L.mv.os, L.mv.gen⟩
/-- what the body of the loop does with its item -/
def GBody (C : Cx) (A : Around) (env : Env) (τ : Ab) (m0 : Loc) (x : Str) (v : Value) (bs : List Stmt) (lp : Code) (FR : List Frame) (out : Option Value) : Prop :=
  ∀ m s H' Φ, Ext m0 m → Wx C (A.in1.over lp FR) env ((x, v) :: m) τ s τ s →
    (match out with
      | none => ∀ s' m', Ext m0 m' → Wx C (A.in1.over lp FR) env m' τ s τ s' → GS C.M A.in1 lp (.pure (.again lp)) FR s' Φ
      | some y => ∀ s' m' p' l' k u', Ext m0 m' → Wx C (A.in1.over lp FR) env m' τ s τ s' → nv u' = y → (∀ s'' Φ', GS C.M A.in1 lp (.pure (.again lp)) FR s'' Φ' → GS C.M A.in1 lp (k (.send .none)) FR s'' Φ') → Φ (.susp u' false l' k lp p' FR) s') →
    GS C.M A.in1 lp ((execs bs env).wrap (fun f => match f with
            | .next | .cont => .pure (.again lp)
            | .brk => .pure (.done .next)
            | .ret v => .pure (.done (.ret v))) H' id id) FR s Φ
theorem gen_loop {x : Str} {xp p : Pos} {bs fbody : List Stmt} {k0 : Result → Sem Fin} {l0 : List Value} {m0 : Loc} {out : Nat → Option Value} {ys : Nat → List Value} (hh : A.handled = none) (hx : Sto env x) (hx0 : m0.lookup x = none) (hIl : l ≠ I) (hl : τ l = some (.list xs)) (hn : xs.length = n)
    (hf : env.frame = some env.locals) (hk : env.scope.kind = .function)
    (hys : ∀ i, i < n → ys i = (out i).toList ++ ys (i + 1)) (hyn : ys n = []) (hv : ∀ i v, i < n → out i = some v → val (N - (ys i).length) = v) (hk0 : k0 (.ok .next) = leafOf (.ok (.ret .none)))
    (hb : ∀ i, i < n → GBody C A env τ m0 x (xs.getD i .none) bs (.forLoop (.Name x xp) (.ref I) bs [] env) [.ret k0 none false l0 (.func fbody env) p []] (out i)) :
    ∀ (d i : Nat), n - i = d → i ≤ n → ∀ (Pv : Addr → Prop) (sR s : Shared) (m : Loc), Ext m0 m → LG C (A.in1.over (.forLoop (.Name x xp) (.ref I) bs [] env) [.ret k0 none false l0 (.func fbody env) p []]) env m τ Pv sR s I l i →
      GS C.M A.in1 (.forLoop (.Name x xp) (.ref I) bs [] env) (C.M.den (.forLoop (.Name x xp) (.ref I) bs [] env)) [.ret k0 none false l0 (.func fbody env) p []] s (GEnd C A Pv τ val N sR (ys i).length (gnext C A τ N val (ys i).length))
  | 0, i, hd, hi, Pv, sR, s, m, hm, L => by
    obtain rfl : i = n := by omega
    have T := Iter.list (C := C) (A := A.in1.over (.forLoop (.Name x xp) (.ref I) bs [] env) [.ret k0 none false l0 (.func fbody env) p []]) (xs := xs) hh hIl
    refine gs_forLoop fun E => ?_
    subst hn
    refine T.stop τ s _ _ L.it L.st hl fun h' tk hk' => ?_
    refine gs_block_nil ?_
    rw [hk0, hyn]
    refine gs_end _ ⟨rfl, ?_⟩
    have G := L.gn (A := A) rfl hf
    have nI : ∀ b o, sR.heap.get? b = some o → ¬ Pv b → b ≠ I := fun b o e p' q => by
      subst q
      rcases L.ip with h | h
      · exact p' h
      · rw [h] at e; cases e
    refine ⟨L.st.keeps fun b o hb' e => hk' b o ?_ e, fun b o e n' p' z => hk' b o (nI b o e p') (G.kp b o e n' p' z), fun b o e n' p' hd => ?_, L.mv.os, L.mv.gen⟩
    · rintro rfl
      rcases hb' with d | q
      · exact L.off.nd d
      · rw [L.off.nh] at q; cases q
    · obtain ⟨sl, e1⟩ := G.zs b o e n' p' hd
      exact ⟨sl, hk' b _ (nI b o e p') e1⟩
  | d + 1, i, hd, hi, Pv, sR, s, m, hm, L => by
    have hlt : i < n := by omega
    have T := Iter.list (C := C) (A := A.in1.over (.forLoop (.Name x xp) (.ref I) bs [] env) [.ret k0 none false l0 (.func fbody env) p []]) (xs := xs) hh hIl
    refine gs_forLoop fun E => ?_
    refine T.next i τ s _ _ (by omega) L.it L.st hl fun u h' tk hu hP' hk' => ?_
    intro E2
    have L1 := L.turn (tk := tk) hP' hk'
    refine T.owned _ (i + 1) _ u _ _ hP' ?_
    intro E3
    refine wpAny_assign_Name (L1.self.store hx fun s2 W2 => ?_)
    intro H'
    rw [hu] at W2
    have L2 := L1.step W2
    have hbi := hb i hlt m s2 H' (GEnd C A Pv τ val N sR (ys i).length (gnext C A τ N val (ys i).length)) hm L2.self
    have ih := gen_loop hh hx hx0 hIl hl hn hf hk hys hyn hv hk0 hb d (i + 1) (by omega) (by omega)
    have ey := hys i hlt
    refine hbi ?_
    cases ho : out i with
    | none =>
      rw [ho] at ey
      intro s3 m3 hm3 W3
      have L3 := L2.step W3
      refine gs_again (by rfl) ?_
      have e' : ys i = ys (i + 1) := by simpa using ey
      rw [e']
      exact ih Pv sR s3 m3 hm3 L3
    | some y =>
      rw [ho] at ey
      intro s3 m3 p3 l3 k3 u3 hm3 W3 hu3 hk3
      have L3 := L2.step W3
      have hvv := hv i y hlt ho
      have e' : ys i = y :: ys (i + 1) := by simpa using ey
      rw [e'] at hvv ⊢
      show GEnd C A Pv τ val N sR ((ys (i + 1)).length + 1) _ _ _
      refine ⟨by rfl, by rw [hu3, ← hvv]; rfl, L3.gn rfl hf, fun b => Pv b ∨ b = I, fun b hb' => ?_, ?_⟩
      · rcases hb' with h | rfl
        · exact ⟨.inl h, L3.pa b h⟩
        · obtain ⟨o, ho', _⟩ := L3.it
          exact ⟨L3.ip, o, ho'⟩
      · refine GR_iff.mpr fun s4 r => ?_
        show GS C.M A.in1 _ (k3 (.send .none)) _ s4 _
        refine hk3 s4 _ (gs_again (by rfl) ?_)
        refine ih _ s4 s4 m3 hm3 ⟨r.st, ?_, ?_, Mv.refl .., fun b hb' => .inl (L3.op b hb'), fun b hb' => ?_, fun b hb' => ?_, L3.off, .inl (.inr rfl), ?_⟩
        · obtain ⟨M, hM, _⟩ := L3.ok.ns
          refine Fs.push (env := env) (M := M) r.fs rfl hk hf ?_ (L3.ok.nd _ (.inl rfl)).2 (L3.ok.nd _ (.inl rfl)).1
          obtain ⟨o, es, ep, ho', r'⟩ := hM
          exact ⟨o, es, ep, r.kp _ o (.inl (L3.op _ (.inl rfl))) ho', r'⟩
        · exact L3.ok.keeps (fun b o hb' e => r.kp b o (.inl (L3.op b hb')) e) fun b hb' => (L3.ok.nd b hb').1
        · rcases hb' with h | rfl
          · obtain ⟨o, e⟩ := L3.pa b h; exact ⟨o, r.kp b o (.inl h) e⟩
          · obtain ⟨o, e, _⟩ := L3.it; exact ⟨o, r.kp b o (.inr rfl) e⟩
        · rcases hb' with h | rfl
          · exact L3.pd b h
          · exact L3.off.nd
        · exact L3.it.at fun o e => r.kp I o (.inr rfl) e
end
end J
end

section
open PySem PySem.W PySem.Calls PyProof.Rows
set_option Elab.async false
set_option linter.unusedVariables false
namespace J
section
variable {C : Cx} {A : Around} {env : Env} {m : Loc} {σ σ₀ σ' τ : Ab} {s s₀ s' : Shared} {N : Nat} {val : Nat → Value}
/-- iter of an object whose class has a generator as its iterator -/
theorem iter_gen {x K f : Addr} {fs : Loc} {Q : Value → Shared → Prop} {E : Value → Shared → Prop} (S : St C σ s.heap) (e : σ x = some (.inst K fs)) (hs : findIn C.K (.ref K) "__iter__" = some (some (.ref f))) (hf : isFn C.K (.ref f) = true)
    (h : wpAny C.M A (call (.ref f) [.ref x]) (fun v s' => ∃ a g, v = .ref a ∧ s'.heap.IsGen a g ∧ Q (.ref a) s') E s) : wpAny C.M A (pyIter (.ref x)) Q E s := by
  obtain ⟨ox, od, I, _⟩ := S.inst e
  have X := S.K
  have fin : wpAny C.M A (call (.ref f) [.ref x] >>= fun v => pure (some v)) (fun r s' => ∃ a g, r = some (.ref a) ∧ s'.heap.IsGen a g ∧ Q (.ref a) s') E s :=
    wpAny_bind (wpAny_mono h (fun v s' ⟨a, g, e, r⟩ => wpAny_pure ⟨a, g, by rw [e], r⟩) fun _ _ z => z)
  have one : ∀ refuse : Sem Value, wpAny C.M A (callSpecialIfBoundUnlessNone? (.ref x) "__iter__" refuse) (fun r s' => ∃ a g, r = some (.ref a) ∧ s'.heap.IsGen a g ∧ Q (.ref a) s') E s := by
    intro refuse
    simp only [callSpecialIfBoundUnlessNone?, bindSpecialIfBound?]
    refine wpAny_holding (wpAny_bind (wpAny_bind (wpAny_bind (I.type.here ((looks_findIn X hs).here ?_)))))
    refine wpAny_bind (wpAny_askSetting (wpAny_ite ?_))
    have fin2 : wpAny C.M A (if (Value.ref f == Value.none) = true then (refuse >>= fun v => pure (some v)) else (call (.ref f) [.ref x] >>= fun v => pure (some v))) (fun r s' => ∃ a g, r = some (.ref a) ∧ s'.heap.IsGen a g ∧ Q (.ref a) s') E s := by
      rw [if_neg (show ¬ ((Value.ref f == Value.none) = true) from Bool.false_ne_true)]
      exact fin
    split
    · exact wpAny_bind ((bind_fn X _ (beq_iff_eq.mp hf)).here (wpAny_pure (by exact fin2)))
    · exact wpAny_tryCatch (wpAny_bind ((bind_fn X _ (beq_iff_eq.mp hf)).here (wpAny_pure (by exact fin2))))
  unfold pyIter
  refine wpAny_bind (wpAny_bind (I.type.here ((looks_findIn X hs).here ?_)))
  show wpAny C.M A (callSpecialIfBoundUnlessNone? (.ref x) "__iter__" _ >>= _) Q E s
  refine wpAny_bind (wpAny_mono (one _) (fun r s' hr => ?_) fun _ _ z => z)
  obtain ⟨a, g, rfl, hg, hq⟩ := hr
  exact wpAny_bind (wpAny_specialOf hg.typeIs slot_gen_next.lookup (wpAny_pure hq))
theorem GSrc.inst {iter : Expr} {x K f : Addr} {fs : Loc} (hi : EV C A env m σ iter (.ref x)) (e : σ x = some (.inst K fs)) (hs : findIn C.K (.ref K) "__iter__" = some (some (.ref f))) (hf : isFn C.K (.ref f) = true)
    (h : GCall C A (.ref f) [.ref x] σ τ N val) : GSrc C A env m σ iter τ N val := fun σ₀ s₀ s R E E' W k => by
  refine hi.run W fun u s₁ hu W₁ => ?_
  obtain rfl := nv_to_ref hu
  refine iter_gen W₁.st e hs hf (h _ (by simp) s₁ _ E' (Wv.start W₁.st W₁.fs) fun s' Pv a g gs G => ⟨a, g, rfl, G.isg, k s₁ s' Pv a g gs W₁ G⟩)
end
end J
end

section
open PySem PySem.W PySem.Calls PyProof.Rows
set_option Elab.async false
set_option linter.unusedVariables false
namespace J
section
variable {C : Cx} {A : Around} {env : Env} {P Pv : Addr → Prop} {m : Loc} {σ σ₀ σ' τ : Ab} {s s₀ s' : Shared} {N : Nat} {val : Nat → Value}
theorem LSt.ext {a g : Nat} (L : LSt C A env m P σ₀ s₀ σ s Pv a g τ) {h' : Heap} {tk : Nat} (k : ∀ b o, s.heap.get? b = some o → h'.get? b = some o) : LSt C A env m P σ₀ s₀ σ { s with heap := h', toks := tk } Pv a g τ :=
  ⟨L.wx.ext k, L.sub, let ⟨o, nm, qn, ho, r⟩ := L.isg; ⟨o, nm, qn, k a o ho, r⟩, L.oa, L.oo, L.no, fun b hb => let ⟨o, e⟩ := L.al b hb; ⟨o, k b o e⟩, L.ne, L.gl, L.gh⟩
theorem LSt.off {a g : Nat} (L : LSt C A env m No σ₀ s₀ σ s Pv a g τ) {I : Addr} (x : Off C A env σ I) (h0 : s₀.heap.get? I = none) (hp : ¬ Pv I) (ha : I ≠ a) {h' : Heap} {tk : Nat} (hs : ∀ b o, b ≠ I → s.heap.get? b = some o → h'.get? b = some o) : LSt C A env m No σ₀ s₀ σ { s with heap := h', toks := tk } Pv a g τ := by
  have W := L.wx.wd.off x h0 (tk := tk) (h' := h') hs
  exact ⟨⟨W.st, W.fs, W.ok, W.mv⟩, L.sub, let ⟨o, nm, qn, ho, r⟩ := L.isg; ⟨o, nm, qn, hs a o (Ne.symm ha) ho, r⟩, L.oa, L.oo, L.no, fun b hb => let ⟨o, e⟩ := L.al b hb; ⟨o, hs b o (fun q => hp (q ▸ hb)) e⟩, L.ne, L.gl, L.gh⟩
structure CSG (C : Cx) (A : Around) (env : Env) (m : Loc) (σ : Ab) (s : Shared) (D Cc : Addr) (Pv : Addr → Prop) (a g : Nat) (τ : Ab) (ys : List Value) (σ' : Ab) (s' : Shared) : Prop where
  l : LSt C A env m No σ s σ' s' Pv a g τ
  oD : Off C A env σ' D
  oC : Off C A env σ' Cc
  pD : ¬ Pv D
  pC : ¬ Pv Cc
  aD : D ≠ a
  aC : Cc ≠ a
  c : ∃ M, s'.heap.Ns Cc M
  d : ∃ vs, s'.heap.PlainList D vs ∧ vs.toList.map nv = ys
theorem comp_loopG {elt target iter : Expr} {ifs : List Expr} {scope : Scope} {pos : Pos} {cl : List (Str × Addr)} {mc : Loc} {D Cc : Addr} {a g : Nat} {gs : GenState} {R : Result → Shared → Prop}
    (hh : A.handled = none) (hr : A.depth < recursionLimit) (Iv : Nat → List Value → Ab → Prop) (turn : CTurn C A env scope cl mc target elt ifs N val (Sub τ) Iv)
    (hn : N ≤ sizeLine) (hk : scope.kind = .function) (hcl : ∀ x c, cl.lookup x = some c → env.cells.lookup x = some c)
    (hmc : ∀ Cc x v, mc.lookup x = some v → (compEnvC scope cl Cc env).kindOf x ≠ some .local ∧ (cl.lookup x).isSome = true ∧ m.lookup x = some v ∧ (env.kindOf x = some .cell ∨ env.kindOf x = some .free))
    (hD : s.heap.get? D = none) (hC : s.heap.get? Cc = none) (hDC : D ≠ Cc)
    (X : CSG C A env m σ s D Cc Pv a g τ [] σ' s') (hgs : s'.gens[g]? = some gs) (hR : GR C A τ N val N gs Pv s') (hJ : Iv 0 [] σ')
    (k : ∀ (ys : List Value) (σ'' : Ab) (s'' : Shared), Wd C A env m σ s σ'' s'' → Sub τ σ'' → Iv N ys σ'' → Off C A env σ'' D → Off C A env σ'' Cc → (∃ M, s''.heap.Ns Cc M) → (∃ vs, s''.heap.PlainList D vs ∧ vs.toList.map nv = ys) → R (.ok .next) s'') :
    codeAny C.M A (.compLoop (.ListComp elt [⟨target, iter, ifs, 0⟩] scope pos) 0 (.ref a) (.ref D) (compEnvC scope cl Cc env)) R s' := by
  refine cm_loop (fun j s₁ => ∃ i ys σ₁ gs Pv, j = N - i ∧ i ≤ N ∧ ys.length ≤ i ∧ CSG C A env m σ s D Cc Pv a g τ ys σ₁ s₁ ∧ s₁.gens[g]? = some gs ∧ GR C A τ N val (N - i) gs Pv s₁ ∧ Iv i ys σ₁) ?_ N ⟨0, [], σ', gs, Pv, rfl, Nat.zero_le _, Nat.le_refl _, X, hgs, hR, hJ⟩
  rintro j s₁ ⟨i, ys, σ₁, gs₁, Pv₁, rfl, hi, hly, X₁, hgs₁, hR₁, J₁⟩
  have hfr : ∀ x c, env.cells.lookup x = some c → c ≠ Cc := fun x c hc q => X₁.oC.no (.inr ⟨x, q ▸ hc⟩)
  obtain ⟨M, hM⟩ := X₁.c
  obtain ⟨vs, hvs, hys⟩ := X₁.d
  refine gen_next hh hr hi X₁.l hgs₁ hR₁ (fun u s₂ gs₂ Pv₂ hlt hu L₂ hgs₂ hR₂ hkp => ?_) fun s₂ hN W₂ hkp => ?_
  · have eC : ∀ o, s₁.heap.get? Cc = some o → s₂.heap.get? Cc = some o := fun o e => (hkp Cc o e X₁.oC.nd X₁.pC X₁.oC.nz).1
    have eD : ∀ o, s₁.heap.get? D = some o → s₂.heap.get? D = some o := fun o e => (hkp D o e X₁.oD.nd X₁.pD X₁.oD.nz).1
    have pC₂ : ¬ Pv₂ Cc := let ⟨o, _, _, e, _⟩ := hM; (hkp Cc o e X₁.oC.nd X₁.pC X₁.oC.nz).2
    have pD₂ : ¬ Pv₂ D := let ⟨_, e⟩ := hvs; (hkp D _ e X₁.oD.nd X₁.pD X₁.oD.nz).2
    have hM₂ : s₂.heap.Ns Cc M := hM.at' eC
    refine letOwned_gen L₂.isg ?_
    obtain ⟨fs, ht, hfs, hturn⟩ := turn Cc i ys σ₁ u hlt hu L₂.sub J₁
    refine ht s₂ M _ _ L₂.wx.st hM₂ X₁.oC.nh X₁.oC.nd fun h₃ M₃ tk₃ hM₃ hf₃ hk₃ => ?_
    have L₃ := L₂.off X₁.oC hC pC₂ X₁.aC (tk := tk₃) hk₃
    have O₃ : FOk C (compEnvC scope cl Cc env) (fs ++ mc) σ₁ h₃ := L₃.wx.ok.comp hk hcl hfr (hmc Cc) (fun x v e => ⟨hfs x v e, hf₃ x v e⟩) hM₃ X₁.oC.nd X₁.oC.nh
    have D₃ : h₃.PlainList D vs := hvs.at fun o e => hk₃ D o hDC (eD o e)
    have aD : ∃ o, h₃.get? D = some o := let ⟨_, e⟩ := D₃; ⟨_, e⟩
    have aC : ∃ o, h₃.get? Cc = some o := let ⟨o, _, _, e, _⟩ := hM₃; ⟨o, e⟩
    refine hturn σ₁ { s₂ with heap := h₃, toks := tk₃ } { s₂ with heap := h₃, toks := tk₃ } _ _ ⟨⟨L₃.wx.st, L₃.wx.fs, Mv.refl ..⟩, O₃⟩ fun b s₄ σ₄ W₄ q₄ => ?_
    have Z₄ : ∀ {σ₅ s₅}, Wv C A σ₁ { s₂ with heap := h₃, toks := tk₃ } σ₅ s₅ → Sub τ σ₅ → CSG C A env m σ s D Cc Pv₂ a g τ ys σ₅ s₅ ∧ s₅.gens[g]? = some gs₂ ∧ GR C A τ N val (N - (i + 1)) gs₂ Pv₂ s₅ := fun {σ₅ s₅} V x => by
      have O5 : FOk C env m σ₅ s₅.heap := FOk.mv (s := { s₂ with heap := h₃, toks := tk₃ }) L₃.wx.ok V.mv
      refine ⟨⟨L₃.step ⟨V.st, V.fs, O5, V.mv⟩ (fun _ h => h.elim) x, X₁.oD.mv V.mv aD, X₁.oC.mv V.mv aC, pD₂, pC₂, X₁.aD, X₁.aC, ⟨M₃, hM₃.at' fun o e => V.mv.kp Cc o e X₁.oC.nd id X₁.oC.nz⟩, vs, D₃.at fun o e => V.mv.kp D o e X₁.oD.nd id X₁.oD.nz, hys⟩, ?_, ?_⟩
      · rw [V.mv.gen.old g L₃.gh]; exact hgs₂
      · refine hR₂.on fun b o hb e => V.mv.kp b o (hk₃ b o (fun q => pC₂ (by have q' : b = Cc := q; rw [← q']; exact hb)) e) (L₂.oo b hb).nd id (L₂.oo b hb).nz
    cases b with
    | false =>
      rw [if_neg Bool.false_ne_true]
      have q₄ : Sub τ σ₄ ∧ Iv (i + 1) ys σ₄ := by simpa using q₄
      obtain ⟨z1, z2, z3⟩ := Z₄ W₄.toWv q₄.1
      exact ⟨N - (i + 1), by omega, i + 1, ys, σ₄, gs₂, Pv₂, rfl, hlt, Nat.le_succ_of_le hly, z1, z2, z3, q₄.2⟩
    | true =>
      rw [if_pos rfl]
      have q₄ : TE C A (compEnvC scope cl Cc env) (fs ++ mc) elt σ₄ fun v σ₂ => Sub τ σ₂ ∧ Iv (i + 1) (ys ++ [v]) σ₂ := by simpa using q₄
      refine q₄ σ₁ _ s₄ _ _ W₄ fun v s₅ σ₅ W₅ q₅ => ?_
      obtain ⟨X₅, g5, r5⟩ := Z₄ W₅.toWv q₅.1
      obtain ⟨vs₅, hvs₅, hys₅⟩ := X₅.d
      have hsz : vs₅.size ≤ sizeLine := by rw [size_of_map hys₅]; omega
      refine wpAny_list_append_plain hvs₅ (fun h₆ hl₆ hs₆ => ?_) hsz
      have L₆ := X₅.l.off X₅.oD hD X₅.pD X₅.aD (tk := s₅.toks) (h' := h₆) fun b o hb e => hs₆.extBut b o hb e
      refine ⟨N - (i + 1), by omega, i + 1, ys ++ [nv v], σ₅, gs₂, Pv₂, rfl, hlt, by simp; omega, ⟨L₆, X₅.oD, X₅.oC, X₅.pD, X₅.pC, X₅.aD, X₅.aC, ?_, vs₅.push v, hl₆, ?_⟩, g5, ?_, q₅.2⟩
      · obtain ⟨M, hM⟩ := X₅.c
        exact ⟨M, hM.sameBut hs₆ (Ne.symm hDC)⟩
      · rw [Array.toList_push, List.map_append, hys₅]; rfl
      · exact r5.on fun b o hb e => hs₆.extBut b o (fun q => X₅.pD (q ▸ hb)) e
  · subst hN
    refine k ys σ₁ s₂ W₂.wd X₁.l.sub J₁ X₁.oD X₁.oC ⟨M, hM.at' fun o e => hkp Cc o e X₁.oC.nd X₁.pC X₁.oC.nz⟩ ⟨vs, hvs.at fun o e => hkp D o e X₁.oD.nd X₁.pD X₁.oD.nz, hys⟩
theorem comp_blockG {elt target iter : Expr} {ifs : List Expr} {scope : Scope} {pos : Pos} {cl : List (Str × Addr)} {mc : Loc} {a g : Nat} {gs : GenState} {E : Value → Shared → Prop} {RR : Value → Addr → Result → Shared → Prop}
    (hh : A.handled = none) (hr : A.depth < recursionLimit) (Iv : Nat → List Value → Ab → Prop) (turn : CTurn C A env scope cl mc target elt ifs N val (Sub τ) Iv)
    (hn : N ≤ sizeLine) (hk : scope.kind = .function) (hcell : ∀ y ∈ scope.names, y.2 ≠ .cell) (hcl : ∀ x c, cl.lookup x = some c → env.cells.lookup x = some c)
    (hmc : ∀ Cc x v, mc.lookup x = some v → (compEnvC scope cl Cc env).kindOf x ≠ some .local ∧ (cl.lookup x).isSome = true ∧ m.lookup x = some v ∧ (env.kindOf x = some .cell ∨ env.kindOf x = some .free))
    (L : LSt C A env m No σ s σ s' Pv a g τ) (aa : ∀ b o, s.heap.get? b = some o → ¬ dom σ b → ∃ o', s'.heap.get? b = some o') (hgs : s'.gens[g]? = some gs) (hR : GR C A τ N val N gs Pv s') (hJ : Iv 0 [] σ)
    (k : ∀ (ys : List Value) (σ'' : Ab) (s'' : Shared) (D Cc : Addr), Wd C A env m σ s (σ''.put D (.list ys)) s'' → σ'' D = none → Sub τ σ'' → Iv N ys σ'' → Off C A env (σ''.put D (.list ys)) Cc → s.heap.get? Cc = none → (∃ M, s''.heap.Ns Cc M) → RR (.ref D) Cc (.ok .next) s'') :
    wpAny C.M A (newList []) (fun acc s₃ => wpAny C.M A (newFunctionEnv scope env.globals cl [] env.qual none .none (some env)) (fun cenv s₄ =>
      codeAny C.M A (.compStart (.ListComp elt [⟨target, iter, ifs, 0⟩] scope pos) 0 (.ref a) acc { cenv with scope := relabel scope env }) (RR acc cenv.locals) s₄) E s₃) E s' := by
  refine wpAny_newObj_type (wpAny_newFunctionEnv hcell (by intro y hy; simp at hy) (fun h₁ hns₁ hsb₁ => ?_) hk)
  dsimp only at hns₁ hsb₁ ⊢
  generalize hH2 : s'.heap.push { cls := .type "list", dict := none, data := .seq ([] : List Value).toArray } = H2 at hns₁ hsb₁ ⊢
  have hC : H2.objs.size = s'.heap.objs.size + 1 := by rw [← hH2, Heap.size_push]
  have hDC : s'.heap.objs.size ≠ H2.objs.size := by rw [hC]; exact Nat.ne_of_lt (Nat.lt_succ_self _)
  have below : ∀ b, b < s'.heap.objs.size → b ≠ H2.objs.size ∧ b ≠ s'.heap.objs.size := fun b hb => ⟨by rw [hC]; exact Nat.ne_of_lt (Nat.lt_succ_of_lt hb), Nat.ne_of_lt hb⟩
  have old : ∀ b o, s'.heap.get? b = some o → h₁.get? b = some o := fun b o e => hsb₁.extBut b o (below b (Heap.lt_size e)).1 (Heap.get?_push_of_some _ (hH2 ▸ Heap.get?_push_of_some _ e))
  have hacc : h₁.PlainList s'.heap.objs.size #[] := ⟨_, hsb₁.extBut _ _ hDC (Heap.get?_push_of_some _ (hH2 ▸ Heap.get?_push_size _ rfl))⟩
  have L₁ := L.ext (h' := h₁) (tk := s'.toks + ([] : List (Str × Value)).length) old
  have W0 := L.wx.wd
  have fresh : ∀ a, s'.heap.objs.size ≤ a → s'.heap.get? a = none := fun a ha => by
    cases e : s'.heap.get? a with
    | none => rfl
    | some o' => exact absurd (Heap.lt_size e) (Nat.not_lt.mpr ha)
  have offN : ∀ a, s'.heap.objs.size ≤ a → Off C A env σ a := fun b hb => W0.freshOff (b := b) (fresh b hb)
  have hsN : ∀ a, s'.heap.objs.size ≤ a → s.heap.get? a = none := fun b hb => by
    cases e : s.heap.get? b with
    | none => rfl
    | some o =>
      obtain ⟨o', e'⟩ := aa b o e (offN b hb).nd
      rw [fresh b hb] at e'; cases e'
  have hCs : s'.heap.objs.size ≤ H2.objs.size := by rw [hC]; exact Nat.le_succ _
  have pvN : ∀ b, s'.heap.objs.size ≤ b → ¬ Pv b := fun b hb q => by
    obtain ⟨o, e⟩ := L.al b q
    rw [fresh b hb] at e; cases e
  have aN : ∀ b, s'.heap.objs.size ≤ b → b ≠ a := fun b hb q => by
    obtain ⟨o, _, _, e, _⟩ := L.isg
    rw [← q, fresh b hb] at e; cases e
  have X : CSG C A env m σ s s'.heap.objs.size H2.objs.size Pv a g τ [] σ { s' with heap := h₁, toks := s'.toks + ([] : List (Str × Value)).length } :=
    ⟨L₁, offN _ (Nat.le_refl _), offN _ hCs, pvN _ (Nat.le_refl _), pvN _ hCs, aN _ (Nat.le_refl _), aN _ hCs, ⟨_, hns₁⟩, #[], hacc, rfl⟩
  have loop : ∀ s₃ : Shared, s₃ = { s' with heap := h₁, toks := s'.toks + ([] : List (Str × Value)).length } →
      codeAny C.M A (.compLoop (.ListComp elt [⟨target, iter, ifs, 0⟩] scope pos) 0 (.ref a) (.ref s'.heap.objs.size) (compEnvC scope cl H2.objs.size env)) (RR (.ref s'.heap.objs.size) H2.objs.size) s₃ := by
    rintro s₃ rfl
    refine comp_loopG hh hr Iv turn hn hk hcl hmc (hsN _ (Nat.le_refl _)) (hsN _ hCs) hDC X hgs (hR.on fun b o _ e => old b o e) hJ fun ys σ'' s'' W' S' J' oD oC hM hd => ?_
    obtain ⟨vs, hvs, hys⟩ := hd
    have D'' : RO C s''.heap s'.heap.objs.size (.list ys) := let ⟨n, e⟩ := hvs; ⟨vs, n, e, hys⟩
    have W'' := W'.addOff oD (hsN _ (Nat.le_refl _)) rfl D''
    refine k ys σ'' _ _ _ W'' ?_ S' J' ⟨fun d => ?_, oC.no, oC.nh, oC.nf⟩ (hsN _ hCs) hM
    · cases q : σ'' s'.heap.objs.size with
      | none => rfl
      | some o => exact absurd (dom_of q) oD.nd
    · rcases dom_put d rfl with q | d
      · exact hDC q.symm
      · exact oC.nd d
  exact codeAny_compStart_list (loop _ rfl) (wpAny_pyIter_gen L₁.isg (loop _ rfl))
theorem TE_compG {elt target iter : Expr} {ifs : List Expr} {scope : Scope} {pos : Pos} {cl : List (Str × Addr)} {mc : Loc} {Q : Value → Ab → Prop}
    (hh : A.handled = none) (hr : A.depth < recursionLimit) (hi : GSrc C A env m σ iter τ N val) (hx : Sub τ σ) (Iv : Nat → List Value → Ab → Prop) (hJ : Iv 0 [] σ) (turn : CTurn C A env scope cl mc target elt ifs N val (Sub τ) Iv)
    (done : ∀ ys σ' D, Sub τ σ' → Iv N ys σ' → σ' D = none → Q (.ref D) (σ'.put D (.list ys)))
    (hn : N ≤ sizeLine) (hclos : closureFor scope env = pure cl) (hcl : ∀ x c, cl.lookup x = some c → env.cells.lookup x = some c)
    (hmc : ∀ Cc x v, mc.lookup x = some v → (compEnvC scope cl Cc env).kindOf x ≠ some .local ∧ (cl.lookup x).isSome = true ∧ m.lookup x = some v ∧ (env.kindOf x = some .cell ∨ env.kindOf x = some .free))
    (hk : scope.kind = .function := by rfl) (hcell : ∀ y ∈ scope.names, y.2 ≠ .cell := by decide) (hnames : ∀ x ∈ scope.names, x.2 = .local → scope.names.lookup x.1 = some .local := by decide)
    (hs : ∀ x, foldedSetIterable iter env x = pure x := by intro _; rfl) : TE C A env m (.ListComp elt [⟨target, iter, ifs, 0⟩] scope pos) σ Q := fun σ₀ s₀ s R E W k => by
  rw [eval_ListComp]
  refine wpAny_comprehension_free (use := none) rfl hs hclos hk hnames (hi σ s s _ _ _ W.self fun s₁ s' Pv a g gs W₁ G => ?_)
  have L := G.lst (P := No) W₁ hx
  refine comp_blockG (RR := fun acc C' => compPost C.M A E none R acc C') hh hr Iv turn hn hk hcell hcl hmc L (fun b o e n => (G.wv.mv.fr b o e n).2) G.hgs G.rd hJ fun ys σ'' s'' D Cc W' nD S' J' oC hC hM => ?_
  obtain ⟨M, hM⟩ := hM
  refine ⟨M, hM, fun h' hs' => ?_⟩
  have W'' := W'.off (tk := s''.toks) oC hC (h' := h') fun b o hb e => hs'.extBut b o hb e
  exact k (.ref D) _ _ ((W.step W₁.toWv).step W''.toWv) (done ys σ'' D S' J' nD)
end
end J
end

section
open PySem PySem.W PySem.Calls PyProof.Rows
set_option Elab.async false
set_option linter.unusedVariables false
namespace J
section
variable {C : Cx} {A : Around} {env : Env} {m : Loc} {σ σ₀ σ' : Ab} {s s₀ s' : Shared}
/-- the getter of a property of the class -/
def propIn (K : Frag) (C : Addr) (x : Str) (p fget : Addr) : Bool := plainGet K C x && hasDictIn K C && findIn K (.ref C) x == some (some (.ref p)) && specialIn K (.ref p) "__get__" == some (some (.builtin "property.__get__")) && takesIn K (.ref p) == some true &&
  (match recIn K p "property" with | some (.ref f :: _) => f == fget | _ => false)
theorem TE_prop {o : Expr} {x : Str} {pos : Pos} {a K p f : Addr} {fs : Loc} {Q : Value → Ab → Prop} (ho : EV C A env m σ o (.ref a)) (hi : σ a = some (.inst K fs)) (hk : propIn C.K K x p f = true)
    (h : TC C A.in1 (.ref f) [.ref a] σ fun v σ' => handedIn v = true ∧ Q v σ')
    (he : eval (.Attribute o x pos) env = (do
      let r ← eval o env
      standAt pos.atName
      let r' ← holding [r] (getAttr r x true)
      letTemporaryGo o r r'
      pure r') := by with_unfolding_all rfl) : TE C A env m (.Attribute o x pos) σ Q := fun σ₀ s₀ s R E W k =>
  Attribute_any_ (ho.run W fun u s₁ hu W₁ => by
    obtain rfl := nv_to_ref hu
    unfold propIn at hk
    simp only [Bool.and_eq_true, beq_iff_eq] at hk
    obtain ⟨⟨⟨⟨⟨h1, h2⟩, h3⟩, h4⟩, h5⟩, h6⟩ := hk
    split at h6
    · rename_i f' rest hp
      obtain rfl := beq_iff_eq.mp h6
      obtain ⟨d, od, I, _⟩ := W₁.st.inst hi
      have S2 : St C σ ({ s₁ with toks := s₁.toks + 1 } : Shared).heap := W₁.st
      refine get_bind W₁.st.K I (plainGet_of h1).1 (findObj_data (by obtain ⟨cd, hc, _⟩ := any_some h2; rw [hc]; rfl) h3 h4 h5) (plainGet_of h1).2 (wpAny_call (prop_get (s := { s₁ with toks := s₁.toks + 1 }) W₁.st.K hp ?_))
      have V : Wv C A.in1 σ s₁ σ { s₁ with toks := s₁.toks + 1 } := let Z := (W₁.self.tok (s₁.toks + 1)).toWv; ⟨Z.st, Z.fs, Z.mv⟩
      refine codeAny_mono (h σ s₁ _ (fun v s' => wpAny C.M A (handedOut v) R E s') (fun e s' => wpAny C.M A (noteIf true (.ref a) (.str x s₁.toks) e) (fun _ s'' => E e s'') E s') V fun v s' σ' W' q => ?_) fun r s' z => ?_
      · exact handed_on (handedIn_nv rfl q.1) (k v s' σ' (W₁.step ⟨W'.st, W'.fs, W'.mv⟩) q.2)
      · cases r with
        | error e => exact z
        | ok f => cases f <;> exact z
    · cases h6) he
-- slices
theorem TE_slice {o : Expr} {lo hi : Option Expr} {p pos : Pos} {a : Addr} {xs : List Value} {x y : Option Nat} {Q : Value → Ab → Prop} (ho : EV C A env m σ o (.ref a)) (ha : σ a = some (.list xs)) (hn : xs.length ≤ 1000)
    (hl : match lo, x with | none, none => True | some e, some i => EV C A env m σ e (.int i 0) | _, _ => False) (hu : match hi, y with | none, none => True | some e, some i => EV C A env m σ e (.int i 0) | _, _ => False)
    (ys : List Value) (hy : ∀ vs : Array Value, vs.toList.map nv = xs → (slicePick vs (x.map Int.ofNat) (y.map Int.ofNat) none).toList.map nv = ys) (h : ∀ D, σ D = none → Q (.ref D) (σ.put D (.list ys)))
    (ht : ∀ ov r, letTemporaryGo o ov r = pure () := by intro _ _; rfl) : TE C A env m (.Subscript o (.Slice lo hi none p) pos) σ Q := fun σ₀ s₀ s R E W k =>
  wpAny_Subscript_list_slice (ho.run W fun u s₁ hu' W₁ => by
    obtain rfl := nv_to_ref hu'
    have part : ∀ (e : Option Expr) (z : Option Nat) (s₁ : Shared), (match e, z with | none, none => True | some e, some i => EV C A env m σ e (.int i 0) | _, _ => False) → Wd C A env m σ₀ s₀ σ s₁ → ∀ R : Value → Shared → Prop,
        (∀ v s₂, IsPart v (z.map Int.ofNat) → Wd C A env m σ₀ s₀ σ s₂ → R v s₂) → wpAny C.M A (evalPart e env) R E s₁ := fun e z s₁ hz W' R kz => by
      cases e with
      | none => cases z with
        | none => rw [evalPart_none]; exact wpAny_pure (kz _ _ .none W')
        | some i => exact hz.elim
      | some e => cases z with
        | none => exact hz.elim
        | some i =>
          rw [evalPart_some]
          exact EV.run (show EV C A env m σ e (.int i 0) from hz) W' fun v s₂ hv W₂ => by
            obtain ⟨t, rfl⟩ := nv_to_int hv
            exact kz _ _ (.int _ _) W₂
    refine part lo x s₁ hl W₁ _ fun vl s₂ pl W₂ => part hi y s₂ hu W₂ _ fun vu s₃ pu W₃ => ?_
    obtain ⟨vs, n, hoo, hx⟩ := W₃.st.rep a _ ha
    have e1 := size_of_map hx
    have hs : (1000 : Nat) ≤ sizeLine := by decide
    refine ⟨a, vs, _, _, rfl, ⟨_, hoo, rfl, _, rfl⟩, by omega, pl, pu, ?_⟩
    have W₄ := W₃.push { cls := .type "slice", data := .fields #[vl, vu, .none] } s₃.toks
    have hz : (s₃.heap.push { cls := .type "slice", data := .fields #[vl, vu, .none] }).objs.size = s₃.heap.objs.size + 1 := Heap.size_push ..
    have W₅ := W₄.alloc (ao := .list ys) rfl { cls := .type "list", data := .seq (slicePick vs (x.map Int.ofNat) (y.map Int.ofNat) none) } s₃.toks ⟨_, _, Heap.get?_push_size _ rfl, hy vs hx⟩
    rw [← hz]
    exact k _ _ _ W₅ (h _ W₄.newNone)) ht
theorem TE_sliceTo {o e : Expr} {p pos : Pos} {a : Addr} {xs : List Value} {i : Nat} {Q : Value → Ab → Prop} (ho : EV C A env m σ o (.ref a)) (ha : σ a = some (.list xs)) (hn : xs.length ≤ 1000)
    (he : EV C A env m σ e (.int i 0)) (h : ∀ D, σ D = none → Q (.ref D) (σ.put D (.list (xs.take i))))
    (ht : ∀ ov r, letTemporaryGo o ov r = pure () := by intro _ _; rfl) : TE C A env m (.Subscript o (.Slice none (some e) none p) pos) σ Q :=
  TE_slice (x := none) (y := some i) ho ha hn trivial he (xs.take i) (fun vs hx => by
    show (slicePick vs none (some (i : Int)) none).toList.map nv = _
    rw [slicePick_upto' vs i, ← hx]; simp) h ht
theorem TE_sliceFrom {o e : Expr} {p pos : Pos} {a : Addr} {xs : List Value} {i : Nat} {Q : Value → Ab → Prop} (ho : EV C A env m σ o (.ref a)) (ha : σ a = some (.list xs)) (hn : xs.length ≤ 1000)
    (he : EV C A env m σ e (.int i 0)) (h : ∀ D, σ D = none → Q (.ref D) (σ.put D (.list (xs.drop i))))
    (ht : ∀ ov r, letTemporaryGo o ov r = pure () := by intro _ _; rfl) : TE C A env m (.Subscript o (.Slice (some e) none none p) pos) σ Q :=
  TE_slice (x := some i) (y := none) ho ha hn he trivial (xs.drop i) (fun vs hx => by
    show (slicePick vs (some (i : Int)) none none).toList.map nv = _
    rw [slicePick_from' vs i, ← hx]; simp) h ht
-- truth
theorem Tru.list {l : Addr} {xs : List Value} (hl : σ l = some (.list xs)) (hn : xs.length ≤ 1000) : Tru C A σ (.ref l) (!xs.isEmpty) := fun u hu s R E S k => by
  obtain rfl := nv_to_ref hu
  obtain ⟨vs, hls, hx⟩ := S.isList hl
  have e := size_of_map hx
  refine wpAny_truthy_list hls (by omega) ?_
  have e2 : (!vs.isEmpty) = !xs.isEmpty := by
    unfold Array.isEmpty
    cases xs with
    | nil => simp at e; simp [e]
    | cons a r => simp at e; simp [e]
  rw [e2]; exact k _
theorem Tru.tup {l : Addr} {xs : List Value} (hl : σ l = some (.tup xs)) (hn : xs.length ≤ 1000) : Tru C A σ (.ref l) (!xs.isEmpty) := fun u hu s R E S k => by
  obtain rfl := nv_to_ref hu
  obtain ⟨vs, hls, hx⟩ := S.isTup hl
  have e := size_of_map hx
  refine truthy_tuple hls (by omega) ?_
  have e2 : (!vs.isEmpty) = !xs.isEmpty := by
    unfold Array.isEmpty
    cases xs with
    | nil => simp at e; simp [e]
    | cons a r => simp at e; simp [e]
  rw [e2]; exact k _
theorem Tru.int (i : Int) : Tru C A σ (.int i 0) (i != 0) := fun u hu s R E S k => by
  obtain ⟨t, rfl⟩ := nv_to_int hu
  exact PyProof.Rows.truthy_int (k s.toks)
/-- the truth of what a tree gives -/
theorem TB_tru {e : Expr} {Q : Bool → Ab → Prop} (h : TE C A env m e σ fun v σ' => ∃ b, Tru C A σ' v b ∧ Q b σ')
    (he : ∀ whole, isTrue e env whole = (do let v ← whole; standAt e.pos; holding [v] (truthy v)) := by intro _; rfl) : TB C A env m e σ Q := fun σ₀ s₀ s R E W k =>
  isTrue_plain (h σ₀ s₀ s _ E W fun u s₁ σ₁ W₁ ⟨b, ht, q⟩ => ht u rfl s₁ R E W₁.st fun tk => k _ _ _ (W₁.tok tk) q) (he _)
theorem TB_not {x : Expr} {pos : Pos} {Q : Bool → Ab → Prop} (h : TB C A env m x σ fun b σ' => Q (!b) σ') : TB C A env m (.UnaryOp .Not x pos) σ Q := fun σ₀ s₀ s R E W k =>
  isTrue_not (h σ₀ s₀ s _ E W fun b s' σ' W' q => k _ s' σ' W' q)
end
end J
end

section
open PySem PySem.W PySem.Calls PyProof.Rows
set_option Elab.async false
set_option linter.unusedVariables false
namespace J
section
variable {C : Cx} {A : Around} {env : Env} {m : Loc} {σ σ₀ σ' : Ab} {s s₀ s' : Shared}
theorem Cmp.eq_bytes (x y : List UInt8) : Cmp C A σ .Eq (.bytes x.toArray 0) (.bytes y.toArray 0) (x == y) := fun a' b' ha hb s R E S k => by
  obtain ⟨t, rfl⟩ := nv_to_bytes ha; obtain ⟨u, rfl⟩ := nv_to_bytes hb
  exact PySem.W.eq_bytes (by simpa using k s.toks)
theorem Cmp.ne_bytes (x y : List UInt8) : Cmp C A σ .NotEq (.bytes x.toArray 0) (.bytes y.toArray 0) (x != y) := fun a' b' ha hb s R E S k => by
  obtain ⟨t, rfl⟩ := nv_to_bytes ha; obtain ⟨u, rfl⟩ := nv_to_bytes hb
  exact PySem.W.ne_bytes (by simpa using k s.toks)
theorem isNone_plain (a : Value) (h : a = .none ∨ (∃ r, a = .ref r) ∨ (∃ i, a = .bytes i 0)) : Cmp C A σ .IsNot a .none (!(a == .none)) := fun a' b' ha' hb s R E S k => by
  obtain rfl := nv_to_none hb
  rcases h with rfl | ⟨r, rfl⟩ | ⟨i, rfl⟩
  · obtain rfl := nv_to_none ha'; exact wpAny_isNot_plain rfl (k _)
  · obtain rfl := nv_to_ref ha'; exact wpAny_isNot_plain rfl (k _)
  · obtain ⟨t, rfl⟩ := nv_to_bytes ha'; exact wpAny_isNot_plain rfl (k _)
theorem St.instCls {h : Heap} (S : St C σ h) {a K : Addr} {fs : Loc} (e : σ a = some (.inst K fs)) : ∃ o, h.get? a = some o ∧ o.cls = .ref K := by
  obtain ⟨d, m, _, ho, _⟩ := S.rep a _ e
  exact ⟨_, ho, rfl⟩
theorem Cmp.isNot_refs {a b K K' : Addr} {fs fs' : Loc} (ha : σ a = some (.inst K fs)) (hb : σ b = some (.inst K' fs')) : Cmp C A σ .IsNot (.ref a) (.ref b) (!decide (a = b)) := fun a' b' ha' hb' s R E S k => by
  obtain rfl := nv_to_ref ha'
  obtain rfl := nv_to_ref hb'
  by_cases q : a = b
  · subst q
    refine wpAny_isNot_ref_self ?_
    have : (!decide (a = a)) = false := by simp
    rw [← this]; exact k s.toks
  · obtain ⟨ox, hx, hc⟩ := S.instCls ha
    obtain ⟨oy, hy, _⟩ := S.instCls hb
    refine wpAny_isNot_ref_other q hx hy (by rw [hc]; intro z; cases z) ?_
    have : (!decide (a = b)) = true := by simp [q]
    rw [← this]; exact k s.toks
/-- a class of the text that has no comparison of its own -/
def cmpIn (K : Frag) (C : Addr) : Bool := match K.lookup C with
  | some ⟨.type "type", _, .cls cd, sl⟩ => (match cd.mro, sl.toList with
    | [.ref C', .type "object"], [_, _, _, _, some (.builtin n), _] => C' == C && !cd.hasDel && nsOkIn K cd.ns && nsIn K cd.ns "__eq__" == some none && nsIn K cd.ns "__ne__" == some none
    | _, _ => false)
  | _ => false
theorem cmpInst_in {K : Frag} {h : Heap} {x C : Addr} {o : Obj} (X : K.In h) (q : cmpIn K C = true) (hx : h.get? x = some o) (hc : o.cls = .ref C) : h.CmpInst x C [.type "object"] := by
  unfold cmpIn at q
  split at q
  · rename_i dd cd sl ho
    split at q
    · rename_i C' k0 k1 k2 k3 n k5 hm hs
      simp only [Bool.and_eq_true, beq_iff_eq, Bool.not_eq_true'] at q
      obtain ⟨⟨⟨⟨rfl, hdel⟩, hok⟩, he⟩, hne⟩ := q
      obtain ⟨nm, bs, mro, ns, qn, hd, sn, sub, ab, col, del⟩ := cd
      dsimp only at hm hdel hok he hne
      subst hm hdel
      have hsl : sl = #[k0, k1, k2, k3, some (.builtin n), k5] := by
        obtain ⟨l⟩ := sl
        simp only at hs
        rw [hs]
      subst hsl
      exact ⟨o, nm, qn, ns, bs, hd, sn, sub, ab, col, dd, k0, k1, k2, k3, k5, n, _, hx, hc, X _ _ ho, .of_isNs (isNs_of_in X hok), nsMap_none_of_in X hok he, nsMap_none_of_in X hok hne⟩
    · cases q
  · cases q
/-- x in (a list of objects of such a class): by identity -/
theorem Cmp.in_objs {a l K : Addr} {fs : Loc} {xs : List Value} (hK : cmpIn C.K K = true) (ha : σ a = some (.inst K fs)) (hl : σ l = some (.list xs)) (hxs : ∀ v ∈ xs, ∃ b fs, v = .ref b ∧ σ b = some (.inst K fs)) (hu : A.units + 64 < cLine) :
    Cmp C A σ .In (.ref a) (.ref l) (decide (.ref a ∈ xs)) := fun a' b' ha' hb' s R E S k => by
  obtain rfl := nv_to_ref ha'
  obtain rfl := nv_to_ref hb'
  obtain ⟨vs, hls, hx⟩ := S.isList hl
  obtain ⟨ox, hox, hcx⟩ := S.instCls ha
  have X := cmpInst_in S.K hK hox hcx
  refine SeqAt.in_listAt (fun y => y == .ref a) hls (fun y hy => ?_) ?_
  · have : nv y ∈ xs := by rw [← hx]; exact List.mem_map_of_mem (Array.mem_toList_iff.mpr hy)
    obtain ⟨b, fs', hb, hσ⟩ := hxs _ this
    obtain rfl := nv_to_ref hb
    by_cases q : b = a
    · subst q
      have : ((Value.ref b) == .ref b) = true := by simp
      rw [this]; exact SeqAt.EqAt.same _
    · have e : ((Value.ref b) == .ref a) = false := by simp [q]
      rw [e]
      obtain ⟨oy, hoy, hcy⟩ := S.instCls hσ
      have Y := cmpInst_in S.K hK hoy hcy
      refine SeqAt.EqAt.of_refs q fun prog w E Q hq => ?_
      obtain ⟨hh, g, d, tk, os⟩ := s
      exact richCompare_eq_other F.cmp_object F.cmp_object Y X q (by show A.units + 1 < cLine; omega) hq
  · have e : (vs.any fun y => y == Value.ref a) = decide (Value.ref a ∈ xs) := by
      rw [Bool.eq_iff_iff, decide_eq_true_iff, ← hx, Array.any_eq_true']
      constructor
      · rintro ⟨y, hy, q⟩
        have q := eq_of_beq q
        subst q
        exact List.mem_map.mpr ⟨_, Array.mem_toList_iff.mpr hy, rfl⟩
      · intro q
        obtain ⟨y, hy, e⟩ := List.mem_map.mp q
        exact ⟨y, Array.mem_toList_iff.mp hy, by rw [nv_to_ref e]; simp⟩
    rw [e]; exact k s.toks
-- and, or as values
theorem TE_and {e₁ e₂ : Expr} {rest : List Expr} {pos : Pos} {Q : Value → Ab → Prop} (h : TE C A env m e₁ σ fun v σ' => ∃ b, Tru C A σ' v b ∧ if b = true then TE C A env m (.BoolOp .And (e₂ :: rest) pos) σ' Q else Q v σ') :
    TE C A env m (.BoolOp .And (e₁ :: e₂ :: rest) pos) σ Q := fun σ₀ s₀ s R E W k =>
  BoolOp_and (h σ₀ s₀ s _ E W fun u s₁ σ₁ W₁ ⟨b, ht, q⟩ => ht u rfl s₁ _ E W₁.st fun tk => by
    cases b with
    | true => rw [if_pos rfl]; exact (show TE C A env m (.BoolOp .And (e₂ :: rest) pos) σ₁ Q by simpa using q) σ₀ s₀ _ R E (W₁.tok tk) k
    | false => rw [if_neg Bool.false_ne_true]; exact k u _ σ₁ (W₁.tok tk) (by simpa using q))
theorem TE_or {e₁ e₂ : Expr} {rest : List Expr} {pos : Pos} {Q : Value → Ab → Prop} (h : TE C A env m e₁ σ fun v σ' => ∃ b, Tru C A σ' v b ∧ if b = true then Q v σ' else TE C A env m (.BoolOp .Or (e₂ :: rest) pos) σ' Q) :
    TE C A env m (.BoolOp .Or (e₁ :: e₂ :: rest) pos) σ Q := fun σ₀ s₀ s R E W k =>
  BoolOp_or (h σ₀ s₀ s _ E W fun u s₁ σ₁ W₁ ⟨b, ht, q⟩ => ht u rfl s₁ _ E W₁.st fun tk => by
    cases b with
    | true => rw [if_pos rfl]; exact k u _ σ₁ (W₁.tok tk) (by simpa using q)
    | false => rw [if_neg Bool.false_ne_true]; exact (show TE C A env m (.BoolOp .Or (e₂ :: rest) pos) σ₁ Q by simpa using q) σ₀ s₀ _ R E (W₁.tok tk) k)
theorem TE_bool1 {op : BoolOp} {e : Expr} {pos : Pos} {Q : Value → Ab → Prop} (h : TE C A env m e σ Q) : TE C A env m (.BoolOp op [e] pos) σ Q := fun σ₀ s₀ s R E W k => BoolOp_one (h σ₀ s₀ s R E W k)
-- lists of lists of ints
inductive IntsAt (σ : Ab) : List Value → List (List Int) → Prop
  | nil : IntsAt σ [] []
  | cons {a : Addr} {xs : List Int} {rs : List Value} {xss : List (List Int)} : σ a = some (.list (iV xs)) → IntsAt σ rs xss → IntsAt σ (.ref a :: rs) (xs :: xss)
def DatInts (σ : Ab) (l : Addr) (xss : List (List Int)) : Prop := ∃ rs, σ l = some (.list rs) ∧ IntsAt σ rs xss
theorem DatInts.dat {l : Addr} {xss : List (List Int)} (h : DatInts σ l xss) : Dat σ (.ref l) (.list (xss.map fun xs => .list (xs.map .int))) := by
  obtain ⟨rs, hl, hf⟩ := h
  refine .list hl ?_
  clear hl
  induction hf with
  | nil => exact .nil
  | cons ha _ ih => exact .cons (dat_ints ha) ih
theorem eqvAll_intss : ∀ xs ys : List (List Int), PyData.eqvAll (xs.map fun xs => .list (xs.map .int)) (ys.map fun xs => .list (xs.map .int)) = decide (xs = ys)
  | [], [] => rfl
  | [], _ :: _ => rfl
  | _ :: _, [] => rfl
  | x :: xs, y :: ys => by
    simp only [List.map_cons, PyData.eqvAll, eqv_ints, eqvAll_intss xs ys, List.cons.injEq, Bool.decide_and]
theorem canLay_intss : ∀ xs : List (List Int), PyData.canLayAll0 (xs.map fun xs => .list (xs.map .int)) = true
  | [] => rfl
  | x :: xs => by simp [PyData.canLayAll0, PyData.canLay0, canLay_ints, canLay_intss xs]
theorem depth_intss : ∀ xs : List (List Int), PyData.depthAll (xs.map fun xs => .list (xs.map .int)) ≤ 1
  | [] => by simp [PyData.depthAll]
  | x :: xs => by
    have := depth_intss xs
    simp only [List.map_cons, PyData.depthAll, PyData.depth, depth_ints]
    omega
theorem shaped_intss (xs : List (List Int)) : SeqAt.shaped (.list (xs.map fun xs => .list (xs.map .int))) = true := by
  have := depth_intss xs
  simp [SeqAt.shaped, PyData.canLay0, canLay_intss, PyData.depth]
  omega
theorem Cmp.eq_intss {l b : Addr} {xs ys : List (List Int)} (hl : DatInts σ l xs) (hb : DatInts σ b ys) (hu : A.units + 64 < cLine) : Cmp C A σ .Eq (.ref l) (.ref b) (decide (xs = ys)) := by
  have := Cmp.eq_dat (C := C) (A := A) hl.dat hb.dat (shaped_intss xs) (shaped_intss ys) hu
  rwa [PyData.eqv, eqvAll_intss] at this
theorem Cmp.ne_intss {l b : Addr} {xs ys : List (List Int)} (hl : DatInts σ l xs) (hb : DatInts σ b ys) (hu : A.units + 64 < cLine) : Cmp C A σ .NotEq (.ref l) (.ref b) (!decide (xs = ys)) := by
  have := Cmp.ne_dat (C := C) (A := A) hl.dat hb.dat (shaped_intss xs) (shaped_intss ys) hu
  rwa [PyData.eqv, eqvAll_intss] at this
-- pairs (str, int)
theorem dat_si {p : Addr} {x : Str} {i : Int} (h : σ p = some (.tup [.str x 0, .int i 0])) : Dat σ (.ref p) (.tuple [.str x, .int i]) := .tup h (.cons (.str x) (.cons (.int i) .nil))
theorem shaped_si {x : Str} (i : Int) (hx : PyData.strOk x = true) : SeqAt.shaped (.tuple [.str x, .int i]) = true := by simp [SeqAt.shaped, PyData.canLay0, PyData.canLayAll0, PyData.depth, PyData.depthAll, hx]
theorem eqv_si (x y : Str) (i j : Int) : PyData.eqv (.tuple [.str x, .int i]) (.tuple [.str y, .int j]) = (x == y && i == j) := by
  simp [PyData.eqv, PyData.eqvAll]
theorem Cmp.eq_si {p r : Addr} {x y : Str} {i j : Int} (ox : PyData.strOk x = true) (oy : PyData.strOk y = true) (hp : σ p = some (.tup [.str x 0, .int i 0])) (hr : σ r = some (.tup [.str y 0, .int j 0])) (hu : A.units + 64 < cLine) : Cmp C A σ .Eq (.ref p) (.ref r) (x == y && i == j) := by
  have := Cmp.eq_dat (C := C) (A := A) (dat_si hp) (dat_si hr) (shaped_si i ox) (shaped_si j oy) hu
  rwa [eqv_si] at this
theorem Cmp.ne_si {p r : Addr} {x y : Str} {i j : Int} (ox : PyData.strOk x = true) (oy : PyData.strOk y = true) (hp : σ p = some (.tup [.str x 0, .int i 0])) (hr : σ r = some (.tup [.str y 0, .int j 0])) (hu : A.units + 64 < cLine) : Cmp C A σ .NotEq (.ref p) (.ref r) (!(x == y && i == j)) := by
  have := Cmp.ne_dat (C := C) (A := A) (dat_si hp) (dat_si hr) (shaped_si i ox) (shaped_si j oy) hu
  rwa [eqv_si] at this
end
end J
end

section
open PySem PySem.W PySem.Calls PyProof.Rows
set_option Elab.async false
set_option linter.unusedVariables false
namespace J
section
variable {C : Cx} {A : Around} {env : Env} {m m' : Loc} {τ : Ab} {sR s s' : Shared} {Pv : Addr → Prop} {l : Addr} {n N : Nat} {val : Nat → Value} {xs : List Value}
/-- for x in (a list): body, as the last statement of a generator -/
theorem gs_genFor {x : Str} {xp pos : Pos} {iter : Expr} {bs fbody : List Stmt} {m0 : Loc} {out : Nat → Option Value} {ys : Nat → List Value} {H' : Value → Sem Fin} (hh : A.handled = none) (hx : Sto env x) (hx0 : m0.lookup x = none) (hl : τ l = some (.list xs)) (hn : xs.length = n)
    (hf : env.frame = some env.locals) (hk : env.scope.kind = .function) (hown : ∀ b, own env b → b = env.locals) (hm : Ext m0 m) (W : Wx C (A.in1.over (.func fbody env) []) env m τ sR τ s) (hi : EV C (A.in1.over (.func fbody env) []) env m τ iter (.ref l))
    (hys : ∀ i, i < n → ys i = (out i).toList ++ ys (i + 1)) (hyn : ys n = []) (hv : ∀ i v, i < n → out i = some v → val (N - (ys i).length) = v) (hN : (ys 0).length = N)
    (hb : ∀ I k0 l0 p, ∀ i, i < n → GBody C A env τ m0 x (xs.getD i .none) bs (.forLoop (.Name x xp) (.ref I) bs [] env) [.ret k0 none false l0 (.func fbody env) p []] (out i))
    (hs : ∀ x, foldedSetIterable iter env x = pure x := by intro _; rfl) :
    GS C.M A.in1 (.func fbody env) ((execs [.For (.Name x xp) iter bs [] pos] env).wrap Kfn H' id id) [] s (GEnd C A (own env) τ val N sR N (gnext C A τ N val N)) := by
  refine gs_cons (gs_For hs fun E E' => hi.run W.wd fun u s₁ hu W₁ => ?_)
  obtain rfl := nv_to_ref hu
  obtain ⟨vs, hls, hmv⟩ := W₁.st.isList hl
  refine wpAny_pyIter_list hls fun p k0 l0 hk0 => ?_
  obtain ⟨ol, hol, _⟩ := id hls
  have X₁ : Wx C (A.in1.over (.func fbody env) []) env m τ sR τ s₁ := W.step W₁
  have X₂ := X₁.ext (tk := s₁.toks) (h' := s₁.heap.push { cls := .type "list_iterator", data := .fields #[.ref l, .int 0 0] }) (push_keeps _)
  have O := W₁.newOff
  have hne : l ≠ s₁.heap.objs.size := Nat.ne_of_lt (Heap.lt_size hol)
  have L : LG C (A.in1.over (.forLoop (.Name x xp) (.ref s₁.heap.objs.size) bs [] env) [.ret k0 none (id false) l0 (.func fbody env) p []]) env m τ (own env) sR { s₁ with heap := s₁.heap.push { cls := .type "list_iterator", data := .fields #[.ref l, .int 0 0] }, toks := s₁.toks } s₁.heap.objs.size l 0 := by
    refine ⟨X₂.st, ?_, X₂.ok, ?_, fun b hb => hb, fun b hb => X₂.ok.own_alive hb, fun b hb => (X₂.ok.nd b hb).1, ⟨O.nd, O.no, O.nh, ?_⟩, .inr ?_, ⟨_, Heap.get?_push_size _ rfl, rfl, rfl⟩⟩
    · obtain ⟨l, a, b, c⟩ := X₂.fs; exact ⟨l, a, b, c⟩
    · have := X₂.mv; exact ⟨this.kp, this.zs, this.fr, this.os, this.gen⟩
    · have := O.nf; exact this
    · exact X₁.mv.old (get_size _) O.nd
  have G := gen_loop (N := N) (val := val) (k0 := k0) (l0 := l0) (p := p) (fbody := fbody) (xp := xp) (bs := bs) (out := out) (ys := ys) hh hx hx0 hne hl hn hf hk hys hyn hv (hk0 .next) (hb _ k0 l0 p) n 0 rfl (Nat.zero_le _) (own env) sR _ m hm L
  rw [hN] at G
  exact G
/-- xs[:] of any expression -/
theorem TE_sliceAllA {o : Expr} {m : Loc} {σ : Ab} {p pos : Pos} {a : Addr} {xs : List Value} {Q : Value → Ab → Prop} (ho : EV C A env m σ o (.ref a)) (ha : σ a = some (.list xs)) (hn : xs.length ≤ 1000) (h : ∀ D, σ D = none → Q (.ref D) (σ.put D (.list xs)))
    (hs : ∀ o i, subscripted (.Slice none none none p) false o i = operate [i, o] (getItem o i) := by intro _ _; with_unfolding_all rfl) : TE C A env m (.Subscript o (.Slice none none none p) pos) σ Q := fun σ₀ s₀ s R E W k =>
  PyProof.Rows.Subscript_ (ho.run W fun u s₁ hu W₁ => by
    obtain rfl := nv_to_ref hu
    refine wpAny_Slice ?_
    rw [evalPart_none]
    refine wpAny_pure (wpAny_pure (wpAny_pure ?_))
    obtain ⟨vs, n, hoo, hx⟩ := W₁.st.rep a _ ha
    have e1 := size_of_map hx
    have hsz : (1000 : Nat) ≤ sizeLine := by decide
    have hl : s₁.heap.IsList a vs := ⟨_, hoo, rfl, _, rfl⟩
    have W₂ := W₁.push { cls := .type "slice", data := .fields #[.none, .none, .none] } s₁.toks
    have hz : (s₁.heap.push { cls := .type "slice", data := .fields #[.none, .none, .none] }).objs.size = s₁.heap.objs.size + 1 := Heap.size_push ..
    have W₃ := W₂.alloc (ao := .list xs) rfl { cls := .type "list", data := .seq (slicePick vs none none none) } s₁.toks ⟨_, _, Heap.get?_push_size _ rfl, by rw [slice_all]; exact hx⟩
    refine tail_any (T := "list") (Heap.IsList.typeIs (s := { s₁ with heap := s₁.heap.push { cls := .type "slice", data := .fields #[.none, .none, .none] } }) (hl.push _)) list_getitem_lookup (wpAny_getItem_list_slice (hl.push _) (Heap.IsSliceOf.new ..) .none .none .none (by simp) ?_ (by omega)) (hs _ _)
    exact k _ _ _ W₃ (h _ W₂.newNone))
end
end J
end

section
open PySem PySem.W PySem.Calls PyProof.Rows
set_option Elab.async false
set_option linter.unusedVariables false
namespace J
section
variable {C : Cx} {A : Around} {env : Env} {m : Loc} {σ σ₀ σ' : Ab} {s s₀ s' : Shared}
theorem bindL_local {kd : Str → Option NameKind} : ∀ {binds : List (Str × Value)} {m : Str → Option Value}, (∀ x ∈ binds, kd x.1 = some .local) → ∀ y, bindL kd binds m y = match binds.reverse.lookup y with | some v => some v | none => m y
  | [], m, _, y => by simp [bindL]
  | (n, v) :: r, m, h, y => by
    have h1 := h (n, v) (.head _)
    rw [bindL, if_pos h1, bindL_local fun x hx => h x (.tail _ hx)]
    have e : ((n, v) :: r).reverse.lookup y = match r.reverse.lookup y with | some w => some w | none => if y = n then some v else none := by
      rw [List.reverse_cons]
      generalize r.reverse = l
      induction l with
      | nil =>
        rw [List.nil_append, List.lookup_cons]
        by_cases q : y = n
        · subst q; simp
        · have : (y == n) = false := by simpa using q
          rw [this]; simp [q]
      | cons p t ih =>
        obtain ⟨a, b⟩ := p
        rw [List.cons_append, List.lookup_cons, List.lookup_cons]
        cases y == a with
        | true => rfl
        | false => exact ih
    rw [e]
    cases r.reverse.lookup y with
    | some w => rfl
    | none =>
      by_cases q : y = n
      · simp [q]
      · simp [q]
/-- a call of a def with cells, none of which is a parameter -/
theorem TC_callC {f : Addr} {oc : Value} {od : Option Addr} {osl : Array (Option Value)} {fd : FuncData} {body : List Stmt} {args : List Value} {binds : List (Str × Value)} {Q : Value → Ab → Prop}
    (hA : A.depth < recursionLimit) (hf : C.K.lookup f = some ⟨oc, od, .func fd, osl⟩) (hcd : codeIn C.K fd.code fd.qualname = true) (hbody : fd.body = .stmts body)
    (hb : ∀ S, peek C.K S (bindArgs fd ⟨args, []⟩) = some binds) (hloc : ∀ x ∈ binds, fd.scope.names.lookup x.1 = some .local) (hm : locOf binds = m)
    (h : ∀ L A', A'.depth = A.depth + 1 → A'.handled = A.handled → A'.units = A.units + 3 → A'.frames = A.frames.map (callEnvC fd L f :: ·) → TXs C A' (callEnvC fd L f) m body σ fun fl _ σ' => Q (match fl with | .ret v => v | _ => .none) σ')
    (hco : fd.scope.isCoroutine = false := by rfl) (hgen : fd.scope.isGenerator = false := by rfl) (hk : fd.scope.kind = .function := by rfl)
    (hgl : fd.globals = mainGlobals := by rfl) (hbi : fd.builtins = builtinsNs := by rfl) (hcl : fd.closure = [] := by rfl) : TC C A (.ref f) args σ Q := fun σ₀ s₀ s R E W k => by
  subst hm
  have hlim : s.heap.NoLimit := C.T.nolimit.keeps W.st.keep
  refine codeAny_call_function hA (W.st.K _ _ hf) rfl hco hgen hbody (codeRec_of W.st.K hcd) (kp_binds W.st.K hb _ _ _ _ ?_)
  rw [hcl]
  refine wpAny_newFunctionEnv_cells hk (fun x hx => .inl (hloc x hx)) fun env he s1 X => ?_
  subst he
  obtain ⟨⟨⟨h₁, tk, rfl⟩, hns, hkp, hfr⟩, hcell, hap, hab⟩ := X
  refine ⟨hlim.keeps hkp, codeAny_func ?_⟩
  have fresh : ∀ b, s.heap.objs.size ≤ b → ¬ dom σ b ∧ C.h₀.get? b = none := fun b hb => ⟨W.st.fresh hb, by
    cases q : C.h₀.get? b with
    | none => rfl
    | some o => exact absurd (Heap.lt_size (W.st.keep _ _ q)) (Nat.not_lt.mpr hb)⟩
  have mem_of : ∀ {l : List (Str × Addr)} {x c}, l.lookup x = some c → (x, c) ∈ l := fun {l x c} => by
    induction l with
    | nil => intro q; cases q
    | cons p r ih =>
      intro q
      obtain ⟨y, w⟩ := p
      rw [List.lookup_cons] at q
      cases z : x == y with
      | true => rw [z] at q; cases q; rw [eq_of_beq z]; exact .head _
      | false => rw [z] at q; exact .tail _ (ih q)
  have hown : ∀ b, own (callEnvC fd s.heap.objs.size f) b → s.heap.objs.size ≤ b := fun b hb => by
    rcases hb with rfl | ⟨x, hx⟩
    · exact Nat.le_refl _
    · exact Nat.le_of_lt (hab x b (mem_of hx))
  have S₁ : St C σ h₁ := W.st.ext hkp
  have O₁ : FOk C (callEnvC fd s.heap.objs.size f) (locOf binds) σ h₁ := by
    refine ⟨hk, hgl, hbi, fun b hb => fresh b (hown b hb), ⟨_, hns, fun x v hx _ => ?_⟩, fun x c hc => ⟨Nat.ne_of_gt (hab x c (mem_of hc)), _, hcell x c hc⟩, fun x v hx hkk => ?_, fun x y c hc hc' => ?_⟩
    · obtain ⟨u, hu, hv⟩ := lookup_locOf hx
      refine ⟨u, ?_, hv⟩
      rw [bindL_local (fun x hx => hloc x hx), hu]
    · obtain ⟨u, hu, _⟩ := lookup_locOf hx
      have hmem : (x, u) ∈ binds := List.mem_reverse.mp (by
        have : ∀ l : List (Str × Value), l.lookup x = some u → (x, u) ∈ l := fun l => by
          induction l with
          | nil => intro q; cases q
          | cons p r ih =>
            intro q
            obtain ⟨y, w⟩ := p
            rw [List.lookup_cons] at q
            cases z : x == y with
            | true => rw [z] at q; cases q; rw [eq_of_beq z]; exact .head _
            | false => rw [z] at q; exact .tail _ (ih q)
        exact this _ hu)
      have := hloc _ hmem
      have hkk' : fd.scope.names.lookup x = some .cell ∨ fd.scope.names.lookup x = some .free := hkk
      rw [this] at hkk'
      rcases hkk' with q | q <;> cases q
    · exact name_of_addr hap (mem_of hc) (mem_of hc')
  have F₁ : Fs C (A.deeper (callEnvC fd s.heap.objs.size f)) σ h₁ := by
    obtain ⟨l, hl, hf, hd⟩ := W.fs
    refine ⟨callEnvC fd s.heap.objs.size f :: l, Around.frames_deeper hl, .cons (L := s.heap.objs.size) (by show fd.scope.kind ≠ .module; rw [hk]; decide) rfl hns (fresh _ (Nat.le_refl _)).2 (FunFrames.turn hf fun e he L o hL ho hv => ⟨o, hkp L o ho, hv⟩), fun e he L hL => ?_⟩
    rcases List.mem_cons.mp he with rfl | he
    · obtain rfl : s.heap.objs.size = L := Option.some.inj hL
      exact (fresh _ (Nat.le_refl _)).1
    · exact hd e he L hL
  refine h s.heap.objs.size (A.deeper (callEnvC fd s.heap.objs.size f)) rfl rfl rfl rfl σ { s with heap := h₁, toks := tk } _ _ _ ⟨S₁, F₁, O₁, Mv.refl ..⟩ fun fl s' m' σ' W' q => ?_
  have M : Mv (Fz A) No σ σ' s s' := by
    have nown : ∀ b o, s.heap.get? b = some o → ¬ own (callEnvC fd s.heap.objs.size f) b := fun b o e z => absurd (Heap.lt_size e) (Nat.not_lt.mpr (hown b z))
    refine ⟨fun b o e n _ z => W'.mv.kp b o (hkp b o e) n (nown b o e) fun ⟨l, hl, e', he', hf'⟩ => ?_, fun b o e n _ => W'.mv.zs b o (hkp b o e) n (nown b o e), fun b o e n => W'.mv.fr b o (hkp b o e) n, W'.mv.os, W'.mv.gen⟩
    obtain ⟨l0, hl0, _⟩ := W.fs
    rw [Around.frames_deeper hl0] at hl; cases hl
    rcases List.mem_cons.mp he' with rfl | h
    · obtain rfl : s.heap.objs.size = b := Option.some.inj hf'
      exact absurd (Heap.lt_size e) (Nat.lt_irrefl _)
    · exact z ⟨l0, hl0, e', h, hf'⟩
  cases fl with
  | ret v => exact k v s' σ' (W.go W'.st M) q
  | next => exact k .none s' σ' (W.go W'.st M) q
  | brk => exact k .none s' σ' (W.go W'.st M) q
  | cont => exact k .none s' σ' (W.go W'.st M) q
end
end J
end

section
open PySem PySem.W PySem.Calls PyProof.Rows
set_option Elab.async false
set_option linter.unusedVariables false
namespace J
section
variable {C : Cx} {A : Around} {env : Env} {m : Loc} {σ σ₀ σ' : Ab} {s s₀ s' : Shared}
/-- x, y, z = (.., .., ..), names of one line -/
theorem TX_swap3 {t value : Expr} {x y z : Str} {pos : Pos} {Q : Flow → Loc → Ab → Prop} (hh : A.handled = none) (hx : Sto env x) (hy : Sto env y) (hz : Sto env z) (h : TE C A env m value σ fun v σ' => ∃ T a b c, v = .ref T ∧ σ' T = some (.tup [a, b, c]) ∧ Q .next ((x, a) :: (y, b) :: (z, c) :: m) σ')
    (hs : swapsWithSole [t] value pos.line env = pure false := by rfl) (hw : swappedStores [t] value env = pure (some [x, y, z]) := by rfl) : TX C A env m (.Assign [t] value pos) σ Q := fun σ₀ s₀ s R E W k => by
  show wpAny _ _ (exec (.Assign [t] value pos) env) _ _ _
  rw [exec_Assign_arm]
  refine wpAny_bind (wpAny_standAt ?_)
  rw [hs]
  refine wpAny_bind (wpAny_pure ?_)
  rw [if_neg (by decide)]
  refine wpAny_bind (h.use W fun v s₁ σ₁ W₁ ⟨T, a, b, c, hv, hT, q⟩ => ?_)
  obtain rfl := nv_to_ref hv
  rw [hw]
  refine wpAny_bind (wpAny_pure ?_)
  obtain ⟨us, ht, hm⟩ := W₁.st.isTup hT
  obtain ⟨u, v, w, huv, h1, h2, h3⟩ := map_three hm
  have hz3 : us.size = 3 := by rw [size_of_map hm]; rfl
  unfold assignStores
  dsimp only
  refine wpAny_bind (wpAny_rule (wpAny_bind ?_))
  have hlen : ([x, y, z] : List Str).length = us.size := by rw [hz3]; rfl
  rw [hlen]
  refine unpackItems_tuple hh ht fun h' he => ?_
  have W₂ := W₁.ext (tk := s₁.toks) fun b o e => he b o (Nat.ne_of_lt (Heap.lt_size e)) e
  rw [huv]
  show wpAny _ _ (assignInOrder [bindName env z, bindName env y, bindName env x] [w, v, u] >>= _) _ _ _
  refine wpAny_bind (PyProof.Rows.assignInOrder_cons ?_)
  refine wpAny_bindName (W₂.store hz fun s₃ W₃ => PyProof.Rows.assignInOrder_cons (wpAny_bindName (W₃.store hy fun s₄ W₄ => PyProof.Rows.assignInOrder_cons (wpAny_bindName (W₄.store hx fun s₅ W₅ => PyProof.Rows.assignInOrder_nil (wpAny_pure (k .next _ _ _ W₅ ?_)))))))
  rw [h1, h2, h3]; exact q
/-- list + list, of any two trees -/
theorem TE_catG {l r : Expr} {pos : Pos} {Q : Value → Ab → Prop} (hl : TE C A env m l σ fun v σ' => TE C A env m r σ' fun w σ'' => ∃ a b xs ys, v = .ref a ∧ w = .ref b ∧ σ'' a = some (.list xs) ∧ σ'' b = some (.list ys) ∧ xs.length + ys.length ≤ 1000 ∧ ∀ D, σ'' D = none → Q (.ref D) (σ''.put D (.list (xs ++ ys)))) :
    TE C A env m (.BinOp l .Add r pos) σ Q := fun σ₀ s₀ s R E W k =>
  wpAny_BinOp (hl σ₀ s₀ s _ E W fun u s₁ σ₁ W₁ hr => hr σ₀ s₀ s₁ _ E W₁ fun w s₂ σ₂ W₂ ⟨a, b, xs, ys, h1, h2, ha, hb, hn, q⟩ => by
    obtain rfl := nv_to_ref h1
    obtain rfl := nv_to_ref h2
    obtain ⟨vs, n, ho, hx⟩ := W₂.st.rep a _ ha
    obtain ⟨ws, n2, ho2, hy⟩ := W₂.st.rep b _ hb
    have e1 := size_of_map hx
    have e2 := size_of_map hy
    have hs : (1000 : Nat) ≤ sizeLine := by decide
    exact PySem.P.add_list ho ho2 (k _ _ _ (W₂.alloc (ao := .list (xs ++ ys)) rfl _ s₂.toks ⟨_, _, Heap.get?_push_size _ rfl, by simp [hx, hy]⟩) (q _ W₂.newNone)) (by omega))
end
end J
end

section
open PySem PySem.W PySem.Calls PyProof.Rows
set_option Elab.async false
set_option linter.unusedVariables false
namespace J
section
variable {C : Cx} {A : Around} {env : Env} {m : Loc} {σ σ₀ σ' : Ab} {s s₀ s' : Shared}
/-- x = [..], where the two are on one line; over a list that a tree gives -/
theorem TX_assignCompL {elt target iter : Expr} {ifs : List Expr} {scope : Scope} {pos spos py : Pos} {y : Str} {cl : List (Str × Addr)} {mc : Loc} {Q : Flow → Loc → Ab → Prop} (hh : A.handled = none)
    (hy : env.kindOf y = some .local)
    (hi : TE C A env m iter σ fun v σ' => ∃ l xs, v = .ref l ∧ σ' l = some (.list xs) ∧ xs.length ≤ sizeLine ∧ ∃ Iv : Nat → List Value → Ab → Prop, Iv 0 [] σ' ∧ CTurn C A env scope cl mc target elt ifs xs.length (fun i => xs.getD i .none) (fun σ'' => σ'' l = some (.list xs)) Iv ∧
      ∀ ys σ'' D, σ'' l = some (.list xs) → Iv xs.length ys σ'' → σ'' D = none → Q .next ((y, .ref D) :: m) (σ''.put D (.list ys)))
    (hclos : closureFor scope env = pure cl) (hcl : ∀ x c, cl.lookup x = some c → env.cells.lookup x = some c)
    (hmc : ∀ Cc x v, mc.lookup x = some v → (compEnvC scope cl Cc env).kindOf x ≠ some .local ∧ (cl.lookup x).isSome = true ∧ m.lookup x = some v ∧ (env.kindOf x = some .cell ∨ env.kindOf x = some .free))
    (hsw : swapsWith (.ListComp elt [⟨target, iter, ifs, 0⟩] scope pos) (some (.Name y py)) spos.line env = pure true)
    (hk : scope.kind = .function := by rfl) (hcell : ∀ y ∈ scope.names, y.2 ≠ .cell := by decide) (hnames : ∀ x ∈ scope.names, x.2 = .local → scope.names.lookup x.1 = some .local := by decide)
    (hs : ∀ x, foldedSetIterable iter env x = pure x := by intro _; rfl) : TX C A env m (.Assign [.Name y py] (.ListComp elt [⟨target, iter, ifs, 0⟩] scope pos) spos) σ Q := fun σ₀ s₀ s R E W k => by
  show wpAny _ A (exec (.Assign [.Name y py] (.ListComp elt [⟨target, iter, ifs, 0⟩] scope pos) spos) env) R E s
  rw [exec_Assign_Name_used _ _ _ _ hsw]
  refine wpAny_bind (wpAny_standAt (wpAny_bind ?_))
  show wpAny _ A (do let _ ← comprehension (.ListComp elt [⟨target, iter, ifs, 0⟩] scope pos) scope env _ (newList []) false (eval iter env) (some (assign (.Name y py) env))) _ _ s
  refine wpAny_bind (wpAny_mono (wpAny_comprehension_free (use := some (assign (.Name y py) env)) (Q := fun _ s' => R .next s') rfl hs hclos hk hnames (hi σ s s _ _ W.wd fun u s₁ σ₁ W₁ ⟨l, xs, hu, hl, hn, Iv, hJ, turn, done⟩ => ?_)) (fun _ s' hq => wpAny_pure (wpAny_pure hq)) fun _ _ e => e)
  obtain rfl := nv_to_ref hu
  have X₁ : Wx C A env m σ s σ₁ s₁ := W.self.step W₁
  refine Src.listAt hh W₁.self hl fun I P s₂ W₂ h0 hO hP hI => ?_
  refine comp_block (RR := fun acc C' => compPost C.M A E (some (assign (.Name y py) env)) (fun _ s' => R .next s') acc C') hI Iv turn hn hk hcell hcl hmc W₂ h0 hO hP (hI.alive _ _ hP) hl hJ fun ys σ'' s'' D Cc W' nD S' J' oC hC hM => ?_
  obtain ⟨M, hM⟩ := hM
  show wpAny _ A (assign (.Name y py) env (.ref D)) _ _ _
  have X' : Wx C A env m σ₁ s₁ (σ''.put D (.list ys)) s'' := X₁.self.step W'
  refine wpAny_assign_Name (X'.self.storeL hy fun s₃ W₃ => ?_)
  refine ⟨M, hM.at' fun o e => W₃.mv.kp Cc o e oC.nd oC.no oC.nz, fun h' hs' => ?_⟩
  have W'' := (X'.trans W₃).off (tk := s₃.toks) oC hC (h' := h') fun b o hb e => hs'.extBut b o hb e
  exact k .next _ _ _ (W.trans (X₁.trans W'')) (done ys σ'' D S' J' nD)
/-- .. where what it runs over raises -/
theorem TSr_assignComp {elt target iter : Expr} {ifs : List Expr} {scope : Scope} {pos spos py : Pos} {y : Str} {cl : List (Str × Addr)} {rest : List Stmt} {D : Addr} {Q : Ab → Prop}
    (h : TEr C A env m iter σ D Q) (hclos : closureFor scope env = pure cl)
    (hsw : swapsWith (.ListComp elt [⟨target, iter, ifs, 0⟩] scope pos) (some (.Name y py)) spos.line env = pure true)
    (hk : scope.kind = .function := by rfl) (hnames : ∀ x ∈ scope.names, x.2 = .local → scope.names.lookup x.1 = some .local := by decide)
    (hs : ∀ x, foldedSetIterable iter env x = pure x := by intro _; rfl) : TSr C A env m (.Assign [.Name y py] (.ListComp elt [⟨target, iter, ifs, 0⟩] scope pos) spos :: rest) σ D Q := fun s R E W k => by
  refine wpAny_execs_cons ?_
  show wpAny _ A (exec (.Assign [.Name y py] (.ListComp elt [⟨target, iter, ifs, 0⟩] scope pos) spos) env) _ E s
  rw [exec_Assign_Name_used _ _ _ _ hsw]
  refine wpAny_bind (wpAny_standAt (wpAny_bind ?_))
  show wpAny _ A (do let _ ← comprehension (.ListComp elt [⟨target, iter, ifs, 0⟩] scope pos) scope env _ (newList []) false (eval iter env) (some (assign (.Name y py) env))) _ _ s
  refine wpAny_bind (wpAny_mono (wpAny_comprehension_free (use := some (assign (.Name y py) env)) (Q := fun _ s' => False) rfl hs hclos hk hnames (h σ s s _ _ W.wd k)) (fun _ s' hq => hq.elim) fun _ _ e => e)
end
end J
end

section
open PySem PySem.W PySem.Calls PyProof.Rows
set_option Elab.async false
set_option linter.unusedVariables false
set_option maxRecDepth 100000
set_option maxHeartbeats 4000000
namespace Mine.hd
noncomputable section
noncomputable abbrev pg : Program := PySem.Challenge.rw_je0006_01.row.prog
noncomputable def cell (i : Nat) : Stmt := match PySem.Challenge.pw_je0006_01.main.body[i]? with | some s => s | none => .Pass ⟨0, 0, 0, 0⟩
noncomputable def sub (i j : Nat) : Stmt := match cell i with | .ClassDef _ _ _ b _ _ _ _ _ _ _ => (match b[j]? with | some s => s | none => .Pass ⟨0, 0, 0, 0⟩) | _ => .Pass ⟨0, 0, 0, 0⟩
noncomputable def argsOf : Stmt → Arguments | .FunctionDef _ a _ _ _ _ _ _ _ _ => a | _ => ⟨[], [], none, [], [], none, []⟩
noncomputable def bodyOf : Stmt → List Stmt | .FunctionDef _ _ b _ _ _ _ _ _ _ => b | _ => []
noncomputable def scopeOf : Stmt → Scope | .FunctionDef _ _ _ _ _ _ s _ _ _ => s | _ => ⟨.module, [], false, false, []⟩
noncomputable def o1 (_ : Params) : Obj := ⟨(.type "tuple"), .none, (.seq ⟨[]⟩ 0), ⟨[]⟩⟩
noncomputable def o2 (_ : Params) : Obj := ⟨.none, .none, (.fields ⟨[]⟩), ⟨[]⟩⟩
noncomputable def o3 (_ : Params) : Obj := ⟨(.type "code"), .none, (.fields ⟨[(.str "<module>" 182), (.str "<module>" 183), (.str "/claim/cut.py" 184), (.int 1 0), (.int 0 0), (.int 0 0), (.int 0 0), (.int 0 0), (.ref 11), (.bool .false), (.int 181 0), (.ref 12), .none, .none, .none, .none, (.int 185 0), (.int 1 0), (.str "/claim/cut.py" 186)]⟩), ⟨[]⟩⟩
noncomputable def o4 (_ : Params) : Obj := ⟨(.type "frame"), .none, .plain, ⟨[(.some (.ref 13)), (.some (.ref 3)), (.some (.ref 3)), .none, (.some (.str "__main__" 164)), .none, (.some (.ref 0))]⟩⟩
noncomputable def heapA (P : Params) : Heap := ⟨⟨[(boot_o_0 P), (boot_o_1 P), (boot_o_2 P), (boot_o_3 P), (boot_o_4 P), (boot_o_5 P), (boot_o_6 P), (boot_o_7 P), (boot_o_8 P), (boot_o_9 P), (boot_o_10 P), (o1 P), (o2 P), (o3 P), (o4 P)]⟩, {}⟩
noncomputable def tree0 (P : Params) : BT := (.node (boot_o_0 P) (.node (boot_o_1 P) (.node (boot_o_3 P) (.node (boot_o_7 P) .nil .nil) (.node (o1 P) .nil .nil)) (.node (boot_o_5 P) (.node (boot_o_9 P) .nil .nil) (.node (o3 P) .nil .nil))) (.node (boot_o_2 P) (.node (boot_o_4 P) (.node (boot_o_8 P) .nil .nil) (.node (o2 P) .nil .nil)) (.node (boot_o_6 P) (.node (boot_o_10 P) .nil .nil) (.node (o4 P) .nil .nil))))
noncomputable def o5 (P : Params) : Obj := ⟨(.type "dict"), .none, (.dict ⟨[⟨(PySem.PyData.keyHash P "__name__"), (.str "__name__" 165), (.str "certvalidator._types" 204)⟩, ⟨(PySem.PyData.keyHash P "__doc__"), (.str "__doc__" 166), .none⟩, ⟨(PySem.PyData.keyHash P "__package__"), (.str "__package__" 167), .none⟩, ⟨(PySem.PyData.keyHash P "__loader__"), (.str "__loader__" 168), (.builtin "__main__.__loader__#opaque")⟩, ⟨(PySem.PyData.keyHash P "__spec__"), (.str "__spec__" 169), .none⟩, ⟨(PySem.PyData.keyHash P "__annotations__"), (.str "__annotations__" 170), (.ref 6)⟩, ⟨(PySem.PyData.keyHash P "__builtins__"), (.str "__builtins__" 171), (.ref 4)⟩, ⟨(PySem.PyData.keyHash P "__file__"), (.str "__file__" 173), (.str "/claim/cut.py" 172)⟩, ⟨(PySem.PyData.keyHash P "__cached__"), (.str "__cached__" 174), .none⟩, ⟨(PySem.PyData.keyHash P "_wall"), (.str "_wall" 193), (.ref 21)⟩, ⟨(PySem.PyData.keyHash P "pretty_message"), (.str "pretty_message" 203), (.ref 28)⟩, ⟨(PySem.PyData.keyHash P "type_name"), (.str "type_name" 212), (.ref 35)⟩, ⟨(PySem.PyData.keyHash P "Native"), (.str "Native" 241), (.ref 52)⟩]⟩ 13), ⟨[]⟩⟩
noncomputable def o6 (_ : Params) : Obj := ⟨.none, .none, (.fields ⟨[(.int 1 0), (.int 0 0), (.ref 20), (.int 5 0), (.int 0 0), (.ref 27), (.int 8 0), (.int 0 0), (.ref 34), (.int 10 0), (.int 0 0), (.ref 41)]⟩), ⟨[]⟩⟩
noncomputable def o7 (_ : Params) : Obj := ⟨(.type "tuple"), .none, (.seq ⟨[]⟩ 0), ⟨[]⟩⟩
noncomputable def o8 (_ : Params) : Obj := ⟨.none, .none, (.fields ⟨[]⟩), ⟨[]⟩⟩
noncomputable def o9 (_ : Params) : Obj := ⟨(.type "tuple"), .none, (.seq ⟨[(.str "k" 190)]⟩ 0), ⟨[]⟩⟩
noncomputable def o10 (_ : Params) : Obj := ⟨(.type "tuple"), .none, (.seq ⟨[]⟩ 0), ⟨[]⟩⟩
noncomputable def o11 (_ : Params) : Obj := ⟨.none, .none, .func ⟨"_wall", "_wall", argsOf (cell 0), .stmts (bodyOf (cell 0)), scopeOf (cell 0), 0, [], .none, .none, .none, .none, .none, .none, .none, 0⟩, ⟨[]⟩⟩
noncomputable def o12 (_ : Params) : Obj := ⟨(.type "code"), .none, (.fields ⟨[(.str "_wall" 187), (.str "_wall" 188), (.str "/claim/cut.py" 189), (.int 1 0), (.int 1 0), (.int 0 0), (.int 0 0), (.int 3 0), (.ref 15), (.bool .true), (.int 181 0), (.ref 16), .none, (.ref 17), (.ref 18), (.ref 19), (.int 191 0), (.int 1 0), (.str "/claim/cut.py" 192)]⟩), ⟨[]⟩⟩
noncomputable def o13 (_ : Params) : Obj := ⟨(.type "function"), .none, .func ⟨"_wall", "_wall", argsOf (cell 0), .stmts (bodyOf (cell 0)), scopeOf (cell 0), 3, [], .none, .none, .none, (.str "__main__" 164), .none, (.ref 20), .none, 0⟩, ⟨[]⟩⟩
noncomputable def o14 (_ : Params) : Obj := ⟨(.type "tuple"), .none, (.seq ⟨[]⟩ 0), ⟨[]⟩⟩
noncomputable def o15 (_ : Params) : Obj := ⟨.none, .none, (.fields ⟨[]⟩), ⟨[]⟩⟩
noncomputable def o16 (_ : Params) : Obj := ⟨(.type "tuple"), .none, (.seq ⟨[(.str "string" 199), (.str "params" 200)]⟩ 0), ⟨[]⟩⟩
noncomputable def o17 (_ : Params) : Obj := ⟨(.type "tuple"), .none, (.seq ⟨[]⟩ 0), ⟨[]⟩⟩
noncomputable def o18 (_ : Params) : Obj := ⟨.none, .none, .func ⟨"pretty_message", "pretty_message", argsOf (cell 2), .stmts (bodyOf (cell 2)), scopeOf (cell 2), 0, [], .none, .none, .none, .none, .none, .none, .none, 0⟩, ⟨[]⟩⟩
noncomputable def o19 (_ : Params) : Obj := ⟨(.type "code"), .none, (.fields ⟨[(.str "pretty_message" 196), (.str "pretty_message" 197), (.str "/claim/cut.py" 198), (.int 5 0), (.int 1 0), (.int 0 0), (.int 0 0), (.int 7 0), (.ref 22), (.bool .true), (.int 181 0), (.ref 23), .none, (.ref 24), (.ref 25), (.ref 26), (.int 201 0), (.int 5 0), (.str "/claim/cut.py" 202)]⟩), ⟨[]⟩⟩
noncomputable def o20 (_ : Params) : Obj := ⟨(.type "function"), .none, .func ⟨"pretty_message", "pretty_message", argsOf (cell 2), .stmts (bodyOf (cell 2)), scopeOf (cell 2), 3, [], .none, .none, .none, (.str "certvalidator._errors" 194), .none, (.ref 27), .none, 0⟩, ⟨[]⟩⟩
noncomputable def o21 (_ : Params) : Obj := ⟨(.type "tuple"), .none, (.seq ⟨[]⟩ 0), ⟨[]⟩⟩
noncomputable def o22 (_ : Params) : Obj := ⟨.none, .none, (.fields ⟨[]⟩), ⟨[]⟩⟩
noncomputable def o23 (_ : Params) : Obj := ⟨(.type "tuple"), .none, (.seq ⟨[(.str "value" 209)]⟩ 0), ⟨[]⟩⟩
noncomputable def o24 (_ : Params) : Obj := ⟨(.type "tuple"), .none, (.seq ⟨[]⟩ 0), ⟨[]⟩⟩
noncomputable def o25 (_ : Params) : Obj := ⟨.none, .none, .func ⟨"type_name", "type_name", argsOf (cell 4), .stmts (bodyOf (cell 4)), scopeOf (cell 4), 0, [], .none, .none, .none, .none, .none, .none, .none, 0⟩, ⟨[]⟩⟩
noncomputable def o26 (_ : Params) : Obj := ⟨(.type "code"), .none, (.fields ⟨[(.str "type_name" 206), (.str "type_name" 207), (.str "/claim/cut.py" 208), (.int 8 0), (.int 1 0), (.int 0 0), (.int 0 0), (.int 3 0), (.ref 29), (.bool .true), (.int 181 0), (.ref 30), .none, (.ref 31), (.ref 32), (.ref 33), (.int 210 0), (.int 8 0), (.str "/claim/cut.py" 211)]⟩), ⟨[]⟩⟩
noncomputable def o27 (_ : Params) : Obj := ⟨(.type "function"), .none, .func ⟨"type_name", "type_name", argsOf (cell 4), .stmts (bodyOf (cell 4)), scopeOf (cell 4), 3, [], .none, .none, .none, (.str "certvalidator._types" 204), .none, (.ref 34), .none, 0⟩, ⟨[]⟩⟩
noncomputable def o28 (_ : Params) : Obj := ⟨(.type "tuple"), .none, (.seq ⟨[]⟩ 0), ⟨[]⟩⟩
noncomputable def o29 (_ : Params) : Obj := ⟨(.type "builtin_function_or_method"), .none, (.fields ⟨[(.builtin "type.__prepare__"), (.type "type")]⟩), ⟨[]⟩⟩
noncomputable def o30 (P : Params) : Obj := ⟨(.type "dict"), .none, (.dict ⟨[⟨(PySem.PyData.keyHash P "__module__"), (.str "__module__" 220), (.str "certvalidator._types" 204)⟩, ⟨(PySem.PyData.keyHash P "__qualname__"), (.str "__qualname__" 222), (.str "Native" 221)⟩, ⟨(PySem.PyData.keyHash P "__firstlineno__"), (.str "__firstlineno__" 224), (.int 10 223)⟩, ⟨(PySem.PyData.keyHash P "__init__"), (.str "__init__" 232), (.ref 49)⟩, ⟨(PySem.PyData.keyHash P "__static_attributes__"), (.str "__static_attributes__" 234), (.ref 50)⟩]⟩ 5), ⟨[]⟩⟩
noncomputable def o31 (_ : Params) : Obj := ⟨(.type "tuple"), .none, (.seq ⟨[]⟩ 0), ⟨[]⟩⟩
noncomputable def o32 (_ : Params) : Obj := ⟨.none, .none, (.fields ⟨[(.int 12 0), (.int 4 0), (.ref 48)]⟩), ⟨[]⟩⟩
noncomputable def o33 (_ : Params) : Obj := ⟨(.type "code"), .none, (.fields ⟨[(.str "Native" 215), (.str "Native" 216), (.str "/claim/cut.py" 217), (.int 10 0), (.int 0 0), (.int 0 0), (.int 0 0), (.int 0 0), (.ref 39), (.bool .false), (.int 181 0), (.ref 40), .none, .none, .none, .none, (.int 218 0), (.int 10 0), (.str "/claim/cut.py" 219)]⟩), ⟨[]⟩⟩
noncomputable def o34 (_ : Params) : Obj := ⟨(.type "frame"), .none, .plain, ⟨[(.some (.ref 41)), (.some (.ref 3)), (.some (.ref 38)), .none, (.some (.str "certvalidator._types" 204)), .none, (.some (.ref 0))]⟩⟩
noncomputable def o35 (_ : Params) : Obj := ⟨(.type "tuple"), .none, (.seq ⟨[]⟩ 0), ⟨[]⟩⟩
noncomputable def o36 (_ : Params) : Obj := ⟨.none, .none, (.fields ⟨[]⟩), ⟨[]⟩⟩
noncomputable def o37 (_ : Params) : Obj := ⟨(.type "tuple"), .none, (.seq ⟨[(.str "self" 228), (.str "native" 229)]⟩ 0), ⟨[]⟩⟩
noncomputable def o38 (_ : Params) : Obj := ⟨(.type "tuple"), .none, (.seq ⟨[]⟩ 0), ⟨[]⟩⟩
noncomputable def o39 (_ : Params) : Obj := ⟨.none, .none, .func ⟨"__init__", "Native.__init__", argsOf (sub 5 0), .stmts (bodyOf (sub 5 0)), scopeOf (sub 5 0), 0, [], .none, .none, .none, .none, .none, .none, .none, 0⟩, ⟨[]⟩⟩
noncomputable def o40 (_ : Params) : Obj := ⟨(.type "code"), .none, (.fields ⟨[(.str "__init__" 225), (.str "Native.__init__" 226), (.str "/claim/cut.py" 227), (.int 12 0), (.int 2 0), (.int 0 0), (.int 0 0), (.int 3 0), (.ref 43), (.bool .true), (.int 181 0), (.ref 44), .none, (.ref 45), (.ref 46), (.ref 47), (.int 230 0), (.int 12 0), (.str "/claim/cut.py" 231)]⟩), ⟨[]⟩⟩
noncomputable def o41 (_ : Params) : Obj := ⟨(.type "function"), .none, .func ⟨"__init__", "Native.__init__", argsOf (sub 5 0), .stmts (bodyOf (sub 5 0)), scopeOf (sub 5 0), 3, [], .none, .none, .none, (.str "certvalidator._types" 204), .none, (.ref 48), .none, 0⟩, ⟨[]⟩⟩
noncomputable def o42 (_ : Params) : Obj := ⟨(.type "tuple"), .none, (.seq ⟨[(.str "native" 233)]⟩ 0), ⟨[]⟩⟩
noncomputable def o43 (P : Params) : Obj := ⟨(.type "dict"), .none, (.dict ⟨[⟨(PySem.PyData.keyHash P "__module__"), (.str "__module__" 220), (.str "certvalidator._types" 204)⟩, ⟨(PySem.PyData.keyHash P "__firstlineno__"), (.str "__firstlineno__" 224), (.int 10 223)⟩, ⟨(PySem.PyData.keyHash P "__init__"), (.str "__init__" 232), (.ref 49)⟩, ⟨(PySem.PyData.keyHash P "__static_attributes__"), (.str "__static_attributes__" 234), (.ref 50)⟩, ⟨(PySem.PyData.keyHash P "__dict__"), (.str "__dict__" 236), (.ref 53)⟩, ⟨(PySem.PyData.keyHash P "__weakref__"), (.str "__weakref__" 238), (.ref 54)⟩, ⟨(PySem.PyData.keyHash P "__doc__"), (.str "__doc__" 239), .none⟩]⟩ 4), ⟨[]⟩⟩
noncomputable def o44 (_ : Params) : Obj := ⟨(.type "type"), .none, (.cls ⟨"Native", [(.type "object")], [(.ref 52), (.type "object")], 51, "Native", .true, [], [], .false, .none, .false⟩), ⟨[.none, .none, (.some (.str "Native" 213)), (.some (.str "Native" 221)), (.some (.builtin "object.__new__")), (.some (.bool .true))]⟩⟩
noncomputable def o45 (_ : Params) : Obj := ⟨(.type "getset_descriptor"), .none, (.fields ⟨[(.str "__dict__" 235), (.ref 52), (.builtin "function.__dict__"), (.builtin "function.__dict__#set")]⟩), ⟨[]⟩⟩
noncomputable def o46 (_ : Params) : Obj := ⟨(.type "getset_descriptor"), .none, (.fields ⟨[(.str "__weakref__" 237), (.ref 52), (.builtin "ExceptionGroup.__weakref__"), .none]⟩), ⟨[]⟩⟩
noncomputable def o47 (_ : Params) : Obj := ⟨(.type "super"), .none, (.fields ⟨[(.ref 52), (.ref 52), (.ref 52)]⟩), ⟨[]⟩⟩
noncomputable def o48 (_ : Params) : Obj := ⟨(.type "builtin_function_or_method"), .none, (.fields ⟨[(.builtin "object.__init_subclass__"), (.ref 52)]⟩), ⟨[]⟩⟩
noncomputable def tree1 (P : Params) : BT := (.node (boot_o_0 P) (.node (boot_o_1 P) (.node (o5 P) (.node (boot_o_7 P) (.node (o7 P) (.node (o23 P) .nil .nil) (.node (o39 P) .nil .nil)) (.node (o15 P) (.node (o31 P) .nil .nil) (.node (o47 P) .nil .nil))) (.node (o1 P) (.node (o11 P) (.node (o27 P) .nil .nil) (.node (o43 P) .nil .nil)) (.node (o19 P) (.node (o35 P) .nil .nil) .nil))) (.node (boot_o_5 P) (.node (boot_o_9 P) (.node (o9 P) (.node (o25 P) .nil .nil) (.node (o41 P) .nil .nil)) (.node (o17 P) (.node (o33 P) .nil .nil) .nil)) (.node (o3 P) (.node (o13 P) (.node (o29 P) .nil .nil) (.node (o45 P) .nil .nil)) (.node (o21 P) (.node (o37 P) .nil .nil) .nil)))) (.node (boot_o_2 P) (.node (boot_o_4 P) (.node (boot_o_8 P) (.node (o8 P) (.node (o24 P) .nil .nil) (.node (o40 P) .nil .nil)) (.node (o16 P) (.node (o32 P) .nil .nil) (.node (o48 P) .nil .nil))) (.node (o6 P) (.node (o12 P) (.node (o28 P) .nil .nil) (.node (o44 P) .nil .nil)) (.node (o20 P) (.node (o36 P) .nil .nil) .nil))) (.node (boot_o_6 P) (.node (boot_o_10 P) (.node (o10 P) (.node (o26 P) .nil .nil) (.node (o42 P) .nil .nil)) (.node (o18 P) (.node (o34 P) .nil .nil) .nil)) (.node (o4 P) (.node (o14 P) (.node (o30 P) .nil .nil) (.node (o46 P) .nil .nil)) (.node (o22 P) (.node (o38 P) .nil .nil) .nil)))))
noncomputable def o49 (P : Params) : Obj := ⟨(.type "dict"), .none, (.dict ⟨[⟨(PySem.PyData.keyHash P "__name__"), (.str "__name__" 165), (.str "certvalidator._types" 204)⟩, ⟨(PySem.PyData.keyHash P "__doc__"), (.str "__doc__" 166), .none⟩, ⟨(PySem.PyData.keyHash P "__package__"), (.str "__package__" 167), .none⟩, ⟨(PySem.PyData.keyHash P "__loader__"), (.str "__loader__" 168), (.builtin "__main__.__loader__#opaque")⟩, ⟨(PySem.PyData.keyHash P "__spec__"), (.str "__spec__" 169), .none⟩, ⟨(PySem.PyData.keyHash P "__annotations__"), (.str "__annotations__" 170), (.ref 6)⟩, ⟨(PySem.PyData.keyHash P "__builtins__"), (.str "__builtins__" 171), (.ref 4)⟩, ⟨(PySem.PyData.keyHash P "__file__"), (.str "__file__" 173), (.str "/claim/cut.py" 172)⟩, ⟨(PySem.PyData.keyHash P "__cached__"), (.str "__cached__" 174), .none⟩, ⟨(PySem.PyData.keyHash P "_wall"), (.str "_wall" 193), (.ref 21)⟩, ⟨(PySem.PyData.keyHash P "pretty_message"), (.str "pretty_message" 203), (.ref 28)⟩, ⟨(PySem.PyData.keyHash P "type_name"), (.str "type_name" 212), (.ref 35)⟩, ⟨(PySem.PyData.keyHash P "Native"), (.str "Native" 241), (.ref 52)⟩, ⟨(PySem.PyData.keyHash P "Name"), (.str "Name" 288), (.ref 87)⟩]⟩ 14), ⟨[]⟩⟩
noncomputable def o50 (_ : Params) : Obj := ⟨.none, .none, (.fields ⟨[(.int 1 0), (.int 0 0), (.ref 20), (.int 5 0), (.int 0 0), (.ref 27), (.int 8 0), (.int 0 0), (.ref 34), (.int 10 0), (.int 0 0), (.ref 41), (.int 14 0), (.int 0 0), (.ref 62)]⟩), ⟨[]⟩⟩
noncomputable def o51 (_ : Params) : Obj := ⟨(.type "tuple"), .none, (.seq ⟨[]⟩ 0), ⟨[]⟩⟩
noncomputable def o52 (_ : Params) : Obj := ⟨(.type "builtin_function_or_method"), .none, (.fields ⟨[(.builtin "type.__prepare__"), (.type "type")]⟩), ⟨[]⟩⟩
noncomputable def o53 (P : Params) : Obj := ⟨(.type "dict"), .none, (.dict ⟨[⟨(PySem.PyData.keyHash P "__module__"), (.str "__module__" 249), (.str "certvalidator._types" 204)⟩, ⟨(PySem.PyData.keyHash P "__qualname__"), (.str "__qualname__" 251), (.str "Name" 250)⟩, ⟨(PySem.PyData.keyHash P "__firstlineno__"), (.str "__firstlineno__" 253), (.int 14 252)⟩, ⟨(PySem.PyData.keyHash P "__init__"), (.str "__init__" 261), (.ref 70)⟩, ⟨(PySem.PyData.keyHash P "__eq__"), (.str "__eq__" 269), (.ref 77)⟩, ⟨(PySem.PyData.keyHash P "__ne__"), (.str "__ne__" 277), (.ref 84)⟩, ⟨(PySem.PyData.keyHash P "__static_attributes__"), (.str "__static_attributes__" 280), (.ref 85)⟩]⟩ 7), ⟨[]⟩⟩
noncomputable def o54 (_ : Params) : Obj := ⟨(.type "tuple"), .none, (.seq ⟨[]⟩ 0), ⟨[]⟩⟩
noncomputable def o55 (_ : Params) : Obj := ⟨.none, .none, (.fields ⟨[(.int 16 0), (.int 4 0), (.ref 69), (.int 20 0), (.int 4 0), (.ref 76), (.int 23 0), (.int 4 0), (.ref 83)]⟩), ⟨[]⟩⟩
noncomputable def o56 (_ : Params) : Obj := ⟨(.type "code"), .none, (.fields ⟨[(.str "Name" 244), (.str "Name" 245), (.str "/claim/cut.py" 246), (.int 14 0), (.int 0 0), (.int 0 0), (.int 0 0), (.int 0 0), (.ref 60), (.bool .false), (.int 181 0), (.ref 61), .none, .none, .none, .none, (.int 247 0), (.int 14 0), (.str "/claim/cut.py" 248)]⟩), ⟨[]⟩⟩
noncomputable def o57 (_ : Params) : Obj := ⟨(.type "frame"), .none, .plain, ⟨[(.some (.ref 62)), (.some (.ref 3)), (.some (.ref 59)), .none, (.some (.str "certvalidator._types" 204)), .none, (.some (.ref 0))]⟩⟩
noncomputable def o58 (_ : Params) : Obj := ⟨(.type "tuple"), .none, (.seq ⟨[]⟩ 0), ⟨[]⟩⟩
noncomputable def o59 (_ : Params) : Obj := ⟨.none, .none, (.fields ⟨[]⟩), ⟨[]⟩⟩
noncomputable def o60 (_ : Params) : Obj := ⟨(.type "tuple"), .none, (.seq ⟨[(.str "self" 257), (.str "text" 258)]⟩ 0), ⟨[]⟩⟩
noncomputable def o61 (_ : Params) : Obj := ⟨(.type "tuple"), .none, (.seq ⟨[]⟩ 0), ⟨[]⟩⟩
noncomputable def o62 (_ : Params) : Obj := ⟨.none, .none, .func ⟨"__init__", "Name.__init__", argsOf (sub 6 0), .stmts (bodyOf (sub 6 0)), scopeOf (sub 6 0), 0, [], .none, .none, .none, .none, .none, .none, .none, 0⟩, ⟨[]⟩⟩
noncomputable def o63 (_ : Params) : Obj := ⟨(.type "code"), .none, (.fields ⟨[(.str "__init__" 254), (.str "Name.__init__" 255), (.str "/claim/cut.py" 256), (.int 16 0), (.int 2 0), (.int 0 0), (.int 0 0), (.int 3 0), (.ref 64), (.bool .true), (.int 181 0), (.ref 65), .none, (.ref 66), (.ref 67), (.ref 68), (.int 259 0), (.int 16 0), (.str "/claim/cut.py" 260)]⟩), ⟨[]⟩⟩
noncomputable def o64 (_ : Params) : Obj := ⟨(.type "function"), .none, .func ⟨"__init__", "Name.__init__", argsOf (sub 6 0), .stmts (bodyOf (sub 6 0)), scopeOf (sub 6 0), 3, [], .none, .none, .none, (.str "certvalidator._types" 204), .none, (.ref 69), .none, 0⟩, ⟨[]⟩⟩
noncomputable def o65 (_ : Params) : Obj := ⟨(.type "tuple"), .none, (.seq ⟨[]⟩ 0), ⟨[]⟩⟩
noncomputable def o66 (_ : Params) : Obj := ⟨.none, .none, (.fields ⟨[]⟩), ⟨[]⟩⟩
noncomputable def o67 (_ : Params) : Obj := ⟨(.type "tuple"), .none, (.seq ⟨[(.str "self" 265), (.str "other" 266)]⟩ 0), ⟨[]⟩⟩
noncomputable def o68 (_ : Params) : Obj := ⟨(.type "tuple"), .none, (.seq ⟨[]⟩ 0), ⟨[]⟩⟩
noncomputable def o69 (_ : Params) : Obj := ⟨.none, .none, .func ⟨"__eq__", "Name.__eq__", argsOf (sub 6 1), .stmts (bodyOf (sub 6 1)), scopeOf (sub 6 1), 0, [], .none, .none, .none, .none, .none, .none, .none, 0⟩, ⟨[]⟩⟩
noncomputable def o70 (_ : Params) : Obj := ⟨(.type "code"), .none, (.fields ⟨[(.str "__eq__" 262), (.str "Name.__eq__" 263), (.str "/claim/cut.py" 264), (.int 20 0), (.int 2 0), (.int 0 0), (.int 0 0), (.int 3 0), (.ref 71), (.bool .true), (.int 181 0), (.ref 72), .none, (.ref 73), (.ref 74), (.ref 75), (.int 267 0), (.int 20 0), (.str "/claim/cut.py" 268)]⟩), ⟨[]⟩⟩
noncomputable def o71 (_ : Params) : Obj := ⟨(.type "function"), .none, .func ⟨"__eq__", "Name.__eq__", argsOf (sub 6 1), .stmts (bodyOf (sub 6 1)), scopeOf (sub 6 1), 3, [], .none, .none, .none, (.str "certvalidator._types" 204), .none, (.ref 76), .none, 0⟩, ⟨[]⟩⟩
noncomputable def o72 (_ : Params) : Obj := ⟨(.type "tuple"), .none, (.seq ⟨[]⟩ 0), ⟨[]⟩⟩
noncomputable def o73 (_ : Params) : Obj := ⟨.none, .none, (.fields ⟨[]⟩), ⟨[]⟩⟩
noncomputable def o74 (_ : Params) : Obj := ⟨(.type "tuple"), .none, (.seq ⟨[(.str "self" 273), (.str "other" 274)]⟩ 0), ⟨[]⟩⟩
noncomputable def o75 (_ : Params) : Obj := ⟨(.type "tuple"), .none, (.seq ⟨[]⟩ 0), ⟨[]⟩⟩
noncomputable def o76 (_ : Params) : Obj := ⟨.none, .none, .func ⟨"__ne__", "Name.__ne__", argsOf (sub 6 2), .stmts (bodyOf (sub 6 2)), scopeOf (sub 6 2), 0, [], .none, .none, .none, .none, .none, .none, .none, 0⟩, ⟨[]⟩⟩
noncomputable def o77 (_ : Params) : Obj := ⟨(.type "code"), .none, (.fields ⟨[(.str "__ne__" 270), (.str "Name.__ne__" 271), (.str "/claim/cut.py" 272), (.int 23 0), (.int 2 0), (.int 0 0), (.int 0 0), (.int 3 0), (.ref 78), (.bool .true), (.int 181 0), (.ref 79), .none, (.ref 80), (.ref 81), (.ref 82), (.int 275 0), (.int 23 0), (.str "/claim/cut.py" 276)]⟩), ⟨[]⟩⟩
noncomputable def o78 (_ : Params) : Obj := ⟨(.type "function"), .none, .func ⟨"__ne__", "Name.__ne__", argsOf (sub 6 2), .stmts (bodyOf (sub 6 2)), scopeOf (sub 6 2), 3, [], .none, .none, .none, (.str "certvalidator._types" 204), .none, (.ref 83), .none, 0⟩, ⟨[]⟩⟩
noncomputable def o79 (_ : Params) : Obj := ⟨(.type "tuple"), .none, (.seq ⟨[(.str "hashable" 278), (.str "human_friendly" 279)]⟩ 0), ⟨[]⟩⟩
noncomputable def o80 (P : Params) : Obj := ⟨(.type "dict"), .none, (.dict ⟨[⟨(PySem.PyData.keyHash P "__module__"), (.str "__module__" 249), (.str "certvalidator._types" 204)⟩, ⟨(PySem.PyData.keyHash P "__firstlineno__"), (.str "__firstlineno__" 253), (.int 14 252)⟩, ⟨(PySem.PyData.keyHash P "__init__"), (.str "__init__" 261), (.ref 70)⟩, ⟨(PySem.PyData.keyHash P "__eq__"), (.str "__eq__" 269), (.ref 77)⟩, ⟨(PySem.PyData.keyHash P "__ne__"), (.str "__ne__" 277), (.ref 84)⟩, ⟨(PySem.PyData.keyHash P "__static_attributes__"), (.str "__static_attributes__" 280), (.ref 85)⟩, ⟨(PySem.PyData.keyHash P "__dict__"), (.str "__dict__" 282), (.ref 88)⟩, ⟨(PySem.PyData.keyHash P "__weakref__"), (.str "__weakref__" 284), (.ref 89)⟩, ⟨(PySem.PyData.keyHash P "__doc__"), (.str "__doc__" 285), .none⟩, ⟨(PySem.PyData.keyHash P "__hash__"), (.str "__hash__" 286), .none⟩]⟩ 5), ⟨[]⟩⟩
noncomputable def o81 (_ : Params) : Obj := ⟨(.type "type"), .none, (.cls ⟨"Name", [(.type "object")], [(.ref 87), (.type "object")], 86, "Name", .true, [], [], .false, .none, .false⟩), ⟨[.none, .none, (.some (.str "Name" 242)), (.some (.str "Name" 250)), (.some (.builtin "object.__new__")), (.some (.bool .true))]⟩⟩
noncomputable def o82 (_ : Params) : Obj := ⟨(.type "getset_descriptor"), .none, (.fields ⟨[(.str "__dict__" 281), (.ref 87), (.builtin "function.__dict__"), (.builtin "function.__dict__#set")]⟩), ⟨[]⟩⟩
noncomputable def o83 (_ : Params) : Obj := ⟨(.type "getset_descriptor"), .none, (.fields ⟨[(.str "__weakref__" 283), (.ref 87), (.builtin "ExceptionGroup.__weakref__"), .none]⟩), ⟨[]⟩⟩
noncomputable def o84 (_ : Params) : Obj := ⟨(.type "super"), .none, (.fields ⟨[(.ref 87), (.ref 87), (.ref 87)]⟩), ⟨[]⟩⟩
noncomputable def o85 (_ : Params) : Obj := ⟨(.type "builtin_function_or_method"), .none, (.fields ⟨[(.builtin "object.__init_subclass__"), (.ref 87)]⟩), ⟨[]⟩⟩
noncomputable def tree2 (P : Params) : BT := (.node (boot_o_0 P) (.node (boot_o_1 P) (.node (o49 P) (.node (boot_o_7 P) (.node (o7 P) (.node (o23 P) (.node (o57 P) .nil .nil) .nil) (.node (o39 P) (.node (o73 P) .nil .nil) .nil)) (.node (o15 P) (.node (o31 P) (.node (o65 P) .nil .nil) .nil) (.node (o47 P) (.node (o81 P) .nil .nil) .nil))) (.node (o1 P) (.node (o11 P) (.node (o27 P) (.node (o61 P) .nil .nil) .nil) (.node (o43 P) (.node (o77 P) .nil .nil) .nil)) (.node (o19 P) (.node (o35 P) (.node (o69 P) .nil .nil) .nil) (.node (o53 P) (.node (o85 P) .nil .nil) .nil)))) (.node (boot_o_5 P) (.node (boot_o_9 P) (.node (o9 P) (.node (o25 P) (.node (o59 P) .nil .nil) .nil) (.node (o41 P) (.node (o75 P) .nil .nil) .nil)) (.node (o17 P) (.node (o33 P) (.node (o67 P) .nil .nil) .nil) (.node (o51 P) (.node (o83 P) .nil .nil) .nil))) (.node (o3 P) (.node (o13 P) (.node (o29 P) (.node (o63 P) .nil .nil) .nil) (.node (o45 P) (.node (o79 P) .nil .nil) .nil)) (.node (o21 P) (.node (o37 P) (.node (o71 P) .nil .nil) .nil) (.node (o55 P) .nil .nil))))) (.node (boot_o_2 P) (.node (boot_o_4 P) (.node (boot_o_8 P) (.node (o8 P) (.node (o24 P) (.node (o58 P) .nil .nil) .nil) (.node (o40 P) (.node (o74 P) .nil .nil) .nil)) (.node (o16 P) (.node (o32 P) (.node (o66 P) .nil .nil) .nil) (.node (o48 P) (.node (o82 P) .nil .nil) .nil))) (.node (o50 P) (.node (o12 P) (.node (o28 P) (.node (o62 P) .nil .nil) .nil) (.node (o44 P) (.node (o78 P) .nil .nil) .nil)) (.node (o20 P) (.node (o36 P) (.node (o70 P) .nil .nil) .nil) (.node (o54 P) .nil .nil)))) (.node (boot_o_6 P) (.node (boot_o_10 P) (.node (o10 P) (.node (o26 P) (.node (o60 P) .nil .nil) .nil) (.node (o42 P) (.node (o76 P) .nil .nil) .nil)) (.node (o18 P) (.node (o34 P) (.node (o68 P) .nil .nil) .nil) (.node (o52 P) (.node (o84 P) .nil .nil) .nil))) (.node (o4 P) (.node (o14 P) (.node (o30 P) (.node (o64 P) .nil .nil) .nil) (.node (o46 P) (.node (o80 P) .nil .nil) .nil)) (.node (o22 P) (.node (o38 P) (.node (o72 P) .nil .nil) .nil) (.node (o56 P) .nil .nil))))))
noncomputable def o86 (P : Params) : Obj := ⟨(.type "dict"), .none, (.dict ⟨[⟨(PySem.PyData.keyHash P "__name__"), (.str "__name__" 165), (.str "certvalidator._types" 204)⟩, ⟨(PySem.PyData.keyHash P "__doc__"), (.str "__doc__" 166), .none⟩, ⟨(PySem.PyData.keyHash P "__package__"), (.str "__package__" 167), .none⟩, ⟨(PySem.PyData.keyHash P "__loader__"), (.str "__loader__" 168), (.builtin "__main__.__loader__#opaque")⟩, ⟨(PySem.PyData.keyHash P "__spec__"), (.str "__spec__" 169), .none⟩, ⟨(PySem.PyData.keyHash P "__annotations__"), (.str "__annotations__" 170), (.ref 6)⟩, ⟨(PySem.PyData.keyHash P "__builtins__"), (.str "__builtins__" 171), (.ref 4)⟩, ⟨(PySem.PyData.keyHash P "__file__"), (.str "__file__" 173), (.str "/claim/cut.py" 172)⟩, ⟨(PySem.PyData.keyHash P "__cached__"), (.str "__cached__" 174), .none⟩, ⟨(PySem.PyData.keyHash P "_wall"), (.str "_wall" 193), (.ref 21)⟩, ⟨(PySem.PyData.keyHash P "pretty_message"), (.str "pretty_message" 203), (.ref 28)⟩, ⟨(PySem.PyData.keyHash P "type_name"), (.str "type_name" 212), (.ref 35)⟩, ⟨(PySem.PyData.keyHash P "Native"), (.str "Native" 241), (.ref 52)⟩, ⟨(PySem.PyData.keyHash P "Name"), (.str "Name" 288), (.ref 87)⟩, ⟨(PySem.PyData.keyHash P "Key"), (.str "Key" 318), (.ref 108)⟩]⟩ 15), ⟨[]⟩⟩
noncomputable def o87 (_ : Params) : Obj := ⟨.none, .none, (.fields ⟨[(.int 1 0), (.int 0 0), (.ref 20), (.int 5 0), (.int 0 0), (.ref 27), (.int 8 0), (.int 0 0), (.ref 34), (.int 10 0), (.int 0 0), (.ref 41), (.int 14 0), (.int 0 0), (.ref 62), (.int 25 0), (.int 0 0), (.ref 97)]⟩), ⟨[]⟩⟩
noncomputable def o88 (_ : Params) : Obj := ⟨(.type "tuple"), .none, (.seq ⟨[]⟩ 0), ⟨[]⟩⟩
noncomputable def o89 (_ : Params) : Obj := ⟨(.type "builtin_function_or_method"), .none, (.fields ⟨[(.builtin "type.__prepare__"), (.type "type")]⟩), ⟨[]⟩⟩
noncomputable def o90 (P : Params) : Obj := ⟨(.type "dict"), .none, (.dict ⟨[⟨(PySem.PyData.keyHash P "__module__"), (.str "__module__" 296), (.str "certvalidator._types" 204)⟩, ⟨(PySem.PyData.keyHash P "__qualname__"), (.str "__qualname__" 298), (.str "Key" 297)⟩, ⟨(PySem.PyData.keyHash P "__firstlineno__"), (.str "__firstlineno__" 300), (.int 25 299)⟩, ⟨(PySem.PyData.keyHash P "__init__"), (.str "__init__" 308), (.ref 105)⟩, ⟨(PySem.PyData.keyHash P "__static_attributes__"), (.str "__static_attributes__" 311), (.ref 106)⟩]⟩ 5), ⟨[]⟩⟩
noncomputable def o91 (_ : Params) : Obj := ⟨(.type "tuple"), .none, (.seq ⟨[]⟩ 0), ⟨[]⟩⟩
noncomputable def o92 (_ : Params) : Obj := ⟨.none, .none, (.fields ⟨[(.int 27 0), (.int 4 0), (.ref 104)]⟩), ⟨[]⟩⟩
noncomputable def o93 (_ : Params) : Obj := ⟨(.type "code"), .none, (.fields ⟨[(.str "Key" 291), (.str "Key" 292), (.str "/claim/cut.py" 293), (.int 25 0), (.int 0 0), (.int 0 0), (.int 0 0), (.int 0 0), (.ref 95), (.bool .false), (.int 181 0), (.ref 96), .none, .none, .none, .none, (.int 294 0), (.int 25 0), (.str "/claim/cut.py" 295)]⟩), ⟨[]⟩⟩
noncomputable def o94 (_ : Params) : Obj := ⟨(.type "frame"), .none, .plain, ⟨[(.some (.ref 97)), (.some (.ref 3)), (.some (.ref 94)), .none, (.some (.str "certvalidator._types" 204)), .none, (.some (.ref 0))]⟩⟩
noncomputable def o95 (_ : Params) : Obj := ⟨(.type "tuple"), .none, (.seq ⟨[]⟩ 0), ⟨[]⟩⟩
noncomputable def o96 (_ : Params) : Obj := ⟨.none, .none, (.fields ⟨[]⟩), ⟨[]⟩⟩
noncomputable def o97 (_ : Params) : Obj := ⟨(.type "tuple"), .none, (.seq ⟨[(.str "self" 304), (.str "number" 305)]⟩ 0), ⟨[]⟩⟩
noncomputable def o98 (_ : Params) : Obj := ⟨(.type "tuple"), .none, (.seq ⟨[]⟩ 0), ⟨[]⟩⟩
noncomputable def o99 (_ : Params) : Obj := ⟨.none, .none, .func ⟨"__init__", "Key.__init__", argsOf (sub 7 0), .stmts (bodyOf (sub 7 0)), scopeOf (sub 7 0), 0, [], .none, .none, .none, .none, .none, .none, .none, 0⟩, ⟨[]⟩⟩
noncomputable def o100 (_ : Params) : Obj := ⟨(.type "code"), .none, (.fields ⟨[(.str "__init__" 301), (.str "Key.__init__" 302), (.str "/claim/cut.py" 303), (.int 27 0), (.int 2 0), (.int 0 0), (.int 0 0), (.int 3 0), (.ref 99), (.bool .true), (.int 181 0), (.ref 100), .none, (.ref 101), (.ref 102), (.ref 103), (.int 306 0), (.int 27 0), (.str "/claim/cut.py" 307)]⟩), ⟨[]⟩⟩
noncomputable def o101 (_ : Params) : Obj := ⟨(.type "function"), .none, .func ⟨"__init__", "Key.__init__", argsOf (sub 7 0), .stmts (bodyOf (sub 7 0)), scopeOf (sub 7 0), 3, [], .none, .none, .none, (.str "certvalidator._types" 204), .none, (.ref 104), .none, 0⟩, ⟨[]⟩⟩
noncomputable def o102 (_ : Params) : Obj := ⟨(.type "tuple"), .none, (.seq ⟨[(.str "number" 309), (.str "sha1" 310)]⟩ 0), ⟨[]⟩⟩
noncomputable def o103 (P : Params) : Obj := ⟨(.type "dict"), .none, (.dict ⟨[⟨(PySem.PyData.keyHash P "__module__"), (.str "__module__" 296), (.str "certvalidator._types" 204)⟩, ⟨(PySem.PyData.keyHash P "__firstlineno__"), (.str "__firstlineno__" 300), (.int 25 299)⟩, ⟨(PySem.PyData.keyHash P "__init__"), (.str "__init__" 308), (.ref 105)⟩, ⟨(PySem.PyData.keyHash P "__static_attributes__"), (.str "__static_attributes__" 311), (.ref 106)⟩, ⟨(PySem.PyData.keyHash P "__dict__"), (.str "__dict__" 313), (.ref 109)⟩, ⟨(PySem.PyData.keyHash P "__weakref__"), (.str "__weakref__" 315), (.ref 110)⟩, ⟨(PySem.PyData.keyHash P "__doc__"), (.str "__doc__" 316), .none⟩]⟩ 4), ⟨[]⟩⟩
noncomputable def o104 (_ : Params) : Obj := ⟨(.type "type"), .none, (.cls ⟨"Key", [(.type "object")], [(.ref 108), (.type "object")], 107, "Key", .true, [], [], .false, .none, .false⟩), ⟨[.none, .none, (.some (.str "Key" 289)), (.some (.str "Key" 297)), (.some (.builtin "object.__new__")), (.some (.bool .true))]⟩⟩
noncomputable def o105 (_ : Params) : Obj := ⟨(.type "getset_descriptor"), .none, (.fields ⟨[(.str "__dict__" 312), (.ref 108), (.builtin "function.__dict__"), (.builtin "function.__dict__#set")]⟩), ⟨[]⟩⟩
noncomputable def o106 (_ : Params) : Obj := ⟨(.type "getset_descriptor"), .none, (.fields ⟨[(.str "__weakref__" 314), (.ref 108), (.builtin "ExceptionGroup.__weakref__"), .none]⟩), ⟨[]⟩⟩
noncomputable def o107 (_ : Params) : Obj := ⟨(.type "super"), .none, (.fields ⟨[(.ref 108), (.ref 108), (.ref 108)]⟩), ⟨[]⟩⟩
noncomputable def o108 (_ : Params) : Obj := ⟨(.type "builtin_function_or_method"), .none, (.fields ⟨[(.builtin "object.__init_subclass__"), (.ref 108)]⟩), ⟨[]⟩⟩
noncomputable def tree3 (P : Params) : BT := (.node (boot_o_0 P) (.node (boot_o_1 P) (.node (o86 P) (.node (boot_o_7 P) (.node (o7 P) (.node (o23 P) (.node (o57 P) .nil .nil) (.node (o91 P) .nil .nil)) (.node (o39 P) (.node (o73 P) .nil .nil) (.node (o107 P) .nil .nil))) (.node (o15 P) (.node (o31 P) (.node (o65 P) .nil .nil) (.node (o99 P) .nil .nil)) (.node (o47 P) (.node (o81 P) .nil .nil) .nil))) (.node (o1 P) (.node (o11 P) (.node (o27 P) (.node (o61 P) .nil .nil) (.node (o95 P) .nil .nil)) (.node (o43 P) (.node (o77 P) .nil .nil) .nil)) (.node (o19 P) (.node (o35 P) (.node (o69 P) .nil .nil) (.node (o103 P) .nil .nil)) (.node (o53 P) (.node (o85 P) .nil .nil) .nil)))) (.node (boot_o_5 P) (.node (boot_o_9 P) (.node (o9 P) (.node (o25 P) (.node (o59 P) .nil .nil) (.node (o93 P) .nil .nil)) (.node (o41 P) (.node (o75 P) .nil .nil) .nil)) (.node (o17 P) (.node (o33 P) (.node (o67 P) .nil .nil) (.node (o101 P) .nil .nil)) (.node (o51 P) (.node (o83 P) .nil .nil) .nil))) (.node (o3 P) (.node (o13 P) (.node (o29 P) (.node (o63 P) .nil .nil) (.node (o97 P) .nil .nil)) (.node (o45 P) (.node (o79 P) .nil .nil) .nil)) (.node (o21 P) (.node (o37 P) (.node (o71 P) .nil .nil) (.node (o105 P) .nil .nil)) (.node (o55 P) (.node (o89 P) .nil .nil) .nil))))) (.node (boot_o_2 P) (.node (boot_o_4 P) (.node (boot_o_8 P) (.node (o8 P) (.node (o24 P) (.node (o58 P) .nil .nil) (.node (o92 P) .nil .nil)) (.node (o40 P) (.node (o74 P) .nil .nil) (.node (o108 P) .nil .nil))) (.node (o16 P) (.node (o32 P) (.node (o66 P) .nil .nil) (.node (o100 P) .nil .nil)) (.node (o48 P) (.node (o82 P) .nil .nil) .nil))) (.node (o87 P) (.node (o12 P) (.node (o28 P) (.node (o62 P) .nil .nil) (.node (o96 P) .nil .nil)) (.node (o44 P) (.node (o78 P) .nil .nil) .nil)) (.node (o20 P) (.node (o36 P) (.node (o70 P) .nil .nil) (.node (o104 P) .nil .nil)) (.node (o54 P) (.node (o88 P) .nil .nil) .nil)))) (.node (boot_o_6 P) (.node (boot_o_10 P) (.node (o10 P) (.node (o26 P) (.node (o60 P) .nil .nil) (.node (o94 P) .nil .nil)) (.node (o42 P) (.node (o76 P) .nil .nil) .nil)) (.node (o18 P) (.node (o34 P) (.node (o68 P) .nil .nil) (.node (o102 P) .nil .nil)) (.node (o52 P) (.node (o84 P) .nil .nil) .nil))) (.node (o4 P) (.node (o14 P) (.node (o30 P) (.node (o64 P) .nil .nil) (.node (o98 P) .nil .nil)) (.node (o46 P) (.node (o80 P) .nil .nil) .nil)) (.node (o22 P) (.node (o38 P) (.node (o72 P) .nil .nil) (.node (o106 P) .nil .nil)) (.node (o56 P) (.node (o90 P) .nil .nil) .nil))))))
noncomputable def o109 (P : Params) : Obj := ⟨(.type "dict"), .none, (.dict ⟨[⟨(PySem.PyData.keyHash P "__name__"), (.str "__name__" 165), (.str "certvalidator._types" 204)⟩, ⟨(PySem.PyData.keyHash P "__doc__"), (.str "__doc__" 166), .none⟩, ⟨(PySem.PyData.keyHash P "__package__"), (.str "__package__" 167), .none⟩, ⟨(PySem.PyData.keyHash P "__loader__"), (.str "__loader__" 168), (.builtin "__main__.__loader__#opaque")⟩, ⟨(PySem.PyData.keyHash P "__spec__"), (.str "__spec__" 169), .none⟩, ⟨(PySem.PyData.keyHash P "__annotations__"), (.str "__annotations__" 170), (.ref 6)⟩, ⟨(PySem.PyData.keyHash P "__builtins__"), (.str "__builtins__" 171), (.ref 4)⟩, ⟨(PySem.PyData.keyHash P "__file__"), (.str "__file__" 173), (.str "/claim/cut.py" 172)⟩, ⟨(PySem.PyData.keyHash P "__cached__"), (.str "__cached__" 174), .none⟩, ⟨(PySem.PyData.keyHash P "_wall"), (.str "_wall" 193), (.ref 21)⟩, ⟨(PySem.PyData.keyHash P "pretty_message"), (.str "pretty_message" 203), (.ref 28)⟩, ⟨(PySem.PyData.keyHash P "type_name"), (.str "type_name" 212), (.ref 35)⟩, ⟨(PySem.PyData.keyHash P "Native"), (.str "Native" 241), (.ref 52)⟩, ⟨(PySem.PyData.keyHash P "Name"), (.str "Name" 288), (.ref 87)⟩, ⟨(PySem.PyData.keyHash P "Key"), (.str "Key" 318), (.ref 108)⟩, ⟨(PySem.PyData.keyHash P "Certificate"), (.str "Certificate" 406), (.ref 160)⟩]⟩ 16), ⟨[]⟩⟩
noncomputable def o110 (_ : Params) : Obj := ⟨.none, .none, (.fields ⟨[(.int 1 0), (.int 0 0), (.ref 20), (.int 5 0), (.int 0 0), (.ref 27), (.int 8 0), (.int 0 0), (.ref 34), (.int 10 0), (.int 0 0), (.ref 41), (.int 14 0), (.int 0 0), (.ref 62), (.int 25 0), (.int 0 0), (.ref 97), (.int 30 0), (.int 0 0), (.ref 118)]⟩), ⟨[]⟩⟩
noncomputable def o111 (_ : Params) : Obj := ⟨(.type "tuple"), .none, (.seq ⟨[]⟩ 0), ⟨[]⟩⟩
noncomputable def o112 (_ : Params) : Obj := ⟨(.type "builtin_function_or_method"), .none, (.fields ⟨[(.builtin "type.__prepare__"), (.type "type")]⟩), ⟨[]⟩⟩
noncomputable def o113 (P : Params) : Obj := ⟨(.type "dict"), .none, (.dict ⟨[⟨(PySem.PyData.keyHash P "__module__"), (.str "__module__" 326), (.str "certvalidator._types" 204)⟩, ⟨(PySem.PyData.keyHash P "__qualname__"), (.str "__qualname__" 328), (.str "Certificate" 327)⟩, ⟨(PySem.PyData.keyHash P "__firstlineno__"), (.str "__firstlineno__" 330), (.int 30 329)⟩, ⟨(PySem.PyData.keyHash P "__init__"), (.str "__init__" 342), (.ref 126)⟩, ⟨(PySem.PyData.keyHash P "issuer_serial"), (.str "issuer_serial" 350), (.ref 134)⟩, ⟨(PySem.PyData.keyHash P "self_issued"), (.str "self_issued" 358), (.ref 142)⟩, ⟨(PySem.PyData.keyHash P "self_signed"), (.str "self_signed" 366), (.ref 150)⟩, ⟨(PySem.PyData.keyHash P "__getitem__"), (.str "__getitem__" 374), (.ref 157)⟩, ⟨(PySem.PyData.keyHash P "__static_attributes__"), (.str "__static_attributes__" 399), (.ref 158)⟩]⟩ 9), ⟨[]⟩⟩
noncomputable def o114 (_ : Params) : Obj := ⟨(.type "tuple"), .none, (.seq ⟨[]⟩ 0), ⟨[]⟩⟩
noncomputable def o115 (_ : Params) : Obj := ⟨.none, .none, (.fields ⟨[(.int 32 0), (.int 4 0), (.ref 125), (.int 59 0), (.int 4 0), (.ref 132), (.int 63 0), (.int 4 0), (.ref 140), (.int 67 0), (.int 4 0), (.ref 148), (.int 70 0), (.int 4 0), (.ref 156)]⟩), ⟨[]⟩⟩
noncomputable def o116 (_ : Params) : Obj := ⟨(.type "code"), .none, (.fields ⟨[(.str "Certificate" 321), (.str "Certificate" 322), (.str "/claim/cut.py" 323), (.int 30 0), (.int 0 0), (.int 0 0), (.int 0 0), (.int 0 0), (.ref 116), (.bool .false), (.int 181 0), (.ref 117), .none, .none, .none, .none, (.int 324 0), (.int 30 0), (.str "/claim/cut.py" 325)]⟩), ⟨[]⟩⟩
noncomputable def o117 (_ : Params) : Obj := ⟨(.type "frame"), .none, .plain, ⟨[(.some (.ref 118)), (.some (.ref 3)), (.some (.ref 115)), .none, (.some (.str "certvalidator._types" 204)), .none, (.some (.ref 0))]⟩⟩
noncomputable def o118 (_ : Params) : Obj := ⟨(.type "tuple"), .none, (.seq ⟨[]⟩ 0), ⟨[]⟩⟩
noncomputable def o119 (_ : Params) : Obj := ⟨.none, .none, (.fields ⟨[]⟩), ⟨[]⟩⟩
noncomputable def o120 (_ : Params) : Obj := ⟨(.type "tuple"), .none, (.seq ⟨[(.str "self" 334), (.str "number" 335), (.str "subject" 336), (.str "issuer" 337), (.str "public_key" 338), (.str "signer" 339)]⟩ 0), ⟨[]⟩⟩
noncomputable def o121 (_ : Params) : Obj := ⟨(.type "tuple"), .none, (.seq ⟨[]⟩ 0), ⟨[]⟩⟩
noncomputable def o122 (_ : Params) : Obj := ⟨.none, .none, .func ⟨"__init__", "Certificate.__init__", argsOf (sub 8 0), .stmts (bodyOf (sub 8 0)), scopeOf (sub 8 0), 0, [], .none, .none, .none, .none, .none, .none, .none, 0⟩, ⟨[]⟩⟩
noncomputable def o123 (_ : Params) : Obj := ⟨(.type "code"), .none, (.fields ⟨[(.str "__init__" 331), (.str "Certificate.__init__" 332), (.str "/claim/cut.py" 333), (.int 32 0), (.int 6 0), (.int 0 0), (.int 0 0), (.int 3 0), (.ref 120), (.bool .true), (.int 181 0), (.ref 121), .none, (.ref 122), (.ref 123), (.ref 124), (.int 340 0), (.int 32 0), (.str "/claim/cut.py" 341)]⟩), ⟨[]⟩⟩
noncomputable def o124 (_ : Params) : Obj := ⟨(.type "function"), .none, .func ⟨"__init__", "Certificate.__init__", argsOf (sub 8 0), .stmts (bodyOf (sub 8 0)), scopeOf (sub 8 0), 3, [], .none, .none, .none, (.str "certvalidator._types" 204), .none, (.ref 125), .none, 0⟩, ⟨[]⟩⟩
noncomputable def o125 (_ : Params) : Obj := ⟨(.type "tuple"), .none, (.seq ⟨[]⟩ 0), ⟨[]⟩⟩
noncomputable def o126 (_ : Params) : Obj := ⟨.none, .none, (.fields ⟨[]⟩), ⟨[]⟩⟩
noncomputable def o127 (_ : Params) : Obj := ⟨(.type "tuple"), .none, (.seq ⟨[(.str "self" 346)]⟩ 0), ⟨[]⟩⟩
noncomputable def o128 (_ : Params) : Obj := ⟨(.type "tuple"), .none, (.seq ⟨[]⟩ 0), ⟨[]⟩⟩
noncomputable def o129 (_ : Params) : Obj := ⟨.none, .none, .func ⟨"issuer_serial", "Certificate.issuer_serial", argsOf (sub 8 1), .stmts (bodyOf (sub 8 1)), scopeOf (sub 8 1), 0, [], .none, .none, .none, .none, .none, .none, .none, 0⟩, ⟨[]⟩⟩
noncomputable def o130 (_ : Params) : Obj := ⟨(.type "code"), .none, (.fields ⟨[(.str "issuer_serial" 343), (.str "Certificate.issuer_serial" 344), (.str "/claim/cut.py" 345), (.int 58 0), (.int 1 0), (.int 0 0), (.int 0 0), (.int 3 0), (.ref 127), (.bool .true), (.int 181 0), (.ref 128), .none, (.ref 129), (.ref 130), (.ref 131), (.int 347 0), (.int 58 0), (.str "/claim/cut.py" 348)]⟩), ⟨[]⟩⟩
noncomputable def o131 (_ : Params) : Obj := ⟨(.type "function"), .none, .func ⟨"issuer_serial", "Certificate.issuer_serial", argsOf (sub 8 1), .stmts (bodyOf (sub 8 1)), scopeOf (sub 8 1), 3, [], .none, .none, .none, (.str "certvalidator._types" 204), .none, (.ref 132), .none, 0⟩, ⟨[]⟩⟩
noncomputable def o132 (_ : Params) : Obj := ⟨(.type "property"), .none, (.fields ⟨[(.ref 133), .none, .none, .none, (.str "issuer_serial" 350), (.bool .false)]⟩), ⟨[]⟩⟩
noncomputable def o133 (_ : Params) : Obj := ⟨(.type "tuple"), .none, (.seq ⟨[]⟩ 0), ⟨[]⟩⟩
noncomputable def o134 (_ : Params) : Obj := ⟨.none, .none, (.fields ⟨[]⟩), ⟨[]⟩⟩
noncomputable def o135 (_ : Params) : Obj := ⟨(.type "tuple"), .none, (.seq ⟨[(.str "self" 354)]⟩ 0), ⟨[]⟩⟩
noncomputable def o136 (_ : Params) : Obj := ⟨(.type "tuple"), .none, (.seq ⟨[]⟩ 0), ⟨[]⟩⟩
noncomputable def o137 (_ : Params) : Obj := ⟨.none, .none, .func ⟨"self_issued", "Certificate.self_issued", argsOf (sub 8 2), .stmts (bodyOf (sub 8 2)), scopeOf (sub 8 2), 0, [], .none, .none, .none, .none, .none, .none, .none, 0⟩, ⟨[]⟩⟩
noncomputable def o138 (_ : Params) : Obj := ⟨(.type "code"), .none, (.fields ⟨[(.str "self_issued" 351), (.str "Certificate.self_issued" 352), (.str "/claim/cut.py" 353), (.int 62 0), (.int 1 0), (.int 0 0), (.int 0 0), (.int 3 0), (.ref 135), (.bool .true), (.int 181 0), (.ref 136), .none, (.ref 137), (.ref 138), (.ref 139), (.int 355 0), (.int 62 0), (.str "/claim/cut.py" 356)]⟩), ⟨[]⟩⟩
noncomputable def o139 (_ : Params) : Obj := ⟨(.type "function"), .none, .func ⟨"self_issued", "Certificate.self_issued", argsOf (sub 8 2), .stmts (bodyOf (sub 8 2)), scopeOf (sub 8 2), 3, [], .none, .none, .none, (.str "certvalidator._types" 204), .none, (.ref 140), .none, 0⟩, ⟨[]⟩⟩
noncomputable def o140 (_ : Params) : Obj := ⟨(.type "property"), .none, (.fields ⟨[(.ref 141), .none, .none, .none, (.str "self_issued" 358), (.bool .false)]⟩), ⟨[]⟩⟩
noncomputable def o141 (_ : Params) : Obj := ⟨(.type "tuple"), .none, (.seq ⟨[]⟩ 0), ⟨[]⟩⟩
noncomputable def o142 (_ : Params) : Obj := ⟨.none, .none, (.fields ⟨[]⟩), ⟨[]⟩⟩
noncomputable def o143 (_ : Params) : Obj := ⟨(.type "tuple"), .none, (.seq ⟨[(.str "self" 362)]⟩ 0), ⟨[]⟩⟩
noncomputable def o144 (_ : Params) : Obj := ⟨(.type "tuple"), .none, (.seq ⟨[]⟩ 0), ⟨[]⟩⟩
noncomputable def o145 (_ : Params) : Obj := ⟨.none, .none, .func ⟨"self_signed", "Certificate.self_signed", argsOf (sub 8 3), .stmts (bodyOf (sub 8 3)), scopeOf (sub 8 3), 0, [], .none, .none, .none, .none, .none, .none, .none, 0⟩, ⟨[]⟩⟩
noncomputable def o146 (_ : Params) : Obj := ⟨(.type "code"), .none, (.fields ⟨[(.str "self_signed" 359), (.str "Certificate.self_signed" 360), (.str "/claim/cut.py" 361), (.int 66 0), (.int 1 0), (.int 0 0), (.int 0 0), (.int 3 0), (.ref 143), (.bool .true), (.int 181 0), (.ref 144), .none, (.ref 145), (.ref 146), (.ref 147), (.int 363 0), (.int 66 0), (.str "/claim/cut.py" 364)]⟩), ⟨[]⟩⟩
noncomputable def o147 (_ : Params) : Obj := ⟨(.type "function"), .none, .func ⟨"self_signed", "Certificate.self_signed", argsOf (sub 8 3), .stmts (bodyOf (sub 8 3)), scopeOf (sub 8 3), 3, [], .none, .none, .none, (.str "certvalidator._types" 204), .none, (.ref 148), .none, 0⟩, ⟨[]⟩⟩
noncomputable def o148 (_ : Params) : Obj := ⟨(.type "property"), .none, (.fields ⟨[(.ref 149), .none, .none, .none, (.str "self_signed" 366), (.bool .false)]⟩), ⟨[]⟩⟩
noncomputable def o149 (_ : Params) : Obj := ⟨(.type "tuple"), .none, (.seq ⟨[]⟩ 0), ⟨[]⟩⟩
noncomputable def o150 (_ : Params) : Obj := ⟨.none, .none, (.fields ⟨[]⟩), ⟨[]⟩⟩
noncomputable def o151 (_ : Params) : Obj := ⟨(.type "tuple"), .none, (.seq ⟨[(.str "self" 370), (.str "key" 371)]⟩ 0), ⟨[]⟩⟩
noncomputable def o152 (_ : Params) : Obj := ⟨(.type "tuple"), .none, (.seq ⟨[]⟩ 0), ⟨[]⟩⟩
noncomputable def o153 (_ : Params) : Obj := ⟨.none, .none, .func ⟨"__getitem__", "Certificate.__getitem__", argsOf (sub 8 4), .stmts (bodyOf (sub 8 4)), scopeOf (sub 8 4), 0, [], .none, .none, .none, .none, .none, .none, .none, 0⟩, ⟨[]⟩⟩
noncomputable def o154 (_ : Params) : Obj := ⟨(.type "code"), .none, (.fields ⟨[(.str "__getitem__" 367), (.str "Certificate.__getitem__" 368), (.str "/claim/cut.py" 369), (.int 70 0), (.int 2 0), (.int 0 0), (.int 0 0), (.int 3 0), (.ref 151), (.bool .true), (.int 181 0), (.ref 152), .none, (.ref 153), (.ref 154), (.ref 155), (.int 372 0), (.int 70 0), (.str "/claim/cut.py" 373)]⟩), ⟨[]⟩⟩
noncomputable def o155 (_ : Params) : Obj := ⟨(.type "function"), .none, .func ⟨"__getitem__", "Certificate.__getitem__", argsOf (sub 8 4), .stmts (bodyOf (sub 8 4)), scopeOf (sub 8 4), 3, [], .none, .none, .none, (.str "certvalidator._types" 204), .none, (.ref 156), .none, 0⟩, ⟨[]⟩⟩
noncomputable def o156 (_ : Params) : Obj := ⟨(.type "tuple"), .none, (.seq ⟨[(.str "authority_issuer_serial" 375), (.str "authority_key_identifier" 376), (.str "ca" 377), (.str "certificate_policies_value" 378), (.str "critical_extensions" 379), (.str "extended_key_usage_value" 380), (.str "hash_algo" 381), (.str "inhibit_any_policy_value" 382), (.str "issuer" 383), (.str "key_identifier" 384), (.str "key_usage_value" 385), (.str "max_path_length" 386), (.str "not_after" 387), (.str "not_before" 388), (.str "policy_constraints_value" 389), (.str "policy_mappings_value" 390), (.str "public_key" 391), (.str "serial_number" 392), (.str "sha1" 393), (.str "sha256" 394), (.str "signature" 395), (.str "signature_algo" 396), (.str "signer" 397), (.str "subject" 398)]⟩ 0), ⟨[]⟩⟩
noncomputable def o157 (P : Params) : Obj := ⟨(.type "dict"), .none, (.dict ⟨[⟨(PySem.PyData.keyHash P "__module__"), (.str "__module__" 326), (.str "certvalidator._types" 204)⟩, ⟨(PySem.PyData.keyHash P "__firstlineno__"), (.str "__firstlineno__" 330), (.int 30 329)⟩, ⟨(PySem.PyData.keyHash P "__init__"), (.str "__init__" 342), (.ref 126)⟩, ⟨(PySem.PyData.keyHash P "issuer_serial"), (.str "issuer_serial" 350), (.ref 134)⟩, ⟨(PySem.PyData.keyHash P "self_issued"), (.str "self_issued" 358), (.ref 142)⟩, ⟨(PySem.PyData.keyHash P "self_signed"), (.str "self_signed" 366), (.ref 150)⟩, ⟨(PySem.PyData.keyHash P "__getitem__"), (.str "__getitem__" 374), (.ref 157)⟩, ⟨(PySem.PyData.keyHash P "__static_attributes__"), (.str "__static_attributes__" 399), (.ref 158)⟩, ⟨(PySem.PyData.keyHash P "__dict__"), (.str "__dict__" 401), (.ref 161)⟩, ⟨(PySem.PyData.keyHash P "__weakref__"), (.str "__weakref__" 403), (.ref 162)⟩, ⟨(PySem.PyData.keyHash P "__doc__"), (.str "__doc__" 404), .none⟩]⟩ 4), ⟨[]⟩⟩
noncomputable def o158 (_ : Params) : Obj := ⟨(.type "type"), .none, (.cls ⟨"Certificate", [(.type "object")], [(.ref 160), (.type "object")], 159, "Certificate", .true, [], [], .false, .none, .false⟩), ⟨[.none, .none, (.some (.str "Certificate" 319)), (.some (.str "Certificate" 327)), (.some (.builtin "object.__new__")), (.some (.bool .true))]⟩⟩
noncomputable def o159 (_ : Params) : Obj := ⟨(.type "getset_descriptor"), .none, (.fields ⟨[(.str "__dict__" 400), (.ref 160), (.builtin "function.__dict__"), (.builtin "function.__dict__#set")]⟩), ⟨[]⟩⟩
noncomputable def o160 (_ : Params) : Obj := ⟨(.type "getset_descriptor"), .none, (.fields ⟨[(.str "__weakref__" 402), (.ref 160), (.builtin "ExceptionGroup.__weakref__"), .none]⟩), ⟨[]⟩⟩
noncomputable def o161 (_ : Params) : Obj := ⟨(.type "super"), .none, (.fields ⟨[(.ref 160), (.ref 160), (.ref 160)]⟩), ⟨[]⟩⟩
noncomputable def o162 (_ : Params) : Obj := ⟨(.type "builtin_function_or_method"), .none, (.fields ⟨[(.builtin "object.__init_subclass__"), (.ref 160)]⟩), ⟨[]⟩⟩
noncomputable def tree4 (P : Params) : BT := (.node (boot_o_0 P) (.node (boot_o_1 P) (.node (o109 P) (.node (boot_o_7 P) (.node (o7 P) (.node (o23 P) (.node (o57 P) (.node (o125 P) .nil .nil) .nil) (.node (o91 P) (.node (o157 P) .nil .nil) .nil)) (.node (o39 P) (.node (o73 P) (.node (o141 P) .nil .nil) .nil) (.node (o107 P) .nil .nil))) (.node (o15 P) (.node (o31 P) (.node (o65 P) (.node (o133 P) .nil .nil) .nil) (.node (o99 P) .nil .nil)) (.node (o47 P) (.node (o81 P) (.node (o149 P) .nil .nil) .nil) (.node (o117 P) .nil .nil)))) (.node (o1 P) (.node (o11 P) (.node (o27 P) (.node (o61 P) (.node (o129 P) .nil .nil) .nil) (.node (o95 P) (.node (o161 P) .nil .nil) .nil)) (.node (o43 P) (.node (o77 P) (.node (o145 P) .nil .nil) .nil) (.node (o113 P) .nil .nil))) (.node (o19 P) (.node (o35 P) (.node (o69 P) (.node (o137 P) .nil .nil) .nil) (.node (o103 P) .nil .nil)) (.node (o53 P) (.node (o85 P) (.node (o153 P) .nil .nil) .nil) (.node (o121 P) .nil .nil))))) (.node (boot_o_5 P) (.node (boot_o_9 P) (.node (o9 P) (.node (o25 P) (.node (o59 P) (.node (o127 P) .nil .nil) .nil) (.node (o93 P) (.node (o159 P) .nil .nil) .nil)) (.node (o41 P) (.node (o75 P) (.node (o143 P) .nil .nil) .nil) (.node (o111 P) .nil .nil))) (.node (o17 P) (.node (o33 P) (.node (o67 P) (.node (o135 P) .nil .nil) .nil) (.node (o101 P) .nil .nil)) (.node (o51 P) (.node (o83 P) (.node (o151 P) .nil .nil) .nil) (.node (o119 P) .nil .nil)))) (.node (o3 P) (.node (o13 P) (.node (o29 P) (.node (o63 P) (.node (o131 P) .nil .nil) .nil) (.node (o97 P) .nil .nil)) (.node (o45 P) (.node (o79 P) (.node (o147 P) .nil .nil) .nil) (.node (o115 P) .nil .nil))) (.node (o21 P) (.node (o37 P) (.node (o71 P) (.node (o139 P) .nil .nil) .nil) (.node (o105 P) .nil .nil)) (.node (o55 P) (.node (o89 P) (.node (o155 P) .nil .nil) .nil) (.node (o123 P) .nil .nil)))))) (.node (boot_o_2 P) (.node (boot_o_4 P) (.node (boot_o_8 P) (.node (o8 P) (.node (o24 P) (.node (o58 P) (.node (o126 P) .nil .nil) .nil) (.node (o92 P) (.node (o158 P) .nil .nil) .nil)) (.node (o40 P) (.node (o74 P) (.node (o142 P) .nil .nil) .nil) (.node (o108 P) .nil .nil))) (.node (o16 P) (.node (o32 P) (.node (o66 P) (.node (o134 P) .nil .nil) .nil) (.node (o100 P) .nil .nil)) (.node (o48 P) (.node (o82 P) (.node (o150 P) .nil .nil) .nil) (.node (o118 P) .nil .nil)))) (.node (o110 P) (.node (o12 P) (.node (o28 P) (.node (o62 P) (.node (o130 P) .nil .nil) .nil) (.node (o96 P) (.node (o162 P) .nil .nil) .nil)) (.node (o44 P) (.node (o78 P) (.node (o146 P) .nil .nil) .nil) (.node (o114 P) .nil .nil))) (.node (o20 P) (.node (o36 P) (.node (o70 P) (.node (o138 P) .nil .nil) .nil) (.node (o104 P) .nil .nil)) (.node (o54 P) (.node (o88 P) (.node (o154 P) .nil .nil) .nil) (.node (o122 P) .nil .nil))))) (.node (boot_o_6 P) (.node (boot_o_10 P) (.node (o10 P) (.node (o26 P) (.node (o60 P) (.node (o128 P) .nil .nil) .nil) (.node (o94 P) (.node (o160 P) .nil .nil) .nil)) (.node (o42 P) (.node (o76 P) (.node (o144 P) .nil .nil) .nil) (.node (o112 P) .nil .nil))) (.node (o18 P) (.node (o34 P) (.node (o68 P) (.node (o136 P) .nil .nil) .nil) (.node (o102 P) .nil .nil)) (.node (o52 P) (.node (o84 P) (.node (o152 P) .nil .nil) .nil) (.node (o120 P) .nil .nil)))) (.node (o4 P) (.node (o14 P) (.node (o30 P) (.node (o64 P) (.node (o132 P) .nil .nil) .nil) (.node (o98 P) .nil .nil)) (.node (o46 P) (.node (o80 P) (.node (o148 P) .nil .nil) .nil) (.node (o116 P) .nil .nil))) (.node (o22 P) (.node (o38 P) (.node (o72 P) (.node (o140 P) .nil .nil) .nil) (.node (o106 P) .nil .nil)) (.node (o56 P) (.node (o90 P) (.node (o156 P) .nil .nil) .nil) (.node (o124 P) .nil .nil)))))))
noncomputable def o163 (P : Params) : Obj := ⟨.none, .none, (.dict ⟨[⟨(PySem.PyData.keyHash P "type.__subclasses__.Exception.0"), (.str "type.__subclasses__.Exception.0" 425), (.int 174 0)⟩, ⟨(PySem.PyData.keyHash P "type.__subclasses__.Exception.n"), (.str "type.__subclasses__.Exception.n" 426), (.int 1 0)⟩]⟩ 2), ⟨[]⟩⟩
noncomputable def o164 (P : Params) : Obj := ⟨(.type "dict"), .none, (.dict ⟨[⟨(PySem.PyData.keyHash P "__name__"), (.str "__name__" 165), (.str "certvalidator.errors" 407)⟩, ⟨(PySem.PyData.keyHash P "__doc__"), (.str "__doc__" 166), .none⟩, ⟨(PySem.PyData.keyHash P "__package__"), (.str "__package__" 167), .none⟩, ⟨(PySem.PyData.keyHash P "__loader__"), (.str "__loader__" 168), (.builtin "__main__.__loader__#opaque")⟩, ⟨(PySem.PyData.keyHash P "__spec__"), (.str "__spec__" 169), .none⟩, ⟨(PySem.PyData.keyHash P "__annotations__"), (.str "__annotations__" 170), (.ref 6)⟩, ⟨(PySem.PyData.keyHash P "__builtins__"), (.str "__builtins__" 171), (.ref 4)⟩, ⟨(PySem.PyData.keyHash P "__file__"), (.str "__file__" 173), (.str "/claim/cut.py" 172)⟩, ⟨(PySem.PyData.keyHash P "__cached__"), (.str "__cached__" 174), .none⟩, ⟨(PySem.PyData.keyHash P "_wall"), (.str "_wall" 193), (.ref 21)⟩, ⟨(PySem.PyData.keyHash P "pretty_message"), (.str "pretty_message" 203), (.ref 28)⟩, ⟨(PySem.PyData.keyHash P "type_name"), (.str "type_name" 212), (.ref 35)⟩, ⟨(PySem.PyData.keyHash P "Native"), (.str "Native" 241), (.ref 52)⟩, ⟨(PySem.PyData.keyHash P "Name"), (.str "Name" 288), (.ref 87)⟩, ⟨(PySem.PyData.keyHash P "Key"), (.str "Key" 318), (.ref 108)⟩, ⟨(PySem.PyData.keyHash P "Certificate"), (.str "Certificate" 406), (.ref 160)⟩, ⟨(PySem.PyData.keyHash P "PathError"), (.str "PathError" 428), (.ref 174)⟩, ⟨(PySem.PyData.keyHash P "PathBuildingError"), (.str "PathBuildingError" 444), (.ref 187)⟩]⟩ 18), ⟨[]⟩⟩
noncomputable def o165 (_ : Params) : Obj := ⟨.none, .none, (.fields ⟨[(.int 1 0), (.int 0 0), (.ref 20), (.int 5 0), (.int 0 0), (.ref 27), (.int 8 0), (.int 0 0), (.ref 34), (.int 10 0), (.int 0 0), (.ref 41), (.int 14 0), (.int 0 0), (.ref 62), (.int 25 0), (.int 0 0), (.ref 97), (.int 30 0), (.int 0 0), (.ref 118), (.int 75 0), (.int 0 0), (.ref 170), (.int 77 0), (.int 0 0), (.ref 183)]⟩), ⟨[]⟩⟩
noncomputable def o166 (_ : Params) : Obj := ⟨(.type "tuple"), .none, (.seq ⟨[(.type "Exception")]⟩ 0), ⟨[]⟩⟩
noncomputable def o167 (_ : Params) : Obj := ⟨(.type "builtin_function_or_method"), .none, (.fields ⟨[(.builtin "type.__prepare__"), (.type "type")]⟩), ⟨[]⟩⟩
noncomputable def o168 (P : Params) : Obj := ⟨(.type "dict"), .none, (.dict ⟨[⟨(PySem.PyData.keyHash P "__module__"), (.str "__module__" 416), (.str "certvalidator.errors" 407)⟩, ⟨(PySem.PyData.keyHash P "__qualname__"), (.str "__qualname__" 418), (.str "PathError" 417)⟩, ⟨(PySem.PyData.keyHash P "__firstlineno__"), (.str "__firstlineno__" 420), (.int 75 419)⟩, ⟨(PySem.PyData.keyHash P "__static_attributes__"), (.str "__static_attributes__" 421), (.ref 172)⟩]⟩ 4), ⟨[]⟩⟩
noncomputable def o169 (_ : Params) : Obj := ⟨(.type "tuple"), .none, (.seq ⟨[]⟩ 0), ⟨[]⟩⟩
noncomputable def o170 (_ : Params) : Obj := ⟨.none, .none, (.fields ⟨[]⟩), ⟨[]⟩⟩
noncomputable def o171 (_ : Params) : Obj := ⟨(.type "code"), .none, (.fields ⟨[(.str "PathError" 411), (.str "PathError" 412), (.str "/claim/cut.py" 413), (.int 75 0), (.int 0 0), (.int 0 0), (.int 0 0), (.int 0 0), (.ref 168), (.bool .false), (.int 181 0), (.ref 169), .none, .none, .none, .none, (.int 414 0), (.int 75 0), (.str "/claim/cut.py" 415)]⟩), ⟨[]⟩⟩
noncomputable def o172 (_ : Params) : Obj := ⟨(.type "frame"), .none, .plain, ⟨[(.some (.ref 170)), (.some (.ref 3)), (.some (.ref 167)), .none, (.some (.str "certvalidator.errors" 407)), .none, (.some (.ref 0))]⟩⟩
noncomputable def o173 (_ : Params) : Obj := ⟨(.type "tuple"), .none, (.seq ⟨[]⟩ 0), ⟨[]⟩⟩
noncomputable def o174 (P : Params) : Obj := ⟨(.type "dict"), .none, (.dict ⟨[⟨(PySem.PyData.keyHash P "__module__"), (.str "__module__" 416), (.str "certvalidator.errors" 407)⟩, ⟨(PySem.PyData.keyHash P "__firstlineno__"), (.str "__firstlineno__" 420), (.int 75 419)⟩, ⟨(PySem.PyData.keyHash P "__static_attributes__"), (.str "__static_attributes__" 421), (.ref 172)⟩, ⟨(PySem.PyData.keyHash P "__weakref__"), (.str "__weakref__" 423), (.ref 175)⟩, ⟨(PySem.PyData.keyHash P "__doc__"), (.str "__doc__" 424), .none⟩]⟩ 3), ⟨[]⟩⟩
noncomputable def o175 (_ : Params) : Obj := ⟨(.type "type"), .none, (.cls ⟨"PathError", [(.type "Exception")], [(.ref 174), (.type "Exception"), (.type "BaseException"), (.type "object")], 173, "PathError", .true, [], [(.ref 187)], .false, .none, .false⟩), ⟨[(.some (.ref 165)), .none, (.some (.str "PathError" 409)), (.some (.str "PathError" 417)), (.some (.builtin "Exception.__new__")), (.some (.bool .true))]⟩⟩
noncomputable def o176 (_ : Params) : Obj := ⟨(.type "getset_descriptor"), .none, (.fields ⟨[(.str "__weakref__" 422), (.ref 174), (.builtin "ExceptionGroup.__weakref__"), .none]⟩), ⟨[]⟩⟩
noncomputable def o177 (_ : Params) : Obj := ⟨(.type "super"), .none, (.fields ⟨[(.ref 174), (.ref 174), (.ref 174)]⟩), ⟨[]⟩⟩
noncomputable def o178 (_ : Params) : Obj := ⟨(.type "builtin_function_or_method"), .none, (.fields ⟨[(.builtin "object.__init_subclass__"), (.ref 174)]⟩), ⟨[]⟩⟩
noncomputable def o179 (_ : Params) : Obj := ⟨(.type "tuple"), .none, (.seq ⟨[(.ref 174)]⟩ 0), ⟨[]⟩⟩
noncomputable def o180 (_ : Params) : Obj := ⟨(.type "builtin_function_or_method"), .none, (.fields ⟨[(.builtin "type.__prepare__"), (.type "type")]⟩), ⟨[]⟩⟩
noncomputable def o181 (P : Params) : Obj := ⟨(.type "dict"), .none, (.dict ⟨[⟨(PySem.PyData.keyHash P "__module__"), (.str "__module__" 436), (.str "certvalidator.errors" 407)⟩, ⟨(PySem.PyData.keyHash P "__qualname__"), (.str "__qualname__" 438), (.str "PathBuildingError" 437)⟩, ⟨(PySem.PyData.keyHash P "__firstlineno__"), (.str "__firstlineno__" 440), (.int 77 439)⟩, ⟨(PySem.PyData.keyHash P "__static_attributes__"), (.str "__static_attributes__" 441), (.ref 185)⟩]⟩ 4), ⟨[]⟩⟩
noncomputable def o182 (_ : Params) : Obj := ⟨(.type "tuple"), .none, (.seq ⟨[]⟩ 0), ⟨[]⟩⟩
noncomputable def o183 (_ : Params) : Obj := ⟨.none, .none, (.fields ⟨[]⟩), ⟨[]⟩⟩
noncomputable def o184 (_ : Params) : Obj := ⟨(.type "code"), .none, (.fields ⟨[(.str "PathBuildingError" 431), (.str "PathBuildingError" 432), (.str "/claim/cut.py" 433), (.int 77 0), (.int 0 0), (.int 0 0), (.int 0 0), (.int 0 0), (.ref 181), (.bool .false), (.int 181 0), (.ref 182), .none, .none, .none, .none, (.int 434 0), (.int 77 0), (.str "/claim/cut.py" 435)]⟩), ⟨[]⟩⟩
noncomputable def o185 (_ : Params) : Obj := ⟨(.type "frame"), .none, .plain, ⟨[(.some (.ref 183)), (.some (.ref 3)), (.some (.ref 180)), .none, (.some (.str "certvalidator.errors" 407)), .none, (.some (.ref 0))]⟩⟩
noncomputable def o186 (_ : Params) : Obj := ⟨(.type "tuple"), .none, (.seq ⟨[]⟩ 0), ⟨[]⟩⟩
noncomputable def o187 (P : Params) : Obj := ⟨(.type "dict"), .none, (.dict ⟨[⟨(PySem.PyData.keyHash P "__module__"), (.str "__module__" 436), (.str "certvalidator.errors" 407)⟩, ⟨(PySem.PyData.keyHash P "__firstlineno__"), (.str "__firstlineno__" 440), (.int 77 439)⟩, ⟨(PySem.PyData.keyHash P "__static_attributes__"), (.str "__static_attributes__" 441), (.ref 185)⟩, ⟨(PySem.PyData.keyHash P "__doc__"), (.str "__doc__" 442), .none⟩]⟩ 2), ⟨[]⟩⟩
noncomputable def o188 (_ : Params) : Obj := ⟨(.type "type"), .none, (.cls ⟨"PathBuildingError", [(.ref 174)], [(.ref 187), (.ref 174), (.type "Exception"), (.type "BaseException"), (.type "object")], 186, "PathBuildingError", .true, [], [], .false, .none, .false⟩), ⟨[(.some (.ref 178)), .none, (.some (.str "PathBuildingError" 429)), (.some (.str "PathBuildingError" 437)), (.some (.builtin "Exception.__new__")), (.some (.bool .true))]⟩⟩
noncomputable def o189 (_ : Params) : Obj := ⟨(.type "super"), .none, (.fields ⟨[(.ref 187), (.ref 187), (.ref 187)]⟩), ⟨[]⟩⟩
noncomputable def o190 (_ : Params) : Obj := ⟨(.type "builtin_function_or_method"), .none, (.fields ⟨[(.builtin "object.__init_subclass__"), (.ref 187)]⟩), ⟨[]⟩⟩
noncomputable def tree5 (P : Params) : BT := (.node (boot_o_0 P) (.node (boot_o_1 P) (.node (o164 P) (.node (boot_o_7 P) (.node (o7 P) (.node (o23 P) (.node (o57 P) (.node (o125 P) .nil .nil) .nil) (.node (o91 P) (.node (o157 P) .nil .nil) .nil)) (.node (o39 P) (.node (o73 P) (.node (o141 P) .nil .nil) .nil) (.node (o107 P) (.node (o176 P) .nil .nil) .nil))) (.node (o15 P) (.node (o31 P) (.node (o65 P) (.node (o133 P) .nil .nil) .nil) (.node (o99 P) (.node (o168 P) .nil .nil) .nil)) (.node (o47 P) (.node (o81 P) (.node (o149 P) .nil .nil) .nil) (.node (o117 P) (.node (o184 P) .nil .nil) .nil)))) (.node (o1 P) (.node (o11 P) (.node (o27 P) (.node (o61 P) (.node (o129 P) .nil .nil) .nil) (.node (o95 P) (.node (o161 P) .nil .nil) .nil)) (.node (o43 P) (.node (o77 P) (.node (o145 P) .nil .nil) .nil) (.node (o113 P) (.node (o180 P) .nil .nil) .nil))) (.node (o19 P) (.node (o35 P) (.node (o69 P) (.node (o137 P) .nil .nil) .nil) (.node (o103 P) (.node (o172 P) .nil .nil) .nil)) (.node (o53 P) (.node (o85 P) (.node (o153 P) .nil .nil) .nil) (.node (o121 P) (.node (o188 P) .nil .nil) .nil))))) (.node (boot_o_5 P) (.node (boot_o_9 P) (.node (o9 P) (.node (o25 P) (.node (o59 P) (.node (o127 P) .nil .nil) .nil) (.node (o93 P) (.node (o159 P) .nil .nil) .nil)) (.node (o41 P) (.node (o75 P) (.node (o143 P) .nil .nil) .nil) (.node (o111 P) (.node (o178 P) .nil .nil) .nil))) (.node (o17 P) (.node (o33 P) (.node (o67 P) (.node (o135 P) .nil .nil) .nil) (.node (o101 P) (.node (o170 P) .nil .nil) .nil)) (.node (o51 P) (.node (o83 P) (.node (o151 P) .nil .nil) .nil) (.node (o119 P) (.node (o186 P) .nil .nil) .nil)))) (.node (o3 P) (.node (o13 P) (.node (o29 P) (.node (o63 P) (.node (o131 P) .nil .nil) .nil) (.node (o97 P) (.node (o166 P) .nil .nil) .nil)) (.node (o45 P) (.node (o79 P) (.node (o147 P) .nil .nil) .nil) (.node (o115 P) (.node (o182 P) .nil .nil) .nil))) (.node (o21 P) (.node (o37 P) (.node (o71 P) (.node (o139 P) .nil .nil) .nil) (.node (o105 P) (.node (o174 P) .nil .nil) .nil)) (.node (o55 P) (.node (o89 P) (.node (o155 P) .nil .nil) .nil) (.node (o123 P) (.node (o190 P) .nil .nil) .nil)))))) (.node (o163 P) (.node (boot_o_4 P) (.node (boot_o_8 P) (.node (o8 P) (.node (o24 P) (.node (o58 P) (.node (o126 P) .nil .nil) .nil) (.node (o92 P) (.node (o158 P) .nil .nil) .nil)) (.node (o40 P) (.node (o74 P) (.node (o142 P) .nil .nil) .nil) (.node (o108 P) (.node (o177 P) .nil .nil) .nil))) (.node (o16 P) (.node (o32 P) (.node (o66 P) (.node (o134 P) .nil .nil) .nil) (.node (o100 P) (.node (o169 P) .nil .nil) .nil)) (.node (o48 P) (.node (o82 P) (.node (o150 P) .nil .nil) .nil) (.node (o118 P) (.node (o185 P) .nil .nil) .nil)))) (.node (o165 P) (.node (o12 P) (.node (o28 P) (.node (o62 P) (.node (o130 P) .nil .nil) .nil) (.node (o96 P) (.node (o162 P) .nil .nil) .nil)) (.node (o44 P) (.node (o78 P) (.node (o146 P) .nil .nil) .nil) (.node (o114 P) (.node (o181 P) .nil .nil) .nil))) (.node (o20 P) (.node (o36 P) (.node (o70 P) (.node (o138 P) .nil .nil) .nil) (.node (o104 P) (.node (o173 P) .nil .nil) .nil)) (.node (o54 P) (.node (o88 P) (.node (o154 P) .nil .nil) .nil) (.node (o122 P) (.node (o189 P) .nil .nil) .nil))))) (.node (boot_o_6 P) (.node (boot_o_10 P) (.node (o10 P) (.node (o26 P) (.node (o60 P) (.node (o128 P) .nil .nil) .nil) (.node (o94 P) (.node (o160 P) .nil .nil) .nil)) (.node (o42 P) (.node (o76 P) (.node (o144 P) .nil .nil) .nil) (.node (o112 P) (.node (o179 P) .nil .nil) .nil))) (.node (o18 P) (.node (o34 P) (.node (o68 P) (.node (o136 P) .nil .nil) .nil) (.node (o102 P) (.node (o171 P) .nil .nil) .nil)) (.node (o52 P) (.node (o84 P) (.node (o152 P) .nil .nil) .nil) (.node (o120 P) (.node (o187 P) .nil .nil) .nil)))) (.node (o4 P) (.node (o14 P) (.node (o30 P) (.node (o64 P) (.node (o132 P) .nil .nil) .nil) (.node (o98 P) (.node (o167 P) .nil .nil) .nil)) (.node (o46 P) (.node (o80 P) (.node (o148 P) .nil .nil) .nil) (.node (o116 P) (.node (o183 P) .nil .nil) .nil))) (.node (o22 P) (.node (o38 P) (.node (o72 P) (.node (o140 P) .nil .nil) .nil) (.node (o106 P) (.node (o175 P) .nil .nil) .nil)) (.node (o56 P) (.node (o90 P) (.node (o156 P) .nil .nil) .nil) (.node (o124 P) .nil .nil)))))))
noncomputable def o191 (P : Params) : Obj := ⟨(.type "dict"), .none, (.dict ⟨[⟨(PySem.PyData.keyHash P "__name__"), (.str "__name__" 165), (.str "certvalidator.path" 461)⟩, ⟨(PySem.PyData.keyHash P "__doc__"), (.str "__doc__" 166), .none⟩, ⟨(PySem.PyData.keyHash P "__package__"), (.str "__package__" 167), .none⟩, ⟨(PySem.PyData.keyHash P "__loader__"), (.str "__loader__" 168), (.builtin "__main__.__loader__#opaque")⟩, ⟨(PySem.PyData.keyHash P "__spec__"), (.str "__spec__" 169), .none⟩, ⟨(PySem.PyData.keyHash P "__annotations__"), (.str "__annotations__" 170), (.ref 6)⟩, ⟨(PySem.PyData.keyHash P "__builtins__"), (.str "__builtins__" 171), (.ref 4)⟩, ⟨(PySem.PyData.keyHash P "__file__"), (.str "__file__" 173), (.str "/claim/cut.py" 172)⟩, ⟨(PySem.PyData.keyHash P "__cached__"), (.str "__cached__" 174), .none⟩, ⟨(PySem.PyData.keyHash P "_wall"), (.str "_wall" 193), (.ref 21)⟩, ⟨(PySem.PyData.keyHash P "pretty_message"), (.str "pretty_message" 203), (.ref 28)⟩, ⟨(PySem.PyData.keyHash P "type_name"), (.str "type_name" 212), (.ref 35)⟩, ⟨(PySem.PyData.keyHash P "Native"), (.str "Native" 241), (.ref 52)⟩, ⟨(PySem.PyData.keyHash P "Name"), (.str "Name" 288), (.ref 87)⟩, ⟨(PySem.PyData.keyHash P "Key"), (.str "Key" 318), (.ref 108)⟩, ⟨(PySem.PyData.keyHash P "Certificate"), (.str "Certificate" 406), (.ref 160)⟩, ⟨(PySem.PyData.keyHash P "PathError"), (.str "PathError" 428), (.ref 174)⟩, ⟨(PySem.PyData.keyHash P "PathBuildingError"), (.str "PathBuildingError" 444), (.ref 187)⟩, ⟨(PySem.PyData.keyHash P "DuplicateCertificateError"), (.str "DuplicateCertificateError" 460), (.ref 199)⟩]⟩ 19), ⟨[]⟩⟩
noncomputable def o192 (_ : Params) : Obj := ⟨.none, .none, (.fields ⟨[(.int 1 0), (.int 0 0), (.ref 20), (.int 5 0), (.int 0 0), (.ref 27), (.int 8 0), (.int 0 0), (.ref 34), (.int 10 0), (.int 0 0), (.ref 41), (.int 14 0), (.int 0 0), (.ref 62), (.int 25 0), (.int 0 0), (.ref 97), (.int 30 0), (.int 0 0), (.ref 118), (.int 75 0), (.int 0 0), (.ref 170), (.int 77 0), (.int 0 0), (.ref 183), (.int 79 0), (.int 0 0), (.ref 195)]⟩), ⟨[]⟩⟩
noncomputable def o193 (_ : Params) : Obj := ⟨(.type "type"), .none, (.cls ⟨"PathError", [(.type "Exception")], [(.ref 174), (.type "Exception"), (.type "BaseException"), (.type "object")], 173, "PathError", .true, [], [(.ref 187), (.ref 199)], .false, .none, .false⟩), ⟨[(.some (.ref 165)), .none, (.some (.str "PathError" 409)), (.some (.str "PathError" 417)), (.some (.builtin "Exception.__new__")), (.some (.bool .true))]⟩⟩
noncomputable def o194 (_ : Params) : Obj := ⟨(.type "tuple"), .none, (.seq ⟨[(.ref 174)]⟩ 0), ⟨[]⟩⟩
noncomputable def o195 (_ : Params) : Obj := ⟨(.type "builtin_function_or_method"), .none, (.fields ⟨[(.builtin "type.__prepare__"), (.type "type")]⟩), ⟨[]⟩⟩
noncomputable def o196 (P : Params) : Obj := ⟨(.type "dict"), .none, (.dict ⟨[⟨(PySem.PyData.keyHash P "__module__"), (.str "__module__" 452), (.str "certvalidator.errors" 407)⟩, ⟨(PySem.PyData.keyHash P "__qualname__"), (.str "__qualname__" 454), (.str "DuplicateCertificateError" 453)⟩, ⟨(PySem.PyData.keyHash P "__firstlineno__"), (.str "__firstlineno__" 456), (.int 79 455)⟩, ⟨(PySem.PyData.keyHash P "__static_attributes__"), (.str "__static_attributes__" 457), (.ref 197)⟩]⟩ 4), ⟨[]⟩⟩
noncomputable def o197 (_ : Params) : Obj := ⟨(.type "tuple"), .none, (.seq ⟨[]⟩ 0), ⟨[]⟩⟩
noncomputable def o198 (_ : Params) : Obj := ⟨.none, .none, (.fields ⟨[]⟩), ⟨[]⟩⟩
noncomputable def o199 (_ : Params) : Obj := ⟨(.type "code"), .none, (.fields ⟨[(.str "DuplicateCertificateError" 447), (.str "DuplicateCertificateError" 448), (.str "/claim/cut.py" 449), (.int 79 0), (.int 0 0), (.int 0 0), (.int 0 0), (.int 0 0), (.ref 193), (.bool .false), (.int 181 0), (.ref 194), .none, .none, .none, .none, (.int 450 0), (.int 79 0), (.str "/claim/cut.py" 451)]⟩), ⟨[]⟩⟩
noncomputable def o200 (_ : Params) : Obj := ⟨(.type "frame"), .none, .plain, ⟨[(.some (.ref 195)), (.some (.ref 3)), (.some (.ref 192)), .none, (.some (.str "certvalidator.errors" 407)), .none, (.some (.ref 0))]⟩⟩
noncomputable def o201 (_ : Params) : Obj := ⟨(.type "tuple"), .none, (.seq ⟨[]⟩ 0), ⟨[]⟩⟩
noncomputable def o202 (P : Params) : Obj := ⟨(.type "dict"), .none, (.dict ⟨[⟨(PySem.PyData.keyHash P "__module__"), (.str "__module__" 452), (.str "certvalidator.errors" 407)⟩, ⟨(PySem.PyData.keyHash P "__firstlineno__"), (.str "__firstlineno__" 456), (.int 79 455)⟩, ⟨(PySem.PyData.keyHash P "__static_attributes__"), (.str "__static_attributes__" 457), (.ref 197)⟩, ⟨(PySem.PyData.keyHash P "__doc__"), (.str "__doc__" 458), .none⟩]⟩ 2), ⟨[]⟩⟩
noncomputable def o203 (_ : Params) : Obj := ⟨(.type "type"), .none, (.cls ⟨"DuplicateCertificateError", [(.ref 174)], [(.ref 199), (.ref 174), (.type "Exception"), (.type "BaseException"), (.type "object")], 198, "DuplicateCertificateError", .true, [], [], .false, .none, .false⟩), ⟨[(.some (.ref 190)), .none, (.some (.str "DuplicateCertificateError" 445)), (.some (.str "DuplicateCertificateError" 453)), (.some (.builtin "Exception.__new__")), (.some (.bool .true))]⟩⟩
noncomputable def o204 (_ : Params) : Obj := ⟨(.type "super"), .none, (.fields ⟨[(.ref 199), (.ref 199), (.ref 199)]⟩), ⟨[]⟩⟩
noncomputable def o205 (_ : Params) : Obj := ⟨(.type "builtin_function_or_method"), .none, (.fields ⟨[(.builtin "object.__init_subclass__"), (.ref 199)]⟩), ⟨[]⟩⟩
noncomputable def tree6 (P : Params) : BT := (.node (boot_o_0 P) (.node (boot_o_1 P) (.node (o191 P) (.node (boot_o_7 P) (.node (o7 P) (.node (o23 P) (.node (o57 P) (.node (o125 P) .nil .nil) (.node (o195 P) .nil .nil)) (.node (o91 P) (.node (o157 P) .nil .nil) .nil)) (.node (o39 P) (.node (o73 P) (.node (o141 P) .nil .nil) .nil) (.node (o107 P) (.node (o176 P) .nil .nil) .nil))) (.node (o15 P) (.node (o31 P) (.node (o65 P) (.node (o133 P) .nil .nil) (.node (o203 P) .nil .nil)) (.node (o99 P) (.node (o168 P) .nil .nil) .nil)) (.node (o47 P) (.node (o81 P) (.node (o149 P) .nil .nil) .nil) (.node (o117 P) (.node (o184 P) .nil .nil) .nil)))) (.node (o1 P) (.node (o11 P) (.node (o27 P) (.node (o61 P) (.node (o129 P) .nil .nil) (.node (o199 P) .nil .nil)) (.node (o95 P) (.node (o161 P) .nil .nil) .nil)) (.node (o43 P) (.node (o77 P) (.node (o145 P) .nil .nil) .nil) (.node (o113 P) (.node (o180 P) .nil .nil) .nil))) (.node (o19 P) (.node (o35 P) (.node (o69 P) (.node (o137 P) .nil .nil) .nil) (.node (o103 P) (.node (o172 P) .nil .nil) .nil)) (.node (o53 P) (.node (o85 P) (.node (o153 P) .nil .nil) .nil) (.node (o121 P) (.node (o188 P) .nil .nil) .nil))))) (.node (boot_o_5 P) (.node (boot_o_9 P) (.node (o9 P) (.node (o25 P) (.node (o59 P) (.node (o127 P) .nil .nil) (.node (o197 P) .nil .nil)) (.node (o93 P) (.node (o159 P) .nil .nil) .nil)) (.node (o41 P) (.node (o75 P) (.node (o143 P) .nil .nil) .nil) (.node (o111 P) (.node (o178 P) .nil .nil) .nil))) (.node (o17 P) (.node (o33 P) (.node (o67 P) (.node (o135 P) .nil .nil) (.node (o205 P) .nil .nil)) (.node (o101 P) (.node (o170 P) .nil .nil) .nil)) (.node (o51 P) (.node (o83 P) (.node (o151 P) .nil .nil) .nil) (.node (o119 P) (.node (o186 P) .nil .nil) .nil)))) (.node (o3 P) (.node (o13 P) (.node (o29 P) (.node (o63 P) (.node (o131 P) .nil .nil) (.node (o201 P) .nil .nil)) (.node (o97 P) (.node (o166 P) .nil .nil) .nil)) (.node (o45 P) (.node (o79 P) (.node (o147 P) .nil .nil) .nil) (.node (o115 P) (.node (o182 P) .nil .nil) .nil))) (.node (o21 P) (.node (o37 P) (.node (o71 P) (.node (o139 P) .nil .nil) .nil) (.node (o105 P) (.node (o174 P) .nil .nil) .nil)) (.node (o55 P) (.node (o89 P) (.node (o155 P) .nil .nil) .nil) (.node (o123 P) (.node (o190 P) .nil .nil) .nil)))))) (.node (o163 P) (.node (boot_o_4 P) (.node (boot_o_8 P) (.node (o8 P) (.node (o24 P) (.node (o58 P) (.node (o126 P) .nil .nil) (.node (o196 P) .nil .nil)) (.node (o92 P) (.node (o158 P) .nil .nil) .nil)) (.node (o40 P) (.node (o74 P) (.node (o142 P) .nil .nil) .nil) (.node (o108 P) (.node (o177 P) .nil .nil) .nil))) (.node (o16 P) (.node (o32 P) (.node (o66 P) (.node (o134 P) .nil .nil) (.node (o204 P) .nil .nil)) (.node (o100 P) (.node (o169 P) .nil .nil) .nil)) (.node (o48 P) (.node (o82 P) (.node (o150 P) .nil .nil) .nil) (.node (o118 P) (.node (o185 P) .nil .nil) .nil)))) (.node (o192 P) (.node (o12 P) (.node (o28 P) (.node (o62 P) (.node (o130 P) .nil .nil) (.node (o200 P) .nil .nil)) (.node (o96 P) (.node (o162 P) .nil .nil) .nil)) (.node (o44 P) (.node (o78 P) (.node (o146 P) .nil .nil) .nil) (.node (o114 P) (.node (o181 P) .nil .nil) .nil))) (.node (o20 P) (.node (o36 P) (.node (o70 P) (.node (o138 P) .nil .nil) .nil) (.node (o104 P) (.node (o173 P) .nil .nil) .nil)) (.node (o54 P) (.node (o88 P) (.node (o154 P) .nil .nil) .nil) (.node (o122 P) (.node (o189 P) .nil .nil) .nil))))) (.node (boot_o_6 P) (.node (boot_o_10 P) (.node (o10 P) (.node (o26 P) (.node (o60 P) (.node (o128 P) .nil .nil) (.node (o198 P) .nil .nil)) (.node (o94 P) (.node (o160 P) .nil .nil) .nil)) (.node (o42 P) (.node (o76 P) (.node (o144 P) .nil .nil) .nil) (.node (o112 P) (.node (o179 P) .nil .nil) .nil))) (.node (o18 P) (.node (o34 P) (.node (o68 P) (.node (o136 P) .nil .nil) .nil) (.node (o102 P) (.node (o171 P) .nil .nil) .nil)) (.node (o52 P) (.node (o84 P) (.node (o152 P) .nil .nil) .nil) (.node (o120 P) (.node (o187 P) .nil .nil) .nil)))) (.node (o4 P) (.node (o14 P) (.node (o30 P) (.node (o64 P) (.node (o132 P) .nil .nil) (.node (o202 P) .nil .nil)) (.node (o98 P) (.node (o167 P) .nil .nil) .nil)) (.node (o46 P) (.node (o80 P) (.node (o148 P) .nil .nil) .nil) (.node (o116 P) (.node (o183 P) .nil .nil) .nil))) (.node (o22 P) (.node (o38 P) (.node (o72 P) (.node (o140 P) .nil .nil) .nil) (.node (o106 P) (.node (o193 P) .nil .nil) .nil)) (.node (o56 P) (.node (o90 P) (.node (o156 P) .nil .nil) .nil) (.node (o124 P) (.node (o194 P) .nil .nil) .nil)))))))
noncomputable def o206 (P : Params) : Obj := ⟨(.type "dict"), .none, (.dict ⟨[⟨(PySem.PyData.keyHash P "__name__"), (.str "__name__" 165), (.str "certvalidator.path" 461)⟩, ⟨(PySem.PyData.keyHash P "__doc__"), (.str "__doc__" 166), .none⟩, ⟨(PySem.PyData.keyHash P "__package__"), (.str "__package__" 167), .none⟩, ⟨(PySem.PyData.keyHash P "__loader__"), (.str "__loader__" 168), (.builtin "__main__.__loader__#opaque")⟩, ⟨(PySem.PyData.keyHash P "__spec__"), (.str "__spec__" 169), .none⟩, ⟨(PySem.PyData.keyHash P "__annotations__"), (.str "__annotations__" 170), (.ref 6)⟩, ⟨(PySem.PyData.keyHash P "__builtins__"), (.str "__builtins__" 171), (.ref 4)⟩, ⟨(PySem.PyData.keyHash P "__file__"), (.str "__file__" 173), (.str "/claim/cut.py" 172)⟩, ⟨(PySem.PyData.keyHash P "__cached__"), (.str "__cached__" 174), .none⟩, ⟨(PySem.PyData.keyHash P "_wall"), (.str "_wall" 193), (.ref 21)⟩, ⟨(PySem.PyData.keyHash P "pretty_message"), (.str "pretty_message" 203), (.ref 28)⟩, ⟨(PySem.PyData.keyHash P "type_name"), (.str "type_name" 212), (.ref 35)⟩, ⟨(PySem.PyData.keyHash P "Native"), (.str "Native" 241), (.ref 52)⟩, ⟨(PySem.PyData.keyHash P "Name"), (.str "Name" 288), (.ref 87)⟩, ⟨(PySem.PyData.keyHash P "Key"), (.str "Key" 318), (.ref 108)⟩, ⟨(PySem.PyData.keyHash P "Certificate"), (.str "Certificate" 406), (.ref 160)⟩, ⟨(PySem.PyData.keyHash P "PathError"), (.str "PathError" 428), (.ref 174)⟩, ⟨(PySem.PyData.keyHash P "PathBuildingError"), (.str "PathBuildingError" 444), (.ref 187)⟩, ⟨(PySem.PyData.keyHash P "DuplicateCertificateError"), (.str "DuplicateCertificateError" 460), (.ref 199)⟩, ⟨(PySem.PyData.keyHash P "ValidationPath"), (.str "ValidationPath" 589), (.ref 304)⟩]⟩ 20), ⟨[]⟩⟩
noncomputable def o207 (_ : Params) : Obj := ⟨.none, .none, (.fields ⟨[(.int 1 0), (.int 0 0), (.ref 20), (.int 5 0), (.int 0 0), (.ref 27), (.int 8 0), (.int 0 0), (.ref 34), (.int 10 0), (.int 0 0), (.ref 41), (.int 14 0), (.int 0 0), (.ref 62), (.int 25 0), (.int 0 0), (.ref 97), (.int 30 0), (.int 0 0), (.ref 118), (.int 75 0), (.int 0 0), (.ref 170), (.int 77 0), (.int 0 0), (.ref 183), (.int 79 0), (.int 0 0), (.ref 195), (.int 82 0), (.int 0 0), (.ref 207)]⟩), ⟨[]⟩⟩
noncomputable def o208 (_ : Params) : Obj := ⟨(.type "tuple"), .none, (.seq ⟨[]⟩ 0), ⟨[]⟩⟩
noncomputable def o209 (_ : Params) : Obj := ⟨(.type "builtin_function_or_method"), .none, (.fields ⟨[(.builtin "type.__prepare__"), (.type "type")]⟩), ⟨[]⟩⟩
noncomputable def o210 (P : Params) : Obj := ⟨(.type "dict"), .none, (.dict ⟨[⟨(PySem.PyData.keyHash P "__module__"), (.str "__module__" 470), (.str "certvalidator.path" 461)⟩, ⟨(PySem.PyData.keyHash P "__qualname__"), (.str "__qualname__" 472), (.str "ValidationPath" 471)⟩, ⟨(PySem.PyData.keyHash P "__firstlineno__"), (.str "__firstlineno__" 474), (.int 82 473)⟩, ⟨(PySem.PyData.keyHash P "_certs"), (.str "_certs" 475), .none⟩, ⟨(PySem.PyData.keyHash P "_cert_hashes"), (.str "_cert_hashes" 476), .none⟩, ⟨(PySem.PyData.keyHash P "__init__"), (.str "__init__" 484), (.ref 216)⟩, ⟨(PySem.PyData.keyHash P "first"), (.str "first" 492), (.ref 224)⟩, ⟨(PySem.PyData.keyHash P "find_issuer"), (.str "find_issuer" 500), (.ref 231)⟩, ⟨(PySem.PyData.keyHash P "truncate_to"), (.str "truncate_to" 508), (.ref 238)⟩, ⟨(PySem.PyData.keyHash P "truncate_to_issuer"), (.str "truncate_to_issuer" 516), (.ref 245)⟩, ⟨(PySem.PyData.keyHash P "copy"), (.str "copy" 524), (.ref 252)⟩, ⟨(PySem.PyData.keyHash P "pop"), (.str "pop" 531), (.ref 259)⟩, ⟨(PySem.PyData.keyHash P "append"), (.str "append" 539), (.ref 266)⟩, ⟨(PySem.PyData.keyHash P "prepend"), (.str "prepend" 547), (.ref 273)⟩, ⟨(PySem.PyData.keyHash P "__len__"), (.str "__len__" 554), (.ref 280)⟩, ⟨(PySem.PyData.keyHash P "__getitem__"), (.str "__getitem__" 562), (.ref 287)⟩, ⟨(PySem.PyData.keyHash P "__iter__"), (.str "__iter__" 570), (.ref 294)⟩, ⟨(PySem.PyData.keyHash P "__eq__"), (.str "__eq__" 578), (.ref 301)⟩, ⟨(PySem.PyData.keyHash P "__static_attributes__"), (.str "__static_attributes__" 581), (.ref 302)⟩]⟩ 19), ⟨[]⟩⟩
noncomputable def o211 (_ : Params) : Obj := ⟨(.type "tuple"), .none, (.seq ⟨[]⟩ 0), ⟨[]⟩⟩
noncomputable def o212 (_ : Params) : Obj := ⟨.none, .none, (.fields ⟨[(.int 86 0), (.int 4 0), (.ref 215), (.int 93 0), (.int 4 0), (.ref 222), (.int 96 0), (.int 4 0), (.ref 230), (.int 99 0), (.int 4 0), (.ref 237), (.int 102 0), (.int 4 0), (.ref 244), (.int 105 0), (.int 4 0), (.ref 251), (.int 111 0), (.int 4 0), (.ref 258), (.int 114 0), (.int 4 0), (.ref 265), (.int 123 0), (.int 4 0), (.ref 272), (.int 132 0), (.int 4 0), (.ref 279), (.int 135 0), (.int 4 0), (.ref 286), (.int 138 0), (.int 4 0), (.ref 293), (.int 142 0), (.int 4 0), (.ref 300)]⟩), ⟨[]⟩⟩
noncomputable def o213 (_ : Params) : Obj := ⟨(.type "code"), .none, (.fields ⟨[(.str "ValidationPath" 465), (.str "ValidationPath" 466), (.str "/claim/cut.py" 467), (.int 82 0), (.int 0 0), (.int 0 0), (.int 0 0), (.int 0 0), (.ref 205), (.bool .false), (.int 181 0), (.ref 206), .none, .none, .none, .none, (.int 468 0), (.int 82 0), (.str "/claim/cut.py" 469)]⟩), ⟨[]⟩⟩
noncomputable def o214 (_ : Params) : Obj := ⟨(.type "frame"), .none, .plain, ⟨[(.some (.ref 207)), (.some (.ref 3)), (.some (.ref 204)), .none, (.some (.str "certvalidator.path" 461)), .none, (.some (.ref 0))]⟩⟩
noncomputable def o215 (_ : Params) : Obj := ⟨(.type "tuple"), .none, (.seq ⟨[.none]⟩ 0), ⟨[]⟩⟩
noncomputable def o216 (_ : Params) : Obj := ⟨(.type "tuple"), .none, (.seq ⟨[]⟩ 0), ⟨[]⟩⟩
noncomputable def o217 (_ : Params) : Obj := ⟨.none, .none, (.fields ⟨[]⟩), ⟨[]⟩⟩
noncomputable def o218 (_ : Params) : Obj := ⟨(.type "tuple"), .none, (.seq ⟨[(.str "self" 480), (.str "end_entity_cert" 481)]⟩ 0), ⟨[]⟩⟩
noncomputable def o219 (_ : Params) : Obj := ⟨(.type "tuple"), .none, (.seq ⟨[]⟩ 0), ⟨[]⟩⟩
noncomputable def o220 (_ : Params) : Obj := ⟨.none, .none, .func ⟨"__init__", "ValidationPath.__init__", argsOf (sub 14 2), .stmts (bodyOf (sub 14 2)), scopeOf (sub 14 2), 0, [], .none, .none, .none, .none, .none, .none, .none, 0⟩, ⟨[]⟩⟩
noncomputable def o221 (_ : Params) : Obj := ⟨(.type "code"), .none, (.fields ⟨[(.str "__init__" 477), (.str "ValidationPath.__init__" 478), (.str "/claim/cut.py" 479), (.int 86 0), (.int 2 0), (.int 0 0), (.int 0 0), (.int 3 0), (.ref 210), (.bool .true), (.int 181 0), (.ref 211), .none, (.ref 212), (.ref 213), (.ref 214), (.int 482 0), (.int 86 0), (.str "/claim/cut.py" 483)]⟩), ⟨[]⟩⟩
noncomputable def o222 (_ : Params) : Obj := ⟨(.type "function"), .none, .func ⟨"__init__", "ValidationPath.__init__", argsOf (sub 14 2), .stmts (bodyOf (sub 14 2)), scopeOf (sub 14 2), 3, [], (.ref 209), .none, .none, (.str "certvalidator.path" 461), .none, (.ref 215), .none, 0⟩, ⟨[]⟩⟩
noncomputable def o223 (_ : Params) : Obj := ⟨(.type "tuple"), .none, (.seq ⟨[]⟩ 0), ⟨[]⟩⟩
noncomputable def o224 (_ : Params) : Obj := ⟨.none, .none, (.fields ⟨[]⟩), ⟨[]⟩⟩
noncomputable def o225 (_ : Params) : Obj := ⟨(.type "tuple"), .none, (.seq ⟨[(.str "self" 488)]⟩ 0), ⟨[]⟩⟩
noncomputable def o226 (_ : Params) : Obj := ⟨(.type "tuple"), .none, (.seq ⟨[]⟩ 0), ⟨[]⟩⟩
noncomputable def o227 (_ : Params) : Obj := ⟨.none, .none, .func ⟨"first", "ValidationPath.first", argsOf (sub 14 3), .stmts (bodyOf (sub 14 3)), scopeOf (sub 14 3), 0, [], .none, .none, .none, .none, .none, .none, .none, 0⟩, ⟨[]⟩⟩
noncomputable def o228 (_ : Params) : Obj := ⟨(.type "code"), .none, (.fields ⟨[(.str "first" 485), (.str "ValidationPath.first" 486), (.str "/claim/cut.py" 487), (.int 92 0), (.int 1 0), (.int 0 0), (.int 0 0), (.int 3 0), (.ref 217), (.bool .true), (.int 181 0), (.ref 218), .none, (.ref 219), (.ref 220), (.ref 221), (.int 489 0), (.int 92 0), (.str "/claim/cut.py" 490)]⟩), ⟨[]⟩⟩
noncomputable def o229 (_ : Params) : Obj := ⟨(.type "function"), .none, .func ⟨"first", "ValidationPath.first", argsOf (sub 14 3), .stmts (bodyOf (sub 14 3)), scopeOf (sub 14 3), 3, [], .none, .none, .none, (.str "certvalidator.path" 461), .none, (.ref 222), .none, 0⟩, ⟨[]⟩⟩
noncomputable def o230 (_ : Params) : Obj := ⟨(.type "property"), .none, (.fields ⟨[(.ref 223), .none, .none, .none, (.str "first" 492), (.bool .false)]⟩), ⟨[]⟩⟩
noncomputable def o231 (_ : Params) : Obj := ⟨(.type "tuple"), .none, (.seq ⟨[]⟩ 0), ⟨[]⟩⟩
noncomputable def o232 (_ : Params) : Obj := ⟨.none, .none, (.fields ⟨[]⟩), ⟨[]⟩⟩
noncomputable def o233 (_ : Params) : Obj := ⟨(.type "tuple"), .none, (.seq ⟨[(.str "self" 496), (.str "cert" 497)]⟩ 0), ⟨[]⟩⟩
noncomputable def o234 (_ : Params) : Obj := ⟨(.type "tuple"), .none, (.seq ⟨[]⟩ 0), ⟨[]⟩⟩
noncomputable def o235 (_ : Params) : Obj := ⟨.none, .none, .func ⟨"find_issuer", "ValidationPath.find_issuer", argsOf (sub 14 4), .stmts (bodyOf (sub 14 4)), scopeOf (sub 14 4), 0, [], .none, .none, .none, .none, .none, .none, .none, 0⟩, ⟨[]⟩⟩
noncomputable def o236 (_ : Params) : Obj := ⟨(.type "code"), .none, (.fields ⟨[(.str "find_issuer" 493), (.str "ValidationPath.find_issuer" 494), (.str "/claim/cut.py" 495), (.int 96 0), (.int 2 0), (.int 0 0), (.int 0 0), (.int 3 0), (.ref 225), (.bool .true), (.int 181 0), (.ref 226), .none, (.ref 227), (.ref 228), (.ref 229), (.int 498 0), (.int 96 0), (.str "/claim/cut.py" 499)]⟩), ⟨[]⟩⟩
noncomputable def o237 (_ : Params) : Obj := ⟨(.type "function"), .none, .func ⟨"find_issuer", "ValidationPath.find_issuer", argsOf (sub 14 4), .stmts (bodyOf (sub 14 4)), scopeOf (sub 14 4), 3, [], .none, .none, .none, (.str "certvalidator.path" 461), .none, (.ref 230), .none, 0⟩, ⟨[]⟩⟩
noncomputable def o238 (_ : Params) : Obj := ⟨(.type "tuple"), .none, (.seq ⟨[]⟩ 0), ⟨[]⟩⟩
noncomputable def o239 (_ : Params) : Obj := ⟨.none, .none, (.fields ⟨[]⟩), ⟨[]⟩⟩
noncomputable def o240 (_ : Params) : Obj := ⟨(.type "tuple"), .none, (.seq ⟨[(.str "self" 504), (.str "cert" 505)]⟩ 0), ⟨[]⟩⟩
noncomputable def o241 (_ : Params) : Obj := ⟨(.type "tuple"), .none, (.seq ⟨[]⟩ 0), ⟨[]⟩⟩
noncomputable def o242 (_ : Params) : Obj := ⟨.none, .none, .func ⟨"truncate_to", "ValidationPath.truncate_to", argsOf (sub 14 5), .stmts (bodyOf (sub 14 5)), scopeOf (sub 14 5), 0, [], .none, .none, .none, .none, .none, .none, .none, 0⟩, ⟨[]⟩⟩
noncomputable def o243 (_ : Params) : Obj := ⟨(.type "code"), .none, (.fields ⟨[(.str "truncate_to" 501), (.str "ValidationPath.truncate_to" 502), (.str "/claim/cut.py" 503), (.int 99 0), (.int 2 0), (.int 0 0), (.int 0 0), (.int 3 0), (.ref 232), (.bool .true), (.int 181 0), (.ref 233), .none, (.ref 234), (.ref 235), (.ref 236), (.int 506 0), (.int 99 0), (.str "/claim/cut.py" 507)]⟩), ⟨[]⟩⟩
noncomputable def o244 (_ : Params) : Obj := ⟨(.type "function"), .none, .func ⟨"truncate_to", "ValidationPath.truncate_to", argsOf (sub 14 5), .stmts (bodyOf (sub 14 5)), scopeOf (sub 14 5), 3, [], .none, .none, .none, (.str "certvalidator.path" 461), .none, (.ref 237), .none, 0⟩, ⟨[]⟩⟩
noncomputable def o245 (_ : Params) : Obj := ⟨(.type "tuple"), .none, (.seq ⟨[]⟩ 0), ⟨[]⟩⟩
noncomputable def o246 (_ : Params) : Obj := ⟨.none, .none, (.fields ⟨[]⟩), ⟨[]⟩⟩
noncomputable def o247 (_ : Params) : Obj := ⟨(.type "tuple"), .none, (.seq ⟨[(.str "self" 512), (.str "cert" 513)]⟩ 0), ⟨[]⟩⟩
noncomputable def o248 (_ : Params) : Obj := ⟨(.type "tuple"), .none, (.seq ⟨[]⟩ 0), ⟨[]⟩⟩
noncomputable def o249 (_ : Params) : Obj := ⟨.none, .none, .func ⟨"truncate_to_issuer", "ValidationPath.truncate_to_issuer", argsOf (sub 14 6), .stmts (bodyOf (sub 14 6)), scopeOf (sub 14 6), 0, [], .none, .none, .none, .none, .none, .none, .none, 0⟩, ⟨[]⟩⟩
noncomputable def o250 (_ : Params) : Obj := ⟨(.type "code"), .none, (.fields ⟨[(.str "truncate_to_issuer" 509), (.str "ValidationPath.truncate_to_issuer" 510), (.str "/claim/cut.py" 511), (.int 102 0), (.int 2 0), (.int 0 0), (.int 0 0), (.int 3 0), (.ref 239), (.bool .true), (.int 181 0), (.ref 240), .none, (.ref 241), (.ref 242), (.ref 243), (.int 514 0), (.int 102 0), (.str "/claim/cut.py" 515)]⟩), ⟨[]⟩⟩
noncomputable def o251 (_ : Params) : Obj := ⟨(.type "function"), .none, .func ⟨"truncate_to_issuer", "ValidationPath.truncate_to_issuer", argsOf (sub 14 6), .stmts (bodyOf (sub 14 6)), scopeOf (sub 14 6), 3, [], .none, .none, .none, (.str "certvalidator.path" 461), .none, (.ref 244), .none, 0⟩, ⟨[]⟩⟩
noncomputable def o252 (_ : Params) : Obj := ⟨(.type "tuple"), .none, (.seq ⟨[]⟩ 0), ⟨[]⟩⟩
noncomputable def o253 (_ : Params) : Obj := ⟨.none, .none, (.fields ⟨[]⟩), ⟨[]⟩⟩
noncomputable def o254 (_ : Params) : Obj := ⟨(.type "tuple"), .none, (.seq ⟨[(.str "self" 520), (.str "copy" 521)]⟩ 0), ⟨[]⟩⟩
noncomputable def o255 (_ : Params) : Obj := ⟨(.type "tuple"), .none, (.seq ⟨[]⟩ 0), ⟨[]⟩⟩
noncomputable def o256 (_ : Params) : Obj := ⟨.none, .none, .func ⟨"copy", "ValidationPath.copy", argsOf (sub 14 7), .stmts (bodyOf (sub 14 7)), scopeOf (sub 14 7), 0, [], .none, .none, .none, .none, .none, .none, .none, 0⟩, ⟨[]⟩⟩
noncomputable def o257 (_ : Params) : Obj := ⟨(.type "code"), .none, (.fields ⟨[(.str "copy" 517), (.str "ValidationPath.copy" 518), (.str "/claim/cut.py" 519), (.int 105 0), (.int 1 0), (.int 0 0), (.int 0 0), (.int 3 0), (.ref 246), (.bool .true), (.int 181 0), (.ref 247), .none, (.ref 248), (.ref 249), (.ref 250), (.int 522 0), (.int 105 0), (.str "/claim/cut.py" 523)]⟩), ⟨[]⟩⟩
noncomputable def o258 (_ : Params) : Obj := ⟨(.type "function"), .none, .func ⟨"copy", "ValidationPath.copy", argsOf (sub 14 7), .stmts (bodyOf (sub 14 7)), scopeOf (sub 14 7), 3, [], .none, .none, .none, (.str "certvalidator.path" 461), .none, (.ref 251), .none, 0⟩, ⟨[]⟩⟩
noncomputable def o259 (_ : Params) : Obj := ⟨(.type "tuple"), .none, (.seq ⟨[]⟩ 0), ⟨[]⟩⟩
noncomputable def o260 (_ : Params) : Obj := ⟨.none, .none, (.fields ⟨[]⟩), ⟨[]⟩⟩
noncomputable def o261 (_ : Params) : Obj := ⟨(.type "tuple"), .none, (.seq ⟨[(.str "self" 528)]⟩ 0), ⟨[]⟩⟩
noncomputable def o262 (_ : Params) : Obj := ⟨(.type "tuple"), .none, (.seq ⟨[]⟩ 0), ⟨[]⟩⟩
noncomputable def o263 (_ : Params) : Obj := ⟨.none, .none, .func ⟨"pop", "ValidationPath.pop", argsOf (sub 14 8), .stmts (bodyOf (sub 14 8)), scopeOf (sub 14 8), 0, [], .none, .none, .none, .none, .none, .none, .none, 0⟩, ⟨[]⟩⟩
noncomputable def o264 (_ : Params) : Obj := ⟨(.type "code"), .none, (.fields ⟨[(.str "pop" 525), (.str "ValidationPath.pop" 526), (.str "/claim/cut.py" 527), (.int 111 0), (.int 1 0), (.int 0 0), (.int 0 0), (.int 3 0), (.ref 253), (.bool .true), (.int 181 0), (.ref 254), .none, (.ref 255), (.ref 256), (.ref 257), (.int 529 0), (.int 111 0), (.str "/claim/cut.py" 530)]⟩), ⟨[]⟩⟩
noncomputable def o265 (_ : Params) : Obj := ⟨(.type "function"), .none, .func ⟨"pop", "ValidationPath.pop", argsOf (sub 14 8), .stmts (bodyOf (sub 14 8)), scopeOf (sub 14 8), 3, [], .none, .none, .none, (.str "certvalidator.path" 461), .none, (.ref 258), .none, 0⟩, ⟨[]⟩⟩
noncomputable def o266 (_ : Params) : Obj := ⟨(.type "tuple"), .none, (.seq ⟨[]⟩ 0), ⟨[]⟩⟩
noncomputable def o267 (_ : Params) : Obj := ⟨.none, .none, (.fields ⟨[]⟩), ⟨[]⟩⟩
noncomputable def o268 (_ : Params) : Obj := ⟨(.type "tuple"), .none, (.seq ⟨[(.str "self" 535), (.str "cert" 536)]⟩ 0), ⟨[]⟩⟩
noncomputable def o269 (_ : Params) : Obj := ⟨(.type "tuple"), .none, (.seq ⟨[]⟩ 0), ⟨[]⟩⟩
noncomputable def o270 (_ : Params) : Obj := ⟨.none, .none, .func ⟨"append", "ValidationPath.append", argsOf (sub 14 9), .stmts (bodyOf (sub 14 9)), scopeOf (sub 14 9), 0, [], .none, .none, .none, .none, .none, .none, .none, 0⟩, ⟨[]⟩⟩
noncomputable def o271 (_ : Params) : Obj := ⟨(.type "code"), .none, (.fields ⟨[(.str "append" 532), (.str "ValidationPath.append" 533), (.str "/claim/cut.py" 534), (.int 114 0), (.int 2 0), (.int 0 0), (.int 0 0), (.int 3 0), (.ref 260), (.bool .true), (.int 181 0), (.ref 261), .none, (.ref 262), (.ref 263), (.ref 264), (.int 537 0), (.int 114 0), (.str "/claim/cut.py" 538)]⟩), ⟨[]⟩⟩
noncomputable def o272 (_ : Params) : Obj := ⟨(.type "function"), .none, .func ⟨"append", "ValidationPath.append", argsOf (sub 14 9), .stmts (bodyOf (sub 14 9)), scopeOf (sub 14 9), 3, [], .none, .none, .none, (.str "certvalidator.path" 461), .none, (.ref 265), .none, 0⟩, ⟨[]⟩⟩
noncomputable def o273 (_ : Params) : Obj := ⟨(.type "tuple"), .none, (.seq ⟨[]⟩ 0), ⟨[]⟩⟩
noncomputable def o274 (_ : Params) : Obj := ⟨.none, .none, (.fields ⟨[]⟩), ⟨[]⟩⟩
noncomputable def o275 (_ : Params) : Obj := ⟨(.type "tuple"), .none, (.seq ⟨[(.str "self" 543), (.str "cert" 544)]⟩ 0), ⟨[]⟩⟩
noncomputable def o276 (_ : Params) : Obj := ⟨(.type "tuple"), .none, (.seq ⟨[]⟩ 0), ⟨[]⟩⟩
noncomputable def o277 (_ : Params) : Obj := ⟨.none, .none, .func ⟨"prepend", "ValidationPath.prepend", argsOf (sub 14 10), .stmts (bodyOf (sub 14 10)), scopeOf (sub 14 10), 0, [], .none, .none, .none, .none, .none, .none, .none, 0⟩, ⟨[]⟩⟩
noncomputable def o278 (_ : Params) : Obj := ⟨(.type "code"), .none, (.fields ⟨[(.str "prepend" 540), (.str "ValidationPath.prepend" 541), (.str "/claim/cut.py" 542), (.int 123 0), (.int 2 0), (.int 0 0), (.int 0 0), (.int 3 0), (.ref 267), (.bool .true), (.int 181 0), (.ref 268), .none, (.ref 269), (.ref 270), (.ref 271), (.int 545 0), (.int 123 0), (.str "/claim/cut.py" 546)]⟩), ⟨[]⟩⟩
noncomputable def o279 (_ : Params) : Obj := ⟨(.type "function"), .none, .func ⟨"prepend", "ValidationPath.prepend", argsOf (sub 14 10), .stmts (bodyOf (sub 14 10)), scopeOf (sub 14 10), 3, [], .none, .none, .none, (.str "certvalidator.path" 461), .none, (.ref 272), .none, 0⟩, ⟨[]⟩⟩
noncomputable def o280 (_ : Params) : Obj := ⟨(.type "tuple"), .none, (.seq ⟨[]⟩ 0), ⟨[]⟩⟩
noncomputable def o281 (_ : Params) : Obj := ⟨.none, .none, (.fields ⟨[]⟩), ⟨[]⟩⟩
noncomputable def o282 (_ : Params) : Obj := ⟨(.type "tuple"), .none, (.seq ⟨[(.str "self" 551)]⟩ 0), ⟨[]⟩⟩
noncomputable def o283 (_ : Params) : Obj := ⟨(.type "tuple"), .none, (.seq ⟨[]⟩ 0), ⟨[]⟩⟩
noncomputable def o284 (_ : Params) : Obj := ⟨.none, .none, .func ⟨"__len__", "ValidationPath.__len__", argsOf (sub 14 11), .stmts (bodyOf (sub 14 11)), scopeOf (sub 14 11), 0, [], .none, .none, .none, .none, .none, .none, .none, 0⟩, ⟨[]⟩⟩
noncomputable def o285 (_ : Params) : Obj := ⟨(.type "code"), .none, (.fields ⟨[(.str "__len__" 548), (.str "ValidationPath.__len__" 549), (.str "/claim/cut.py" 550), (.int 132 0), (.int 1 0), (.int 0 0), (.int 0 0), (.int 3 0), (.ref 274), (.bool .true), (.int 181 0), (.ref 275), .none, (.ref 276), (.ref 277), (.ref 278), (.int 552 0), (.int 132 0), (.str "/claim/cut.py" 553)]⟩), ⟨[]⟩⟩
noncomputable def o286 (_ : Params) : Obj := ⟨(.type "function"), .none, .func ⟨"__len__", "ValidationPath.__len__", argsOf (sub 14 11), .stmts (bodyOf (sub 14 11)), scopeOf (sub 14 11), 3, [], .none, .none, .none, (.str "certvalidator.path" 461), .none, (.ref 279), .none, 0⟩, ⟨[]⟩⟩
noncomputable def o287 (_ : Params) : Obj := ⟨(.type "tuple"), .none, (.seq ⟨[]⟩ 0), ⟨[]⟩⟩
noncomputable def o288 (_ : Params) : Obj := ⟨.none, .none, (.fields ⟨[]⟩), ⟨[]⟩⟩
noncomputable def o289 (_ : Params) : Obj := ⟨(.type "tuple"), .none, (.seq ⟨[(.str "self" 558), (.str "key" 559)]⟩ 0), ⟨[]⟩⟩
noncomputable def o290 (_ : Params) : Obj := ⟨(.type "tuple"), .none, (.seq ⟨[]⟩ 0), ⟨[]⟩⟩
noncomputable def o291 (_ : Params) : Obj := ⟨.none, .none, .func ⟨"__getitem__", "ValidationPath.__getitem__", argsOf (sub 14 12), .stmts (bodyOf (sub 14 12)), scopeOf (sub 14 12), 0, [], .none, .none, .none, .none, .none, .none, .none, 0⟩, ⟨[]⟩⟩
noncomputable def o292 (_ : Params) : Obj := ⟨(.type "code"), .none, (.fields ⟨[(.str "__getitem__" 555), (.str "ValidationPath.__getitem__" 556), (.str "/claim/cut.py" 557), (.int 135 0), (.int 2 0), (.int 0 0), (.int 0 0), (.int 3 0), (.ref 281), (.bool .true), (.int 181 0), (.ref 282), .none, (.ref 283), (.ref 284), (.ref 285), (.int 560 0), (.int 135 0), (.str "/claim/cut.py" 561)]⟩), ⟨[]⟩⟩
noncomputable def o293 (_ : Params) : Obj := ⟨(.type "function"), .none, .func ⟨"__getitem__", "ValidationPath.__getitem__", argsOf (sub 14 12), .stmts (bodyOf (sub 14 12)), scopeOf (sub 14 12), 3, [], .none, .none, .none, (.str "certvalidator.path" 461), .none, (.ref 286), .none, 0⟩, ⟨[]⟩⟩
noncomputable def o294 (_ : Params) : Obj := ⟨(.type "tuple"), .none, (.seq ⟨[]⟩ 0), ⟨[]⟩⟩
noncomputable def o295 (_ : Params) : Obj := ⟨.none, .none, (.fields ⟨[]⟩), ⟨[]⟩⟩
noncomputable def o296 (_ : Params) : Obj := ⟨(.type "tuple"), .none, (.seq ⟨[(.str "self" 566), (.str "cert" 567)]⟩ 0), ⟨[]⟩⟩
noncomputable def o297 (_ : Params) : Obj := ⟨(.type "tuple"), .none, (.seq ⟨[]⟩ 0), ⟨[]⟩⟩
noncomputable def o298 (_ : Params) : Obj := ⟨.none, .none, .func ⟨"__iter__", "ValidationPath.__iter__", argsOf (sub 14 13), .stmts (bodyOf (sub 14 13)), scopeOf (sub 14 13), 0, [], .none, .none, .none, .none, .none, .none, .none, 0⟩, ⟨[]⟩⟩
noncomputable def o299 (_ : Params) : Obj := ⟨(.type "code"), .none, (.fields ⟨[(.str "__iter__" 563), (.str "ValidationPath.__iter__" 564), (.str "/claim/cut.py" 565), (.int 138 0), (.int 1 0), (.int 0 0), (.int 0 0), (.int 35 0), (.ref 288), (.bool .true), (.int 181 0), (.ref 289), .none, (.ref 290), (.ref 291), (.ref 292), (.int 568 0), (.int 138 0), (.str "/claim/cut.py" 569)]⟩), ⟨[]⟩⟩
noncomputable def o300 (_ : Params) : Obj := ⟨(.type "function"), .none, .func ⟨"__iter__", "ValidationPath.__iter__", argsOf (sub 14 13), .stmts (bodyOf (sub 14 13)), scopeOf (sub 14 13), 3, [], .none, .none, .none, (.str "certvalidator.path" 461), .none, (.ref 293), .none, 0⟩, ⟨[]⟩⟩
noncomputable def o301 (_ : Params) : Obj := ⟨(.type "tuple"), .none, (.seq ⟨[]⟩ 0), ⟨[]⟩⟩
noncomputable def o302 (_ : Params) : Obj := ⟨.none, .none, (.fields ⟨[]⟩), ⟨[]⟩⟩
noncomputable def o303 (_ : Params) : Obj := ⟨(.type "tuple"), .none, (.seq ⟨[(.str "self" 574), (.str "other" 575)]⟩ 0), ⟨[]⟩⟩
noncomputable def o304 (_ : Params) : Obj := ⟨(.type "tuple"), .none, (.seq ⟨[]⟩ 0), ⟨[]⟩⟩
noncomputable def o305 (_ : Params) : Obj := ⟨.none, .none, .func ⟨"__eq__", "ValidationPath.__eq__", argsOf (sub 14 14), .stmts (bodyOf (sub 14 14)), scopeOf (sub 14 14), 0, [], .none, .none, .none, .none, .none, .none, .none, 0⟩, ⟨[]⟩⟩
noncomputable def o306 (_ : Params) : Obj := ⟨(.type "code"), .none, (.fields ⟨[(.str "__eq__" 571), (.str "ValidationPath.__eq__" 572), (.str "/claim/cut.py" 573), (.int 142 0), (.int 2 0), (.int 0 0), (.int 0 0), (.int 3 0), (.ref 295), (.bool .true), (.int 181 0), (.ref 296), .none, (.ref 297), (.ref 298), (.ref 299), (.int 576 0), (.int 142 0), (.str "/claim/cut.py" 577)]⟩), ⟨[]⟩⟩
noncomputable def o307 (_ : Params) : Obj := ⟨(.type "function"), .none, .func ⟨"__eq__", "ValidationPath.__eq__", argsOf (sub 14 14), .stmts (bodyOf (sub 14 14)), scopeOf (sub 14 14), 3, [], .none, .none, .none, (.str "certvalidator.path" 461), .none, (.ref 300), .none, 0⟩, ⟨[]⟩⟩
noncomputable def o308 (_ : Params) : Obj := ⟨(.type "tuple"), .none, (.seq ⟨[(.str "_cert_hashes" 579), (.str "_certs" 580)]⟩ 0), ⟨[]⟩⟩
noncomputable def o309 (P : Params) : Obj := ⟨(.type "dict"), .none, (.dict ⟨[⟨(PySem.PyData.keyHash P "__module__"), (.str "__module__" 470), (.str "certvalidator.path" 461)⟩, ⟨(PySem.PyData.keyHash P "__firstlineno__"), (.str "__firstlineno__" 474), (.int 82 473)⟩, ⟨(PySem.PyData.keyHash P "_certs"), (.str "_certs" 475), .none⟩, ⟨(PySem.PyData.keyHash P "_cert_hashes"), (.str "_cert_hashes" 476), .none⟩, ⟨(PySem.PyData.keyHash P "__init__"), (.str "__init__" 484), (.ref 216)⟩, ⟨(PySem.PyData.keyHash P "first"), (.str "first" 492), (.ref 224)⟩, ⟨(PySem.PyData.keyHash P "find_issuer"), (.str "find_issuer" 500), (.ref 231)⟩, ⟨(PySem.PyData.keyHash P "truncate_to"), (.str "truncate_to" 508), (.ref 238)⟩, ⟨(PySem.PyData.keyHash P "truncate_to_issuer"), (.str "truncate_to_issuer" 516), (.ref 245)⟩, ⟨(PySem.PyData.keyHash P "copy"), (.str "copy" 524), (.ref 252)⟩, ⟨(PySem.PyData.keyHash P "pop"), (.str "pop" 531), (.ref 259)⟩, ⟨(PySem.PyData.keyHash P "append"), (.str "append" 539), (.ref 266)⟩, ⟨(PySem.PyData.keyHash P "prepend"), (.str "prepend" 547), (.ref 273)⟩, ⟨(PySem.PyData.keyHash P "__len__"), (.str "__len__" 554), (.ref 280)⟩, ⟨(PySem.PyData.keyHash P "__getitem__"), (.str "__getitem__" 562), (.ref 287)⟩, ⟨(PySem.PyData.keyHash P "__iter__"), (.str "__iter__" 570), (.ref 294)⟩, ⟨(PySem.PyData.keyHash P "__eq__"), (.str "__eq__" 578), (.ref 301)⟩, ⟨(PySem.PyData.keyHash P "__static_attributes__"), (.str "__static_attributes__" 581), (.ref 302)⟩, ⟨(PySem.PyData.keyHash P "__dict__"), (.str "__dict__" 583), (.ref 305)⟩, ⟨(PySem.PyData.keyHash P "__weakref__"), (.str "__weakref__" 585), (.ref 306)⟩, ⟨(PySem.PyData.keyHash P "__doc__"), (.str "__doc__" 586), .none⟩, ⟨(PySem.PyData.keyHash P "__hash__"), (.str "__hash__" 587), .none⟩]⟩ 5), ⟨[]⟩⟩
noncomputable def o310 (_ : Params) : Obj := ⟨(.type "type"), .none, (.cls ⟨"ValidationPath", [(.type "object")], [(.ref 304), (.type "object")], 303, "ValidationPath", .true, [], [], .false, .none, .false⟩), ⟨[.none, .none, (.some (.str "ValidationPath" 463)), (.some (.str "ValidationPath" 471)), (.some (.builtin "object.__new__")), (.some (.bool .true))]⟩⟩
noncomputable def o311 (_ : Params) : Obj := ⟨(.type "getset_descriptor"), .none, (.fields ⟨[(.str "__dict__" 582), (.ref 304), (.builtin "function.__dict__"), (.builtin "function.__dict__#set")]⟩), ⟨[]⟩⟩
noncomputable def o312 (_ : Params) : Obj := ⟨(.type "getset_descriptor"), .none, (.fields ⟨[(.str "__weakref__" 584), (.ref 304), (.builtin "ExceptionGroup.__weakref__"), .none]⟩), ⟨[]⟩⟩
noncomputable def o313 (_ : Params) : Obj := ⟨(.type "super"), .none, (.fields ⟨[(.ref 304), (.ref 304), (.ref 304)]⟩), ⟨[]⟩⟩
noncomputable def o314 (_ : Params) : Obj := ⟨(.type "builtin_function_or_method"), .none, (.fields ⟨[(.builtin "object.__init_subclass__"), (.ref 304)]⟩), ⟨[]⟩⟩
noncomputable def tree7 (P : Params) : BT := (.node (boot_o_0 P) (.node (boot_o_1 P) (.node (o206 P) (.node (boot_o_7 P) (.node (o7 P) (.node (o23 P) (.node (o57 P) (.node (o125 P) (.node (o261 P) .nil .nil) .nil) (.node (o195 P) .nil .nil)) (.node (o91 P) (.node (o157 P) (.node (o293 P) .nil .nil) .nil) (.node (o229 P) .nil .nil))) (.node (o39 P) (.node (o73 P) (.node (o141 P) (.node (o277 P) .nil .nil) .nil) (.node (o213 P) .nil .nil)) (.node (o107 P) (.node (o176 P) (.node (o309 P) .nil .nil) .nil) (.node (o245 P) .nil .nil)))) (.node (o15 P) (.node (o31 P) (.node (o65 P) (.node (o133 P) (.node (o269 P) .nil .nil) .nil) (.node (o203 P) .nil .nil)) (.node (o99 P) (.node (o168 P) (.node (o301 P) .nil .nil) .nil) (.node (o237 P) .nil .nil))) (.node (o47 P) (.node (o81 P) (.node (o149 P) (.node (o285 P) .nil .nil) .nil) (.node (o221 P) .nil .nil)) (.node (o117 P) (.node (o184 P) .nil .nil) (.node (o253 P) .nil .nil))))) (.node (o1 P) (.node (o11 P) (.node (o27 P) (.node (o61 P) (.node (o129 P) (.node (o265 P) .nil .nil) .nil) (.node (o199 P) .nil .nil)) (.node (o95 P) (.node (o161 P) (.node (o297 P) .nil .nil) .nil) (.node (o233 P) .nil .nil))) (.node (o43 P) (.node (o77 P) (.node (o145 P) (.node (o281 P) .nil .nil) .nil) (.node (o217 P) .nil .nil)) (.node (o113 P) (.node (o180 P) (.node (o313 P) .nil .nil) .nil) (.node (o249 P) .nil .nil)))) (.node (o19 P) (.node (o35 P) (.node (o69 P) (.node (o137 P) (.node (o273 P) .nil .nil) .nil) (.node (o209 P) .nil .nil)) (.node (o103 P) (.node (o172 P) (.node (o305 P) .nil .nil) .nil) (.node (o241 P) .nil .nil))) (.node (o53 P) (.node (o85 P) (.node (o153 P) (.node (o289 P) .nil .nil) .nil) (.node (o225 P) .nil .nil)) (.node (o121 P) (.node (o188 P) .nil .nil) (.node (o257 P) .nil .nil)))))) (.node (boot_o_5 P) (.node (boot_o_9 P) (.node (o9 P) (.node (o25 P) (.node (o59 P) (.node (o127 P) (.node (o263 P) .nil .nil) .nil) (.node (o197 P) .nil .nil)) (.node (o93 P) (.node (o159 P) (.node (o295 P) .nil .nil) .nil) (.node (o231 P) .nil .nil))) (.node (o41 P) (.node (o75 P) (.node (o143 P) (.node (o279 P) .nil .nil) .nil) (.node (o215 P) .nil .nil)) (.node (o111 P) (.node (o178 P) (.node (o311 P) .nil .nil) .nil) (.node (o247 P) .nil .nil)))) (.node (o17 P) (.node (o33 P) (.node (o67 P) (.node (o135 P) (.node (o271 P) .nil .nil) .nil) (.node (o205 P) .nil .nil)) (.node (o101 P) (.node (o170 P) (.node (o303 P) .nil .nil) .nil) (.node (o239 P) .nil .nil))) (.node (o51 P) (.node (o83 P) (.node (o151 P) (.node (o287 P) .nil .nil) .nil) (.node (o223 P) .nil .nil)) (.node (o119 P) (.node (o186 P) .nil .nil) (.node (o255 P) .nil .nil))))) (.node (o3 P) (.node (o13 P) (.node (o29 P) (.node (o63 P) (.node (o131 P) (.node (o267 P) .nil .nil) .nil) (.node (o201 P) .nil .nil)) (.node (o97 P) (.node (o166 P) (.node (o299 P) .nil .nil) .nil) (.node (o235 P) .nil .nil))) (.node (o45 P) (.node (o79 P) (.node (o147 P) (.node (o283 P) .nil .nil) .nil) (.node (o219 P) .nil .nil)) (.node (o115 P) (.node (o182 P) .nil .nil) (.node (o251 P) .nil .nil)))) (.node (o21 P) (.node (o37 P) (.node (o71 P) (.node (o139 P) (.node (o275 P) .nil .nil) .nil) (.node (o211 P) .nil .nil)) (.node (o105 P) (.node (o174 P) (.node (o307 P) .nil .nil) .nil) (.node (o243 P) .nil .nil))) (.node (o55 P) (.node (o89 P) (.node (o155 P) (.node (o291 P) .nil .nil) .nil) (.node (o227 P) .nil .nil)) (.node (o123 P) (.node (o190 P) .nil .nil) (.node (o259 P) .nil .nil))))))) (.node (o163 P) (.node (boot_o_4 P) (.node (boot_o_8 P) (.node (o8 P) (.node (o24 P) (.node (o58 P) (.node (o126 P) (.node (o262 P) .nil .nil) .nil) (.node (o196 P) .nil .nil)) (.node (o92 P) (.node (o158 P) (.node (o294 P) .nil .nil) .nil) (.node (o230 P) .nil .nil))) (.node (o40 P) (.node (o74 P) (.node (o142 P) (.node (o278 P) .nil .nil) .nil) (.node (o214 P) .nil .nil)) (.node (o108 P) (.node (o177 P) (.node (o310 P) .nil .nil) .nil) (.node (o246 P) .nil .nil)))) (.node (o16 P) (.node (o32 P) (.node (o66 P) (.node (o134 P) (.node (o270 P) .nil .nil) .nil) (.node (o204 P) .nil .nil)) (.node (o100 P) (.node (o169 P) (.node (o302 P) .nil .nil) .nil) (.node (o238 P) .nil .nil))) (.node (o48 P) (.node (o82 P) (.node (o150 P) (.node (o286 P) .nil .nil) .nil) (.node (o222 P) .nil .nil)) (.node (o118 P) (.node (o185 P) .nil .nil) (.node (o254 P) .nil .nil))))) (.node (o207 P) (.node (o12 P) (.node (o28 P) (.node (o62 P) (.node (o130 P) (.node (o266 P) .nil .nil) .nil) (.node (o200 P) .nil .nil)) (.node (o96 P) (.node (o162 P) (.node (o298 P) .nil .nil) .nil) (.node (o234 P) .nil .nil))) (.node (o44 P) (.node (o78 P) (.node (o146 P) (.node (o282 P) .nil .nil) .nil) (.node (o218 P) .nil .nil)) (.node (o114 P) (.node (o181 P) (.node (o314 P) .nil .nil) .nil) (.node (o250 P) .nil .nil)))) (.node (o20 P) (.node (o36 P) (.node (o70 P) (.node (o138 P) (.node (o274 P) .nil .nil) .nil) (.node (o210 P) .nil .nil)) (.node (o104 P) (.node (o173 P) (.node (o306 P) .nil .nil) .nil) (.node (o242 P) .nil .nil))) (.node (o54 P) (.node (o88 P) (.node (o154 P) (.node (o290 P) .nil .nil) .nil) (.node (o226 P) .nil .nil)) (.node (o122 P) (.node (o189 P) .nil .nil) (.node (o258 P) .nil .nil)))))) (.node (boot_o_6 P) (.node (boot_o_10 P) (.node (o10 P) (.node (o26 P) (.node (o60 P) (.node (o128 P) (.node (o264 P) .nil .nil) .nil) (.node (o198 P) .nil .nil)) (.node (o94 P) (.node (o160 P) (.node (o296 P) .nil .nil) .nil) (.node (o232 P) .nil .nil))) (.node (o42 P) (.node (o76 P) (.node (o144 P) (.node (o280 P) .nil .nil) .nil) (.node (o216 P) .nil .nil)) (.node (o112 P) (.node (o179 P) (.node (o312 P) .nil .nil) .nil) (.node (o248 P) .nil .nil)))) (.node (o18 P) (.node (o34 P) (.node (o68 P) (.node (o136 P) (.node (o272 P) .nil .nil) .nil) (.node (o208 P) .nil .nil)) (.node (o102 P) (.node (o171 P) (.node (o304 P) .nil .nil) .nil) (.node (o240 P) .nil .nil))) (.node (o52 P) (.node (o84 P) (.node (o152 P) (.node (o288 P) .nil .nil) .nil) (.node (o224 P) .nil .nil)) (.node (o120 P) (.node (o187 P) .nil .nil) (.node (o256 P) .nil .nil))))) (.node (o4 P) (.node (o14 P) (.node (o30 P) (.node (o64 P) (.node (o132 P) (.node (o268 P) .nil .nil) .nil) (.node (o202 P) .nil .nil)) (.node (o98 P) (.node (o167 P) (.node (o300 P) .nil .nil) .nil) (.node (o236 P) .nil .nil))) (.node (o46 P) (.node (o80 P) (.node (o148 P) (.node (o284 P) .nil .nil) .nil) (.node (o220 P) .nil .nil)) (.node (o116 P) (.node (o183 P) .nil .nil) (.node (o252 P) .nil .nil)))) (.node (o22 P) (.node (o38 P) (.node (o72 P) (.node (o140 P) (.node (o276 P) .nil .nil) .nil) (.node (o212 P) .nil .nil)) (.node (o106 P) (.node (o193 P) (.node (o308 P) .nil .nil) .nil) (.node (o244 P) .nil .nil))) (.node (o56 P) (.node (o90 P) (.node (o156 P) (.node (o292 P) .nil .nil) .nil) (.node (o228 P) .nil .nil)) (.node (o124 P) (.node (o194 P) .nil .nil) (.node (o260 P) .nil .nil))))))))
noncomputable def o315 (P : Params) : Obj := ⟨(.type "dict"), .none, (.dict ⟨[⟨(PySem.PyData.keyHash P "__name__"), (.str "__name__" 165), (.str "certvalidator.registry" 590)⟩, ⟨(PySem.PyData.keyHash P "__doc__"), (.str "__doc__" 166), .none⟩, ⟨(PySem.PyData.keyHash P "__package__"), (.str "__package__" 167), .none⟩, ⟨(PySem.PyData.keyHash P "__loader__"), (.str "__loader__" 168), (.builtin "__main__.__loader__#opaque")⟩, ⟨(PySem.PyData.keyHash P "__spec__"), (.str "__spec__" 169), .none⟩, ⟨(PySem.PyData.keyHash P "__annotations__"), (.str "__annotations__" 170), (.ref 6)⟩, ⟨(PySem.PyData.keyHash P "__builtins__"), (.str "__builtins__" 171), (.ref 4)⟩, ⟨(PySem.PyData.keyHash P "__file__"), (.str "__file__" 173), (.str "/claim/cut.py" 172)⟩, ⟨(PySem.PyData.keyHash P "__cached__"), (.str "__cached__" 174), .none⟩, ⟨(PySem.PyData.keyHash P "_wall"), (.str "_wall" 193), (.ref 21)⟩, ⟨(PySem.PyData.keyHash P "pretty_message"), (.str "pretty_message" 203), (.ref 28)⟩, ⟨(PySem.PyData.keyHash P "type_name"), (.str "type_name" 212), (.ref 35)⟩, ⟨(PySem.PyData.keyHash P "Native"), (.str "Native" 241), (.ref 52)⟩, ⟨(PySem.PyData.keyHash P "Name"), (.str "Name" 288), (.ref 87)⟩, ⟨(PySem.PyData.keyHash P "Key"), (.str "Key" 318), (.ref 108)⟩, ⟨(PySem.PyData.keyHash P "Certificate"), (.str "Certificate" 406), (.ref 160)⟩, ⟨(PySem.PyData.keyHash P "PathError"), (.str "PathError" 428), (.ref 174)⟩, ⟨(PySem.PyData.keyHash P "PathBuildingError"), (.str "PathBuildingError" 444), (.ref 187)⟩, ⟨(PySem.PyData.keyHash P "DuplicateCertificateError"), (.str "DuplicateCertificateError" 460), (.ref 199)⟩, ⟨(PySem.PyData.keyHash P "ValidationPath"), (.str "ValidationPath" 589), (.ref 304)⟩]⟩ 20), ⟨[]⟩⟩
noncomputable def tree8 (P : Params) : BT := (.node (boot_o_0 P) (.node (boot_o_1 P) (.node (o315 P) (.node (boot_o_7 P) (.node (o7 P) (.node (o23 P) (.node (o57 P) (.node (o125 P) (.node (o261 P) .nil .nil) .nil) (.node (o195 P) .nil .nil)) (.node (o91 P) (.node (o157 P) (.node (o293 P) .nil .nil) .nil) (.node (o229 P) .nil .nil))) (.node (o39 P) (.node (o73 P) (.node (o141 P) (.node (o277 P) .nil .nil) .nil) (.node (o213 P) .nil .nil)) (.node (o107 P) (.node (o176 P) (.node (o309 P) .nil .nil) .nil) (.node (o245 P) .nil .nil)))) (.node (o15 P) (.node (o31 P) (.node (o65 P) (.node (o133 P) (.node (o269 P) .nil .nil) .nil) (.node (o203 P) .nil .nil)) (.node (o99 P) (.node (o168 P) (.node (o301 P) .nil .nil) .nil) (.node (o237 P) .nil .nil))) (.node (o47 P) (.node (o81 P) (.node (o149 P) (.node (o285 P) .nil .nil) .nil) (.node (o221 P) .nil .nil)) (.node (o117 P) (.node (o184 P) .nil .nil) (.node (o253 P) .nil .nil))))) (.node (o1 P) (.node (o11 P) (.node (o27 P) (.node (o61 P) (.node (o129 P) (.node (o265 P) .nil .nil) .nil) (.node (o199 P) .nil .nil)) (.node (o95 P) (.node (o161 P) (.node (o297 P) .nil .nil) .nil) (.node (o233 P) .nil .nil))) (.node (o43 P) (.node (o77 P) (.node (o145 P) (.node (o281 P) .nil .nil) .nil) (.node (o217 P) .nil .nil)) (.node (o113 P) (.node (o180 P) (.node (o313 P) .nil .nil) .nil) (.node (o249 P) .nil .nil)))) (.node (o19 P) (.node (o35 P) (.node (o69 P) (.node (o137 P) (.node (o273 P) .nil .nil) .nil) (.node (o209 P) .nil .nil)) (.node (o103 P) (.node (o172 P) (.node (o305 P) .nil .nil) .nil) (.node (o241 P) .nil .nil))) (.node (o53 P) (.node (o85 P) (.node (o153 P) (.node (o289 P) .nil .nil) .nil) (.node (o225 P) .nil .nil)) (.node (o121 P) (.node (o188 P) .nil .nil) (.node (o257 P) .nil .nil)))))) (.node (boot_o_5 P) (.node (boot_o_9 P) (.node (o9 P) (.node (o25 P) (.node (o59 P) (.node (o127 P) (.node (o263 P) .nil .nil) .nil) (.node (o197 P) .nil .nil)) (.node (o93 P) (.node (o159 P) (.node (o295 P) .nil .nil) .nil) (.node (o231 P) .nil .nil))) (.node (o41 P) (.node (o75 P) (.node (o143 P) (.node (o279 P) .nil .nil) .nil) (.node (o215 P) .nil .nil)) (.node (o111 P) (.node (o178 P) (.node (o311 P) .nil .nil) .nil) (.node (o247 P) .nil .nil)))) (.node (o17 P) (.node (o33 P) (.node (o67 P) (.node (o135 P) (.node (o271 P) .nil .nil) .nil) (.node (o205 P) .nil .nil)) (.node (o101 P) (.node (o170 P) (.node (o303 P) .nil .nil) .nil) (.node (o239 P) .nil .nil))) (.node (o51 P) (.node (o83 P) (.node (o151 P) (.node (o287 P) .nil .nil) .nil) (.node (o223 P) .nil .nil)) (.node (o119 P) (.node (o186 P) .nil .nil) (.node (o255 P) .nil .nil))))) (.node (o3 P) (.node (o13 P) (.node (o29 P) (.node (o63 P) (.node (o131 P) (.node (o267 P) .nil .nil) .nil) (.node (o201 P) .nil .nil)) (.node (o97 P) (.node (o166 P) (.node (o299 P) .nil .nil) .nil) (.node (o235 P) .nil .nil))) (.node (o45 P) (.node (o79 P) (.node (o147 P) (.node (o283 P) .nil .nil) .nil) (.node (o219 P) .nil .nil)) (.node (o115 P) (.node (o182 P) .nil .nil) (.node (o251 P) .nil .nil)))) (.node (o21 P) (.node (o37 P) (.node (o71 P) (.node (o139 P) (.node (o275 P) .nil .nil) .nil) (.node (o211 P) .nil .nil)) (.node (o105 P) (.node (o174 P) (.node (o307 P) .nil .nil) .nil) (.node (o243 P) .nil .nil))) (.node (o55 P) (.node (o89 P) (.node (o155 P) (.node (o291 P) .nil .nil) .nil) (.node (o227 P) .nil .nil)) (.node (o123 P) (.node (o190 P) .nil .nil) (.node (o259 P) .nil .nil))))))) (.node (o163 P) (.node (boot_o_4 P) (.node (boot_o_8 P) (.node (o8 P) (.node (o24 P) (.node (o58 P) (.node (o126 P) (.node (o262 P) .nil .nil) .nil) (.node (o196 P) .nil .nil)) (.node (o92 P) (.node (o158 P) (.node (o294 P) .nil .nil) .nil) (.node (o230 P) .nil .nil))) (.node (o40 P) (.node (o74 P) (.node (o142 P) (.node (o278 P) .nil .nil) .nil) (.node (o214 P) .nil .nil)) (.node (o108 P) (.node (o177 P) (.node (o310 P) .nil .nil) .nil) (.node (o246 P) .nil .nil)))) (.node (o16 P) (.node (o32 P) (.node (o66 P) (.node (o134 P) (.node (o270 P) .nil .nil) .nil) (.node (o204 P) .nil .nil)) (.node (o100 P) (.node (o169 P) (.node (o302 P) .nil .nil) .nil) (.node (o238 P) .nil .nil))) (.node (o48 P) (.node (o82 P) (.node (o150 P) (.node (o286 P) .nil .nil) .nil) (.node (o222 P) .nil .nil)) (.node (o118 P) (.node (o185 P) .nil .nil) (.node (o254 P) .nil .nil))))) (.node (o207 P) (.node (o12 P) (.node (o28 P) (.node (o62 P) (.node (o130 P) (.node (o266 P) .nil .nil) .nil) (.node (o200 P) .nil .nil)) (.node (o96 P) (.node (o162 P) (.node (o298 P) .nil .nil) .nil) (.node (o234 P) .nil .nil))) (.node (o44 P) (.node (o78 P) (.node (o146 P) (.node (o282 P) .nil .nil) .nil) (.node (o218 P) .nil .nil)) (.node (o114 P) (.node (o181 P) (.node (o314 P) .nil .nil) .nil) (.node (o250 P) .nil .nil)))) (.node (o20 P) (.node (o36 P) (.node (o70 P) (.node (o138 P) (.node (o274 P) .nil .nil) .nil) (.node (o210 P) .nil .nil)) (.node (o104 P) (.node (o173 P) (.node (o306 P) .nil .nil) .nil) (.node (o242 P) .nil .nil))) (.node (o54 P) (.node (o88 P) (.node (o154 P) (.node (o290 P) .nil .nil) .nil) (.node (o226 P) .nil .nil)) (.node (o122 P) (.node (o189 P) .nil .nil) (.node (o258 P) .nil .nil)))))) (.node (boot_o_6 P) (.node (boot_o_10 P) (.node (o10 P) (.node (o26 P) (.node (o60 P) (.node (o128 P) (.node (o264 P) .nil .nil) .nil) (.node (o198 P) .nil .nil)) (.node (o94 P) (.node (o160 P) (.node (o296 P) .nil .nil) .nil) (.node (o232 P) .nil .nil))) (.node (o42 P) (.node (o76 P) (.node (o144 P) (.node (o280 P) .nil .nil) .nil) (.node (o216 P) .nil .nil)) (.node (o112 P) (.node (o179 P) (.node (o312 P) .nil .nil) .nil) (.node (o248 P) .nil .nil)))) (.node (o18 P) (.node (o34 P) (.node (o68 P) (.node (o136 P) (.node (o272 P) .nil .nil) .nil) (.node (o208 P) .nil .nil)) (.node (o102 P) (.node (o171 P) (.node (o304 P) .nil .nil) .nil) (.node (o240 P) .nil .nil))) (.node (o52 P) (.node (o84 P) (.node (o152 P) (.node (o288 P) .nil .nil) .nil) (.node (o224 P) .nil .nil)) (.node (o120 P) (.node (o187 P) .nil .nil) (.node (o256 P) .nil .nil))))) (.node (o4 P) (.node (o14 P) (.node (o30 P) (.node (o64 P) (.node (o132 P) (.node (o268 P) .nil .nil) .nil) (.node (o202 P) .nil .nil)) (.node (o98 P) (.node (o167 P) (.node (o300 P) .nil .nil) .nil) (.node (o236 P) .nil .nil))) (.node (o46 P) (.node (o80 P) (.node (o148 P) (.node (o284 P) .nil .nil) .nil) (.node (o220 P) .nil .nil)) (.node (o116 P) (.node (o183 P) .nil .nil) (.node (o252 P) .nil .nil)))) (.node (o22 P) (.node (o38 P) (.node (o72 P) (.node (o140 P) (.node (o276 P) .nil .nil) .nil) (.node (o212 P) .nil .nil)) (.node (o106 P) (.node (o193 P) (.node (o308 P) .nil .nil) .nil) (.node (o244 P) .nil .nil))) (.node (o56 P) (.node (o90 P) (.node (o156 P) (.node (o292 P) .nil .nil) .nil) (.node (o228 P) .nil .nil)) (.node (o124 P) (.node (o194 P) .nil .nil) (.node (o260 P) .nil .nil))))))))
noncomputable def o316 (P : Params) : Obj := ⟨(.type "dict"), .none, (.dict ⟨[⟨(PySem.PyData.keyHash P "__name__"), (.str "__name__" 165), (.str "certvalidator.registry" 590)⟩, ⟨(PySem.PyData.keyHash P "__doc__"), (.str "__doc__" 166), .none⟩, ⟨(PySem.PyData.keyHash P "__package__"), (.str "__package__" 167), .none⟩, ⟨(PySem.PyData.keyHash P "__loader__"), (.str "__loader__" 168), (.builtin "__main__.__loader__#opaque")⟩, ⟨(PySem.PyData.keyHash P "__spec__"), (.str "__spec__" 169), .none⟩, ⟨(PySem.PyData.keyHash P "__annotations__"), (.str "__annotations__" 170), (.ref 6)⟩, ⟨(PySem.PyData.keyHash P "__builtins__"), (.str "__builtins__" 171), (.ref 4)⟩, ⟨(PySem.PyData.keyHash P "__file__"), (.str "__file__" 173), (.str "/claim/cut.py" 172)⟩, ⟨(PySem.PyData.keyHash P "__cached__"), (.str "__cached__" 174), .none⟩, ⟨(PySem.PyData.keyHash P "_wall"), (.str "_wall" 193), (.ref 21)⟩, ⟨(PySem.PyData.keyHash P "pretty_message"), (.str "pretty_message" 203), (.ref 28)⟩, ⟨(PySem.PyData.keyHash P "type_name"), (.str "type_name" 212), (.ref 35)⟩, ⟨(PySem.PyData.keyHash P "Native"), (.str "Native" 241), (.ref 52)⟩, ⟨(PySem.PyData.keyHash P "Name"), (.str "Name" 288), (.ref 87)⟩, ⟨(PySem.PyData.keyHash P "Key"), (.str "Key" 318), (.ref 108)⟩, ⟨(PySem.PyData.keyHash P "Certificate"), (.str "Certificate" 406), (.ref 160)⟩, ⟨(PySem.PyData.keyHash P "PathError"), (.str "PathError" 428), (.ref 174)⟩, ⟨(PySem.PyData.keyHash P "PathBuildingError"), (.str "PathBuildingError" 444), (.ref 187)⟩, ⟨(PySem.PyData.keyHash P "DuplicateCertificateError"), (.str "DuplicateCertificateError" 460), (.ref 199)⟩, ⟨(PySem.PyData.keyHash P "ValidationPath"), (.str "ValidationPath" 589), (.ref 304)⟩, ⟨(PySem.PyData.keyHash P "CertificateRegistry"), (.str "CertificateRegistry" 709), (.ref 383)⟩]⟩ 21), ⟨[]⟩⟩
noncomputable def o317 (_ : Params) : Obj := ⟨.none, .none, (.fields ⟨[(.int 1 0), (.int 0 0), (.ref 20), (.int 5 0), (.int 0 0), (.ref 27), (.int 8 0), (.int 0 0), (.ref 34), (.int 10 0), (.int 0 0), (.ref 41), (.int 14 0), (.int 0 0), (.ref 62), (.int 25 0), (.int 0 0), (.ref 97), (.int 30 0), (.int 0 0), (.ref 118), (.int 75 0), (.int 0 0), (.ref 170), (.int 77 0), (.int 0 0), (.ref 183), (.int 79 0), (.int 0 0), (.ref 195), (.int 82 0), (.int 0 0), (.ref 207), (.int 145 0), (.int 0 0), (.ref 314)]⟩), ⟨[]⟩⟩
noncomputable def o318 (_ : Params) : Obj := ⟨(.type "tuple"), .none, (.seq ⟨[]⟩ 0), ⟨[]⟩⟩
noncomputable def o319 (_ : Params) : Obj := ⟨(.type "builtin_function_or_method"), .none, (.fields ⟨[(.builtin "type.__prepare__"), (.type "type")]⟩), ⟨[]⟩⟩
noncomputable def o320 (P : Params) : Obj := ⟨(.type "dict"), .none, (.dict ⟨[⟨(PySem.PyData.keyHash P "__module__"), (.str "__module__" 599), (.str "certvalidator.registry" 590)⟩, ⟨(PySem.PyData.keyHash P "__qualname__"), (.str "__qualname__" 601), (.str "CertificateRegistry" 600)⟩, ⟨(PySem.PyData.keyHash P "__firstlineno__"), (.str "__firstlineno__" 603), (.int 145 602)⟩, ⟨(PySem.PyData.keyHash P "_subject_map"), (.str "_subject_map" 604), .none⟩, ⟨(PySem.PyData.keyHash P "_key_identifier_map"), (.str "_key_identifier_map" 605), .none⟩, ⟨(PySem.PyData.keyHash P "_ca_lookup"), (.str "_ca_lookup" 606), .none⟩, ⟨(PySem.PyData.keyHash P "__init__"), (.str "__init__" 619), (.ref 323)⟩, ⟨(PySem.PyData.keyHash P "_validate_unarmor"), (.str "_validate_unarmor" 630), (.ref 330)⟩, ⟨(PySem.PyData.keyHash P "is_ca"), (.str "is_ca" 638), (.ref 337)⟩, ⟨(PySem.PyData.keyHash P "add_other_cert"), (.str "add_other_cert" 646), (.ref 344)⟩, ⟨(PySem.PyData.keyHash P "retrieve_by_key_identifier"), (.str "retrieve_by_key_identifier" 654), (.ref 351)⟩, ⟨(PySem.PyData.keyHash P "retrieve_by_name"), (.str "retrieve_by_name" 663), (.ref 359)⟩, ⟨(PySem.PyData.keyHash P "build_paths"), (.str "build_paths" 676), (.ref 366)⟩, ⟨(PySem.PyData.keyHash P "_walk_issuers"), (.str "_walk_issuers" 688), (.ref 373)⟩, ⟨(PySem.PyData.keyHash P "_possible_issuers"), (.str "_possible_issuers" 698), (.ref 380)⟩, ⟨(PySem.PyData.keyHash P "__static_attributes__"), (.str "__static_attributes__" 702), (.ref 381)⟩]⟩ 16), ⟨[]⟩⟩
noncomputable def o321 (_ : Params) : Obj := ⟨(.type "tuple"), .none, (.seq ⟨[]⟩ 0), ⟨[]⟩⟩
noncomputable def o322 (_ : Params) : Obj := ⟨.none, .none, (.fields ⟨[(.int 150 0), (.int 4 0), (.ref 322), (.int 186 0), (.int 4 0), (.ref 329), (.int 195 0), (.int 4 0), (.ref 336), (.int 198 0), (.int 4 0), (.ref 343), (.int 201 0), (.int 4 0), (.ref 350), (.int 204 0), (.int 4 0), (.ref 358), (.int 207 0), (.int 4 0), (.ref 365), (.int 220 0), (.int 4 0), (.ref 372), (.int 234 0), (.int 4 0), (.ref 379)]⟩), ⟨[]⟩⟩
noncomputable def o323 (_ : Params) : Obj := ⟨(.type "code"), .none, (.fields ⟨[(.str "CertificateRegistry" 594), (.str "CertificateRegistry" 595), (.str "/claim/cut.py" 596), (.int 145 0), (.int 0 0), (.int 0 0), (.int 0 0), (.int 0 0), (.ref 312), (.bool .false), (.int 181 0), (.ref 313), .none, .none, .none, .none, (.int 597 0), (.int 145 0), (.str "/claim/cut.py" 598)]⟩), ⟨[]⟩⟩
noncomputable def o324 (_ : Params) : Obj := ⟨(.type "frame"), .none, .plain, ⟨[(.some (.ref 314)), (.some (.ref 3)), (.some (.ref 311)), .none, (.some (.str "certvalidator.registry" 590)), .none, (.some (.ref 0))]⟩⟩
noncomputable def o325 (_ : Params) : Obj := ⟨(.type "tuple"), .none, (.seq ⟨[.none, .none, .none]⟩ 0), ⟨[]⟩⟩
noncomputable def o326 (_ : Params) : Obj := ⟨(.type "tuple"), .none, (.seq ⟨[]⟩ 0), ⟨[]⟩⟩
noncomputable def o327 (_ : Params) : Obj := ⟨.none, .none, (.fields ⟨[]⟩), ⟨[]⟩⟩
noncomputable def o328 (_ : Params) : Obj := ⟨(.type "tuple"), .none, (.seq ⟨[(.str "self" 610), (.str "trust_roots" 611), (.str "extra_trust_roots" 612), (.str "other_certs" 613), (.str "trust_root" 614), (.str "hashable" 615), (.str "other_cert" 616)]⟩ 0), ⟨[]⟩⟩
noncomputable def o329 (_ : Params) : Obj := ⟨(.type "tuple"), .none, (.seq ⟨[]⟩ 0), ⟨[]⟩⟩
noncomputable def o330 (_ : Params) : Obj := ⟨.none, .none, .func ⟨"__init__", "CertificateRegistry.__init__", argsOf (sub 16 3), .stmts (bodyOf (sub 16 3)), scopeOf (sub 16 3), 0, [], .none, .none, .none, .none, .none, .none, .none, 0⟩, ⟨[]⟩⟩
noncomputable def o331 (_ : Params) : Obj := ⟨(.type "code"), .none, (.fields ⟨[(.str "__init__" 607), (.str "CertificateRegistry.__init__" 608), (.str "/claim/cut.py" 609), (.int 150 0), (.int 4 0), (.int 0 0), (.int 0 0), (.int 3 0), (.ref 317), (.bool .true), (.int 181 0), (.ref 318), .none, (.ref 319), (.ref 320), (.ref 321), (.int 617 0), (.int 150 0), (.str "/claim/cut.py" 618)]⟩), ⟨[]⟩⟩
noncomputable def o332 (_ : Params) : Obj := ⟨(.type "function"), .none, .func ⟨"__init__", "CertificateRegistry.__init__", argsOf (sub 16 3), .stmts (bodyOf (sub 16 3)), scopeOf (sub 16 3), 3, [], (.ref 316), .none, .none, (.str "certvalidator.registry" 590), .none, (.ref 322), .none, 0⟩, ⟨[]⟩⟩
noncomputable def o333 (_ : Params) : Obj := ⟨(.type "tuple"), .none, (.seq ⟨[]⟩ 0), ⟨[]⟩⟩
noncomputable def o334 (_ : Params) : Obj := ⟨.none, .none, (.fields ⟨[]⟩), ⟨[]⟩⟩
noncomputable def o335 (_ : Params) : Obj := ⟨(.type "tuple"), .none, (.seq ⟨[(.str "self" 623), (.str "certs" 624), (.str "var_name" 625), (.str "output" 626), (.str "cert" 627)]⟩ 0), ⟨[]⟩⟩
noncomputable def o336 (_ : Params) : Obj := ⟨(.type "tuple"), .none, (.seq ⟨[]⟩ 0), ⟨[]⟩⟩
noncomputable def o337 (_ : Params) : Obj := ⟨.none, .none, .func ⟨"_validate_unarmor", "CertificateRegistry._validate_unarmor", argsOf (sub 16 4), .stmts (bodyOf (sub 16 4)), scopeOf (sub 16 4), 0, [], .none, .none, .none, .none, .none, .none, .none, 0⟩, ⟨[]⟩⟩
noncomputable def o338 (_ : Params) : Obj := ⟨(.type "code"), .none, (.fields ⟨[(.str "_validate_unarmor" 620), (.str "CertificateRegistry._validate_unarmor" 621), (.str "/claim/cut.py" 622), (.int 186 0), (.int 3 0), (.int 0 0), (.int 0 0), (.int 3 0), (.ref 324), (.bool .true), (.int 181 0), (.ref 325), .none, (.ref 326), (.ref 327), (.ref 328), (.int 628 0), (.int 186 0), (.str "/claim/cut.py" 629)]⟩), ⟨[]⟩⟩
noncomputable def o339 (_ : Params) : Obj := ⟨(.type "function"), .none, .func ⟨"_validate_unarmor", "CertificateRegistry._validate_unarmor", argsOf (sub 16 4), .stmts (bodyOf (sub 16 4)), scopeOf (sub 16 4), 3, [], .none, .none, .none, (.str "certvalidator.registry" 590), .none, (.ref 329), .none, 0⟩, ⟨[]⟩⟩
noncomputable def o340 (_ : Params) : Obj := ⟨(.type "tuple"), .none, (.seq ⟨[]⟩ 0), ⟨[]⟩⟩
noncomputable def o341 (_ : Params) : Obj := ⟨.none, .none, (.fields ⟨[]⟩), ⟨[]⟩⟩
noncomputable def o342 (_ : Params) : Obj := ⟨(.type "tuple"), .none, (.seq ⟨[(.str "self" 634), (.str "cert" 635)]⟩ 0), ⟨[]⟩⟩
noncomputable def o343 (_ : Params) : Obj := ⟨(.type "tuple"), .none, (.seq ⟨[]⟩ 0), ⟨[]⟩⟩
noncomputable def o344 (_ : Params) : Obj := ⟨.none, .none, .func ⟨"is_ca", "CertificateRegistry.is_ca", argsOf (sub 16 5), .stmts (bodyOf (sub 16 5)), scopeOf (sub 16 5), 0, [], .none, .none, .none, .none, .none, .none, .none, 0⟩, ⟨[]⟩⟩
noncomputable def o345 (_ : Params) : Obj := ⟨(.type "code"), .none, (.fields ⟨[(.str "is_ca" 631), (.str "CertificateRegistry.is_ca" 632), (.str "/claim/cut.py" 633), (.int 195 0), (.int 2 0), (.int 0 0), (.int 0 0), (.int 3 0), (.ref 331), (.bool .true), (.int 181 0), (.ref 332), .none, (.ref 333), (.ref 334), (.ref 335), (.int 636 0), (.int 195 0), (.str "/claim/cut.py" 637)]⟩), ⟨[]⟩⟩
noncomputable def o346 (_ : Params) : Obj := ⟨(.type "function"), .none, .func ⟨"is_ca", "CertificateRegistry.is_ca", argsOf (sub 16 5), .stmts (bodyOf (sub 16 5)), scopeOf (sub 16 5), 3, [], .none, .none, .none, (.str "certvalidator.registry" 590), .none, (.ref 336), .none, 0⟩, ⟨[]⟩⟩
noncomputable def o347 (_ : Params) : Obj := ⟨(.type "tuple"), .none, (.seq ⟨[]⟩ 0), ⟨[]⟩⟩
noncomputable def o348 (_ : Params) : Obj := ⟨.none, .none, (.fields ⟨[]⟩), ⟨[]⟩⟩
noncomputable def o349 (_ : Params) : Obj := ⟨(.type "tuple"), .none, (.seq ⟨[(.str "self" 642), (.str "cert" 643)]⟩ 0), ⟨[]⟩⟩
noncomputable def o350 (_ : Params) : Obj := ⟨(.type "tuple"), .none, (.seq ⟨[]⟩ 0), ⟨[]⟩⟩
noncomputable def o351 (_ : Params) : Obj := ⟨.none, .none, .func ⟨"add_other_cert", "CertificateRegistry.add_other_cert", argsOf (sub 16 6), .stmts (bodyOf (sub 16 6)), scopeOf (sub 16 6), 0, [], .none, .none, .none, .none, .none, .none, .none, 0⟩, ⟨[]⟩⟩
noncomputable def o352 (_ : Params) : Obj := ⟨(.type "code"), .none, (.fields ⟨[(.str "add_other_cert" 639), (.str "CertificateRegistry.add_other_cert" 640), (.str "/claim/cut.py" 641), (.int 198 0), (.int 2 0), (.int 0 0), (.int 0 0), (.int 3 0), (.ref 338), (.bool .true), (.int 181 0), (.ref 339), .none, (.ref 340), (.ref 341), (.ref 342), (.int 644 0), (.int 198 0), (.str "/claim/cut.py" 645)]⟩), ⟨[]⟩⟩
noncomputable def o353 (_ : Params) : Obj := ⟨(.type "function"), .none, .func ⟨"add_other_cert", "CertificateRegistry.add_other_cert", argsOf (sub 16 6), .stmts (bodyOf (sub 16 6)), scopeOf (sub 16 6), 3, [], .none, .none, .none, (.str "certvalidator.registry" 590), .none, (.ref 343), .none, 0⟩, ⟨[]⟩⟩
noncomputable def o354 (_ : Params) : Obj := ⟨(.type "tuple"), .none, (.seq ⟨[]⟩ 0), ⟨[]⟩⟩
noncomputable def o355 (_ : Params) : Obj := ⟨.none, .none, (.fields ⟨[]⟩), ⟨[]⟩⟩
noncomputable def o356 (_ : Params) : Obj := ⟨(.type "tuple"), .none, (.seq ⟨[(.str "self" 650), (.str "key_identifier" 651)]⟩ 0), ⟨[]⟩⟩
noncomputable def o357 (_ : Params) : Obj := ⟨(.type "tuple"), .none, (.seq ⟨[]⟩ 0), ⟨[]⟩⟩
noncomputable def o358 (_ : Params) : Obj := ⟨.none, .none, .func ⟨"retrieve_by_key_identifier", "CertificateRegistry.retrieve_by_key_identifier", argsOf (sub 16 7), .stmts (bodyOf (sub 16 7)), scopeOf (sub 16 7), 0, [], .none, .none, .none, .none, .none, .none, .none, 0⟩, ⟨[]⟩⟩
noncomputable def o359 (_ : Params) : Obj := ⟨(.type "code"), .none, (.fields ⟨[(.str "retrieve_by_key_identifier" 647), (.str "CertificateRegistry.retrieve_by_key_identifier" 648), (.str "/claim/cut.py" 649), (.int 201 0), (.int 2 0), (.int 0 0), (.int 0 0), (.int 3 0), (.ref 345), (.bool .true), (.int 181 0), (.ref 346), .none, (.ref 347), (.ref 348), (.ref 349), (.int 652 0), (.int 201 0), (.str "/claim/cut.py" 653)]⟩), ⟨[]⟩⟩
noncomputable def o360 (_ : Params) : Obj := ⟨(.type "function"), .none, .func ⟨"retrieve_by_key_identifier", "CertificateRegistry.retrieve_by_key_identifier", argsOf (sub 16 7), .stmts (bodyOf (sub 16 7)), scopeOf (sub 16 7), 3, [], .none, .none, .none, (.str "certvalidator.registry" 590), .none, (.ref 350), .none, 0⟩, ⟨[]⟩⟩
noncomputable def o361 (_ : Params) : Obj := ⟨(.type "tuple"), .none, (.seq ⟨[.none]⟩ 0), ⟨[]⟩⟩
noncomputable def o362 (_ : Params) : Obj := ⟨(.type "tuple"), .none, (.seq ⟨[]⟩ 0), ⟨[]⟩⟩
noncomputable def o363 (_ : Params) : Obj := ⟨.none, .none, (.fields ⟨[]⟩), ⟨[]⟩⟩
noncomputable def o364 (_ : Params) : Obj := ⟨(.type "tuple"), .none, (.seq ⟨[(.str "self" 658), (.str "name" 659), (.str "first_certificate" 660)]⟩ 0), ⟨[]⟩⟩
noncomputable def o365 (_ : Params) : Obj := ⟨(.type "tuple"), .none, (.seq ⟨[]⟩ 0), ⟨[]⟩⟩
noncomputable def o366 (_ : Params) : Obj := ⟨.none, .none, .func ⟨"retrieve_by_name", "CertificateRegistry.retrieve_by_name", argsOf (sub 16 8), .stmts (bodyOf (sub 16 8)), scopeOf (sub 16 8), 0, [], .none, .none, .none, .none, .none, .none, .none, 0⟩, ⟨[]⟩⟩
noncomputable def o367 (_ : Params) : Obj := ⟨(.type "code"), .none, (.fields ⟨[(.str "retrieve_by_name" 655), (.str "CertificateRegistry.retrieve_by_name" 656), (.str "/claim/cut.py" 657), (.int 204 0), (.int 3 0), (.int 0 0), (.int 0 0), (.int 3 0), (.ref 353), (.bool .true), (.int 181 0), (.ref 354), .none, (.ref 355), (.ref 356), (.ref 357), (.int 661 0), (.int 204 0), (.str "/claim/cut.py" 662)]⟩), ⟨[]⟩⟩
noncomputable def o368 (_ : Params) : Obj := ⟨(.type "function"), .none, .func ⟨"retrieve_by_name", "CertificateRegistry.retrieve_by_name", argsOf (sub 16 8), .stmts (bodyOf (sub 16 8)), scopeOf (sub 16 8), 3, [], (.ref 352), .none, .none, (.str "certvalidator.registry" 590), .none, (.ref 358), .none, 0⟩, ⟨[]⟩⟩
noncomputable def o369 (_ : Params) : Obj := ⟨(.type "tuple"), .none, (.seq ⟨[]⟩ 0), ⟨[]⟩⟩
noncomputable def o370 (_ : Params) : Obj := ⟨.none, .none, (.fields ⟨[]⟩), ⟨[]⟩⟩
noncomputable def o371 (_ : Params) : Obj := ⟨(.type "tuple"), .none, (.seq ⟨[(.str "self" 667), (.str "end_entity_cert" 668), (.str "path" 669), (.str "paths" 670), (.str "failed_paths" 671), (.str "cert_name" 672), (.str "missing_issuer_name" 673)]⟩ 0), ⟨[]⟩⟩
noncomputable def o372 (_ : Params) : Obj := ⟨(.type "tuple"), .none, (.seq ⟨[]⟩ 0), ⟨[]⟩⟩
noncomputable def o373 (_ : Params) : Obj := ⟨.none, .none, .func ⟨"build_paths", "CertificateRegistry.build_paths", argsOf (sub 16 9), .stmts (bodyOf (sub 16 9)), scopeOf (sub 16 9), 0, [], .none, .none, .none, .none, .none, .none, .none, 0⟩, ⟨[]⟩⟩
noncomputable def o374 (_ : Params) : Obj := ⟨(.type "code"), .none, (.fields ⟨[(.str "build_paths" 664), (.str "CertificateRegistry.build_paths" 665), (.str "/claim/cut.py" 666), (.int 207 0), (.int 2 0), (.int 0 0), (.int 0 0), (.int 3 0), (.ref 360), (.bool .true), (.int 181 0), (.ref 361), .none, (.ref 362), (.ref 363), (.ref 364), (.int 674 0), (.int 207 0), (.str "/claim/cut.py" 675)]⟩), ⟨[]⟩⟩
noncomputable def o375 (_ : Params) : Obj := ⟨(.type "function"), .none, .func ⟨"build_paths", "CertificateRegistry.build_paths", argsOf (sub 16 9), .stmts (bodyOf (sub 16 9)), scopeOf (sub 16 9), 3, [], .none, .none, .none, (.str "certvalidator.registry" 590), .none, (.ref 365), .none, 0⟩, ⟨[]⟩⟩
noncomputable def o376 (_ : Params) : Obj := ⟨(.type "tuple"), .none, (.seq ⟨[]⟩ 0), ⟨[]⟩⟩
noncomputable def o377 (_ : Params) : Obj := ⟨.none, .none, (.fields ⟨[]⟩), ⟨[]⟩⟩
noncomputable def o378 (_ : Params) : Obj := ⟨(.type "tuple"), .none, (.seq ⟨[(.str "self" 680), (.str "path" 681), (.str "paths" 682), (.str "failed_paths" 683), (.str "new_branches" 684), (.str "issuer" 685)]⟩ 0), ⟨[]⟩⟩
noncomputable def o379 (_ : Params) : Obj := ⟨(.type "tuple"), .none, (.seq ⟨[]⟩ 0), ⟨[]⟩⟩
noncomputable def o380 (_ : Params) : Obj := ⟨.none, .none, .func ⟨"_walk_issuers", "CertificateRegistry._walk_issuers", argsOf (sub 16 10), .stmts (bodyOf (sub 16 10)), scopeOf (sub 16 10), 0, [], .none, .none, .none, .none, .none, .none, .none, 0⟩, ⟨[]⟩⟩
noncomputable def o381 (_ : Params) : Obj := ⟨(.type "code"), .none, (.fields ⟨[(.str "_walk_issuers" 677), (.str "CertificateRegistry._walk_issuers" 678), (.str "/claim/cut.py" 679), (.int 220 0), (.int 4 0), (.int 0 0), (.int 0 0), (.int 3 0), (.ref 367), (.bool .true), (.int 181 0), (.ref 368), .none, (.ref 369), (.ref 370), (.ref 371), (.int 686 0), (.int 220 0), (.str "/claim/cut.py" 687)]⟩), ⟨[]⟩⟩
noncomputable def o382 (_ : Params) : Obj := ⟨(.type "function"), .none, .func ⟨"_walk_issuers", "CertificateRegistry._walk_issuers", argsOf (sub 16 10), .stmts (bodyOf (sub 16 10)), scopeOf (sub 16 10), 3, [], .none, .none, .none, (.str "certvalidator.registry" 590), .none, (.ref 372), .none, 0⟩, ⟨[]⟩⟩
noncomputable def o383 (_ : Params) : Obj := ⟨(.type "tuple"), .none, (.seq ⟨[]⟩ 0), ⟨[]⟩⟩
noncomputable def o384 (_ : Params) : Obj := ⟨.none, .none, (.fields ⟨[]⟩), ⟨[]⟩⟩
noncomputable def o385 (_ : Params) : Obj := ⟨(.type "tuple"), .none, (.seq ⟨[(.str "self" 692), (.str "cert" 693), (.str "issuer_hashable" 694), (.str "issuer" 695)]⟩ 0), ⟨[]⟩⟩
noncomputable def o386 (_ : Params) : Obj := ⟨(.type "tuple"), .none, (.seq ⟨[]⟩ 0), ⟨[]⟩⟩
noncomputable def o387 (_ : Params) : Obj := ⟨.none, .none, .func ⟨"_possible_issuers", "CertificateRegistry._possible_issuers", argsOf (sub 16 11), .stmts (bodyOf (sub 16 11)), scopeOf (sub 16 11), 0, [], .none, .none, .none, .none, .none, .none, .none, 0⟩, ⟨[]⟩⟩
noncomputable def o388 (_ : Params) : Obj := ⟨(.type "code"), .none, (.fields ⟨[(.str "_possible_issuers" 689), (.str "CertificateRegistry._possible_issuers" 690), (.str "/claim/cut.py" 691), (.int 234 0), (.int 2 0), (.int 0 0), (.int 0 0), (.int 35 0), (.ref 374), (.bool .true), (.int 181 0), (.ref 375), .none, (.ref 376), (.ref 377), (.ref 378), (.int 696 0), (.int 234 0), (.str "/claim/cut.py" 697)]⟩), ⟨[]⟩⟩
noncomputable def o389 (_ : Params) : Obj := ⟨(.type "function"), .none, .func ⟨"_possible_issuers", "CertificateRegistry._possible_issuers", argsOf (sub 16 11), .stmts (bodyOf (sub 16 11)), scopeOf (sub 16 11), 3, [], .none, .none, .none, (.str "certvalidator.registry" 590), .none, (.ref 379), .none, 0⟩, ⟨[]⟩⟩
noncomputable def o390 (_ : Params) : Obj := ⟨(.type "tuple"), .none, (.seq ⟨[(.str "_ca_lookup" 699), (.str "_key_identifier_map" 700), (.str "_subject_map" 701)]⟩ 0), ⟨[]⟩⟩
noncomputable def o391 (P : Params) : Obj := ⟨(.type "dict"), .none, (.dict ⟨[⟨(PySem.PyData.keyHash P "__module__"), (.str "__module__" 599), (.str "certvalidator.registry" 590)⟩, ⟨(PySem.PyData.keyHash P "__firstlineno__"), (.str "__firstlineno__" 603), (.int 145 602)⟩, ⟨(PySem.PyData.keyHash P "_subject_map"), (.str "_subject_map" 604), .none⟩, ⟨(PySem.PyData.keyHash P "_key_identifier_map"), (.str "_key_identifier_map" 605), .none⟩, ⟨(PySem.PyData.keyHash P "_ca_lookup"), (.str "_ca_lookup" 606), .none⟩, ⟨(PySem.PyData.keyHash P "__init__"), (.str "__init__" 619), (.ref 323)⟩, ⟨(PySem.PyData.keyHash P "_validate_unarmor"), (.str "_validate_unarmor" 630), (.ref 330)⟩, ⟨(PySem.PyData.keyHash P "is_ca"), (.str "is_ca" 638), (.ref 337)⟩, ⟨(PySem.PyData.keyHash P "add_other_cert"), (.str "add_other_cert" 646), (.ref 344)⟩, ⟨(PySem.PyData.keyHash P "retrieve_by_key_identifier"), (.str "retrieve_by_key_identifier" 654), (.ref 351)⟩, ⟨(PySem.PyData.keyHash P "retrieve_by_name"), (.str "retrieve_by_name" 663), (.ref 359)⟩, ⟨(PySem.PyData.keyHash P "build_paths"), (.str "build_paths" 676), (.ref 366)⟩, ⟨(PySem.PyData.keyHash P "_walk_issuers"), (.str "_walk_issuers" 688), (.ref 373)⟩, ⟨(PySem.PyData.keyHash P "_possible_issuers"), (.str "_possible_issuers" 698), (.ref 380)⟩, ⟨(PySem.PyData.keyHash P "__static_attributes__"), (.str "__static_attributes__" 702), (.ref 381)⟩, ⟨(PySem.PyData.keyHash P "__dict__"), (.str "__dict__" 704), (.ref 384)⟩, ⟨(PySem.PyData.keyHash P "__weakref__"), (.str "__weakref__" 706), (.ref 385)⟩, ⟨(PySem.PyData.keyHash P "__doc__"), (.str "__doc__" 707), .none⟩]⟩ 4), ⟨[]⟩⟩
noncomputable def o392 (_ : Params) : Obj := ⟨(.type "type"), .none, (.cls ⟨"CertificateRegistry", [(.type "object")], [(.ref 383), (.type "object")], 382, "CertificateRegistry", .true, [], [], .false, .none, .false⟩), ⟨[.none, .none, (.some (.str "CertificateRegistry" 592)), (.some (.str "CertificateRegistry" 600)), (.some (.builtin "object.__new__")), (.some (.bool .true))]⟩⟩
noncomputable def o393 (_ : Params) : Obj := ⟨(.type "getset_descriptor"), .none, (.fields ⟨[(.str "__dict__" 703), (.ref 383), (.builtin "function.__dict__"), (.builtin "function.__dict__#set")]⟩), ⟨[]⟩⟩
noncomputable def o394 (_ : Params) : Obj := ⟨(.type "getset_descriptor"), .none, (.fields ⟨[(.str "__weakref__" 705), (.ref 383), (.builtin "ExceptionGroup.__weakref__"), .none]⟩), ⟨[]⟩⟩
noncomputable def o395 (_ : Params) : Obj := ⟨(.type "super"), .none, (.fields ⟨[(.ref 383), (.ref 383), (.ref 383)]⟩), ⟨[]⟩⟩
noncomputable def o396 (_ : Params) : Obj := ⟨(.type "builtin_function_or_method"), .none, (.fields ⟨[(.builtin "object.__init_subclass__"), (.ref 383)]⟩), ⟨[]⟩⟩
noncomputable def tree9 (P : Params) : BT := (.node (boot_o_0 P) (.node (boot_o_1 P) (.node (o316 P) (.node (boot_o_7 P) (.node (o7 P) (.node (o23 P) (.node (o57 P) (.node (o125 P) (.node (o261 P) .nil .nil) (.node (o392 P) .nil .nil)) (.node (o195 P) (.node (o328 P) .nil .nil) .nil)) (.node (o91 P) (.node (o157 P) (.node (o293 P) .nil .nil) .nil) (.node (o229 P) (.node (o360 P) .nil .nil) .nil))) (.node (o39 P) (.node (o73 P) (.node (o141 P) (.node (o277 P) .nil .nil) .nil) (.node (o213 P) (.node (o344 P) .nil .nil) .nil)) (.node (o107 P) (.node (o176 P) (.node (o309 P) .nil .nil) .nil) (.node (o245 P) (.node (o376 P) .nil .nil) .nil)))) (.node (o15 P) (.node (o31 P) (.node (o65 P) (.node (o133 P) (.node (o269 P) .nil .nil) .nil) (.node (o203 P) (.node (o336 P) .nil .nil) .nil)) (.node (o99 P) (.node (o168 P) (.node (o301 P) .nil .nil) .nil) (.node (o237 P) (.node (o368 P) .nil .nil) .nil))) (.node (o47 P) (.node (o81 P) (.node (o149 P) (.node (o285 P) .nil .nil) .nil) (.node (o221 P) (.node (o352 P) .nil .nil) .nil)) (.node (o117 P) (.node (o184 P) (.node (o320 P) .nil .nil) .nil) (.node (o253 P) (.node (o384 P) .nil .nil) .nil))))) (.node (o1 P) (.node (o11 P) (.node (o27 P) (.node (o61 P) (.node (o129 P) (.node (o265 P) .nil .nil) (.node (o396 P) .nil .nil)) (.node (o199 P) (.node (o332 P) .nil .nil) .nil)) (.node (o95 P) (.node (o161 P) (.node (o297 P) .nil .nil) .nil) (.node (o233 P) (.node (o364 P) .nil .nil) .nil))) (.node (o43 P) (.node (o77 P) (.node (o145 P) (.node (o281 P) .nil .nil) .nil) (.node (o217 P) (.node (o348 P) .nil .nil) .nil)) (.node (o113 P) (.node (o180 P) (.node (o313 P) .nil .nil) .nil) (.node (o249 P) (.node (o380 P) .nil .nil) .nil)))) (.node (o19 P) (.node (o35 P) (.node (o69 P) (.node (o137 P) (.node (o273 P) .nil .nil) .nil) (.node (o209 P) (.node (o340 P) .nil .nil) .nil)) (.node (o103 P) (.node (o172 P) (.node (o305 P) .nil .nil) .nil) (.node (o241 P) (.node (o372 P) .nil .nil) .nil))) (.node (o53 P) (.node (o85 P) (.node (o153 P) (.node (o289 P) .nil .nil) .nil) (.node (o225 P) (.node (o356 P) .nil .nil) .nil)) (.node (o121 P) (.node (o188 P) (.node (o324 P) .nil .nil) .nil) (.node (o257 P) (.node (o388 P) .nil .nil) .nil)))))) (.node (boot_o_5 P) (.node (boot_o_9 P) (.node (o9 P) (.node (o25 P) (.node (o59 P) (.node (o127 P) (.node (o263 P) .nil .nil) (.node (o394 P) .nil .nil)) (.node (o197 P) (.node (o330 P) .nil .nil) .nil)) (.node (o93 P) (.node (o159 P) (.node (o295 P) .nil .nil) .nil) (.node (o231 P) (.node (o362 P) .nil .nil) .nil))) (.node (o41 P) (.node (o75 P) (.node (o143 P) (.node (o279 P) .nil .nil) .nil) (.node (o215 P) (.node (o346 P) .nil .nil) .nil)) (.node (o111 P) (.node (o178 P) (.node (o311 P) .nil .nil) .nil) (.node (o247 P) (.node (o378 P) .nil .nil) .nil)))) (.node (o17 P) (.node (o33 P) (.node (o67 P) (.node (o135 P) (.node (o271 P) .nil .nil) .nil) (.node (o205 P) (.node (o338 P) .nil .nil) .nil)) (.node (o101 P) (.node (o170 P) (.node (o303 P) .nil .nil) .nil) (.node (o239 P) (.node (o370 P) .nil .nil) .nil))) (.node (o51 P) (.node (o83 P) (.node (o151 P) (.node (o287 P) .nil .nil) .nil) (.node (o223 P) (.node (o354 P) .nil .nil) .nil)) (.node (o119 P) (.node (o186 P) (.node (o322 P) .nil .nil) .nil) (.node (o255 P) (.node (o386 P) .nil .nil) .nil))))) (.node (o3 P) (.node (o13 P) (.node (o29 P) (.node (o63 P) (.node (o131 P) (.node (o267 P) .nil .nil) .nil) (.node (o201 P) (.node (o334 P) .nil .nil) .nil)) (.node (o97 P) (.node (o166 P) (.node (o299 P) .nil .nil) .nil) (.node (o235 P) (.node (o366 P) .nil .nil) .nil))) (.node (o45 P) (.node (o79 P) (.node (o147 P) (.node (o283 P) .nil .nil) .nil) (.node (o219 P) (.node (o350 P) .nil .nil) .nil)) (.node (o115 P) (.node (o182 P) (.node (o318 P) .nil .nil) .nil) (.node (o251 P) (.node (o382 P) .nil .nil) .nil)))) (.node (o21 P) (.node (o37 P) (.node (o71 P) (.node (o139 P) (.node (o275 P) .nil .nil) .nil) (.node (o211 P) (.node (o342 P) .nil .nil) .nil)) (.node (o105 P) (.node (o174 P) (.node (o307 P) .nil .nil) .nil) (.node (o243 P) (.node (o374 P) .nil .nil) .nil))) (.node (o55 P) (.node (o89 P) (.node (o155 P) (.node (o291 P) .nil .nil) .nil) (.node (o227 P) (.node (o358 P) .nil .nil) .nil)) (.node (o123 P) (.node (o190 P) (.node (o326 P) .nil .nil) .nil) (.node (o259 P) (.node (o390 P) .nil .nil) .nil))))))) (.node (o163 P) (.node (boot_o_4 P) (.node (boot_o_8 P) (.node (o8 P) (.node (o24 P) (.node (o58 P) (.node (o126 P) (.node (o262 P) .nil .nil) (.node (o393 P) .nil .nil)) (.node (o196 P) (.node (o329 P) .nil .nil) .nil)) (.node (o92 P) (.node (o158 P) (.node (o294 P) .nil .nil) .nil) (.node (o230 P) (.node (o361 P) .nil .nil) .nil))) (.node (o40 P) (.node (o74 P) (.node (o142 P) (.node (o278 P) .nil .nil) .nil) (.node (o214 P) (.node (o345 P) .nil .nil) .nil)) (.node (o108 P) (.node (o177 P) (.node (o310 P) .nil .nil) .nil) (.node (o246 P) (.node (o377 P) .nil .nil) .nil)))) (.node (o16 P) (.node (o32 P) (.node (o66 P) (.node (o134 P) (.node (o270 P) .nil .nil) .nil) (.node (o204 P) (.node (o337 P) .nil .nil) .nil)) (.node (o100 P) (.node (o169 P) (.node (o302 P) .nil .nil) .nil) (.node (o238 P) (.node (o369 P) .nil .nil) .nil))) (.node (o48 P) (.node (o82 P) (.node (o150 P) (.node (o286 P) .nil .nil) .nil) (.node (o222 P) (.node (o353 P) .nil .nil) .nil)) (.node (o118 P) (.node (o185 P) (.node (o321 P) .nil .nil) .nil) (.node (o254 P) (.node (o385 P) .nil .nil) .nil))))) (.node (o317 P) (.node (o12 P) (.node (o28 P) (.node (o62 P) (.node (o130 P) (.node (o266 P) .nil .nil) .nil) (.node (o200 P) (.node (o333 P) .nil .nil) .nil)) (.node (o96 P) (.node (o162 P) (.node (o298 P) .nil .nil) .nil) (.node (o234 P) (.node (o365 P) .nil .nil) .nil))) (.node (o44 P) (.node (o78 P) (.node (o146 P) (.node (o282 P) .nil .nil) .nil) (.node (o218 P) (.node (o349 P) .nil .nil) .nil)) (.node (o114 P) (.node (o181 P) (.node (o314 P) .nil .nil) .nil) (.node (o250 P) (.node (o381 P) .nil .nil) .nil)))) (.node (o20 P) (.node (o36 P) (.node (o70 P) (.node (o138 P) (.node (o274 P) .nil .nil) .nil) (.node (o210 P) (.node (o341 P) .nil .nil) .nil)) (.node (o104 P) (.node (o173 P) (.node (o306 P) .nil .nil) .nil) (.node (o242 P) (.node (o373 P) .nil .nil) .nil))) (.node (o54 P) (.node (o88 P) (.node (o154 P) (.node (o290 P) .nil .nil) .nil) (.node (o226 P) (.node (o357 P) .nil .nil) .nil)) (.node (o122 P) (.node (o189 P) (.node (o325 P) .nil .nil) .nil) (.node (o258 P) (.node (o389 P) .nil .nil) .nil)))))) (.node (boot_o_6 P) (.node (boot_o_10 P) (.node (o10 P) (.node (o26 P) (.node (o60 P) (.node (o128 P) (.node (o264 P) .nil .nil) (.node (o395 P) .nil .nil)) (.node (o198 P) (.node (o331 P) .nil .nil) .nil)) (.node (o94 P) (.node (o160 P) (.node (o296 P) .nil .nil) .nil) (.node (o232 P) (.node (o363 P) .nil .nil) .nil))) (.node (o42 P) (.node (o76 P) (.node (o144 P) (.node (o280 P) .nil .nil) .nil) (.node (o216 P) (.node (o347 P) .nil .nil) .nil)) (.node (o112 P) (.node (o179 P) (.node (o312 P) .nil .nil) .nil) (.node (o248 P) (.node (o379 P) .nil .nil) .nil)))) (.node (o18 P) (.node (o34 P) (.node (o68 P) (.node (o136 P) (.node (o272 P) .nil .nil) .nil) (.node (o208 P) (.node (o339 P) .nil .nil) .nil)) (.node (o102 P) (.node (o171 P) (.node (o304 P) .nil .nil) .nil) (.node (o240 P) (.node (o371 P) .nil .nil) .nil))) (.node (o52 P) (.node (o84 P) (.node (o152 P) (.node (o288 P) .nil .nil) .nil) (.node (o224 P) (.node (o355 P) .nil .nil) .nil)) (.node (o120 P) (.node (o187 P) (.node (o323 P) .nil .nil) .nil) (.node (o256 P) (.node (o387 P) .nil .nil) .nil))))) (.node (o4 P) (.node (o14 P) (.node (o30 P) (.node (o64 P) (.node (o132 P) (.node (o268 P) .nil .nil) .nil) (.node (o202 P) (.node (o335 P) .nil .nil) .nil)) (.node (o98 P) (.node (o167 P) (.node (o300 P) .nil .nil) .nil) (.node (o236 P) (.node (o367 P) .nil .nil) .nil))) (.node (o46 P) (.node (o80 P) (.node (o148 P) (.node (o284 P) .nil .nil) .nil) (.node (o220 P) (.node (o351 P) .nil .nil) .nil)) (.node (o116 P) (.node (o183 P) (.node (o319 P) .nil .nil) .nil) (.node (o252 P) (.node (o383 P) .nil .nil) .nil)))) (.node (o22 P) (.node (o38 P) (.node (o72 P) (.node (o140 P) (.node (o276 P) .nil .nil) .nil) (.node (o212 P) (.node (o343 P) .nil .nil) .nil)) (.node (o106 P) (.node (o193 P) (.node (o308 P) .nil .nil) .nil) (.node (o244 P) (.node (o375 P) .nil .nil) .nil))) (.node (o56 P) (.node (o90 P) (.node (o156 P) (.node (o292 P) .nil .nil) .nil) (.node (o228 P) (.node (o359 P) .nil .nil) .nil)) (.node (o124 P) (.node (o194 P) (.node (o327 P) .nil .nil) .nil) (.node (o260 P) (.node (o391 P) .nil .nil) .nil))))))))
noncomputable def o397 (P : Params) : Obj := ⟨(.type "dict"), .none, (.dict ⟨[⟨(PySem.PyData.keyHash P "__name__"), (.str "__name__" 165), (.str "law_je0006_01" 710)⟩, ⟨(PySem.PyData.keyHash P "__doc__"), (.str "__doc__" 166), .none⟩, ⟨(PySem.PyData.keyHash P "__package__"), (.str "__package__" 167), .none⟩, ⟨(PySem.PyData.keyHash P "__loader__"), (.str "__loader__" 168), (.builtin "__main__.__loader__#opaque")⟩, ⟨(PySem.PyData.keyHash P "__spec__"), (.str "__spec__" 169), .none⟩, ⟨(PySem.PyData.keyHash P "__annotations__"), (.str "__annotations__" 170), (.ref 6)⟩, ⟨(PySem.PyData.keyHash P "__builtins__"), (.str "__builtins__" 171), (.ref 4)⟩, ⟨(PySem.PyData.keyHash P "__file__"), (.str "__file__" 173), (.str "/claim/cut.py" 172)⟩, ⟨(PySem.PyData.keyHash P "__cached__"), (.str "__cached__" 174), .none⟩, ⟨(PySem.PyData.keyHash P "_wall"), (.str "_wall" 193), (.ref 21)⟩, ⟨(PySem.PyData.keyHash P "pretty_message"), (.str "pretty_message" 203), (.ref 28)⟩, ⟨(PySem.PyData.keyHash P "type_name"), (.str "type_name" 212), (.ref 35)⟩, ⟨(PySem.PyData.keyHash P "Native"), (.str "Native" 241), (.ref 52)⟩, ⟨(PySem.PyData.keyHash P "Name"), (.str "Name" 288), (.ref 87)⟩, ⟨(PySem.PyData.keyHash P "Key"), (.str "Key" 318), (.ref 108)⟩, ⟨(PySem.PyData.keyHash P "Certificate"), (.str "Certificate" 406), (.ref 160)⟩, ⟨(PySem.PyData.keyHash P "PathError"), (.str "PathError" 428), (.ref 174)⟩, ⟨(PySem.PyData.keyHash P "PathBuildingError"), (.str "PathBuildingError" 444), (.ref 187)⟩, ⟨(PySem.PyData.keyHash P "DuplicateCertificateError"), (.str "DuplicateCertificateError" 460), (.ref 199)⟩, ⟨(PySem.PyData.keyHash P "ValidationPath"), (.str "ValidationPath" 589), (.ref 304)⟩, ⟨(PySem.PyData.keyHash P "CertificateRegistry"), (.str "CertificateRegistry" 709), (.ref 383)⟩, ⟨(PySem.PyData.keyHash P "_law_chains"), (.str "_law_chains" 717), (.ref 392)⟩, ⟨(PySem.PyData.keyHash P "law"), (.str "law" 723), (.ref 397)⟩]⟩ 23), ⟨[]⟩⟩
noncomputable def o398 (_ : Params) : Obj := ⟨.none, .none, (.fields ⟨[(.int 1 0), (.int 0 0), (.ref 20), (.int 5 0), (.int 0 0), (.ref 27), (.int 8 0), (.int 0 0), (.ref 34), (.int 10 0), (.int 0 0), (.ref 41), (.int 14 0), (.int 0 0), (.ref 62), (.int 25 0), (.int 0 0), (.ref 97), (.int 30 0), (.int 0 0), (.ref 118), (.int 75 0), (.int 0 0), (.ref 170), (.int 77 0), (.int 0 0), (.ref 183), (.int 79 0), (.int 0 0), (.ref 195), (.int 82 0), (.int 0 0), (.ref 207), (.int 145 0), (.int 0 0), (.ref 314), (.int 247 0), (.int 0 0), (.ref 391), (.int 259 0), (.int 0 0), (.ref 396)]⟩), ⟨[]⟩⟩
noncomputable def o399 (_ : Params) : Obj := ⟨(.type "tuple"), .none, (.seq ⟨[]⟩ 0), ⟨[]⟩⟩
noncomputable def o400 (_ : Params) : Obj := ⟨.none, .none, (.fields ⟨[]⟩), ⟨[]⟩⟩
noncomputable def o401 (_ : Params) : Obj := ⟨.none, .none, .func ⟨"_law_chains", "_law_chains", argsOf (cell 18), .stmts (bodyOf (cell 18)), scopeOf (cell 18), 0, [], .none, .none, .none, .none, .none, .none, .none, 0⟩, ⟨[]⟩⟩
noncomputable def o402 (_ : Params) : Obj := ⟨(.type "code"), .none, (.fields ⟨[(.str "_law_chains" 712), (.str "_law_chains" 713), (.str "/claim/cut.py" 714), (.int 247 0), (.int 3 0), (.int 0 0), (.int 0 0), (.int 3 0), (.ref 388), (.bool .true), (.int 181 0), (.ref 389), .none, .none, .none, (.ref 390), (.int 715 0), (.int 247 0), (.str "/claim/cut.py" 716)]⟩), ⟨[]⟩⟩
noncomputable def o403 (_ : Params) : Obj := ⟨(.type "function"), .none, .func ⟨"_law_chains", "_law_chains", argsOf (cell 18), .stmts (bodyOf (cell 18)), scopeOf (cell 18), 3, [], .none, .none, .none, (.str "law_je0006_01" 710), .none, (.ref 391), .none, 0⟩, ⟨[]⟩⟩
noncomputable def o404 (_ : Params) : Obj := ⟨(.type "tuple"), .none, (.seq ⟨[]⟩ 0), ⟨[]⟩⟩
noncomputable def o405 (_ : Params) : Obj := ⟨.none, .none, (.fields ⟨[]⟩), ⟨[]⟩⟩
noncomputable def o406 (_ : Params) : Obj := ⟨.none, .none, .func ⟨"law", "law", argsOf (cell 19), .stmts (bodyOf (cell 19)), scopeOf (cell 19), 0, [], .none, .none, .none, .none, .none, .none, .none, 0⟩, ⟨[]⟩⟩
noncomputable def o407 (_ : Params) : Obj := ⟨(.type "code"), .none, (.fields ⟨[(.str "law" 718), (.str "law" 719), (.str "/claim/cut.py" 720), (.int 259 0), (.int 1 0), (.int 0 0), (.int 0 0), (.int 3 0), (.ref 393), (.bool .true), (.int 181 0), (.ref 394), .none, .none, .none, (.ref 395), (.int 721 0), (.int 259 0), (.str "/claim/cut.py" 722)]⟩), ⟨[]⟩⟩
noncomputable def o408 (_ : Params) : Obj := ⟨(.type "function"), .none, .func ⟨"law", "law", argsOf (cell 19), .stmts (bodyOf (cell 19)), scopeOf (cell 19), 3, [], .none, .none, .none, (.str "law_je0006_01" 710), .none, (.ref 396), .none, 0⟩, ⟨[]⟩⟩
noncomputable def tree10 (P : Params) : BT := (.node (boot_o_0 P) (.node (boot_o_1 P) (.node (o397 P) (.node (boot_o_7 P) (.node (o7 P) (.node (o23 P) (.node (o57 P) (.node (o125 P) (.node (o261 P) .nil .nil) (.node (o392 P) .nil .nil)) (.node (o195 P) (.node (o328 P) .nil .nil) .nil)) (.node (o91 P) (.node (o157 P) (.node (o293 P) .nil .nil) .nil) (.node (o229 P) (.node (o360 P) .nil .nil) .nil))) (.node (o39 P) (.node (o73 P) (.node (o141 P) (.node (o277 P) .nil .nil) .nil) (.node (o213 P) (.node (o344 P) .nil .nil) .nil)) (.node (o107 P) (.node (o176 P) (.node (o309 P) .nil .nil) .nil) (.node (o245 P) (.node (o376 P) .nil .nil) .nil)))) (.node (o15 P) (.node (o31 P) (.node (o65 P) (.node (o133 P) (.node (o269 P) .nil .nil) (.node (o402 P) .nil .nil)) (.node (o203 P) (.node (o336 P) .nil .nil) .nil)) (.node (o99 P) (.node (o168 P) (.node (o301 P) .nil .nil) .nil) (.node (o237 P) (.node (o368 P) .nil .nil) .nil))) (.node (o47 P) (.node (o81 P) (.node (o149 P) (.node (o285 P) .nil .nil) .nil) (.node (o221 P) (.node (o352 P) .nil .nil) .nil)) (.node (o117 P) (.node (o184 P) (.node (o320 P) .nil .nil) .nil) (.node (o253 P) (.node (o384 P) .nil .nil) .nil))))) (.node (o1 P) (.node (o11 P) (.node (o27 P) (.node (o61 P) (.node (o129 P) (.node (o265 P) .nil .nil) (.node (o396 P) .nil .nil)) (.node (o199 P) (.node (o332 P) .nil .nil) .nil)) (.node (o95 P) (.node (o161 P) (.node (o297 P) .nil .nil) .nil) (.node (o233 P) (.node (o364 P) .nil .nil) .nil))) (.node (o43 P) (.node (o77 P) (.node (o145 P) (.node (o281 P) .nil .nil) .nil) (.node (o217 P) (.node (o348 P) .nil .nil) .nil)) (.node (o113 P) (.node (o180 P) (.node (o313 P) .nil .nil) .nil) (.node (o249 P) (.node (o380 P) .nil .nil) .nil)))) (.node (o19 P) (.node (o35 P) (.node (o69 P) (.node (o137 P) (.node (o273 P) .nil .nil) (.node (o406 P) .nil .nil)) (.node (o209 P) (.node (o340 P) .nil .nil) .nil)) (.node (o103 P) (.node (o172 P) (.node (o305 P) .nil .nil) .nil) (.node (o241 P) (.node (o372 P) .nil .nil) .nil))) (.node (o53 P) (.node (o85 P) (.node (o153 P) (.node (o289 P) .nil .nil) .nil) (.node (o225 P) (.node (o356 P) .nil .nil) .nil)) (.node (o121 P) (.node (o188 P) (.node (o324 P) .nil .nil) .nil) (.node (o257 P) (.node (o388 P) .nil .nil) .nil)))))) (.node (boot_o_5 P) (.node (boot_o_9 P) (.node (o9 P) (.node (o25 P) (.node (o59 P) (.node (o127 P) (.node (o263 P) .nil .nil) (.node (o394 P) .nil .nil)) (.node (o197 P) (.node (o330 P) .nil .nil) .nil)) (.node (o93 P) (.node (o159 P) (.node (o295 P) .nil .nil) .nil) (.node (o231 P) (.node (o362 P) .nil .nil) .nil))) (.node (o41 P) (.node (o75 P) (.node (o143 P) (.node (o279 P) .nil .nil) .nil) (.node (o215 P) (.node (o346 P) .nil .nil) .nil)) (.node (o111 P) (.node (o178 P) (.node (o311 P) .nil .nil) .nil) (.node (o247 P) (.node (o378 P) .nil .nil) .nil)))) (.node (o17 P) (.node (o33 P) (.node (o67 P) (.node (o135 P) (.node (o271 P) .nil .nil) (.node (o404 P) .nil .nil)) (.node (o205 P) (.node (o338 P) .nil .nil) .nil)) (.node (o101 P) (.node (o170 P) (.node (o303 P) .nil .nil) .nil) (.node (o239 P) (.node (o370 P) .nil .nil) .nil))) (.node (o51 P) (.node (o83 P) (.node (o151 P) (.node (o287 P) .nil .nil) .nil) (.node (o223 P) (.node (o354 P) .nil .nil) .nil)) (.node (o119 P) (.node (o186 P) (.node (o322 P) .nil .nil) .nil) (.node (o255 P) (.node (o386 P) .nil .nil) .nil))))) (.node (o3 P) (.node (o13 P) (.node (o29 P) (.node (o63 P) (.node (o131 P) (.node (o267 P) .nil .nil) (.node (o400 P) .nil .nil)) (.node (o201 P) (.node (o334 P) .nil .nil) .nil)) (.node (o97 P) (.node (o166 P) (.node (o299 P) .nil .nil) .nil) (.node (o235 P) (.node (o366 P) .nil .nil) .nil))) (.node (o45 P) (.node (o79 P) (.node (o147 P) (.node (o283 P) .nil .nil) .nil) (.node (o219 P) (.node (o350 P) .nil .nil) .nil)) (.node (o115 P) (.node (o182 P) (.node (o318 P) .nil .nil) .nil) (.node (o251 P) (.node (o382 P) .nil .nil) .nil)))) (.node (o21 P) (.node (o37 P) (.node (o71 P) (.node (o139 P) (.node (o275 P) .nil .nil) (.node (o408 P) .nil .nil)) (.node (o211 P) (.node (o342 P) .nil .nil) .nil)) (.node (o105 P) (.node (o174 P) (.node (o307 P) .nil .nil) .nil) (.node (o243 P) (.node (o374 P) .nil .nil) .nil))) (.node (o55 P) (.node (o89 P) (.node (o155 P) (.node (o291 P) .nil .nil) .nil) (.node (o227 P) (.node (o358 P) .nil .nil) .nil)) (.node (o123 P) (.node (o190 P) (.node (o326 P) .nil .nil) .nil) (.node (o259 P) (.node (o390 P) .nil .nil) .nil))))))) (.node (o163 P) (.node (boot_o_4 P) (.node (boot_o_8 P) (.node (o8 P) (.node (o24 P) (.node (o58 P) (.node (o126 P) (.node (o262 P) .nil .nil) (.node (o393 P) .nil .nil)) (.node (o196 P) (.node (o329 P) .nil .nil) .nil)) (.node (o92 P) (.node (o158 P) (.node (o294 P) .nil .nil) .nil) (.node (o230 P) (.node (o361 P) .nil .nil) .nil))) (.node (o40 P) (.node (o74 P) (.node (o142 P) (.node (o278 P) .nil .nil) .nil) (.node (o214 P) (.node (o345 P) .nil .nil) .nil)) (.node (o108 P) (.node (o177 P) (.node (o310 P) .nil .nil) .nil) (.node (o246 P) (.node (o377 P) .nil .nil) .nil)))) (.node (o16 P) (.node (o32 P) (.node (o66 P) (.node (o134 P) (.node (o270 P) .nil .nil) (.node (o403 P) .nil .nil)) (.node (o204 P) (.node (o337 P) .nil .nil) .nil)) (.node (o100 P) (.node (o169 P) (.node (o302 P) .nil .nil) .nil) (.node (o238 P) (.node (o369 P) .nil .nil) .nil))) (.node (o48 P) (.node (o82 P) (.node (o150 P) (.node (o286 P) .nil .nil) .nil) (.node (o222 P) (.node (o353 P) .nil .nil) .nil)) (.node (o118 P) (.node (o185 P) (.node (o321 P) .nil .nil) .nil) (.node (o254 P) (.node (o385 P) .nil .nil) .nil))))) (.node (o398 P) (.node (o12 P) (.node (o28 P) (.node (o62 P) (.node (o130 P) (.node (o266 P) .nil .nil) (.node (o399 P) .nil .nil)) (.node (o200 P) (.node (o333 P) .nil .nil) .nil)) (.node (o96 P) (.node (o162 P) (.node (o298 P) .nil .nil) .nil) (.node (o234 P) (.node (o365 P) .nil .nil) .nil))) (.node (o44 P) (.node (o78 P) (.node (o146 P) (.node (o282 P) .nil .nil) .nil) (.node (o218 P) (.node (o349 P) .nil .nil) .nil)) (.node (o114 P) (.node (o181 P) (.node (o314 P) .nil .nil) .nil) (.node (o250 P) (.node (o381 P) .nil .nil) .nil)))) (.node (o20 P) (.node (o36 P) (.node (o70 P) (.node (o138 P) (.node (o274 P) .nil .nil) (.node (o407 P) .nil .nil)) (.node (o210 P) (.node (o341 P) .nil .nil) .nil)) (.node (o104 P) (.node (o173 P) (.node (o306 P) .nil .nil) .nil) (.node (o242 P) (.node (o373 P) .nil .nil) .nil))) (.node (o54 P) (.node (o88 P) (.node (o154 P) (.node (o290 P) .nil .nil) .nil) (.node (o226 P) (.node (o357 P) .nil .nil) .nil)) (.node (o122 P) (.node (o189 P) (.node (o325 P) .nil .nil) .nil) (.node (o258 P) (.node (o389 P) .nil .nil) .nil)))))) (.node (boot_o_6 P) (.node (boot_o_10 P) (.node (o10 P) (.node (o26 P) (.node (o60 P) (.node (o128 P) (.node (o264 P) .nil .nil) (.node (o395 P) .nil .nil)) (.node (o198 P) (.node (o331 P) .nil .nil) .nil)) (.node (o94 P) (.node (o160 P) (.node (o296 P) .nil .nil) .nil) (.node (o232 P) (.node (o363 P) .nil .nil) .nil))) (.node (o42 P) (.node (o76 P) (.node (o144 P) (.node (o280 P) .nil .nil) .nil) (.node (o216 P) (.node (o347 P) .nil .nil) .nil)) (.node (o112 P) (.node (o179 P) (.node (o312 P) .nil .nil) .nil) (.node (o248 P) (.node (o379 P) .nil .nil) .nil)))) (.node (o18 P) (.node (o34 P) (.node (o68 P) (.node (o136 P) (.node (o272 P) .nil .nil) (.node (o405 P) .nil .nil)) (.node (o208 P) (.node (o339 P) .nil .nil) .nil)) (.node (o102 P) (.node (o171 P) (.node (o304 P) .nil .nil) .nil) (.node (o240 P) (.node (o371 P) .nil .nil) .nil))) (.node (o52 P) (.node (o84 P) (.node (o152 P) (.node (o288 P) .nil .nil) .nil) (.node (o224 P) (.node (o355 P) .nil .nil) .nil)) (.node (o120 P) (.node (o187 P) (.node (o323 P) .nil .nil) .nil) (.node (o256 P) (.node (o387 P) .nil .nil) .nil))))) (.node (o4 P) (.node (o14 P) (.node (o30 P) (.node (o64 P) (.node (o132 P) (.node (o268 P) .nil .nil) (.node (o401 P) .nil .nil)) (.node (o202 P) (.node (o335 P) .nil .nil) .nil)) (.node (o98 P) (.node (o167 P) (.node (o300 P) .nil .nil) .nil) (.node (o236 P) (.node (o367 P) .nil .nil) .nil))) (.node (o46 P) (.node (o80 P) (.node (o148 P) (.node (o284 P) .nil .nil) .nil) (.node (o220 P) (.node (o351 P) .nil .nil) .nil)) (.node (o116 P) (.node (o183 P) (.node (o319 P) .nil .nil) .nil) (.node (o252 P) (.node (o383 P) .nil .nil) .nil)))) (.node (o22 P) (.node (o38 P) (.node (o72 P) (.node (o140 P) (.node (o276 P) .nil .nil) .nil) (.node (o212 P) (.node (o343 P) .nil .nil) .nil)) (.node (o106 P) (.node (o193 P) (.node (o308 P) .nil .nil) .nil) (.node (o244 P) (.node (o375 P) .nil .nil) .nil))) (.node (o56 P) (.node (o90 P) (.node (o156 P) (.node (o292 P) .nil .nil) .nil) (.node (o228 P) (.node (o359 P) .nil .nil) .nil)) (.node (o124 P) (.node (o194 P) (.node (o327 P) .nil .nil) .nil) (.node (o260 P) (.node (o391 P) .nil .nil) .nil))))))))
noncomputable def heapZ (P : Params) : Heap := ⟨⟨[(boot_o_0 P), (boot_o_1 P), (o163 P), (o397 P), (boot_o_4 P), (boot_o_5 P), (boot_o_6 P), (boot_o_7 P), (boot_o_8 P), (boot_o_9 P), (boot_o_10 P), (o1 P), (o398 P), (o3 P), (o4 P), (o7 P), (o8 P), (o9 P), (o10 P), (o11 P), (o12 P), (o13 P), (o14 P), (o15 P), (o16 P), (o17 P), (o18 P), (o19 P), (o20 P), (o21 P), (o22 P), (o23 P), (o24 P), (o25 P), (o26 P), (o27 P), (o28 P), (o29 P), (o30 P), (o31 P), (o32 P), (o33 P), (o34 P), (o35 P), (o36 P), (o37 P), (o38 P), (o39 P), (o40 P), (o41 P), (o42 P), (o43 P), (o44 P), (o45 P), (o46 P), (o47 P), (o48 P), (o51 P), (o52 P), (o53 P), (o54 P), (o55 P), (o56 P), (o57 P), (o58 P), (o59 P), (o60 P), (o61 P), (o62 P), (o63 P), (o64 P), (o65 P), (o66 P), (o67 P), (o68 P), (o69 P), (o70 P), (o71 P), (o72 P), (o73 P), (o74 P), (o75 P), (o76 P), (o77 P), (o78 P), (o79 P), (o80 P), (o81 P), (o82 P), (o83 P), (o84 P), (o85 P), (o88 P), (o89 P), (o90 P), (o91 P), (o92 P), (o93 P), (o94 P), (o95 P), (o96 P), (o97 P), (o98 P), (o99 P), (o100 P), (o101 P), (o102 P), (o103 P), (o104 P), (o105 P), (o106 P), (o107 P), (o108 P), (o111 P), (o112 P), (o113 P), (o114 P), (o115 P), (o116 P), (o117 P), (o118 P), (o119 P), (o120 P), (o121 P), (o122 P), (o123 P), (o124 P), (o125 P), (o126 P), (o127 P), (o128 P), (o129 P), (o130 P), (o131 P), (o132 P), (o133 P), (o134 P), (o135 P), (o136 P), (o137 P), (o138 P), (o139 P), (o140 P), (o141 P), (o142 P), (o143 P), (o144 P), (o145 P), (o146 P), (o147 P), (o148 P), (o149 P), (o150 P), (o151 P), (o152 P), (o153 P), (o154 P), (o155 P), (o156 P), (o157 P), (o158 P), (o159 P), (o160 P), (o161 P), (o162 P), (o166 P), (o167 P), (o168 P), (o169 P), (o170 P), (o171 P), (o172 P), (o173 P), (o174 P), (o193 P), (o176 P), (o177 P), (o178 P), (o179 P), (o180 P), (o181 P), (o182 P), (o183 P), (o184 P), (o185 P), (o186 P), (o187 P), (o188 P), (o189 P), (o190 P), (o194 P), (o195 P), (o196 P), (o197 P), (o198 P), (o199 P), (o200 P), (o201 P), (o202 P), (o203 P), (o204 P), (o205 P), (o208 P), (o209 P), (o210 P), (o211 P), (o212 P), (o213 P), (o214 P), (o215 P), (o216 P), (o217 P), (o218 P), (o219 P), (o220 P), (o221 P), (o222 P), (o223 P), (o224 P), (o225 P), (o226 P), (o227 P), (o228 P), (o229 P), (o230 P), (o231 P), (o232 P), (o233 P), (o234 P), (o235 P), (o236 P), (o237 P), (o238 P), (o239 P), (o240 P), (o241 P), (o242 P), (o243 P), (o244 P), (o245 P), (o246 P), (o247 P), (o248 P), (o249 P), (o250 P), (o251 P), (o252 P), (o253 P), (o254 P), (o255 P), (o256 P), (o257 P), (o258 P), (o259 P), (o260 P), (o261 P), (o262 P), (o263 P), (o264 P), (o265 P), (o266 P), (o267 P), (o268 P), (o269 P), (o270 P), (o271 P), (o272 P), (o273 P), (o274 P), (o275 P), (o276 P), (o277 P), (o278 P), (o279 P), (o280 P), (o281 P), (o282 P), (o283 P), (o284 P), (o285 P), (o286 P), (o287 P), (o288 P), (o289 P), (o290 P), (o291 P), (o292 P), (o293 P), (o294 P), (o295 P), (o296 P), (o297 P), (o298 P), (o299 P), (o300 P), (o301 P), (o302 P), (o303 P), (o304 P), (o305 P), (o306 P), (o307 P), (o308 P), (o309 P), (o310 P), (o311 P), (o312 P), (o313 P), (o314 P), (o318 P), (o319 P), (o320 P), (o321 P), (o322 P), (o323 P), (o324 P), (o325 P), (o326 P), (o327 P), (o328 P), (o329 P), (o330 P), (o331 P), (o332 P), (o333 P), (o334 P), (o335 P), (o336 P), (o337 P), (o338 P), (o339 P), (o340 P), (o341 P), (o342 P), (o343 P), (o344 P), (o345 P), (o346 P), (o347 P), (o348 P), (o349 P), (o350 P), (o351 P), (o352 P), (o353 P), (o354 P), (o355 P), (o356 P), (o357 P), (o358 P), (o359 P), (o360 P), (o361 P), (o362 P), (o363 P), (o364 P), (o365 P), (o366 P), (o367 P), (o368 P), (o369 P), (o370 P), (o371 P), (o372 P), (o373 P), (o374 P), (o375 P), (o376 P), (o377 P), (o378 P), (o379 P), (o380 P), (o381 P), (o382 P), (o383 P), (o384 P), (o385 P), (o386 P), (o387 P), (o388 P), (o389 P), (o390 P), (o391 P), (o392 P), (o393 P), (o394 P), (o395 P), (o396 P), (o399 P), (o400 P), (o401 P), (o402 P), (o403 P), (o404 P), (o405 P), (o406 P), (o407 P), (o408 P)]⟩, {}⟩
noncomputable def heap_39 (P : Params) : Frag := [(2, (o163 P)), (3, (o397 P)), (15, (o7 P)), (17, (o9 P)), (18, (o10 P)), (20, (o12 P)), (21, (o13 P)), (22, (o14 P)), (24, (o16 P)), (25, (o17 P)), (27, (o19 P)), (28, (o20 P)), (29, (o21 P)), (31, (o23 P)), (32, (o24 P)), (34, (o26 P)), (35, (o27 P)), (43, (o35 P)), (45, (o37 P)), (46, (o38 P)), (48, (o40 P)), (49, (o41 P)), (50, (o42 P)), (51, (o43 P)), (52, (o44 P)), (53, (o45 P)), (54, (o46 P)), (64, (o58 P)), (66, (o60 P)), (67, (o61 P)), (69, (o63 P)), (70, (o64 P)), (71, (o65 P)), (73, (o67 P)), (74, (o68 P)), (76, (o70 P)), (77, (o71 P)), (78, (o72 P)), (80, (o74 P)), (81, (o75 P)), (83, (o77 P)), (84, (o78 P)), (85, (o79 P)), (86, (o80 P)), (87, (o81 P)), (88, (o82 P)), (89, (o83 P)), (99, (o95 P)), (101, (o97 P)), (102, (o98 P)), (104, (o100 P)), (105, (o101 P)), (106, (o102 P)), (107, (o103 P)), (108, (o104 P)), (109, (o105 P)), (110, (o106 P)), (120, (o118 P)), (122, (o120 P)), (123, (o121 P)), (125, (o123 P)), (126, (o124 P)), (127, (o125 P)), (129, (o127 P)), (130, (o128 P)), (132, (o130 P)), (133, (o131 P)), (134, (o132 P)), (135, (o133 P)), (137, (o135 P)), (138, (o136 P)), (140, (o138 P)), (141, (o139 P)), (142, (o140 P)), (143, (o141 P)), (145, (o143 P)), (146, (o144 P)), (148, (o146 P)), (149, (o147 P)), (150, (o148 P)), (151, (o149 P)), (153, (o151 P)), (154, (o152 P)), (156, (o154 P)), (157, (o155 P)), (158, (o156 P)), (159, (o157 P)), (160, (o158 P)), (161, (o159 P)), (162, (o160 P)), (165, (o166 P)), (172, (o173 P)), (173, (o174 P)), (174, (o193 P)), (175, (o176 P)), (178, (o179 P)), (185, (o186 P)), (186, (o187 P)), (187, (o188 P)), (190, (o194 P)), (197, (o201 P)), (198, (o202 P)), (199, (o203 P)), (209, (o215 P)), (210, (o216 P)), (212, (o218 P)), (213, (o219 P)), (215, (o221 P)), (216, (o222 P)), (217, (o223 P)), (219, (o225 P)), (220, (o226 P)), (222, (o228 P)), (223, (o229 P)), (224, (o230 P)), (225, (o231 P)), (227, (o233 P)), (228, (o234 P)), (230, (o236 P)), (231, (o237 P)), (232, (o238 P)), (234, (o240 P)), (235, (o241 P)), (237, (o243 P)), (238, (o244 P)), (239, (o245 P)), (241, (o247 P)), (242, (o248 P)), (244, (o250 P)), (245, (o251 P)), (246, (o252 P)), (248, (o254 P)), (249, (o255 P)), (251, (o257 P)), (252, (o258 P)), (253, (o259 P)), (255, (o261 P)), (256, (o262 P)), (258, (o264 P)), (259, (o265 P)), (260, (o266 P)), (262, (o268 P)), (263, (o269 P)), (265, (o271 P)), (266, (o272 P)), (267, (o273 P)), (269, (o275 P)), (270, (o276 P)), (272, (o278 P)), (273, (o279 P)), (274, (o280 P)), (276, (o282 P)), (277, (o283 P)), (279, (o285 P)), (280, (o286 P)), (281, (o287 P)), (283, (o289 P)), (284, (o290 P)), (286, (o292 P)), (287, (o293 P)), (288, (o294 P)), (290, (o296 P)), (291, (o297 P)), (293, (o299 P)), (294, (o300 P)), (295, (o301 P)), (297, (o303 P)), (298, (o304 P)), (300, (o306 P)), (301, (o307 P)), (302, (o308 P)), (303, (o309 P)), (304, (o310 P)), (305, (o311 P)), (306, (o312 P)), (316, (o325 P)), (317, (o326 P)), (319, (o328 P)), (320, (o329 P)), (322, (o331 P)), (323, (o332 P)), (324, (o333 P)), (326, (o335 P)), (327, (o336 P)), (329, (o338 P)), (330, (o339 P)), (331, (o340 P)), (333, (o342 P)), (334, (o343 P)), (336, (o345 P)), (337, (o346 P)), (338, (o347 P)), (340, (o349 P)), (341, (o350 P)), (343, (o352 P)), (344, (o353 P)), (345, (o354 P)), (347, (o356 P)), (348, (o357 P)), (350, (o359 P)), (351, (o360 P)), (352, (o361 P)), (353, (o362 P)), (355, (o364 P)), (356, (o365 P)), (358, (o367 P)), (359, (o368 P)), (360, (o369 P)), (362, (o371 P)), (363, (o372 P)), (365, (o374 P)), (366, (o375 P)), (367, (o376 P)), (369, (o378 P)), (370, (o379 P)), (372, (o381 P)), (373, (o382 P)), (374, (o383 P)), (376, (o385 P)), (377, (o386 P)), (379, (o388 P)), (380, (o389 P)), (381, (o390 P)), (382, (o391 P)), (383, (o392 P)), (384, (o393 P)), (385, (o394 P)), (388, (o399 P)), (391, (o402 P)), (392, (o403 P)), (393, (o404 P)), (396, (o407 P)), (397, (o408 P))]
noncomputable def adrs : List Addr := [2, 3, 15, 17, 18, 20, 21, 22, 24, 25, 27, 28, 29, 31, 32, 34, 35, 43, 45, 46, 48, 49, 50, 51, 52, 53, 54, 64, 66, 67, 69, 70, 71, 73, 74, 76, 77, 78, 80, 81, 83, 84, 85, 86, 87, 88, 89, 99, 101, 102, 104, 105, 106, 107, 108, 109, 110, 120, 122, 123, 125, 126, 127, 129, 130, 132, 133, 134, 135, 137, 138, 140, 141, 142, 143, 145, 146, 148, 149, 150, 151, 153, 154, 156, 157, 158, 159, 160, 161, 162, 165, 172, 173, 174, 175, 178, 185, 186, 187, 190, 197, 198, 199, 209, 210, 212, 213, 215, 216, 217, 219, 220, 222, 223, 224, 225, 227, 228, 230, 231, 232, 234, 235, 237, 238, 239, 241, 242, 244, 245, 246, 248, 249, 251, 252, 253, 255, 256, 258, 259, 260, 262, 263, 265, 266, 267, 269, 270, 272, 273, 274, 276, 277, 279, 280, 281, 283, 284, 286, 287, 288, 290, 291, 293, 294, 295, 297, 298, 300, 301, 302, 303, 304, 305, 306, 316, 317, 319, 320, 322, 323, 324, 326, 327, 329, 330, 331, 333, 334, 336, 337, 338, 340, 341, 343, 344, 345, 347, 348, 350, 351, 352, 353, 355, 356, 358, 359, 360, 362, 363, 365, 366, 367, 369, 370, 372, 373, 374, 376, 377, 379, 380, 381, 382, 383, 384, 385, 388, 391, 392, 393, 396, 397]
noncomputable def env : Env := { scope := pg.main.scope, locals := mainNs, globals := mainNs, cells := [], code := (.ref 13), frame := some 14 }
noncomputable abbrev cE : Code := .body (behindTheImports pg) env
noncomputable abbrev Bk : List Frame := [topFrame ⟨0, 0, 0, 0⟩]
noncomputable def body : List Stmt := behindTheImports pg
theorem pA (w : World) : (fun os => topGo treeTable pg w 11 ((.some (.ref 6))) 12 ⟨boot_heap w.params, ⟨[]⟩, boot_drawn, boot_toks, os⟩ (topStub pg)) = fun os => some ((⟨heapA w.params, ⟨[]⟩, ⟨0, 0, 0, 0⟩, 187, os⟩ : Shared), (⟨denote treeTable cE, cE, ⟨0, 0, 0, 0⟩, Bk⟩ : Thread)) := by kernel_rfl
theorem p0 (w : World) : (fun os => segRun treeTable pg w 11 ((.some (.ref 6))) 1 1 ⟨heapA w.params, ⟨[]⟩, ⟨0, 0, 0, 0⟩, 187, os⟩ (blockOf (behindTheImports pg) env cE ⟨0, 0, 0, 0⟩ Bk)) = fun os => some (Flow.next, (SharedT.abs ⟨tree0 w.params, 15, {}, ⟨[]⟩, ⟨0, 0, 0, 0⟩, 187, os⟩), cE, ⟨0, 0, 0, 0⟩) := by kernel_rfl
noncomputable def sts1 : List Stmt := (body.drop 0).take 6
theorem p1 (w : World) : (fun os => segRunT treeTable pg w 11 ((.some (.ref 6))) 1 329 ⟨tree0 w.params, 15, {}, ⟨[]⟩, ⟨0, 0, 0, 0⟩, 187, os⟩ (piecesOf sts1 env cE ⟨0, 0, 0, 0⟩ Bk)) = fun os => some (Flow.next, (⟨tree1 w.params, 57, {}, ⟨[]⟩, ⟨0, 0, 0, 0⟩, 242, os⟩ : SharedT), cE, ⟨10, 0, 13, 28⟩) := by kernel_rfl
noncomputable def sts2 : List Stmt := (body.drop 6).take 1
theorem p2 (w : World) : (fun os => segRunT treeTable pg w 11 ((.some (.ref 6))) 1 294 ⟨tree1 w.params, 57, {}, ⟨[]⟩, ⟨0, 0, 0, 0⟩, 242, os⟩ (piecesOf sts2 env cE ⟨10, 0, 13, 28⟩ Bk)) = fun os => some (Flow.next, (⟨tree2 w.params, 92, {}, ⟨[]⟩, ⟨0, 0, 0, 0⟩, 289, os⟩ : SharedT), cE, ⟨14, 0, 24, 32⟩) := by kernel_rfl
noncomputable def sts3 : List Stmt := (body.drop 7).take 1
theorem p3 (w : World) : (fun os => segRunT treeTable pg w 11 ((.some (.ref 6))) 1 224 ⟨tree2 w.params, 92, {}, ⟨[]⟩, ⟨0, 0, 0, 0⟩, 289, os⟩ (piecesOf sts3 env cE ⟨14, 0, 24, 32⟩ Bk)) = fun os => some (Flow.next, (⟨tree3 w.params, 113, {}, ⟨[]⟩, ⟨0, 0, 0, 0⟩, 319, os⟩ : SharedT), cE, ⟨25, 0, 29, 46⟩) := by kernel_rfl
noncomputable def sts4 : List Stmt := (body.drop 8).take 1
theorem p4 (w : World) : (fun os => segRunT treeTable pg w 11 ((.some (.ref 6))) 1 549 ⟨tree3 w.params, 113, {}, ⟨[]⟩, ⟨0, 0, 0, 0⟩, 319, os⟩ (piecesOf sts4 env cE ⟨25, 0, 29, 46⟩ Bk)) = fun os => some (Flow.next, (⟨tree4 w.params, 165, {}, ⟨[]⟩, ⟨0, 0, 0, 0⟩, 407, os⟩ : SharedT), cE, ⟨30, 0, 73, 105⟩) := by kernel_rfl
noncomputable def sts5 : List Stmt := (body.drop 9).take 3
theorem p5 (w : World) : (fun os => segRunT treeTable pg w 11 ((.some (.ref 6))) 1 419 ⟨tree4 w.params, 165, {}, ⟨[]⟩, ⟨0, 0, 0, 0⟩, 407, os⟩ (piecesOf sts5 env cE ⟨30, 0, 73, 105⟩ Bk)) = fun os => some (Flow.next, (⟨tree5 w.params, 190, {}, ⟨[]⟩, ⟨0, 0, 0, 0⟩, 445, os⟩ : SharedT), cE, ⟨77, 0, 78, 8⟩) := by kernel_rfl
noncomputable def sts6 : List Stmt := (body.drop 12).take 2
theorem p6 (w : World) : (fun os => segRunT treeTable pg w 11 ((.some (.ref 6))) 1 223 ⟨tree5 w.params, 190, {}, ⟨[]⟩, ⟨0, 0, 0, 0⟩, 445, os⟩ (piecesOf sts6 env cE ⟨77, 0, 78, 8⟩ Bk)) = fun os => some (Flow.next, (⟨tree6 w.params, 202, {}, ⟨[]⟩, ⟨0, 0, 0, 0⟩, 463, os⟩ : SharedT), cE, ⟨81, 0, 81, 8⟩) := by kernel_rfl
noncomputable def sts7 : List Stmt := (body.drop 14).take 1
theorem p7 (w : World) : (fun os => segRunT treeTable pg w 11 ((.some (.ref 6))) 1 688 ⟨tree6 w.params, 202, {}, ⟨[]⟩, ⟨0, 0, 0, 0⟩, 463, os⟩ (piecesOf sts7 env cE ⟨81, 0, 81, 8⟩ Bk)) = fun os => some (Flow.next, (⟨tree7 w.params, 309, {}, ⟨[]⟩, ⟨0, 0, 0, 0⟩, 590, os⟩ : SharedT), cE, ⟨82, 0, 143, 42⟩) := by kernel_rfl
noncomputable def sts8 : List Stmt := (body.drop 15).take 1
theorem p8 (w : World) : (fun os => segRunT treeTable pg w 11 ((.some (.ref 6))) 1 10 ⟨tree7 w.params, 309, {}, ⟨[]⟩, ⟨0, 0, 0, 0⟩, 590, os⟩ (piecesOf sts8 env cE ⟨82, 0, 143, 42⟩ Bk)) = fun os => some (Flow.next, (⟨tree8 w.params, 309, {}, ⟨[]⟩, ⟨0, 0, 0, 0⟩, 592, os⟩ : SharedT), cE, ⟨144, 0, 144, 8⟩) := by kernel_rfl
noncomputable def sts9 : List Stmt := (body.drop 16).take 1
theorem p9 (w : World) : (fun os => segRunT treeTable pg w 11 ((.some (.ref 6))) 1 530 ⟨tree8 w.params, 309, {}, ⟨[]⟩, ⟨0, 0, 0, 0⟩, 592, os⟩ (piecesOf sts9 env cE ⟨144, 0, 144, 8⟩ Bk)) = fun os => some (Flow.next, (⟨tree9 w.params, 388, {}, ⟨[]⟩, ⟨0, 0, 0, 0⟩, 710, os⟩ : SharedT), cE, ⟨145, 0, 245, 24⟩) := by kernel_rfl
noncomputable def sts10 : List Stmt := (body.drop 17).take 3
theorem p10 (w : World) : (fun os => segRunT treeTable pg w 11 ((.some (.ref 6))) 1 62 ⟨tree9 w.params, 388, {}, ⟨[]⟩, ⟨0, 0, 0, 0⟩, 710, os⟩ (piecesOf sts10 env cE ⟨145, 0, 245, 24⟩ Bk)) = fun os => some (Flow.next, (⟨tree10 w.params, 398, {}, ⟨[]⟩, ⟨0, 0, 0, 0⟩, 724, os⟩ : SharedT), cE, ⟨259, 0, 279, 36⟩) := by kernel_rfl
theorem pZ (w : World) : (fun os => topRun treeTable pg w 11 ((.some (.ref 6))) 2 (SharedT.abs ⟨tree10 w.params, 398, {}, ⟨[]⟩, ⟨0, 0, 0, 0⟩, 724, os⟩) ⟨doneF Flow.next, cE, ⟨259, 0, 279, 36⟩, Bk⟩) = fun os => some (⟨heapZ w.params, ⟨[]⟩, ⟨0, 0, 0, 0⟩, 724, os⟩ : Shared) := by kernel_rfl
theorem bodyIs : behindTheImports pg = (sts1 ++ (sts2 ++ (sts3 ++ (sts4 ++ (sts5 ++ (sts6 ++ (sts7 ++ (sts8 ++ (sts9 ++ (sts10 ++ [])))))))))) := by kernel_rfl
theorem run (w : World) (os : OsState) : topRun treeTable pg w 11 ((.some (.ref 6))) (Nat.add 12 (Nat.add 1 (Nat.add 329 (Nat.add 294 (Nat.add 224 (Nat.add 549 (Nat.add 419 (Nat.add 223 (Nat.add 688 (Nat.add 10 (Nat.add 530 (Nat.add 62 2)))))))))))) ⟨boot_heap w.params, ⟨[]⟩, boot_drawn, boot_toks, os⟩ (topStub pg) = some ⟨heapZ w.params, ⟨[]⟩, ⟨0, 0, 0, 0⟩, 724, os⟩ := by
  refine go_top (congrFun (pA w) os) (piece_block (congrFun (p0 w) os) ?_)
  have h := bodyIs
  exact (congrArg (fun b => topRun treeTable pg w 11 ((.some (.ref 6))) _ _ (restOf b env cE _ Bk) = _) h).mpr (piece_app (l := sts1) (segRun_of (congrFun (p1 w) os)) (piece_app (l := sts2) (segRun_of (congrFun (p2 w) os)) (piece_app (l := sts3) (segRun_of (congrFun (p3 w) os)) (piece_app (l := sts4) (segRun_of (congrFun (p4 w) os)) (piece_app (l := sts5) (segRun_of (congrFun (p5 w) os)) (piece_app (l := sts6) (segRun_of (congrFun (p6 w) os)) (piece_app (l := sts7) (segRun_of (congrFun (p7 w) os)) (piece_app (l := sts8) (segRun_of (congrFun (p8 w) os)) (piece_app (l := sts9) (segRun_of (congrFun (p9 w) os)) (piece_app (l := sts10) (segRun_of (congrFun (p10 w) os)) (congrFun (pZ w) os)))))))))))
noncomputable def q : Program := view pg [0, 2, 4, 5, 6, 7, 8, 10, 11, 12, 14, 16, 18, 19]
noncomputable def loose : List Str := ["Certificate", "ValidationPath", "CertificateRegistry"]
noncomputable abbrev Xt : Shared → Bool := fun s => xlAt q [] s && recOk (RowW.records PySem.Challenge.rw_je0006_01.row.toRowW) s
theorem adrsIs (P : Params) : adrs = (heap_39 P).map (·.1) := by kernel_rfl
noncomputable abbrev hk : Hook := kHook heap_39 adrs adrsIs
theorem looksA (w : World) : (fun os => staticsOk (importedModules pg.main.body) (boot_heap w.params) (heapZ w.params) && namesBound pg (heapZ w.params) && gensDone ⟨heapZ w.params, ⟨[]⟩, ⟨0, 0, 0, 0⟩, 724, os⟩ && laidKept (boot_heap w.params) (heapZ w.params)) = fun (_ : OsState) => true := by kernel_rfl
theorem looksB (w : World) : (fun os => openSeen q loose (importedModules pg.main.body) Xt true ⟨heapZ w.params, ⟨[]⟩, ⟨0, 0, 0, 0⟩, 724, os⟩) = fun (_ : OsState) => openGood q loose := by kernel_rfl
theorem looksC (w : World) : (fun os => hk.obs ⟨heapZ w.params, ⟨[]⟩, ⟨0, 0, 0, 0⟩, 724, os⟩) = fun (_ : OsState) => hk.val w := by kernel_rfl
theorem open_ : ∀ w : World, (fencedOpening treeTable pg w 6762).map (fun s => (s.heap, s.gens, s.drawn, s.toks)) = some (boot_heap w.params, Array.mk [], boot_drawn, boot_toks) := boot_open (by kernel_rfl) (by decide) (fun s => by kernel_rfl)
theorem size (w : World) : ((boot_heap w.params).isNs mainGlobals && (Array.mk [] : Array GenState).size == 0, (boot_heap w.params).objs.size, (boot_heap w.params).nsMap mainGlobals "__annotations__") = (true, 11, (.some (.ref 6))) := by kernel_rfl
theorem left : LeftO pg q loose Xt hk.obs hk.val 6762 :=
  LeftO.of_pieces (H₀ := boot_heap) (H₁ := heapZ) open_ size run (by decide) fun w => funext fun os => looks_pair (congrFun (looksA w) os) (looks_pair (congrFun (looksB w) os) (congrFun (looksC w) os))
end
end Mine.hd
end

section
open PySem PySem.W PySem.Calls PyProof.Rows
set_option Elab.async false
set_option linter.unusedVariables false
set_option maxRecDepth 100000
namespace J
section
variable {C : Cx} {A : Around} {env : Env} {m : Loc} {σ σ₀ σ' : Ab} {s s₀ s' : Shared} {P : Params}
def nameFs (x : Str) : Loc := [("human_friendly", .str x 0), ("hashable", .str x 0)]
def keyFs (n : Int) : Loc := [("sha1", .bytes (big20 n).toArray 0), ("number", .int n 0)]
def certFs (n : Int) (su is pk : Value) (sg ce : Value) : Loc := [("critical_extensions", ce), ("inhibit_any_policy_value", .none), ("policy_constraints_value", .none), ("policy_mappings_value", .none), ("certificate_policies_value", .none),
  ("extended_key_usage_value", .none), ("key_usage_value", .none), ("authority_issuer_serial", .none), ("authority_key_identifier", .none), ("key_identifier", .none), ("max_path_length", .none), ("ca", .bool false), ("not_after", .int 0 0), ("not_before", .int 0 0),
  ("hash_algo", .str "sha256" 0), ("signature_algo", .str "rsassa_pkcs1v15" 0), ("signer", sg), ("public_key", pk), ("issuer", is), ("subject", su), ("serial_number", .int n 0), ("sha256", .int n 0), ("sha1", .int n 0), ("signature", .int n 0)]
theorem map_five {us : List Value} {a b c d e : Value} (h : us.map nv = [a, b, c, d, e]) : ∃ u v w x y, us = [u, v, w, x, y] ∧ nv u = a ∧ nv v = b ∧ nv w = c ∧ nv x = d ∧ nv y = e := by
  rcases us with _ | ⟨ua, us⟩
  · simp at h
  · obtain ⟨h1, h2⟩ := List.cons.inj h
    rcases us with _ | ⟨ub, us⟩
    · simp at h2
    · obtain ⟨h3, h4⟩ := List.cons.inj h2
      obtain ⟨u, v, w, rfl, h5, h6, h7⟩ := map_three h4
      exact ⟨ua, ub, u, v, w, rfl, h1, h3, h5, h6, h7⟩
theorem name_make (hK : C.K = Mine.hd.heap_39 P) (hA : A.depth + 5 < recursionLimit) {x : Str} {Q : Value → Ab → Prop} (h : ∀ a, σ a = none → Q (.ref a) (σ.put a (.inst 87 (nameFs x)))) : CallR C A (.ref 87) [.str x 0] σ Q := CallR.tc fun us hu => by
  obtain ⟨u, rfl, hv⟩ := map_one hu
  refine TC_make (fI := 70) (by rw [hK]; kernel_rfl) (by rw [hK]; kernel_rfl) (by rw [hK]; kernel_rfl) fun a ha => ?_
  refine TC_fn (C := C) (binds := [("self", .ref a), ("text", u)]) (m := [("text", .str x 0), ("self", .ref a)]) (by rw [depth_make']; omega) (by rw [hK]; rfl) (by rw [hK]; kernel_rfl) rfl (fun S => by rw [hK]; kernel_rfl) (by decide +kernel) (by simp; decide +kernel) (by simp [locOf, hv]) fun L A' hd hh hun => ?_
  refine TXs_cons (TX_setAttr ((EV_loc (by rfl) (by rfl)).te ⟨a, 87, [], EV_loc (by rfl) (by rfl), put_same .., (by rw [hK]; kernel_rfl), (by simp), ?_⟩))
  refine TXs_cons (TX_setAttr ((EV_loc (by rfl) (by rfl)).te ⟨a, 87, _, EV_loc (by rfl) (by rfl), put_same .., (by rw [hK]; kernel_rfl), (by simp), ?_⟩))
  refine TXs_nil ⟨rfl, ?_⟩
  rw [put_put, put_put]
  exact h a ha
theorem key_make (hK : C.K = Mine.hd.heap_39 P) (hA : A.depth + 5 < recursionLimit) {n : Int} (h0 : 0 ≤ n) (h1 : n < 256) {Q : Value → Ab → Prop} (h : ∀ a, σ a = none → Q (.ref a) (σ.put a (.inst 108 (keyFs n)))) : CallR C A (.ref 108) [.int n 0] σ Q := CallR.tc fun us hu => by
  obtain ⟨u, rfl, hv⟩ := map_one hu
  refine TC_make (fI := 105) (by rw [hK]; kernel_rfl) (by rw [hK]; kernel_rfl) (by rw [hK]; kernel_rfl) fun a ha => ?_
  refine TC_fn (C := C) (binds := [("self", .ref a), ("number", u)]) (m := [("number", .int n 0), ("self", .ref a)]) (by rw [depth_make']; omega) (by rw [hK]; rfl) (by rw [hK]; kernel_rfl) rfl (fun S => by rw [hK]; kernel_rfl) (by decide +kernel) (by simp; decide +kernel) (by simp [locOf, hv]) fun L A' hd hh hun => ?_
  refine TXs_cons (TX_setAttr ((EV_loc (by rfl) (by rfl)).te ⟨a, 108, [], EV_loc (by rfl) (by rfl), put_same .., (by rw [hK]; kernel_rfl), (by simp), ?_⟩))
  refine TXs_cons (TX_setAttr (TE_toBytes (EV_loc (by rfl) (by rfl)) ?_))
  refine TAs_cons (EV_int.te (TAs_cons (EV_str.te (TAs_nil (call_toBytes h0 h1 ⟨a, 108, _, EV_loc (by rfl) (by rfl), put_same .., (by rw [hK]; kernel_rfl), (by simp), ?_⟩)))))
  refine TXs_nil ⟨rfl, ?_⟩
  rw [put_put, put_put]
  exact h a ha
theorem cert_make (hK : C.K = Mine.hd.heap_39 P) (hA : A.depth + 5 < recursionLimit) {n : Int} {su is pk sg : Value} {Q : Value → Ab → Prop} (h : ∀ a ce, σ a = none → Q (.ref a) (σ.put a (.inst 160 (certFs n su is pk sg (.ref ce))))) : CallR C A (.ref 160) [.int n 0, su, is, pk, sg] σ Q := CallR.tc fun us hu => by
  obtain ⟨u, v1, v2, v3, v4, rfl, h0, h1, h2, h3, h4⟩ := map_five hu
  refine TC_make (fI := 126) (by rw [hK]; kernel_rfl) (by rw [hK]; kernel_rfl) (by rw [hK]; kernel_rfl) fun a ha => ?_
  refine TC_fn (C := C) (binds := [("self", .ref a), ("number", u), ("subject", v1), ("issuer", v2), ("public_key", v3), ("signer", v4)]) (m := [("signer", sg), ("public_key", pk), ("issuer", is), ("subject", su), ("number", .int n 0), ("self", .ref a)]) (by rw [depth_make']; omega) (by rw [hK]; rfl) (by rw [hK]; kernel_rfl) rfl (fun S => by rw [hK]; kernel_rfl) (by decide +kernel) (by simp; decide +kernel) (by simp [locOf, h0, h1, h2, h3, h4]) fun L A' hd hh hun => ?_
  refine TXs_cons (TX_setAttr ((EV_loc (by rfl) (by rfl)).te ⟨a, 160, _, EV_loc (by rfl) (by rfl), put_same .., (by rw [hK]; kernel_rfl), (by simp), ?_⟩))
  rw [put_put]
  refine TXs_cons (TX_setAttr ((EV_loc (by rfl) (by rfl)).te ⟨a, 160, _, EV_loc (by rfl) (by rfl), put_same .., (by rw [hK]; kernel_rfl), (by simp), ?_⟩))
  rw [put_put]
  refine TXs_cons (TX_setAttr ((EV_loc (by rfl) (by rfl)).te ⟨a, 160, _, EV_loc (by rfl) (by rfl), put_same .., (by rw [hK]; kernel_rfl), (by simp), ?_⟩))
  rw [put_put]
  refine TXs_cons (TX_setAttr ((EV_loc (by rfl) (by rfl)).te ⟨a, 160, _, EV_loc (by rfl) (by rfl), put_same .., (by rw [hK]; kernel_rfl), (by simp), ?_⟩))
  rw [put_put]
  refine TXs_cons (TX_setAttr ((EV_loc (by rfl) (by rfl)).te ⟨a, 160, _, EV_loc (by rfl) (by rfl), put_same .., (by rw [hK]; kernel_rfl), (by simp), ?_⟩))
  rw [put_put]
  refine TXs_cons (TX_setAttr ((EV_loc (by rfl) (by rfl)).te ⟨a, 160, _, EV_loc (by rfl) (by rfl), put_same .., (by rw [hK]; kernel_rfl), (by simp), ?_⟩))
  rw [put_put]
  refine TXs_cons (TX_setAttr ((EV_loc (by rfl) (by rfl)).te ⟨a, 160, _, EV_loc (by rfl) (by rfl), put_same .., (by rw [hK]; kernel_rfl), (by simp), ?_⟩))
  rw [put_put]
  refine TXs_cons (TX_setAttr ((EV_loc (by rfl) (by rfl)).te ⟨a, 160, _, EV_loc (by rfl) (by rfl), put_same .., (by rw [hK]; kernel_rfl), (by simp), ?_⟩))
  rw [put_put]
  refine TXs_cons (TX_setAttr (EV_str.te ⟨a, 160, _, EV_loc (by rfl) (by rfl), put_same .., (by rw [hK]; kernel_rfl), (by simp), ?_⟩))
  rw [put_put]
  refine TXs_cons (TX_setAttr (EV_str.te ⟨a, 160, _, EV_loc (by rfl) (by rfl), put_same .., (by rw [hK]; kernel_rfl), (by simp), ?_⟩))
  rw [put_put]
  refine TXs_cons (TX_setAttr (EV_int.te ⟨a, 160, _, EV_loc (by rfl) (by rfl), put_same .., (by rw [hK]; kernel_rfl), (by simp), ?_⟩))
  rw [put_put]
  refine TXs_cons (TX_setAttr (EV_int.te ⟨a, 160, _, EV_loc (by rfl) (by rfl), put_same .., (by rw [hK]; kernel_rfl), (by simp), ?_⟩))
  rw [put_put]
  refine TXs_cons (TX_setAttr (EV_bool.te ⟨a, 160, _, EV_loc (by rfl) (by rfl), put_same .., (by rw [hK]; kernel_rfl), (by simp), ?_⟩))
  rw [put_put]
  refine TXs_cons (TX_setAttr (EV_none.te ⟨a, 160, _, EV_loc (by rfl) (by rfl), put_same .., (by rw [hK]; kernel_rfl), (by simp), ?_⟩))
  rw [put_put]
  refine TXs_cons (TX_setAttr (EV_none.te ⟨a, 160, _, EV_loc (by rfl) (by rfl), put_same .., (by rw [hK]; kernel_rfl), (by simp), ?_⟩))
  rw [put_put]
  refine TXs_cons (TX_setAttr (EV_none.te ⟨a, 160, _, EV_loc (by rfl) (by rfl), put_same .., (by rw [hK]; kernel_rfl), (by simp), ?_⟩))
  rw [put_put]
  refine TXs_cons (TX_setAttr (EV_none.te ⟨a, 160, _, EV_loc (by rfl) (by rfl), put_same .., (by rw [hK]; kernel_rfl), (by simp), ?_⟩))
  rw [put_put]
  refine TXs_cons (TX_setAttr (EV_none.te ⟨a, 160, _, EV_loc (by rfl) (by rfl), put_same .., (by rw [hK]; kernel_rfl), (by simp), ?_⟩))
  rw [put_put]
  refine TXs_cons (TX_setAttr (EV_none.te ⟨a, 160, _, EV_loc (by rfl) (by rfl), put_same .., (by rw [hK]; kernel_rfl), (by simp), ?_⟩))
  rw [put_put]
  refine TXs_cons (TX_setAttr (EV_none.te ⟨a, 160, _, EV_loc (by rfl) (by rfl), put_same .., (by rw [hK]; kernel_rfl), (by simp), ?_⟩))
  rw [put_put]
  refine TXs_cons (TX_setAttr (EV_none.te ⟨a, 160, _, EV_loc (by rfl) (by rfl), put_same .., (by rw [hK]; kernel_rfl), (by simp), ?_⟩))
  rw [put_put]
  refine TXs_cons (TX_setAttr (EV_none.te ⟨a, 160, _, EV_loc (by rfl) (by rfl), put_same .., (by rw [hK]; kernel_rfl), (by simp), ?_⟩))
  rw [put_put]
  refine TXs_cons (TX_setAttr (EV_none.te ⟨a, 160, _, EV_loc (by rfl) (by rfl), put_same .., (by rw [hK]; kernel_rfl), (by simp), ?_⟩))
  rw [put_put]
  refine TXs_cons (TX_setAttr (TE_set0 ?g fun ce => ⟨a, 160, _, EV_loc (by rfl) (by rfl), put_same .., (by rw [hK]; kernel_rfl), (by simp), ?_⟩))
  case g => exact EV_built (v := .type "set") (by rw [hK]; kernel_rfl) (by kernel_rfl) (by rfl)
  rw [put_put]
  exact TXs_nil ⟨rfl, h a ce ha⟩
end
end J
end

section
set_option Elab.async false
set_option linter.unusedVariables false
set_option maxRecDepth 100000
open PySem PySem.W PySem.Calls PyProof.Rows
namespace J
def refs (l : List Addr) : List Value := l.map .ref
/-- a registry: its parts, and what it knows -/
structure Reg (σ : Ab) (r ds dk dc : Addr) (ns nk nc : Nat) (LF : Str → Option Addr) (S : Str → List Addr) (Kf : List UInt8 → Option Addr) (Cf : Int → Bool) : Prop where
  r : σ r = some (.inst 383 [("_ca_lookup", .ref dc), ("_key_identifier_map", .ref dk), ("_subject_map", .ref ds)])
  s : σ ds = some (.dS (fun x => (LF x).map .ref) ns)
  k : σ dk = some (.dB (fun x => (Kf x).map .ref) nk)
  c : σ dc = some (.dI (fun i => if Cf i then some (.bool true) else none) nc)
  l : ∀ x L, LF x = some L → σ L = some (.list (refs (S x)))
  z : ∀ x, LF x = none → S x = []
  i : ∀ x y L, LF x = some L → LF y = some L → x = y
structure CI where
  su : Str
  is : Str
  ser : Int
  kid : Option (List UInt8)
  aki : Option (List UInt8)
  ais : Option (Str × Int)
  num : Int
def kidV : Option (List UInt8) → Value
  | none => .none
  | some b => .bytes b.toArray 0
def AisAt (σ : Ab) (v : Value) : Option (Str × Int) → Prop
  | none => v = .none
  | some p => ∃ t, v = .ref t ∧ σ t = some (.tup [.str p.1 0, .int p.2 0])
/-- a certificate -/
def Crt (σ : Ab) (a : Addr) (c : CI) : Prop := ∃ fs na ia av, σ a = some (.inst 160 fs) ∧ fs.lookup ("subject" : Str) = some (.ref na) ∧ σ na = some (.inst 87 (nameFs c.su)) ∧ fs.lookup ("issuer" : Str) = some (.ref ia) ∧ fs.lookup ("key_identifier" : Str) = some (kidV c.kid) ∧
  σ ia = some (.inst 87 (nameFs c.is)) ∧ fs.lookup ("authority_key_identifier" : Str) = some (kidV c.aki) ∧ fs.lookup ("serial_number" : Str) = some (.int c.ser 0) ∧ fs.lookup ("signature" : Str) = some (.int c.num 0) ∧ fs.lookup ("authority_issuer_serial" : Str) = some av ∧ AisAt σ av c.ais ∧ fs.lookup ("issuer_serial" : Str) = none
theorem Crt.elim {σ : Ab} {a : Addr} {c : CI} {b : Prop} (h : Crt σ a c) (k : ∀ (fs : Loc) (na ia : Addr) (av : Value), σ a = some (.inst 160 fs) → fs.lookup ("subject" : Str) = some (.ref na) → σ na = some (.inst 87 (nameFs c.su)) → fs.lookup ("issuer" : Str) = some (.ref ia) → fs.lookup ("key_identifier" : Str) = some (kidV c.kid) →
  σ ia = some (.inst 87 (nameFs c.is)) → fs.lookup ("authority_key_identifier" : Str) = some (kidV c.aki) → fs.lookup ("serial_number" : Str) = some (.int c.ser 0) → fs.lookup ("signature" : Str) = some (.int c.num 0) → fs.lookup ("authority_issuer_serial" : Str) = some av → AisAt σ av c.ais → b) : b := by
  obtain ⟨fs, na, ia, av, c1, c2, c3, c4, c5, c6, c7, c8, c9, c10, c11, _⟩ := h
  exact k fs na ia av c1 c2 c3 c4 c5 c6 c7 c8 c9 c10 c11
section
variable {C : Cx} {A : Around} {env : Env} {m : Loc} {σ σ₀ σ' : Ab} {s s₀ s' : Shared} {P : Params}
variable {r ds dk dc : Addr} {ns nk nc : Nat} {LF : Str → Option Addr} {S : Str → List Addr} {Kf : List UInt8 → Option Addr} {Cf : Int → Bool}
theorem ne_of_ao {a b : Addr} {o o' : AO} (ha : σ a = some o) (hb : σ b = some o') (h : o ≠ o') : a ≠ b := by
  rintro rfl; rw [ha] at hb; exact h (Option.some.inj hb)
theorem ne_of_new {a b : Addr} {o : AO} (ha : σ a = some o) (hb : σ b = none) : a ≠ b := by
  rintro rfl; rw [ha] at hb; cases hb
theorem Reg.kd (G : Reg σ r ds dk dc ns nk nc LF S Kf Cf) : dk ≠ ds := ne_of_ao G.k G.s (by intro q; cases q)
theorem Reg.cd (G : Reg σ r ds dk dc ns nk nc LF S Kf Cf) : dc ≠ ds := ne_of_ao G.c G.s (by intro q; cases q)
theorem Reg.ck (G : Reg σ r ds dk dc ns nk nc LF S Kf Cf) : dc ≠ dk := ne_of_ao G.c G.k (by intro q; cases q)
theorem Reg.ld (G : Reg σ r ds dk dc ns nk nc LF S Kf Cf) {x : Str} {L : Addr} (h : LF x = some L) : L ≠ ds := ne_of_ao (G.l x L h) G.s (by intro q; cases q)
theorem Reg.lk (G : Reg σ r ds dk dc ns nk nc LF S Kf Cf) {x : Str} {L : Addr} (h : LF x = some L) : L ≠ dk := ne_of_ao (G.l x L h) G.k (by intro q; cases q)
theorem Reg.lc (G : Reg σ r ds dk dc ns nk nc LF S Kf Cf) {x : Str} {L : Addr} (h : LF x = some L) : L ≠ dc := ne_of_ao (G.l x L h) G.c (by intro q; cases q)
theorem Reg.rd (G : Reg σ r ds dk dc ns nk nc LF S Kf Cf) : r ≠ ds := ne_of_ao G.r G.s (by intro q; cases q)
theorem Reg.rk (G : Reg σ r ds dk dc ns nk nc LF S Kf Cf) : r ≠ dk := ne_of_ao G.r G.k (by intro q; cases q)
theorem Reg.rc (G : Reg σ r ds dk dc ns nk nc LF S Kf Cf) : r ≠ dc := ne_of_ao G.r G.c (by intro q; cases q)
theorem Reg.rl (G : Reg σ r ds dk dc ns nk nc LF S Kf Cf) {x : Str} {L : Addr} (h : LF x = some L) : r ≠ L := ne_of_ao G.r (G.l x L h) (by intro q; cases q)

/-- subject_map[x] = [] -/
theorem Reg.newList (G : Reg σ r ds dk dc ns nk nc LF S Kf Cf) {x : Str} {D : Addr} (hx : LF x = none) (hD : σ D = none) :
    Reg ((σ.put D (.list [])).put ds (.dS (fun y => if y = x then some (.ref D) else (LF y).map .ref) (ns + 1))) r ds dk dc (ns + 1) nk nc (fun y => if y = x then some D else LF y) S Kf Cf := by
  have nD : ∀ {b o}, σ b = some o → b ≠ D := fun h => ne_of_new h hD
  refine ⟨?_, ?_, ?_, ?_, fun y L hy => ?_, fun y hy => ?_, fun y z L hy hz => ?_⟩
  · rw [put_ne G.rd, put_ne (nD G.r)]; exact G.r
  · rw [put_same]
    congr 2
    funext y
    by_cases q : y = x
    · simp [q]
    · simp [q]
  · rw [put_ne G.kd, put_ne (nD G.k)]; exact G.k
  · rw [put_ne G.cd, put_ne (nD G.c)]; exact G.c
  · have hDd : D ≠ ds := Ne.symm (nD G.s)
    by_cases q : y = x
    · simp only [q, if_true] at hy; cases hy
      rw [put_ne hDd, put_same, q, G.z x hx]; rfl
    · simp only [if_neg q] at hy
      rw [put_ne (G.ld hy), put_ne (nD (G.l y L hy))]; exact G.l y L hy
  · by_cases q : y = x
    · simp only [q, if_true] at hy; cases hy
    · simp only [if_neg q] at hy; exact G.z y hy
  · by_cases q : y = x
    · by_cases q' : z = x
      · rw [q, q']
      · simp only [q, if_true] at hy; simp only [if_neg q'] at hz; cases hy
        exact absurd rfl (nD (G.l z _ hz))
    · by_cases q' : z = x
      · simp only [q', if_true] at hz; simp only [if_neg q] at hy; cases hz
        exact absurd rfl (nD (G.l y _ hy))
      · simp only [if_neg q] at hy; simp only [if_neg q'] at hz; exact G.i y z L hy hz
/-- subject_map[x].append(a) -/
theorem Reg.append (G : Reg σ r ds dk dc ns nk nc LF S Kf Cf) {x : Str} {L a : Addr} (hx : LF x = some L) :
    Reg (σ.put L (.list (refs (S x) ++ [.ref a]))) r ds dk dc ns nk nc LF (fun y => if y = x then S y ++ [a] else S y) Kf Cf := by
  refine ⟨?_, ?_, ?_, ?_, fun y L' hy => ?_, fun y hy => ?_, G.i⟩
  · rw [put_ne (G.rl hx)]; exact G.r
  · rw [put_ne (Ne.symm (G.ld hx))]; exact G.s
  · rw [put_ne (Ne.symm (G.lk hx))]; exact G.k
  · rw [put_ne (Ne.symm (G.lc hx))]; exact G.c
  · by_cases q : y = x
    · subst q
      rw [hx] at hy; cases hy
      rw [put_same]; simp [refs]
    · have : L' ≠ L := by rintro rfl; exact q (G.i _ _ _ hy hx)
      simp only [if_neg q]
      rw [put_ne this]; exact G.l y L' hy
  · by_cases q : y = x
    · rw [q, hx] at hy; cases hy
    · simp only [if_neg q]; exact G.z y hy
/-- key_map[x] = a -/
theorem Reg.key (G : Reg σ r ds dk dc ns nk nc LF S Kf Cf) {x : List UInt8} {a : Addr} :
    Reg (σ.put dk (.dB (fun y => if y = x then some (.ref a) else (Kf y).map .ref) (nk + 1))) r ds dk dc ns (nk + 1) nc LF S (fun y => if y = x then some a else Kf y) Cf := by
  refine ⟨?_, ?_, ?_, ?_, fun y L hy => ?_, G.z, G.i⟩
  · rw [put_ne G.rk]; exact G.r
  · rw [put_ne (Ne.symm G.kd)]; exact G.s
  · rw [put_same]
    congr 2
    funext y
    by_cases q : y = x
    · simp [q]
    · simp [q]
  · rw [put_ne G.ck]; exact G.c
  · rw [put_ne (G.lk hy)]; exact G.l y L hy
/-- ca_lookup[x] = True -/
theorem Reg.ca (G : Reg σ r ds dk dc ns nk nc LF S Kf Cf) {x : Int} :
    Reg (σ.put dc (.dI (fun y => if y = x then some (.bool true) else if Cf y then some (.bool true) else none) (nc + 1))) r ds dk dc ns nk (nc + 1) LF S Kf (fun y => if y = x then true else Cf y) := by
  refine ⟨?_, ?_, ?_, ?_, fun y L hy => ?_, G.z, G.i⟩
  · rw [put_ne G.rc]; exact G.r
  · rw [put_ne (Ne.symm G.cd)]; exact G.s
  · rw [put_ne (Ne.symm G.ck)]; exact G.k
  · rw [put_same]
    congr 2
    funext y
    by_cases q : y = x
    · simp [q]
    · simp [q]
  · rw [put_ne (G.lc hy)]; exact G.l y L hy
/-- the certificates are untouched -/
def InTup (σ : Ab) (b : Addr) : Prop := (∃ K fs, σ b = some (.inst K fs)) ∨ ∃ xs, σ b = some (.tup xs)
theorem Crt.kp {a : Addr} {c : CI} (h : Crt σ a c) {P : Addr → Prop} (k : Kps σ σ' P) (hP : ∀ b, InTup σ b → ¬ P b) : Crt σ' a c := by
  obtain ⟨fs, na, ia, av, c1, c2, c3, c4, c5, c6, c7, c8, c9, c10, c11, c12⟩ := h
  refine ⟨fs, na, ia, av, k _ _ c1 (hP _ (.inl ⟨_, _, c1⟩)), c2, k _ _ c3 (hP _ (.inl ⟨_, _, c3⟩)), c4, c5, k _ _ c6 (hP _ (.inl ⟨_, _, c6⟩)), c7, c8, c9, c10, ?_, c12⟩
  cases q : c.ais with
  | none => rw [q] at c11; exact c11
  | some p =>
    rw [q] at c11
    obtain ⟨t, e, ht⟩ := c11
    exact ⟨t, e, k _ _ ht (hP _ (.inr ⟨_, ht⟩))⟩
theorem Crt.sub {a : Addr} {c : CI} (h : Crt σ a c) (k : Sub σ σ') : Crt σ' a c := h.kp (P := fun _ => False) (fun a o e _ => k a o e) fun _ _ => id
theorem Kps.refl {P : Addr → Prop} : Kps σ σ P := fun a o h _ => h
theorem Kps.put {a : Addr} {o : AO} {P : Addr → Prop} (h : P a ∨ σ a = none) : Kps σ (σ.put a o) P := fun b o' e n => by
  rw [put_ne]; exact e
  rintro rfl
  rcases h with h | h
  · exact n h
  · rw [h] at e; cases e
theorem Kps.trans {σ'' : Ab} {P : Addr → Prop} (x : Kps σ σ' P) (y : Kps σ' σ'' P) : Kps σ σ'' P := fun a o e n => y a o (x a o e n) n
/-- the places that a registry may turn -/
def Foot (ds dk dc : Addr) (LF : Str → Option Addr) (a : Addr) : Prop := a = ds ∨ a = dk ∨ a = dc ∨ ∃ x, LF x = some a
end
section
variable {C : Cx} {A : Around} {env : Env} {m : Loc} {σ σ₀ σ' : Ab} {s s₀ s' : Shared} {P : Params}
variable {LF' : Str → Option Addr}
variable {r ds dk dc : Addr} {ns nk nc : Nat} {LF : Str → Option Addr} {S : Str → List Addr} {Kf : List UInt8 → Option Addr} {Cf : Int → Bool}
theorem TruB.bytes {b : List UInt8} (hb : b ≠ []) (hn : b.length ≤ 1000) : Tru C A σ (.bytes b.toArray 0) true := fun u hu s R E S k => by
  obtain ⟨t, rfl⟩ := nv_to_bytes hu
  refine PySem.W.truthy_bytes (b := b.toArray) (by simp; omega) ?_
  have : (((b.toArray.size : Nat) : Int) != 0) = true := by
    cases b with
    | nil => exact absurd rfl hb
    | cons x r => simp; omega
  rw [this]; exact k _
theorem refs_get {l : List Addr} {i : Nat} {u : Value} (hi : i < (refs l).length) (hu : nv u = (refs l).getD i .none) : ∃ b, l[i]? = some b ∧ u = .ref b := by
  have hi' : i < l.length := by simpa [refs] using hi
  refine ⟨l[i], List.getElem?_eq_getElem hi', ?_⟩
  have : (refs l).getD i .none = .ref l[i] := by simp [refs, List.getD_eq_getElem?_getD, hi']
  rw [this] at hu
  exact nv_to_ref hu

theorem Kps.put' {a : Addr} {o : AO} {P : Addr → Prop} (k : Kps σ σ' P) (h : P a ∨ σ a = none) : Kps σ (σ'.put a o) P := fun b o' e n => by
  rw [put_ne]; exact k b o' e n
  rintro rfl
  rcases h with h | h
  · exact n h
  · rw [h] at e; cases e
end
section
variable {C : Cx} {A : Around} {env : Env} {m : Loc} {σ σ₀ σ' : Ab} {s s₀ s' : Shared} {P : Params}
theorem put_some {σ : Ab} {a D : Addr} {o o' : AO} (h : σ a = some o) (hD : σ D = none) : (σ.put D o') a = some o := put_new h hD
theorem validate (hK : C.K = Mine.hd.heap_39 P) (hA : A.depth + 5 < recursionLimit) (hh : A.handled = none) {l : List Addr} (hl : l.length ≤ 900) {r c : Addr} {x : Str} (hc : σ c = some (.list (refs l))) (hS : ∀ b ∈ l, ∃ fs, σ b = some (.inst 160 fs)) {Q : Value → Ab → Prop}
    (h : ∀ D, σ D = none → Q (.ref D) (σ.put D (.list (refs l)))) : CallR C A (.ref 330) [.ref r, .ref c, .str x 0] σ Q := CallR.tc fun us hu => by
  obtain ⟨u, v, w, rfl, hu', hv, hw⟩ := map_three hu
  refine TC_fn (C := C) (binds := [("self", u), ("certs", v), ("var_name", w)]) (m := [("var_name", .str x 0), ("certs", .ref c), ("self", .ref r)]) (by omega) (by rw [hK]; rfl) (by rw [hK]; kernel_rfl) rfl (fun S => by rw [hK]; kernel_rfl) (by decide +kernel) (by simp; decide +kernel) (by simp [locOf, hu', hv, hw]) fun L A' hd hh' hun => ?_
  have hhA : A'.handled = none := hh'.trans hh
  refine TXs_cons (TX_assign (.inl (by rfl)) (TE_list (TAs_nil ⟨by decide, fun D hD => ?_⟩)))
  have hcD : ∀ o, (σ.put D o) c = some (.list (refs l)) := fun o => put_some hc hD
  refine TXs_seq (fun m₁ σ₁ => σ₁ = σ.put D (.list (refs l)) ∧ Ext [("output", .ref D)] m₁)
    (TX_for (Src.list hhA (EV_loc (by rfl) (by rfl)) (hcD _)) (hcD _)
      (fun i m' σ' => σ' = σ.put D (.list (refs (l.take i))) ∧ Ext [("output", .ref D)] m') ⟨by simp [refs], .add (by rfl) .nil⟩ ?_ ?_) ?_
  · rintro i m' σ' u hi hu _ ⟨rfl, he⟩
    obtain ⟨b, hbi, rfl⟩ := refs_get hi hu
    have hbm : b ∈ l := List.mem_of_getElem? hbi
    obtain ⟨fs, hb⟩ := hS b hbm
    have htk : l.take (i + 1) = l.take i ++ [b] := by rw [List.take_add_one, hbi]; rfl
    refine TS.pre he (Sub.refl _) (TS_name (.inl (by rfl)) ?_)
    refine TXs_cons (TX_ifB (b := true) ?_ (fun _ => ?_) (fun q => by cases q))
    · exact EB_bcall (EV_built (v := .builtin "isinstance") (by rw [hK]; kernel_rfl) (by kernel_rfl) (by rfl)) fun Q q => TAs_cons ((EV_loc (by rfl) (by rfl)).te (TAs_cons ((EV_glob (v := .ref 160) (by rw [hK]; kernel_rfl) (by rfl)).te (TAs_nil (call_isinst (put_some hb hD) (by rw [hK]; kernel_rfl) q)))))
    · refine TXs_cons (TX_expr (TE_bmeth (ao := .list _) (EV_loc (by rfl) (by rfl)) (put_same ..) rfl PySem.F.plainAttrs_list PySem.F.slot_list_append PySem.F.type_list_append
          (TAs_cons ((EV_loc (by rfl) (by rfl)).te (TAs_nil (call_append (put_same ..) (Nat.le_trans (by simp [refs]; omega) (show 900 ≤ sizeLine by decide)) ?_))))))
      rw [put_put]
      exact TXs_nil (TXs_nil ⟨hcD _, by rw [htk]; simp [refs], .add (by rfl) .nil⟩)
  · rintro m' σ' _ ⟨rfl, he⟩
    have e : l.take (refs l).length = l := List.take_of_length_le (by simp [refs])
    exact ⟨by rw [e], he⟩
  · rintro m₁ σ₁ ⟨rfl, he⟩
    refine he.pre ?_
    exact TXs_cons (TX_ret ((EV_loc (by rfl) (by rfl)).te (h D hD)))
end
end J
end

section
open PySem PySem.W PySem.Calls PyProof.Rows
set_option Elab.async false
set_option linter.unusedVariables false
set_option maxRecDepth 100000
namespace J
def SO (I : Addr → CI) (l : List Addr) : Str → List Addr := fun t => l.filter fun b => decide ((I b).su = t)
def KO (I : Addr → CI) (l : List Addr) : List UInt8 → Option Addr := l.foldl (fun K b => match (I b).kid with | some k => fun y => if y = k then some b else K y | none => K) fun _ => none
def CO (I : Addr → CI) (l : List Addr) : Int → Bool := fun n => l.any fun b => decide ((I b).num = n)
theorem SO_step {I : Addr → CI} {l : List Addr} {b : Addr} : SO I (l ++ [b]) = fun y => if y = (I b).su then SO I l y ++ [b] else SO I l y := by
  funext y
  unfold SO
  rw [List.filter_append]
  by_cases q : y = (I b).su
  · simp [q]
  · have : ¬ (I b).su = y := fun z => q z.symm
    simp [q, this]
theorem KO_some {I : Addr → CI} {l : List Addr} {b : Addr} {k : List UInt8} (h : (I b).kid = some k) : (fun y => if y = k then some b else KO I l y) = KO I (l ++ [b]) := by
  funext y
  unfold KO
  rw [List.foldl_append]
  simp [h]
theorem KO_none {I : Addr → CI} {l : List Addr} {b : Addr} (h : (I b).kid = none) : KO I (l ++ [b]) = KO I l := by
  unfold KO
  rw [List.foldl_append]
  simp [h]
theorem CO_step {I : Addr → CI} {l : List Addr} {b : Addr} : (fun y => if y = (I b).num then true else CO I l y) = CO I (l ++ [b]) := by
  funext y
  unfold CO
  rw [List.any_append]
  by_cases q : y = (I b).num
  · simp [q]
  · have : ¬ (I b).num = y := fun z => q z.symm
    simp [q, this]
/-- the dicts of a new registry -/
def F3 (ds dk dc : Addr) (a : Addr) : Prop := a = ds ∨ a = dk ∨ a = dc
section
variable {C : Cx} {A : Around} {env : Env} {m : Loc} {σ σ₀ σ' : Ab} {s s₀ s' : Shared} {P : Params}
theorem Kps.none {P : Addr → Prop} {D : Addr} (k : Kps σ σ' P) (h : σ' D = Option.none) (n : ¬ P D) : σ D = Option.none := by
  cases q : σ D with
  | none => rfl
  | some o => rw [k D o q n] at h; cases h
theorem Cmp.isNot_ref {a : Addr} : Cmp C A σ .IsNot (.ref a) .none true := fun a' b' ha hb s R E S k => by
  obtain rfl := nv_to_ref ha
  obtain rfl := nv_to_none hb
  exact wpAny_isNot_plain rfl (k _)
theorem Cmp.isNot_none : Cmp C A σ .IsNot .none .none false := fun a' b' ha hb s R E S k => by
  obtain rfl := nv_to_none ha
  obtain rfl := nv_to_none hb
  exact wpAny_isNot_plain rfl (k _)
theorem Cmp.is_ref {a : Addr} : Cmp C A σ .Is (.ref a) .none false := fun a' b' ha hb s R E S k => by
  obtain rfl := nv_to_ref ha
  obtain rfl := nv_to_none hb
  exact wpAny_is_plain rfl (k _)
set_option maxHeartbeats 4000000 in
theorem reg_make (hK : C.K = Mine.hd.heap_39 P) (hA : A.depth + 9 < recursionLimit) (hh : A.handled = none) {I : Addr → CI} {lr lo : List Addr} {cr co : Addr} (hlen : lr.length + lo.length ≤ 900)
    (hI0 : ∀ b ∈ lr ++ lo, Crt σ b (I b)) (hk0 : ∀ b y, (I b).kid = some y → y ≠ [] ∧ y.length ≤ 1000) (hr : σ cr = some (.list (refs lr))) (ho : σ co = some (.list (refs lo))) {Q : Value → Ab → Prop}
    (h : ∀ a ds dk dc σ' ns nk nc LF, ns ≤ 900 → nk ≤ 900 → Reg σ' a ds dk dc ns nk nc LF (SO I (lr ++ lo)) (KO I (lr ++ lo)) (CO I lr) → Kps σ σ' (fun _ => False) → (∀ b, Foot ds dk dc LF b → σ b = none) → Q (.ref a) σ') :
    CallR C A (.ref 383) [.ref cr, .none, .ref co] σ Q := CallR.tc fun us hu => by
  obtain ⟨u1, u2, u3, rfl, hu1, hu2, hu3⟩ := map_three hu
  obtain rfl := nv_to_ref hu1
  obtain rfl := nv_to_none hu2
  obtain rfl := nv_to_ref hu3
  refine TC_make (fI := 323) (by rw [hK]; kernel_rfl) (by rw [hK]; kernel_rfl) (by rw [hK]; kernel_rfl) fun a ha => ?_
  refine TC_fn (C := C) (binds := [("self", .ref a), ("trust_roots", .ref cr), ("extra_trust_roots", .none), ("other_certs", .ref co)]) (m := [("other_certs", .ref co), ("extra_trust_roots", .none), ("trust_roots", .ref cr), ("self", .ref a)]) (by rw [depth_make']; omega) (by rw [hK]; rfl) (by rw [hK]; kernel_rfl) rfl (fun S => by rw [hK]; kernel_rfl) (by decide +kernel) (by simp; decide +kernel) (by rfl) fun L A' hd hh' hun => ?_
  have hhA : A'.handled = none := hh'.trans hh
  have hdA : A'.depth + 5 < recursionLimit := by rw [hd, depth_make']; omega
  have r1 : (σ.put a (.inst 383 [])) cr = some (.list (refs lr)) := put_some hr ha
  have r3 : (σ.put a (.inst 383 [])) co = some (.list (refs lo)) := put_some ho ha
  have k1 : Kps σ (σ.put a (.inst 383 [])) (fun _ => False) := Kps.put (.inr ha)
  generalize hσ1 : σ.put a (.inst 383 []) = σ1 at r1 r3 k1
  have ra : σ1 a = some (.inst 383 []) := by rw [← hσ1]; exact put_same ..
  have isl : ∀ (x : Str) p q p' p'' {c : Addr} {xs : List Value} {env : Env} {m : Loc}, m.lookup x = some (.ref c) → env.kindOf x = some .local → env.kindOf "isinstance" = some .globalImplicit → env.kindOf "list" = some .globalImplicit → (x == ("__debug__" : Str)) = false → σ1 c = some (.list xs) →
      EB C A' env m σ1 (.Call (.Name "isinstance" p) [.Name x q, .Name "list" p'] [] p'') true := fun x p q p' p'' {c xs env m} h1 h2 h3 h4 h5 h6 =>
    EB_bcall (EV_built (v := .builtin "isinstance") (by rw [hK]; kernel_rfl) (by kernel_rfl) h3) fun Q q => TAs_cons ((EV_loc h1 h2 h5).te (TAs_cons ((EV_built (v := .type "list") (by rw [hK]; kernel_rfl) (by kernel_rfl) h4).te (TAs_nil (call_isList h6 (by rw [hK]; kernel_rfl) q)))))
  refine TXs_cons (TX_ifB (b := true && (!true && true)) (EB_and (EB_cmp (EV_loc (by rfl) (by rfl)) EV_none Cmp.isNot_ref) fun _ => EB_and (EB_not (isl _ _ _ _ _ (by rfl) (by rfl) (by rfl) (by rfl) (by decide) r1)) fun q => by cases q) (fun q => by cases q) fun _ => TXs_nil ?_)
  refine TXs_cons (TX_ifB (b := false && true) (EB_and (EB_cmp (EV_loc (by rfl) (by rfl)) EV_none Cmp.isNot_none) fun q => by cases q) (fun q => by cases q) fun _ => TXs_nil ?_)
  refine TXs_cons (TX_ifB (b := true && (!true && true)) (EB_and (EB_cmp (EV_loc (by rfl) (by rfl)) EV_none Cmp.isNot_ref) fun _ => EB_and (EB_not (isl _ _ _ _ _ (by rfl) (by rfl) (by rfl) (by rfl) (by decide) r3)) fun q => by cases q) (fun q => by cases q) fun _ => TXs_nil ?_)
  have inst0 : ∀ b ∈ lr ++ lo, ∃ fs, σ b = some (.inst 160 fs) := fun b hb => by obtain ⟨fs, na, ka, kfs, c1, _⟩ := hI0 b hb; exact ⟨fs, c1⟩
  have inst1 : ∀ {σ'}, Kps σ σ' (fun _ => False) → ∀ b ∈ lr ++ lo, ∃ fs, σ' b = some (.inst 160 fs) := fun k b hb => let ⟨fs, e⟩ := inst0 b hb; ⟨fs, k _ _ e id⟩
  have hl1 : lr.length ≤ 900 := by omega
  have hl3 : lo.length ≤ 900 := by omega
  refine TXs_cons (TX_ifB (EB_cmp (EV_loc (by rfl) (by rfl)) EV_none Cmp.is_ref) (fun q => by cases q) fun _ => ?_)
  refine TXs_cons (TX_assign (.inl (by rfl)) (TE_meth (EV_loc (by rfl) (by rfl)) ra (by rfl) (by rw [hK]; kernel_rfl) (TAs_cons ((EV_loc (by rfl) (by rfl)).te (TAs_cons (EV_str.te (TAs_nil (validate hK hdA hhA hl3 r3 (fun b hb => inst1 k1 b (by simp [hb])) fun D2 hD2 => ?_))))))))
  have k2 := k1.trans (Kps.put (o := .list (refs lo)) (.inr hD2))
  have r1 : (σ1.put D2 (.list (refs lo))) cr = some (.list (refs lr)) := put_some r1 hD2
  have ra : (σ1.put D2 (.list (refs lo))) a = some (.inst 383 []) := put_some ra hD2
  have rD2 : (σ1.put D2 (.list (refs lo))) D2 = some (.list (refs lo)) := put_same ..
  generalize σ1.put D2 (.list (refs lo)) = σ2 at k2 r1 ra rD2 ⊢
  refine TXs_nil (TXs_cons (TX_ifB (EB_cmp (EV_loc (by rfl) (by rfl)) EV_none Cmp.is_ref) (fun q => by cases q) fun _ => ?_))
  refine TXs_cons (TX_assign (.inl (by rfl)) (TE_meth (EV_loc (by rfl) (by rfl)) ra (by rfl) (by rw [hK]; kernel_rfl) (TAs_cons ((EV_loc (by rfl) (by rfl)).te (TAs_cons (EV_str.te (TAs_nil (validate hK hdA hhA hl1 r1 (fun b hb => inst1 k2 b (by simp [hb])) fun D1 hD1 => ?_))))))))
  have k3 := k2.trans (Kps.put (o := .list (refs lr)) (.inr hD1))
  have ra : (σ2.put D1 (.list (refs lr))) a = some (.inst 383 []) := put_some ra hD1
  have rD2 : (σ2.put D1 (.list (refs lr))) D2 = some (.list (refs lo)) := put_some rD2 hD1
  have rD1 : (σ2.put D1 (.list (refs lr))) D1 = some (.list (refs lr)) := put_same ..
  have n21 : D2 ≠ D1 := ne_of_new (by assumption) hD1
  have nD1 : σ D1 = none := k2.none hD1 id
  generalize σ2.put D1 (.list (refs lr)) = σ3 at k3 ra rD2 rD1 ⊢
  refine TXs_nil (TXs_cons (TX_ifB (EB_cmp (EV_loc (by rfl) (by rfl)) EV_none Cmp.isNot_none) (fun q => by cases q) fun _ => ?_))
  refine TXs_nil ?_
  refine TXs_cons (TX_setAttr (TE_dict0 (.dS (fun _ => none) 0) (.inl rfl) fun ds hds => ⟨a, 383, [], EV_loc (by rfl) (by rfl), put_some ra hds, (by rw [hK]; kernel_rfl), (by simp), ?_⟩))
  have nds : σ ds = none := k3.none hds id
  have ra' := put_some (o' := .dS (fun _ => none) 0) ra hds
  have k5 := (k3.trans (Kps.put (o := .dS (fun _ => none) 0) (.inr hds))).put' (o := .inst 383 [("_subject_map", .ref ds)]) (a := a) (.inr ha)
  have ads : ds ≠ a := Ne.symm (ne_of_new ra hds)
  have q1 : ((σ3.put ds (.dS (fun _ => none) 0)).put a (.inst 383 [("_subject_map", .ref ds)])) ds = some (.dS (fun _ => none) 0) := by rw [put_ne ads, put_same]
  have q2 : ((σ3.put ds (.dS (fun _ => none) 0)).put a (.inst 383 [("_subject_map", .ref ds)])) a = some (.inst 383 [("_subject_map", .ref ds)]) := put_same ..
  have rD1 : ((σ3.put ds (.dS (fun _ => none) 0)).put a (.inst 383 [("_subject_map", .ref ds)])) D1 = some (.list (refs lr)) := by rw [put_ne (ne_of_ao rD1 ra (by intro q; cases q))]; exact put_some rD1 hds
  have rD2 : ((σ3.put ds (.dS (fun _ => none) 0)).put a (.inst 383 [("_subject_map", .ref ds)])) D2 = some (.list (refs lo)) := by rw [put_ne (ne_of_ao rD2 ra (by intro q; cases q))]; exact put_some rD2 hds
  generalize (σ3.put ds (.dS (fun _ => none) 0)).put a (.inst 383 [("_subject_map", .ref ds)]) = σ5 at k5 q1 q2 rD1 rD2 ⊢
  refine TXs_cons (TX_setAttr (TE_dict0 (.dB (fun _ => none) 0) (.inr (.inl rfl)) fun dk hdk => ⟨a, 383, _, EV_loc (by rfl) (by rfl), put_some q2 hdk, (by rw [hK]; kernel_rfl), (by simp), ?_⟩))
  have ndk : σ dk = none := k5.none hdk id
  have k6 := (k5.trans (Kps.put (o := .dB (fun _ => none) 0) (.inr hdk))).put' (o := .inst 383 [("_key_identifier_map", .ref dk), ("_subject_map", .ref ds)]) (a := a) (.inr ha)
  have adk : dk ≠ a := Ne.symm (ne_of_new q2 hdk)
  have p1 : ((σ5.put dk (.dB (fun _ => none) 0)).put a (.inst 383 [("_key_identifier_map", .ref dk), ("_subject_map", .ref ds)])) dk = some (.dB (fun _ => none) 0) := by rw [put_ne adk, put_same]
  have q1 : ((σ5.put dk (.dB (fun _ => none) 0)).put a (.inst 383 [("_key_identifier_map", .ref dk), ("_subject_map", .ref ds)])) ds = some (.dS (fun _ => none) 0) := by rw [put_ne ads]; exact put_some q1 hdk
  have rD1 : ((σ5.put dk (.dB (fun _ => none) 0)).put a (.inst 383 [("_key_identifier_map", .ref dk), ("_subject_map", .ref ds)])) D1 = some (.list (refs lr)) := by rw [put_ne (ne_of_ao rD1 q2 (by intro q; cases q))]; exact put_some rD1 hdk
  have rD2 : ((σ5.put dk (.dB (fun _ => none) 0)).put a (.inst 383 [("_key_identifier_map", .ref dk), ("_subject_map", .ref ds)])) D2 = some (.list (refs lo)) := by rw [put_ne (ne_of_ao rD2 q2 (by intro q; cases q))]; exact put_some rD2 hdk
  have q2 : ((σ5.put dk (.dB (fun _ => none) 0)).put a (.inst 383 [("_key_identifier_map", .ref dk), ("_subject_map", .ref ds)])) a = some (.inst 383 [("_key_identifier_map", .ref dk), ("_subject_map", .ref ds)]) := put_same ..
  generalize (σ5.put dk (.dB (fun _ => none) 0)).put a (.inst 383 [("_key_identifier_map", .ref dk), ("_subject_map", .ref ds)]) = σ6 at k6 p1 q1 q2 rD1 rD2 ⊢
  refine TXs_cons (TX_setAttr (TE_dict0 (.dI (fun _ => none) 0) (.inr (.inr rfl)) fun dc hdc => ⟨a, 383, _, EV_loc (by rfl) (by rfl), put_some q2 hdc, (by rw [hK]; kernel_rfl), (by simp), ?_⟩))
  have ndc : σ dc = none := k6.none hdc id
  have k7 := (k6.trans (Kps.put (o := .dI (fun _ => none) 0) (.inr hdc))).put' (o := .inst 383 [("_ca_lookup", .ref dc), ("_key_identifier_map", .ref dk), ("_subject_map", .ref ds)]) (a := a) (.inr ha)
  have adc : dc ≠ a := Ne.symm (ne_of_new q2 hdc)
  have hc00 : ((σ6.put dc (.dI (fun _ => none) 0)).put a (.inst 383 [("_ca_lookup", .ref dc), ("_key_identifier_map", .ref dk), ("_subject_map", .ref ds)])) dc = some (.dI (fun _ => none) 0) := by rw [put_ne adc, put_same]
  have hs0 : ((σ6.put dc (.dI (fun _ => none) 0)).put a (.inst 383 [("_ca_lookup", .ref dc), ("_key_identifier_map", .ref dk), ("_subject_map", .ref ds)])) ds = some (.dS (fun _ => none) 0) := by rw [put_ne ads]; exact put_some q1 hdc
  have hk00 : ((σ6.put dc (.dI (fun _ => none) 0)).put a (.inst 383 [("_ca_lookup", .ref dc), ("_key_identifier_map", .ref dk), ("_subject_map", .ref ds)])) dk = some (.dB (fun _ => none) 0) := by rw [put_ne adk]; exact put_some p1 hdc
  have rD1 : ((σ6.put dc (.dI (fun _ => none) 0)).put a (.inst 383 [("_ca_lookup", .ref dc), ("_key_identifier_map", .ref dk), ("_subject_map", .ref ds)])) D1 = some (.list (refs lr)) := by rw [put_ne (ne_of_ao rD1 q2 (by intro q; cases q))]; exact put_some rD1 hdc
  have rD2 : ((σ6.put dc (.dI (fun _ => none) 0)).put a (.inst 383 [("_ca_lookup", .ref dc), ("_key_identifier_map", .ref dk), ("_subject_map", .ref ds)])) D2 = some (.list (refs lo)) := by rw [put_ne (ne_of_ao rD2 q2 (by intro q; cases q))]; exact put_some rD2 hdc
  have q2 : ((σ6.put dc (.dI (fun _ => none) 0)).put a (.inst 383 [("_ca_lookup", .ref dc), ("_key_identifier_map", .ref dk), ("_subject_map", .ref ds)])) a = some (.inst 383 [("_ca_lookup", .ref dc), ("_key_identifier_map", .ref dk), ("_subject_map", .ref ds)]) := put_same ..
  generalize (σ6.put dc (.dI (fun _ => none) 0)).put a (.inst 383 [("_ca_lookup", .ref dc), ("_key_identifier_map", .ref dk), ("_subject_map", .ref ds)]) = σb at k7 hc00 hs0 hk00 q2 rD1 rD2 ⊢
  have G0 : Reg σb a ds dk dc 0 0 0 (fun _ => none) (SO I []) (KO I []) (CO I []) := ⟨q2, hs0, hk00, hc00, fun x L h => by (cases h), fun _ _ => rfl, fun x y L h => by (cases h)⟩
  have hI : ∀ b ∈ lr ++ lo, Crt σb b (I b) := fun b hb => (hI0 b hb).kp k7 fun _ _ => id
  have nF3 : ∀ {D : Addr} {xs : List Value}, σb D = some (.list xs) → ¬ F3 ds dk dc D := fun {D xs} hD => by
    rintro (q | q | q)
    · exact ne_of_ao hD hs0 (by intro z; cases z) q
    · exact ne_of_ao hD hk00 (by intro z; cases z) q
    · exact ne_of_ao hD hc00 (by intro z; cases z) q
  have hIf : ∀ b, InTup σb b → ¬ F3 ds dk dc b := fun b hD => by
    rintro (q | q | q)
    · rcases hD with ⟨K, fs, hD⟩ | ⟨xs, hD⟩
      · exact ne_of_ao hD hs0 (by intro z; cases z) q
      · exact ne_of_ao hD hs0 (by intro z; cases z) q
    · rcases hD with ⟨K, fs, hD⟩ | ⟨xs, hD⟩
      · exact ne_of_ao hD hk00 (by intro z; cases z) q
      · exact ne_of_ao hD hk00 (by intro z; cases z) q
    · rcases hD with ⟨K, fs, hD⟩ | ⟨xs, hD⟩
      · exact ne_of_ao hD hc00 (by intro z; cases z) q
      · exact ne_of_ao hD hc00 (by intro z; cases z) q
  refine TXs_seq (fun m₁ σ₁ => Ext [("other_certs", .ref D2), ("trust_roots", .ref D1), ("self", .ref a)] m₁ ∧ Kps σb σ₁ (F3 ds dk dc) ∧ ∃ ns nk nc LF, ns ≤ lr.length ∧ nk ≤ lr.length ∧ nc ≤ lr.length ∧ Reg σ₁ a ds dk dc ns nk nc LF (SO I lr) (KO I lr) (CO I lr) ∧ (∀ x L, LF x = some L → σb L = none))
    (TX_for (Src.list hhA (EV_loc (by rfl) (by rfl)) rD1) rD1
      (fun i m' σ' => Ext [("other_certs", .ref D2), ("trust_roots", .ref D1), ("self", .ref a)] m' ∧ Kps σb σ' (F3 ds dk dc) ∧ ∃ ns nk nc LF, ns ≤ i ∧ nk ≤ i ∧ nc ≤ i ∧ Reg σ' a ds dk dc ns nk nc LF (SO I (lr.take i)) (KO I (lr.take i)) (CO I (lr.take i)) ∧ (∀ x L, LF x = some L → σb L = none))
      ⟨.add (by rfl) (.add (by rfl) (.add (by rfl) .nil)), Kps.refl, 0, 0, 0, _, Nat.le_refl _, Nat.le_refl _, Nat.le_refl _, G0, fun x L h => by (cases h)⟩ ?_ ?_) ?_
  · rintro i m' σ' u hi hu hD' ⟨he, hkp, ns, nk, nc, LF, hns, hnk, hnc, G, hLF⟩
    obtain ⟨b, hbi, rfl⟩ := refs_get hi hu
    have hbm : b ∈ lr := List.mem_of_getElem? hbi
    have hc := hI b (List.mem_append_left _ hbm)
    have htk : lr.take (i + 1) = lr.take i ++ [b] := by rw [List.take_add_one, hbi]; simp
    have hc₀ : Crt σ' b (I b) := hc.kp hkp hIf
    refine Crt.elim (hc₀) fun fs na ia av c1 c2 c3 c4 c5 c6 c7 c8 c9 c10 c11 => ?_
    have hil : i ≤ 900 := by have := hlen; simp [refs] at hi this; omega
    refine TS.pre he (Sub.refl _) (TS_name (.inl (by rfl)) ?_)
    refine TXs_cons (TX_assign (.inl (by rfl)) ((EV_attr (EV_attr (EV_loc (by rfl) (by rfl)) c1 c2 (by rw [hK]; kernel_rfl)) c3 (by rfl) (by rw [hK]; kernel_rfl)).te ?_))
    refine TXs_seq (fun m₁ σ₁ => Ext [("hashable", .str (I b).su 0), ("trust_root", .ref b), ("other_certs", .ref D2), ("trust_roots", .ref D1), ("self", .ref a)] m₁ ∧ Kps σb σ₁ (F3 ds dk dc) ∧ ∃ ns₁ LF₁ L₁, ns₁ ≤ ns + 1 ∧ Reg σ₁ a ds dk dc ns₁ nk nc LF₁ (SO I (lr.take i)) (KO I (lr.take i)) (CO I (lr.take i)) ∧ LF₁ (I b).su = some L₁ ∧ (∀ x L, LF₁ x = some L → σb L = none))
      (TX_ifB (EB_cmp (EV_loc (by rfl) (by rfl)) (EV_attr (EV_loc (by rfl) (by rfl)) G.r (by rfl) (by rw [hK]; kernel_rfl)) (Cmp.notIn_dS G.s)) ?_ ?_) ?_
    · intro hq
      have hq' : LF (I b).su = none := by cases z : LF (I b).su with | none => rfl | some L => rw [z] at hq; cases hq
      refine TXs_cons (TX_setS (TE_list (TAs_nil ⟨by decide, fun D hD => ⟨EV_attr (EV_loc (by rfl) (by rfl)) (put_new G.r hD) (by rfl) (by rw [hK]; kernel_rfl), EV_loc (by rfl) (by rfl), put_new G.s hD, Nat.le_trans (by omega : ns ≤ 2000) (by decide), ?_⟩⟩)))
      have hDb : σb D = none := hkp.none hD (by rintro (rfl | rfl | rfl); · rw [G.s] at hD; cases hD
                                                · rw [G.k] at hD; cases hD
                                                · rw [G.c] at hD; cases hD)
      refine TXs_nil ⟨.add (by rfl) (.add (by rfl) (.add (by rfl) (.add (by rfl) (.add (by rfl) .nil)))), (hkp.put' (.inr hDb)).put' (.inl (.inl rfl)), ns + 1, _, D, Nat.le_refl _, G.newList hq' hD, by simp, fun x L hx => ?_⟩
      by_cases q : x = (I b).su
      · simp only [q, if_true] at hx; cases hx; exact hDb
      · simp only [if_neg q] at hx; exact hLF x L hx
    · intro hq
      obtain ⟨L₁, hL⟩ : ∃ L, LF (I b).su = some L := by cases z : LF (I b).su with | none => rw [z] at hq; cases hq | some L => exact ⟨L, rfl⟩
      exact TXs_nil ⟨.add (by rfl) (.add (by rfl) (.add (by rfl) (.add (by rfl) (.add (by rfl) .nil)))), hkp, ns, LF, L₁, Nat.le_succ _, G, hL, hLF⟩
    · rintro m₁ σ₁ ⟨he₁, hkp₁, ns₁, LF₁, L₁, hn₁, G₁, hL₁, hLF₁⟩
      refine he₁.pre ?_
      have hlS : (SO I (lr.take i) (I b).su).length ≤ 2000 := by
        refine Nat.le_trans (List.length_filter_le _ _) ?_
        have := hlen
        simp at this ⊢; omega
      have hc₁ := hc.kp hkp₁ hIf
      refine Crt.elim (hc₁) fun fs na ia av c1 c2 c3 c4 c5 c6 c7 c8 c9 c10 c11 => ?_
      refine TXs_cons (TX_expr (TE_bmeth (ao := .list _) (EV_item (EV_attr (EV_loc (by rfl) (by rfl)) G₁.r (by rfl) (by rw [hK]; kernel_rfl)) (EV_loc (by rfl) (by rfl)) (Itm.dS G₁.s (by rw [hL₁]; rfl))) (G₁.l _ _ hL₁) rfl PySem.F.plainAttrs_list PySem.F.slot_list_append PySem.F.type_list_append
        (TAs_cons ((EV_loc (by rfl) (by rfl)).te (TAs_nil (call_append (G₁.l _ _ hL₁) (Nat.le_trans (by simpa [refs] using hlS) (show 2000 ≤ sizeLine by decide)) ?_))))))
      have G₂ := G₁.append (a := b) hL₁
      rw [← SO_step, ← htk] at G₂
      have k₂ := hkp₁.put' (o := .list (refs (SO I (lr.take i) (I b).su) ++ [.ref b])) (a := L₁) (.inr (hLF₁ _ _ hL₁))
      have hc₂ := hc.kp k₂ hIf
      refine Crt.elim (hc₂) fun fs na ia av c1 c2 c3 c4 c5 c6 c7 c8 c9 c10 c11 => ?_
      have k₃ := fun o => k₂.put' (o := o) (a := dk) (.inl (.inr (.inl rfl)))
      refine TXs_seq (fun m₂ σ₂ => Ext [("hashable", .str (I b).su 0), ("trust_root", .ref b), ("other_certs", .ref D2), ("trust_roots", .ref D1), ("self", .ref a)] m₂ ∧ Kps σb σ₂ (F3 ds dk dc) ∧ ∃ nk₁, nk₁ ≤ nk + 1 ∧ Reg σ₂ a ds dk dc ns₁ nk₁ nc LF₁ (SO I (lr.take (i + 1))) (KO I (lr.take (i + 1))) (CO I (lr.take i)))
        (TX_ifB (b := (I b).kid.isSome) (EB_tru (EV_attr (EV_loc (by rfl) (by rfl)) c1 c5 (by rw [hK]; kernel_rfl) (by cases (I b).kid <;> rfl)) ?_) ?_ ?_) ?_
      · cases hkid : (I b).kid with
        | none => exact Tru.none
        | some y => exact TruB.bytes (hk0 b y hkid).1 (hk0 b y hkid).2
      · intro hq
        obtain ⟨y, hy⟩ := Option.isSome_iff_exists.mp hq
        rw [hy] at c5
        refine TXs_cons (TX_setB (x := y) ((EV_loc (by rfl) (by rfl)).te ⟨EV_attr (EV_loc (by rfl) (by rfl)) G₂.r (by rfl) (by rw [hK]; kernel_rfl), EV_attr (EV_loc (by rfl) (by rfl)) c1 c5 (by rw [hK]; kernel_rfl), G₂.k, Nat.le_trans (by omega : nk ≤ 2000) (by decide), ?_⟩))
        have G₃ := G₂.key (x := y) (a := b)
        rw [KO_some hy, ← htk] at G₃
        exact TXs_nil ⟨.add (by rfl) (.add (by rfl) (.add (by rfl) (.add (by rfl) (.add (by rfl) .nil)))), k₃ _, nk + 1, Nat.le_refl _, G₃⟩
      · intro hq
        have hy : (I b).kid = none := by cases z : (I b).kid with | none => rfl | some b => rw [z] at hq; cases hq
        rw [← KO_none hy, ← htk] at G₂
        exact TXs_nil ⟨.add (by rfl) (.add (by rfl) (.add (by rfl) (.add (by rfl) (.add (by rfl) .nil)))), k₂, nk, Nat.le_succ _, G₂⟩
      · rintro m₂ σ₂ ⟨he₂, hkp₂, nk₁, hnk₁, G₃⟩
        refine he₂.pre ?_
        have hc₃ := hc.kp hkp₂ hIf
        refine Crt.elim (hc₃) fun fs na ia av c1 c2 c3 c4 c5 c6 c7 c8 c9 c10 c11 => ?_
        refine TXs_cons (TX_setI (x := (I b).num) (EV_bool.te ⟨EV_attr (EV_loc (by rfl) (by rfl)) G₃.r (by rfl) (by rw [hK]; kernel_rfl), EV_attr (EV_loc (by rfl) (by rfl)) c1 c9 (by rw [hK]; kernel_rfl), G₃.c, Nat.le_trans (by omega : nc ≤ 2000) (by decide), ?_⟩))
        have G₄ := G₃.ca (x := (I b).num)
        rw [CO_step, ← htk] at G₄
        have k₄ := fun o => hkp₂.put' (o := o) (a := dc) (.inl (.inr (.inr rfl)))
        exact TXs_nil ⟨(k₄ _) _ _ rD1 (nF3 rD1), .add (by rfl) (.add (by rfl) (.add (by rfl) .nil)), k₄ _, ns₁, nk₁, nc + 1, LF₁, by omega, by omega, by omega, G₄, hLF₁⟩
  · rintro m' σ' _ ⟨he, hkp, ns, nk, nc, LF, hns, hnk, hnc, G, hLF⟩
    have e : lr.take (refs lr).length = lr := List.take_of_length_le (by simp [refs])
    rw [e] at G
    have e' : (refs lr).length = lr.length := by simp [refs]
    rw [e'] at hns hnk hnc
    exact ⟨he, hkp, ns, nk, nc, LF, hns, hnk, hnc, G, hLF⟩
  · rintro m₀ σ₀ ⟨he₀, hkp₀, ns₀, nk₀, nc₀, LF₀, hns₀, hnk₀, hnc₀, G₀, hLF₀⟩
    refine he₀.pre ?_
    have rD2' := hkp₀ _ _ rD2 (nF3 rD2)
    refine TXs_cons (TX_for (Src.list hhA (EV_loc (by rfl) (by rfl)) rD2') rD2'
      (fun i m' σ' => Ext [("other_certs", .ref D2), ("trust_roots", .ref D1), ("self", .ref a)] m' ∧ Kps σb σ' (F3 ds dk dc) ∧ ∃ ns nk nc LF, ns ≤ lr.length + i ∧ nk ≤ lr.length + i ∧ nc ≤ lr.length + i ∧ Reg σ' a ds dk dc ns nk nc LF (SO I (lr ++ lo.take i)) (KO I (lr ++ lo.take i)) (CO I lr) ∧ (∀ x L, LF x = some L → σb L = none))
      ⟨.add (by rfl) (.add (by rfl) (.add (by rfl) .nil)), hkp₀, ns₀, nk₀, nc₀, LF₀, hns₀, hnk₀, hnc₀, by simpa using G₀, hLF₀⟩ ?_ ?_)
    · rintro i m' σ' u hi hu hD' ⟨he, hkp, ns, nk, nc, LF, hns, hnk, hnc, G, hLF⟩
      obtain ⟨b, hbi, rfl⟩ := refs_get hi hu
      have hbm : b ∈ lo := List.mem_of_getElem? hbi
      have hc := hI b (List.mem_append_right _ hbm)
      have htk : lr ++ lo.take (i + 1) = lr ++ lo.take i ++ [b] := by rw [List.take_add_one, hbi]; simp
      have hc₀ : Crt σ' b (I b) := hc.kp hkp hIf
      refine Crt.elim (hc₀) fun fs na ia av c1 c2 c3 c4 c5 c6 c7 c8 c9 c10 c11 => ?_
      have hil : i ≤ 900 := by have := hlen; simp [refs] at hi this; omega
      refine TS.pre he (Sub.refl _) (TS_name (.inl (by rfl)) ?_)
      refine TXs_cons (TX_assign (.inl (by rfl)) ((EV_attr (EV_attr (EV_loc (by rfl) (by rfl)) c1 c2 (by rw [hK]; kernel_rfl)) c3 (by rfl) (by rw [hK]; kernel_rfl)).te ?_))
      refine TXs_seq (fun m₁ σ₁ => Ext [("hashable", .str (I b).su 0), ("other_cert", .ref b), ("other_certs", .ref D2), ("trust_roots", .ref D1), ("self", .ref a)] m₁ ∧ Kps σb σ₁ (F3 ds dk dc) ∧ ∃ ns₁ LF₁ L₁, ns₁ ≤ ns + 1 ∧ Reg σ₁ a ds dk dc ns₁ nk nc LF₁ (SO I (lr ++ lo.take i)) (KO I (lr ++ lo.take i)) (CO I lr) ∧ LF₁ (I b).su = some L₁ ∧ (∀ x L, LF₁ x = some L → σb L = none))
        (TX_ifB (EB_cmp (EV_loc (by rfl) (by rfl)) (EV_attr (EV_loc (by rfl) (by rfl)) G.r (by rfl) (by rw [hK]; kernel_rfl)) (Cmp.notIn_dS G.s)) ?_ ?_) ?_
      · intro hq
        have hq' : LF (I b).su = none := by cases z : LF (I b).su with | none => rfl | some L => rw [z] at hq; cases hq
        refine TXs_cons (TX_setS (TE_list (TAs_nil ⟨by decide, fun D hD => ⟨EV_attr (EV_loc (by rfl) (by rfl)) (put_new G.r hD) (by rfl) (by rw [hK]; kernel_rfl), EV_loc (by rfl) (by rfl), put_new G.s hD, Nat.le_trans (by omega : ns ≤ 2000) (by decide), ?_⟩⟩)))
        have hDb : σb D = none := hkp.none hD (by rintro (rfl | rfl | rfl); · rw [G.s] at hD; cases hD
                                                  · rw [G.k] at hD; cases hD
                                                  · rw [G.c] at hD; cases hD)
        refine TXs_nil ⟨.add (by rfl) (.add (by rfl) (.add (by rfl) (.add (by rfl) (.add (by rfl) .nil)))), (hkp.put' (.inr hDb)).put' (.inl (.inl rfl)), ns + 1, _, D, Nat.le_refl _, G.newList hq' hD, by simp, fun x L hx => ?_⟩
        by_cases q : x = (I b).su
        · simp only [q, if_true] at hx; cases hx; exact hDb
        · simp only [if_neg q] at hx; exact hLF x L hx
      · intro hq
        obtain ⟨L₁, hL⟩ : ∃ L, LF (I b).su = some L := by cases z : LF (I b).su with | none => rw [z] at hq; cases hq | some L => exact ⟨L, rfl⟩
        exact TXs_nil ⟨.add (by rfl) (.add (by rfl) (.add (by rfl) (.add (by rfl) (.add (by rfl) .nil)))), hkp, ns, LF, L₁, Nat.le_succ _, G, hL, hLF⟩
      · rintro m₁ σ₁ ⟨he₁, hkp₁, ns₁, LF₁, L₁, hn₁, G₁, hL₁, hLF₁⟩
        refine he₁.pre ?_
        have hlS : (SO I (lr ++ lo.take i) (I b).su).length ≤ 2000 := by
          refine Nat.le_trans (List.length_filter_le _ _) ?_
          have := hlen
          simp at this ⊢; omega
        have hc₁ := hc.kp hkp₁ hIf
        refine Crt.elim (hc₁) fun fs na ia av c1 c2 c3 c4 c5 c6 c7 c8 c9 c10 c11 => ?_
        refine TXs_cons (TX_expr (TE_bmeth (ao := .list _) (EV_item (EV_attr (EV_loc (by rfl) (by rfl)) G₁.r (by rfl) (by rw [hK]; kernel_rfl)) (EV_loc (by rfl) (by rfl)) (Itm.dS G₁.s (by rw [hL₁]; rfl))) (G₁.l _ _ hL₁) rfl PySem.F.plainAttrs_list PySem.F.slot_list_append PySem.F.type_list_append
          (TAs_cons ((EV_loc (by rfl) (by rfl)).te (TAs_nil (call_append (G₁.l _ _ hL₁) (Nat.le_trans (by simpa [refs] using hlS) (show 2000 ≤ sizeLine by decide)) ?_))))))
        have G₂ := G₁.append (a := b) hL₁
        rw [← SO_step, ← htk] at G₂
        have k₂ := hkp₁.put' (o := .list (refs (SO I (lr ++ lo.take i) (I b).su) ++ [.ref b])) (a := L₁) (.inr (hLF₁ _ _ hL₁))
        have hc₂ := hc.kp k₂ hIf
        refine Crt.elim (hc₂) fun fs na ia av c1 c2 c3 c4 c5 c6 c7 c8 c9 c10 c11 => ?_
        have k₃ := fun o => k₂.put' (o := o) (a := dk) (.inl (.inr (.inl rfl)))
        refine TXs_seq (fun m₂ σ₂ => Ext [("hashable", .str (I b).su 0), ("other_cert", .ref b), ("other_certs", .ref D2), ("trust_roots", .ref D1), ("self", .ref a)] m₂ ∧ Kps σb σ₂ (F3 ds dk dc) ∧ ∃ nk₁, nk₁ ≤ nk + 1 ∧ Reg σ₂ a ds dk dc ns₁ nk₁ nc LF₁ (SO I (lr ++ lo.take (i + 1))) (KO I (lr ++ lo.take (i + 1))) (CO I lr))
          (TX_ifB (b := (I b).kid.isSome) (EB_tru (EV_attr (EV_loc (by rfl) (by rfl)) c1 c5 (by rw [hK]; kernel_rfl) (by cases (I b).kid <;> rfl)) ?_) ?_ ?_) ?_
        · cases hkid : (I b).kid with
          | none => exact Tru.none
          | some y => exact TruB.bytes (hk0 b y hkid).1 (hk0 b y hkid).2
        · intro hq
          obtain ⟨y, hy⟩ := Option.isSome_iff_exists.mp hq
          rw [hy] at c5
          refine TXs_cons (TX_setB (x := y) ((EV_loc (by rfl) (by rfl)).te ⟨EV_attr (EV_loc (by rfl) (by rfl)) G₂.r (by rfl) (by rw [hK]; kernel_rfl), EV_attr (EV_loc (by rfl) (by rfl)) c1 c5 (by rw [hK]; kernel_rfl), G₂.k, Nat.le_trans (by omega : nk ≤ 2000) (by decide), ?_⟩))
          have G₃ := G₂.key (x := y) (a := b)
          rw [KO_some hy, ← htk] at G₃
          exact TXs_nil ⟨.add (by rfl) (.add (by rfl) (.add (by rfl) (.add (by rfl) (.add (by rfl) .nil)))), k₃ _, nk + 1, Nat.le_refl _, G₃⟩
        · intro hq
          have hy : (I b).kid = none := by cases z : (I b).kid with | none => rfl | some b => rw [z] at hq; cases hq
          rw [← KO_none hy, ← htk] at G₂
          exact TXs_nil ⟨.add (by rfl) (.add (by rfl) (.add (by rfl) (.add (by rfl) (.add (by rfl) .nil)))), k₂, nk, Nat.le_succ _, G₂⟩
        · rintro m₂ σ₂ ⟨he₂, hkp₂, nk₁, hnk₁, G₃⟩
          refine he₂.pre ?_
          exact TXs_nil ⟨hkp₂ _ _ rD2 (nF3 rD2), .add (by rfl) (.add (by rfl) (.add (by rfl) .nil)), hkp₂, ns₁, nk₁, nc, LF₁, by omega, by omega, by omega, G₃, hLF₁⟩
    · rintro m' σ' _ ⟨he, hkp, ns, nk, nc, LF, hns, hnk, hnc, G, hLF⟩
      have e : lo.take (refs lo).length = lo := List.take_of_length_le (by simp [refs])
      rw [e] at G
      have e' : (refs lo).length = lo.length := by simp [refs]
      rw [e'] at hns hnk hnc
      refine TXs_nil ⟨rfl, h a ds dk dc σ' ns nk nc LF (by omega) (by omega) G (fun b o hb _ => hkp _ _ (k7 _ _ hb id) ?_) ?_⟩
      · rintro (rfl | rfl | rfl)
        · rw [nds] at hb; cases hb
        · rw [ndk] at hb; cases hb
        · rw [ndc] at hb; cases hb
      · rintro b (rfl | rfl | rfl | ⟨x, hx⟩)
        · exact nds
        · exact ndk
        · exact ndc
        · exact k7.none (hLF x b hx) id
end
end J
end

section
open PySem PySem.W PySem.Calls PyProof.Rows
set_option Elab.async false
set_option linter.unusedVariables false
set_option maxRecDepth 100000
namespace J
-- THE SEARCH, in plain Lean
def ky (I : Addr → CI) (a : Addr) : Str × Int := ((I a).is, (I a).ser)
/-- c fits as the issuer of f -/
def sameC (f c : CI) : Bool := match f.aki, c.kid with
  | some x, some y => x == y
  | _, _ => match f.ais with
    | none => true
    | some p => p.1 == c.is && p.2 == c.ser
def fits (I : Addr → CI) (a b : Addr) : Bool := sameC (I a) (I b) && (I b).su == (I a).is
def iss (I : Addr → CI) (K : List Addr) (a : Addr) : List Addr := K.filter (fits I a)
def dup (I : Addr → CI) (ch : List Addr) (b : Addr) : Bool := ch.any fun o => ky I o == ky I b
def pth (I : Addr → CI) (K Rs : List Addr) : Nat → List Addr → List (List Addr)
  | 0, _ => []
  | _ + 1, [] => []
  | n + 1, a :: r => if a ∈ Rs then [a :: r] else (iss I K a).flatMap fun b => if dup I (a :: r) b then [] else pth I K Rs n (b :: a :: r)
/-- the known ones that are not in the chain -/
def ms (I : Addr → CI) (K ch : List Addr) : Nat := (K.filter fun b => !dup I ch b).length
section
variable {I : Addr → CI} {K Rs ch : List Addr} {a b : Addr}
theorem dup_cons : dup I (b :: ch) a = (ky I b == ky I a || dup I ch a) := rfl
theorem ms_cons (hb : b ∈ K) (hd : dup I ch b = false) : ms I K (b :: ch) + 1 ≤ ms I K ch := by
  unfold ms
  have h1 : (K.filter fun x => !dup I (b :: ch) x) = (K.filter fun x => !dup I ch x).filter fun x => !(ky I b == ky I x) := by
    rw [List.filter_filter]
    congr 1
    funext x
    rw [dup_cons]
    cases (ky I b == ky I x) <;> simp
  rw [h1]
  have h2 : b ∈ K.filter fun x => !dup I ch x := List.mem_filter.mpr ⟨hb, by simp [hd]⟩
  have h3 : ((K.filter fun x => !dup I ch x).filter fun x => !(ky I b == ky I x)).length < (K.filter fun x => !dup I ch x).length := by
    refine Nat.lt_of_le_of_ne (List.length_filter_le _ _) fun q => ?_
    have := (List.length_filter_eq_length_iff.mp q) b h2
    simp at this
  omega
/-- of how many issuers the search goes up -/
theorem iss_ms : ((iss I K a).filter fun b => !dup I ch b).length ≤ ms I K ch := by
  unfold iss ms
  rw [List.filter_filter]
  have : (K.filter fun x => !dup I ch x && fits I a x) = (K.filter fun x => !dup I ch x).filter (fits I a) := by
    rw [List.filter_filter]; congr 1; funext x; exact Bool.and_comm ..
  rw [this]
  exact List.length_filter_le _ _
theorem flat_len {α β : Type} {f : α → List β} {p : α → Bool} {k : Nat} : ∀ {l : List α}, (∀ x ∈ l, p x = false → f x = []) → (∀ x ∈ l, p x = true → (f x).length ≤ k) → (l.flatMap f).length ≤ (l.filter p).length * k
  | [], _, _ => by simp
  | x :: l, h0, h1 => by
    have ih := flat_len (l := l) (fun y hy => h0 y (.tail _ hy)) (fun y hy => h1 y (.tail _ hy))
    rw [List.flatMap_cons, List.length_append, List.filter_cons]
    cases q : p x with
    | false => rw [h0 x (.head _) q]; simpa using ih
    | true =>
      have := h1 x (.head _) q
      simp only [if_true, List.length_cons, Nat.succ_mul]
      omega
theorem pth_len : ∀ (n : Nat) (ch : List Addr), ms I K ch ≤ 4 → (pth I K Rs n ch).length ≤ 5 ^ ms I K ch
  | 0, _, _ => by simp [pth]
  | _ + 1, [], _ => by simp [pth]
  | n + 1, a :: r, h4 => by
    rw [pth]
    split
    · exact Nat.one_le_pow _ _ (by decide)
    · by_cases z : ((iss I K a).filter fun b => !dup I (a :: r) b) = []
      · have : ((iss I K a).flatMap fun b => if dup I (a :: r) b then [] else pth I K Rs n (b :: a :: r)) = [] := by
          rw [List.flatMap_eq_nil_iff]
          intro b hb
          cases q : dup I (a :: r) b with
          | true => simp
          | false => exact absurd (z ▸ List.mem_filter.mpr ⟨hb, by simp [q]⟩ : b ∈ []) (by simp)
        rw [this]; simp
      · have hk : ∀ b ∈ iss I K a, dup I (a :: r) b = false → ms I K (b :: a :: r) + 1 ≤ ms I K (a :: r) := fun b hb q => ms_cons (List.mem_filter.mp hb).1 q
        obtain ⟨b₀, hb₀⟩ := List.exists_mem_of_ne_nil _ z
        obtain ⟨hb1, hb2⟩ := List.mem_filter.mp hb₀
        have hpos := hk b₀ hb1 (by simpa using hb2)
        obtain ⟨M, hM⟩ : ∃ M, ms I K (a :: r) = M + 1 := ⟨ms I K (a :: r) - 1, by omega⟩
        have := flat_len (f := fun b => if dup I (a :: r) b then [] else pth I K Rs n (b :: a :: r)) (p := fun b => !dup I (a :: r) b) (k := 5 ^ M) (l := iss I K a) (fun b hb q => by simp at q; simp [q]) (fun b hb q => by
          have q' : dup I (a :: r) b = false := by simpa using q
          simp only [q']
          have h5 := hk b hb q'
          refine Nat.le_trans (pth_len n (b :: a :: r) (by omega)) (Nat.pow_le_pow_right (by decide) (by omega)))
        have h6 := iss_ms (I := I) (K := K) (a := a) (ch := a :: r)
        rw [hM] at h6 ⊢
        refine Nat.le_trans this ?_
        rw [Nat.pow_succ, Nat.mul_comm]
        exact Nat.mul_le_mul_left _ (by omega)
theorem pow_le {k : Nat} (h : k ≤ 4) : 5 ^ k ≤ 625 := Nat.le_trans (Nat.pow_le_pow_right (by decide) h) (by decide)
end
end J
end

section
open PySem PySem.W PySem.Calls PyProof.Rows
set_option Elab.async false
set_option linter.unusedVariables false
set_option maxRecDepth 100000
namespace J
def KsOk (I : Addr → CI) (ks : List (Addr × TKey)) (ch : List Addr) : Prop := ks.length = ch.length ∧ ∀ x i, tk2 x i ∈ ks.map (·.2) ↔ ∃ o ∈ ch, ky I o = (x, i)
/-- a path: its certificates, and the set of their issuers and serial numbers -/
def PathO (σ : Ab) (I : Addr → CI) (p : Addr) (ch : List Addr) (lc hs : Addr) : Prop := ∃ fs ks, σ p = some (.inst 304 fs) ∧ fs.lookup ("_certs" : Str) = some (.ref lc) ∧ fs.lookup ("_cert_hashes" : Str) = some (.ref hs) ∧
  (∀ x : Str, x ≠ "_certs" → x ≠ "_cert_hashes" → fs.lookup x = none) ∧ fs.length ≤ 4 ∧ σ lc = some (.list (refs ch)) ∧ σ hs = some (.setT ks) ∧ TkOk σ ks ∧ KsOk I ks ch
section
variable {C : Cx} {A : Around} {env : Env} {m : Loc} {σ σ₀ σ' : Ab} {s s₀ s' : Shared} {P : Params} {I : Addr → CI} {p lc hs : Addr} {ch : List Addr}
theorem TkOk.kp {ks : List (Addr × TKey)} (h : TkOk σ ks) {X : Addr → Prop} (k : Kps σ σ' X) (hX : ∀ b xs, σ b = some (.tup xs) → ¬ X b) : TkOk σ' ks := fun e he => by
  obtain ⟨x, i, h1, h2⟩ := h e he
  exact ⟨x, i, h1, k _ _ h2 (hX _ _ h2)⟩
theorem Kps.of_sub (x : Sub σ σ') {X : Addr → Prop} : Kps σ σ' X := fun a o e _ => x a o e
theorem Kps.sub (x : Kps σ σ' fun _ => False) : Sub σ σ' := fun a o e => x a o e id
theorem Sub.put {a : Addr} {o : AO} (h : σ a = none) : Sub σ (σ.put a o) := fun b o' e => put_new e h
theorem PathO.kp (h : PathO σ I p ch lc hs) {X : Addr → Prop} (k : Kps σ σ' X) (hX : ∀ b, X b → ∃ xs, σ b = some (.list xs)) (hl : ¬ X lc) : PathO σ' I p ch lc hs := by
  obtain ⟨fs, ks, h1, h2, h3, h4, h5, h6, h7, h8, h9⟩ := h
  have nX : ∀ b o, σ b = some o → (∀ xs, o ≠ .list xs) → ¬ X b := fun b o e n q => by
    obtain ⟨xs, e'⟩ := hX b q
    rw [e] at e'; exact n xs (Option.some.inj e')
  exact ⟨fs, ks, k _ _ h1 (nX _ _ h1 fun xs q => by cases q), h2, h3, h4, h5, k _ _ h6 hl, k _ _ h7 (nX _ _ h7 fun xs q => by cases q), (h8.kp k fun b xs e => nX _ _ e fun ys q => by cases q), h9⟩
theorem PathO.sub (h : PathO σ I p ch lc hs) (x : Sub σ σ') : PathO σ' I p ch lc hs := h.kp (Kps.of_sub x) (X := fun _ => False) (fun _ h => h.elim) id
/-- o.x() of a builtin object -/
theorem TE_bmeth0 {o : Expr} {x : Str} {apos pos : Pos} {a : Addr} {ao : AO} {id : String} {pl : Sem Bool} {Q : Value → Ab → Prop} (ho : EV C A env m σ o (.ref a)) (ha : σ a = some ao) (hi : ao.isInst = false)
    (pa : PlainAttrs ao.T) (slot : Slot ao.T x id) (hty : typeOf (.builtin id) = pure (.type "method_descriptor"))
    (h : CallR C A (.builtin id) [.ref a] σ Q)
    (he : eval (.Call (.Attribute o x apos) [] [] pos) env = (do
      let ov ← eval o env
      standAt apos.atName
      let (f, first) ← holding [ov] (getMethod ov x pl)
      callWith pos f first (backTo pos (starEach [] env)) []) := by rfl) :
    TE C A env m (.Call (.Attribute o x apos) [] [] pos) σ Q := fun σ₀ s₀ s R E W k =>
  MethodCall_ (ho.run W fun u s₁ hu W₁ => by
    obtain rfl := nv_to_ref hu
    obtain ⟨hT, hd⟩ := W₁.st.typeIs ha hi
    refine getMethod_builtin hT pa slot hty (fun b hb => by cases hb; exact hd) ?_
    exact callWith_builtin rfl (PySem.evalArgs_none (h.run (us := [.ref a]) (by simp) W₁ k))) he
/-- cert.issuer_serial -/
theorem issuer_serial (hK : C.K = Mine.hd.heap_39 P) (hA : A.depth + 5 < recursionLimit) {a : Addr} {c : CI} (hc : Crt σ a c) {Q : Value → Ab → Prop} (h : ∀ T, σ T = none → Q (.ref T) (σ.put T (.tup [.str c.is 0, .int c.ser 0]))) : TC C A (.ref 133) [.ref a] σ Q := by
  refine Crt.elim hc fun fs na ia av c1 c2 c3 c4 c5 c6 c7 c8 c9 c10 c11 => ?_
  refine TC_fn (C := C) (binds := [("self", .ref a)]) (m := [("self", .ref a)]) (by omega) (by rw [hK]; rfl) (by rw [hK]; kernel_rfl) rfl (fun S => by rw [hK]; kernel_rfl) (by decide +kernel) (by simp; decide +kernel) (by rfl) fun L A' hd hh' hun => ?_
  refine TXs_cons (TX_ret (TE_tup (TAs_cons ((EV_attr (EV_attr (EV_loc (by rfl) (by rfl)) c1 c4 (by rw [hK]; kernel_rfl)) c6 (by rfl) (by rw [hK]; kernel_rfl)).te (TAs_cons ((EV_attr (EV_loc (by rfl) (by rfl)) c1 c8 (by rw [hK]; kernel_rfl)).te (TAs_nil ⟨(show (2 : Nat) ≤ sizeLine by decide), fun T hT => h T hT⟩)))))))
theorem TE_issuer_serial (hK : C.K = Mine.hd.heap_39 P) (hA : A.depth + 5 < recursionLimit) {o : Expr} {pos : Pos} {a : Addr} {c : CI} (hc : Crt σ a c) (ho : EV C A env m σ o (.ref a)) {Q : Value → Ab → Prop} (h : ∀ T, σ T = none → Q (.ref T) (σ.put T (.tup [.str c.is 0, .int c.ser 0])))
    (he : eval (.Attribute o ("issuer_serial" : Str) pos) env = (do
      let r ← eval o env
      standAt pos.atName
      let r' ← holding [r] (getAttr r ("issuer_serial" : Str) true)
      letTemporaryGo o r r'
      pure r') := by with_unfolding_all rfl) : TE C A env m (.Attribute o ("issuer_serial" : Str) pos) σ Q := by
  refine Crt.elim hc fun fs na ia av c1 c2 c3 c4 c5 c6 c7 c8 c9 c10 c11 => ?_
  exact TE_prop (p := 134) (f := 133) ho c1 (by rw [hK]; kernel_rfl) (issuer_serial (A := A.in1) hK hA hc fun T hT => ⟨rfl, h T hT⟩) he
/-- path.first -/
theorem EV_first (hK : C.K = Mine.hd.heap_39 P) (hA : A.depth + 5 < recursionLimit) {o : Expr} {pos : Pos} {a : Addr} {r : List Addr} (hp : PathO σ I p (a :: r) lc hs) (ho : EV C A env m σ o (.ref p))
    (he : eval (.Attribute o ("first" : Str) pos) env = (do
      let r ← eval o env
      standAt pos.atName
      let r' ← holding [r] (getAttr r ("first" : Str) true)
      letTemporaryGo o r r'
      pure r') := by with_unfolding_all rfl) : EV C A env m σ (.Attribute o ("first" : Str) pos) (.ref a) := fun Q q => by
  obtain ⟨fs, ks, h1, h2, h3, h4, h5, h6, h7, h8, h9⟩ := hp
  refine TE_prop (p := 224) (f := 223) ho h1 (by rw [hK]; kernel_rfl) ?_ he
  refine TC_fn (C := C) (binds := [("self", .ref p)]) (m := [("self", .ref p)]) (by show A.depth < _; omega) (by rw [hK]; rfl) (by rw [hK]; kernel_rfl) rfl (fun S => by rw [hK]; kernel_rfl) (by decide +kernel) (by simp; decide +kernel) (by rfl) fun L A' hd hh' hun => ?_
  refine TXs_cons (TX_ret ((EV_item (EV_attr (EV_loc (by rfl) (by rfl)) h1 h2 (by rw [hK]; kernel_rfl)) EV_int (Itm.list h6 (by decide) (by decide) (by rfl))).te ⟨rfl, q⟩))
theorem KsOk.dup {ks : List (Addr × TKey)} (h : KsOk I ks ch) (b : Addr) : inK (tk2 (I b).is (I b).ser) ks = dup I ch b := by
  rw [Bool.eq_iff_iff, inK_true, h.2]
  unfold J.dup
  rw [List.any_eq_true]
  exact ⟨fun ⟨o, ho, e⟩ => ⟨o, ho, by rw [e]; simp [ky]⟩, fun ⟨o, ho, e⟩ => ⟨o, ho, eq_of_beq e⟩⟩
theorem KsOk.cons {ks : List (Addr × TKey)} (h : KsOk I ks ch) (b T : Addr) : KsOk I (ks ++ [(T, tk2 (I b).is (I b).ser)]) (b :: ch) := by
  refine ⟨by simp [h.1], fun x i => ?_⟩
  rw [List.map_append, List.mem_append, h.2]
  constructor
  · rintro (⟨o, ho, e⟩ | q)
    · exact ⟨o, .tail _ ho, e⟩
    · refine ⟨b, .head _, ?_⟩
      have q : tk2 x i = tk2 (I b).is (I b).ser := by simpa using q
      simp only [tk2, List.cons.injEq, Sum.inl.injEq, Sum.inr.injEq, and_true] at q
      rw [q.1, q.2]; rfl
  · rintro ⟨o, ho, e⟩
    rcases List.mem_cons.mp ho with rfl | ho
    · refine .inr ?_
      unfold ky at e
      cases e
      simp
    · exact .inl ⟨o, ho, e⟩
/-- path.prepend(cert) -/
theorem prepend (hK : C.K = Mine.hd.heap_39 P) (hA : A.depth + 15 < recursionLimit) (hu : A.units + 100 < cLine) (hp : PathO σ I p ch lc hs) (hn : ch.length ≤ 4) {b : Addr} (hc : Crt σ b (I b)) (hd : dup I ch b = false) {Q : Value → Ab → Prop}
    (h : ∀ σ', Kps σ σ' (fun x => x = lc ∨ x = hs) → PathO σ' I p (b :: ch) lc hs → Q (.ref p) σ') : CallR C A (.ref 273) [.ref p, .ref b] σ Q := CallR.tc fun us hus => by
  obtain ⟨u, v, rfl, hu', hv⟩ := map_two hus
  obtain ⟨fs, ks, h1, h2, h3, h4, h5, h6, h7, h8, h9⟩ := hp
  refine Crt.elim hc fun gs na ia av c1 c2 c3 c4 c5 c6 c7 c8 c9 c10 c11 => ?_
  refine TC_fn (C := C) (binds := [("self", u), ("cert", v)]) (m := [("cert", .ref b), ("self", .ref p)]) (by omega) (by rw [hK]; rfl) (by rw [hK]; kernel_rfl) rfl (fun S => by rw [hK]; kernel_rfl) (by decide +kernel) (by simp; decide +kernel) (by simp [locOf, hu', hv]) fun L A' hdp hh' hun => ?_
  refine TXs_cons (TX_ifB (b := false) ?_ (fun q => by cases q) fun _ => TXs_nil ?_)
  · exact EB_not (b := true) (EB_bcall (EV_built (v := .builtin "isinstance") (by rw [hK]; kernel_rfl) (by kernel_rfl) (by rfl)) fun Q q => TAs_cons ((EV_loc (by rfl) (by rfl)).te (TAs_cons ((EV_glob (v := .ref 160) (by rw [hK]; kernel_rfl) (by rfl)).te (TAs_nil (call_isinst c1 (by rw [hK]; kernel_rfl) q))))))
  refine TXs_cons (TX_if (TB_cmp (TE_issuer_serial hK (by omega) hc (EV_loc (by rfl) (by rfl)) fun T hT => (EV_attr (EV_loc (by rfl) (by rfl)) (put_new h1 hT) h3 (by rw [hK]; kernel_rfl)).te ⟨_, Cmp.in_setT (put_new h7 hT) (h8.kp (Kps.put (P := fun _ => False) (.inr hT)) fun _ _ _ => id) (put_same ..) (by omega), ?_⟩)))
  rw [h9.dup, hd, if_neg Bool.false_ne_true]
  refine TXs_nil ?_
  have s1 := Sub.put (o := .tup [.str (I b).is 0, .int (I b).ser 0]) hT
  have hc := hc.sub s1
  have h1 := s1 _ _ h1
  have h6 := s1 _ _ h6
  have h7 := s1 _ _ h7
  have h8 := h8.kp (Kps.of_sub (X := fun _ => False) s1) fun _ _ _ => id
  generalize σ.put T (.tup [.str (I b).is 0, .int (I b).ser 0]) = σ1 at *
  refine TXs_cons (TX_expr (TE_bmeth (ao := .setT ks) (EV_attr (EV_loc (by rfl) (by rfl)) h1 h3 (by rw [hK]; kernel_rfl)) h7 rfl PySem.F.plainAttrs_set PySem.F.slot_set_add PySem.F.type_set_add
    (TAs_cons (TE_issuer_serial hK (by omega) hc (EV_loc (by rfl) (by rfl)) fun T2 hT2 => TAs_nil (call_addS (put_new h7 hT2) (h8.kp (Kps.put (P := fun _ => False) (.inr hT2)) fun _ _ _ => id) (put_same ..) (by omega) ?_ (by rw [h9.1]; exact hn) ?_)))))
  · have := h9.dup b
    rw [hd] at this
    exact inK_false.mp this
  have s2 := Sub.put (o := .tup [.str (I b).is 0, .int (I b).ser 0]) hT2
  have t2 : (σ1.put T2 (.tup [.str (I b).is 0, .int (I b).ser 0])) T2 = some (.tup [.str (I b).is 0, .int (I b).ser 0]) := put_same ..
  have h1 := s2 _ _ h1
  have h6 := s2 _ _ h6
  have h7 := s2 _ _ h7
  have h8 := h8.kp (Kps.of_sub (X := fun _ => False) s2) fun _ _ _ => id
  have s12 := s1.trans s2
  generalize σ1.put T2 (.tup [.str (I b).is 0, .int (I b).ser 0]) = σ2 at *
  have nhl : lc ≠ hs := ne_of_ao h6 h7 (by intro z; cases z)
  have nph : p ≠ hs := ne_of_ao h1 h7 (by intro z; cases z)
  have npl : p ≠ lc := ne_of_ao h1 h6 (by intro z; cases z)
  have h1' : (σ2.put hs (.setT (ks ++ [(T2, tk2 (I b).is (I b).ser)]))) p = some (.inst 304 fs) := by rw [put_ne nph]; exact h1
  have h6' : (σ2.put hs (.setT (ks ++ [(T2, tk2 (I b).is (I b).ser)]))) lc = some (.list (refs ch)) := by rw [put_ne nhl]; exact h6
  refine TXs_cons (TX_expr (TE_bmeth (ao := .list _) (EV_attr (EV_loc (by rfl) (by rfl)) h1' h2 (by rw [hK]; kernel_rfl)) h6' rfl PySem.F.plainAttrs_list PySem.F.slot_list_insert PySem.F.type_list_insert
    (TAs_cons (EV_int.te (TAs_cons ((EV_loc (by rfl) (by rfl)).te (TAs_nil (call_insert0 h6' (by simp [refs]; omega) ?_))))))))
  refine TXs_cons (TX_ret ((EV_loc (by rfl) (by rfl)).te (h _ ?_ ?_)))
  · exact ((Kps.of_sub s12).put' (.inl (.inr rfl))).put' (.inl (.inl rfl))
  · refine ⟨fs, ks ++ [(T2, tk2 (I b).is (I b).ser)], ?_, h2, h3, h4, h5, put_same .., ?_, ?_, h9.cons b T2⟩
    · rw [put_ne npl]; exact h1'
    · rw [put_ne (Ne.symm nhl), put_same]
    · have ntup : ∀ q xs, σ2 q = some (.tup xs) → ((σ2.put hs (.setT (ks ++ [(T2, tk2 (I b).is (I b).ser)]))).put lc (.list (.ref b :: refs ch))) q = some (.tup xs) := fun q xs e => by
        rw [put_ne (ne_of_ao e h6 (by intro z; cases z)), put_ne (ne_of_ao e h7 (by intro z; cases z))]; exact e
      intro e he
      rcases List.mem_append.mp he with he | he
      · obtain ⟨x, i, e1, e2⟩ := h8 e he
        exact ⟨x, i, e1, ntup _ _ e2⟩
      · obtain rfl : e = (T2, tk2 (I b).is (I b).ser) := by simpa using he
        exact ⟨_, _, rfl, ntup _ _ t2⟩
end
end J
end

section
open PySem PySem.W PySem.Calls PyProof.Rows
set_option Elab.async false
set_option linter.unusedVariables false
set_option maxRecDepth 100000
namespace J
section
variable {C : Cx} {A : Around} {env : Env} {m : Loc} {σ σ₀ σ' τ : Ab} {s s₀ s' : Shared} {P : Params} {I : Addr → CI} {p lc hs : Addr} {ch : List Addr}
theorem units_make (A : Around) (K : Addr) (us : List Value) : (A.under (.builtin "type.__call__" ⟨.ref K :: us, []⟩)).units = A.units + 1 := rfl
/-- path.prepend(cert) raises -/
theorem prepend_dup (hK : C.K = Mine.hd.heap_39 P) (hA : A.depth + 15 < recursionLimit) (hh : A.handled = none) (hu : A.units + 100 < cLine) (hp : PathO σ I p ch lc hs) {b : Addr} (hc : Crt σ b (I b)) (hd : dup I ch b = true) : CallRr C A (.ref 273) [.ref p, .ref b] σ 199 (fun σ' => Sub σ σ') := fun us hus => by
  obtain ⟨u, v, rfl, hu', hv⟩ := map_two hus
  obtain ⟨fs, ks, h1, h2, h3, h4, h5, h6, h7, h8, h9⟩ := hp
  refine Crt.elim hc fun gs na ia av c1 c2 c3 c4 c5 c6 c7 c8 c9 c10 c11 => ?_
  refine TCr_call (C := C) (binds := [("self", u), ("cert", v)]) (by omega) (by rw [hK]; rfl) (by rw [hK]; kernel_rfl) rfl (fun S => by rw [hK]; kernel_rfl) (by decide +kernel) (by simp; decide +kernel) fun L nL => ?_
  have hm : locOf [(("self" : Str), u), ("cert", v)] = ([("cert", .ref b), ("self", .ref p)] : Loc) := by simp [locOf, hu', hv]
  rw [hm]
  refine TXr_cons (TX_ifB (b := false) ?_ (fun q => by cases q) fun _ => TXs_nil ⟨rfl, ?_⟩)
  · exact EB_not (b := true) (EB_bcall (EV_built (v := .builtin "isinstance") (by rw [hK]; kernel_rfl) (by kernel_rfl) (by rfl)) fun Q q => TAs_cons ((EV_loc (by rfl) (by rfl)).te (TAs_cons ((EV_glob (v := .ref 160) (by rw [hK]; kernel_rfl) (by rfl)).te (TAs_nil (call_isinst c1 (by rw [hK]; kernel_rfl) q))))))
  refine TXr_if (TB_cmp (TE_issuer_serial hK (by rw [depth_deeper]; omega) hc (EV_loc (by rfl) (by rfl)) fun T hT => (EV_attr (EV_loc (by rfl) (by rfl)) (put_new h1 hT) h3 (by rw [hK]; kernel_rfl)).te ⟨_, Cmp.in_setT (put_new h7 hT) (h8.kp (Kps.put (P := fun _ => False) (.inr hT)) fun _ _ _ => id) (put_same ..) (by show A.units + 3 + 64 < cLine; omega), ?_⟩))
  rw [h9.dup, hd]
  exact ⟨rfl, TXr_raise0 (bm := [.type "Exception", .type "BaseException", .type "object"]) (newId := "Exception.__new__") (by rw [hK]; kernel_rfl) (by rfl) (by rw [hK]; kernel_rfl) PySem.F.excBase_Exception (by decide +kernel) PySem.F.excBase_Exception hh (Sub.put hT)⟩
/-- ValidationPath(), ValidationPath(cert) -/
theorem path_make0 (hK : C.K = Mine.hd.heap_39 P) (hA : A.depth + 15 < recursionLimit) {Q : Value → Ab → Prop} (h : ∀ p lc hs σ', σ p = none → σ lc = none → σ hs = none → Sub σ σ' → PathO σ' I p [] lc hs → (∀ fs, σ' p = some (.inst 304 fs) → fs.length ≤ 2) → Q (.ref p) σ') : CallR C A (.ref 304) [] σ Q := CallR.tc fun us hus => by
  obtain rfl : us = [] := by simpa using hus
  refine TC_make (fI := 216) (by rw [hK]; kernel_rfl) (by rw [hK]; kernel_rfl) (by rw [hK]; kernel_rfl) fun a ha => ?_
  refine TC_fn (C := C) (binds := [("self", .ref a), ("end_entity_cert", .none)]) (m := [("end_entity_cert", .none), ("self", .ref a)]) (by rw [depth_make']; omega) (by rw [hK]; rfl) (by rw [hK]; kernel_rfl) rfl (fun S => by rw [hK]; kernel_rfl) (by decide +kernel) (by simp; decide +kernel) (by rfl) fun L A' hd hh hun => ?_
  have k1 : Sub σ (σ.put a (.inst 304 [])) := Sub.put ha
  refine TXs_cons (TX_setAttr (TE_list (TAs_nil ⟨(show (0 : Nat) ≤ sizeLine by decide), fun lc hl => ⟨a, 304, [], EV_loc (by rfl) (by rfl), put_new (put_same ..) hl, (by rw [hK]; kernel_rfl), (by simp), ?_⟩⟩)))
  have nl : a ≠ lc := ne_of_new (put_same ..) hl
  have e1 : ((σ.put a (.inst 304 [])).put lc (.list [])).put a (.inst 304 [("_certs", .ref lc)]) = (σ.put a (.inst 304 [("_certs", .ref lc)])).put lc (.list []) := by
    rw [← put_comm nl, put_put]
  rw [e1]
  have hl0 : σ lc = none := by rw [put_ne (Ne.symm nl)] at hl; exact hl
  refine TXs_cons (TX_setAttr (TE_setT0 ?g fun hs hhs => ⟨a, 304, [("_certs", .ref lc)], EV_loc (by rfl) (by rfl), ?_, (by rw [hK]; kernel_rfl), (by simp), ?_⟩))
  case g => exact EV_built (v := .type "set") (by rw [hK]; kernel_rfl) (by kernel_rfl) (by rfl)
  · refine put_new ?_ hhs
    rw [put_ne nl, put_same]
  have r0 : ((σ.put a (.inst 304 [("_certs", .ref lc)])).put lc (.list [])) a = some (.inst 304 [("_certs", .ref lc)]) := by rw [put_ne nl, put_same]
  have nh : a ≠ hs := ne_of_new r0 hhs
  have nlh : lc ≠ hs := ne_of_new (put_same ..) hhs
  have hh0 : σ hs = none := by rw [put_ne (Ne.symm nlh), put_ne (Ne.symm nh)] at hhs; exact hhs
  refine TXs_cons (TX_ifB (b := false) (EB_tru (EV_loc (by rfl) (by rfl)) Tru.none) (fun q => by cases q) fun _ => TXs_nil (TXs_nil ⟨rfl, h a lc hs _ ha hl0 hh0 ?_ ?_ fun fs e => by rw [put_same] at e; cases e; exact Nat.le_refl _⟩))
  · intro b o e
    have h1 := ne_of_new e ha
    have h2 := ne_of_new e hl0
    have h3 := ne_of_new e hh0
    rw [put_ne h1, put_ne h3, put_ne h2, put_ne h1]; exact e
  · refine ⟨_, [], put_same .., rfl, rfl, fun x hx1 hx2 => ?_, (show (2 : Nat) ≤ 4 by decide), ?_, ?_, fun e he => by (cases he), rfl, fun x i => by simp⟩
    · rw [lookup_cons_ne hx2, lookup_cons_ne hx1]; rfl
    · rw [put_ne (Ne.symm nl), put_ne nlh, put_same]; rfl
    · rw [put_ne (Ne.symm nh), put_same]
theorem path_make1 (hK : C.K = Mine.hd.heap_39 P) (hA : A.depth + 25 < recursionLimit) (hu : A.units + 200 < cLine) {b : Addr} (hc : Crt σ b (I b)) {Q : Value → Ab → Prop} (h : ∀ p lc hs σ', σ p = none → σ lc = none → σ hs = none → Sub σ σ' → PathO σ' I p [b] lc hs → Q (.ref p) σ') : CallR C A (.ref 304) [.ref b] σ Q := CallR.tc fun us hus => by
  obtain ⟨u, rfl, hv⟩ := map_one hus
  refine TC_make (fI := 216) (by rw [hK]; kernel_rfl) (by rw [hK]; kernel_rfl) (by rw [hK]; kernel_rfl) fun a ha => ?_
  refine TC_fn (C := C) (binds := [("self", .ref a), ("end_entity_cert", u)]) (m := [("end_entity_cert", .ref b), ("self", .ref a)]) (by rw [depth_make']; omega) (by rw [hK]; rfl) (by rw [hK]; kernel_rfl) rfl (fun S => by rw [hK]; kernel_rfl) (by decide +kernel) (by simp; decide +kernel) (by simp [locOf, hv]) fun L A' hd hh hun => ?_
  have k1 : Sub σ (σ.put a (.inst 304 [])) := Sub.put ha
  refine TXs_cons (TX_setAttr (TE_list (TAs_nil ⟨(show (0 : Nat) ≤ sizeLine by decide), fun lc hl => ⟨a, 304, [], EV_loc (by rfl) (by rfl), put_new (put_same ..) hl, (by rw [hK]; kernel_rfl), (by simp), ?_⟩⟩)))
  have nl : a ≠ lc := ne_of_new (put_same ..) hl
  have e1 : ((σ.put a (.inst 304 [])).put lc (.list [])).put a (.inst 304 [("_certs", .ref lc)]) = (σ.put a (.inst 304 [("_certs", .ref lc)])).put lc (.list []) := by
    rw [← put_comm nl, put_put]
  rw [e1]
  have hl0 : σ lc = none := by rw [put_ne (Ne.symm nl)] at hl; exact hl
  refine TXs_cons (TX_setAttr (TE_setT0 ?g fun hs hhs => ⟨a, 304, [("_certs", .ref lc)], EV_loc (by rfl) (by rfl), ?_, (by rw [hK]; kernel_rfl), (by simp), ?_⟩))
  case g => exact EV_built (v := .type "set") (by rw [hK]; kernel_rfl) (by kernel_rfl) (by rfl)
  · refine put_new ?_ hhs
    rw [put_ne nl, put_same]
  have r0 : ((σ.put a (.inst 304 [("_certs", .ref lc)])).put lc (.list [])) a = some (.inst 304 [("_certs", .ref lc)]) := by rw [put_ne nl, put_same]
  have nh : a ≠ hs := ne_of_new r0 hhs
  have nlh : lc ≠ hs := ne_of_new (put_same ..) hhs
  have hh0 : σ hs = none := by rw [put_ne (Ne.symm nlh), put_ne (Ne.symm nh)] at hhs; exact hhs
  have k2 : Sub σ ((((σ.put a (.inst 304 [("_certs", .ref lc)])).put lc (.list [])).put hs (.setT [])).put a (.inst 304 [("_cert_hashes", .ref hs), ("_certs", .ref lc)])) := by
    intro b o e
    have h1 := ne_of_new e ha
    have h2 := ne_of_new e hl0
    have h3 := ne_of_new e hh0
    rw [put_ne h1, put_ne h3, put_ne h2, put_ne h1]; exact e
  have k3 : PathO ((((σ.put a (.inst 304 [("_certs", .ref lc)])).put lc (.list [])).put hs (.setT [])).put a (.inst 304 [("_cert_hashes", .ref hs), ("_certs", .ref lc)])) I a [] lc hs := by
    refine ⟨_, [], put_same .., rfl, rfl, fun x hx1 hx2 => ?_, (show (2 : Nat) ≤ 4 by decide), ?_, ?_, fun e he => by (cases he), rfl, fun x i => by simp⟩
    · rw [lookup_cons_ne hx2, lookup_cons_ne hx1]; rfl
    · rw [put_ne (Ne.symm nl), put_ne nlh, put_same]; rfl
    · rw [put_ne (Ne.symm nh), put_same]
  have ra : ((((σ.put a (.inst 304 [("_certs", .ref lc)])).put lc (.list [])).put hs (.setT [])).put a (.inst 304 [("_cert_hashes", .ref hs), ("_certs", .ref lc)])) a = some (.inst 304 [("_cert_hashes", .ref hs), ("_certs", .ref lc)]) := put_same ..
  generalize (((σ.put a (.inst 304 [("_certs", .ref lc)])).put lc (.list [])).put hs (.setT [])).put a (.inst 304 [("_cert_hashes", .ref hs), ("_certs", .ref lc)]) = σ1 at k2 k3 ra ⊢
  have hc1 := hc.sub k2
  refine Crt.elim hc1 fun gs na ia av c1 c2 c3 c4 c5 c6 c7 c8 c9 c10 c11 => ?_
  refine TXs_cons (TX_ifB (b := true) (EB_tru (EV_loc (by rfl) (by rfl)) (Tru.inst c1 (by rw [hK]; kernel_rfl) (by rw [hK]; kernel_rfl))) (fun _ => ?_) fun q => by cases q)
  refine TXs_cons (TX_expr (TE_meth (EV_loc (by rfl) (by rfl)) ra (by rfl) (by rw [hK]; kernel_rfl) (TAs_cons ((EV_loc (by rfl) (by rfl)).te (TAs_nil (prepend hK (by rw [hd, depth_make']; omega) (by rw [hun, units_make]; omega) k3 (by simp) hc1 rfl fun σ2 kp hp => ?_))))))
  refine TXs_nil (TXs_nil ⟨rfl, h a lc hs σ2 ha hl0 hh0 (fun b o e => kp _ _ (k2 _ _ e) ?_) hp⟩)
  rintro (rfl | rfl)
  · rw [hl0] at e; cases e
  · rw [hh0] at e; cases e
/-- path.copy() -/
theorem path_copy (hK : C.K = Mine.hd.heap_39 P) (hA : A.depth + 25 < recursionLimit) (hp : PathO σ I p ch lc hs) (hn : ch.length ≤ 5) {Q : Value → Ab → Prop} (h : ∀ q lc' hs' σ', σ q = none → σ lc' = none → σ hs' = none → Sub σ σ' → PathO σ' I q ch lc' hs' → Q (.ref q) σ') : CallR C A (.ref 252) [.ref p] σ Q := CallR.tc fun us hus => by
  obtain ⟨u, rfl, hv⟩ := map_one hus
  refine TC_fn (C := C) (binds := [("self", u)]) (m := [("self", .ref p)]) (by omega) (by rw [hK]; rfl) (by rw [hK]; kernel_rfl) rfl (fun S => by rw [hK]; kernel_rfl) (by decide +kernel) (by simp; decide +kernel) (by simp [locOf, hv]) fun L A' hd hh hun => ?_
  refine TXs_cons (TX_assign (.inl (by rfl)) (TE_call0 (f := .ref 304) (EV_glob (v := .ref 304) (by rw [hK]; kernel_rfl) (by rfl)) nv_fix_ref (by rw [hK]; kernel_rfl) rfl (path_make0 (I := I) hK (by omega) fun q l0 s0 σ1 nq nl ns x hq hlen => ?_)))
  obtain ⟨fs, ks, h1, h2, h3, h4, h5, h6, h7, h8, h9⟩ := hp
  obtain ⟨gs, kq, q1, q2, q3, q4, q5, q6, q7, q8, q9⟩ := hq
  have hlen := hlen _ q1
  have g1 := h1
  have g7 := h7
  have g8 := h8
  have h1 := x _ _ h1
  have h6 := x _ _ h6
  have h7 := x _ _ h7
  have h8 := h8.kp (Kps.of_sub (X := fun _ => False) x) fun _ _ _ => id
  refine TXs_cons (TX_setAttr (TE_sliceAllA (EV_attr (EV_loc (by rfl) (by rfl)) h1 h2 (by rw [hK]; kernel_rfl)) h6 (by simp [refs]; omega) fun lc' hl' => ⟨q, 304, gs, EV_loc (by rfl) (by rfl), put_new q1 hl', (by rw [hK]; kernel_rfl), (by omega), ?_⟩))
  have n1 : q ≠ lc' := ne_of_new q1 hl'
  have s1 : (((σ1.put lc' (.list (refs ch))).put q (.inst 304 (("_certs", .ref lc') :: gs)))) q = some (.inst 304 (("_certs", .ref lc') :: gs)) := put_same ..
  have keep : ∀ b o, σ b = some o → (((σ1.put lc' (.list (refs ch))).put q (.inst 304 (("_certs", .ref lc') :: gs)))) b = some o := fun b o e => by
    rw [put_ne (ne_of_new e nq)]; exact put_new (x _ _ e) hl'
  have nl' : σ lc' = none := by
    cases z : σ lc' with
    | none => rfl
    | some o => rw [x _ _ z] at hl'; cases hl'
  have s2 : (((σ1.put lc' (.list (refs ch))).put q (.inst 304 (("_certs", .ref lc') :: gs)))) lc' = some (.list (refs ch)) := by rw [put_ne (Ne.symm n1), put_same]
  generalize (σ1.put lc' (.list (refs ch))).put q (.inst 304 (("_certs", .ref lc') :: gs)) = σ2 at s1 s2 keep ⊢
  refine TXs_cons (TX_setAttr (TE_bmeth0 (ao := .setT ks) (EV_attr (EV_loc (by rfl) (by rfl)) (keep _ _ g1) h3 (by rw [hK]; kernel_rfl)) (keep _ _ g7) rfl PySem.F.plainAttrs_set PySem.F.slot_set_copy PySem.F.type_set_copy
    (call_copyS (keep _ _ g7) (by rw [h9.1]; exact hn) fun hs' hh' => ⟨q, 304, _, EV_loc (by rfl) (by rfl), put_new s1 hh', (by rw [hK]; kernel_rfl), (by simp; omega), ?_⟩)))
  have nh' : σ hs' = none := by
    cases z : σ hs' with
    | none => rfl
    | some o => rw [keep _ _ z] at hh'; cases hh'
  have n2 : q ≠ hs' := ne_of_new s1 hh'
  have n3 : lc' ≠ hs' := ne_of_new s2 hh'
  refine TXs_cons (TX_ret ((EV_loc (by rfl) (by rfl)).te (h q lc' hs' _ nq nl' nh' (fun b o e => ?_) ⟨_, ks, put_same .., ?_, ?_, fun y y1 y2 => ?_, ?_, ?_, ?_, ?_, h9⟩)))
  · rw [put_ne (ne_of_new e nq)]; exact put_new (keep _ _ e) hh'
  · rw [lookup_cons_ne (by decide), lookup_cons_self]
  · rw [lookup_cons_self]
  · rw [lookup_cons_ne y2, lookup_cons_ne y1]; exact q4 y y1 y2
  · simp; omega
  · rw [put_ne (Ne.symm n1)]; exact put_new s2 hh'
  · rw [put_ne (Ne.symm n2), put_same]
  · intro e he
    obtain ⟨y, i, e1, e2⟩ := g8 e he
    exact ⟨y, i, e1, by rw [put_ne (ne_of_new e2 nq)]; exact put_new (keep _ _ e2) hh'⟩
end
end J
end

section
open PySem PySem.W PySem.Calls PyProof.Rows
set_option Elab.async false
set_option linter.unusedVariables false
set_option maxRecDepth 100000
namespace J
theorem own_call {fd : FuncData} {L f : Addr} (hcl : fd.closure = []) : ∀ b, own (callEnv fd L f) b → b = (callEnv fd L f).locals := fun b hb => by
  unfold own at hb
  have : (callEnv fd L f).cells = [] := by unfold callEnv newEnv; simp [hcl]
  rw [this] at hb
  rcases hb with h | ⟨x, h⟩
  · exact h
  · cases h
section
variable {C : Cx} {A : Around} {env : Env} {m : Loc} {σ σ₀ σ' τ : Ab} {s s₀ s' : Shared} {P : Params} {I : Addr → CI} {p lc hs : Addr} {ch : List Addr}
/-- yield x -/
theorem gbody_yield {x : Str} {xp yp ep : Pos} {m0 : Loc} {v : Value} {lp : Code} {k0 : Result → Sem Fin} {l0 : List Value} {fbody : List Stmt} {p : Pos} {H' : Value → Sem Fin} {Φ : End → Shared → Prop} {m1 : Loc}
    (hl : env.kindOf x = some .local) (hv : m1.lookup x = some v) (hx0 : m0.lookup x = none) (hm : Ext m0 m1) (W : Wx C (A.in1.over lp [.ret k0 none false l0 (.func fbody env) p []]) env m1 τ s τ s)
    (k : ∀ s' m' p' l' k u', Ext m0 m' → Wx C (A.in1.over lp [.ret k0 none false l0 (.func fbody env) p []]) env m' τ s τ s' → nv u' = v → (∀ s'' Φ', GS C.M A.in1 lp (.pure (.again lp)) [.ret k0 none false l0 (.func fbody env) p []] s'' Φ' → GS C.M A.in1 lp (k (.send .none)) [.ret k0 none false l0 (.func fbody env) p []] s'' Φ') → Φ (.susp u' false l' k lp p' [.ret k0 none false l0 (.func fbody env) p []]) s')
    (hd : (x == ("__debug__" : Str)) = false := by decide) (hco : env.scope.isCoroutine = false := by rfl) (hi : interactive env = false := by rfl) :
    GS C.M A.in1 lp ((execs [.Expr (.Yield (some (.Name x xp)) yp) ep] env).wrap (fun f => match f with
            | .next | .cont => .pure (.again lp)
            | .brk => .pure (.done .next)
            | .ret v => .pure (.done (.ret v))) H' id id) [.ret k0 none false l0 (.func fbody env) p []] s Φ := by
  refine gs_cons (gs_Yield (by rfl) rfl (fun E => (EV_loc hv hl hd).run W.wd fun u s' hu W' => fun p' l' k' hk' => ?_) hco hi)
  exact k s' m1 p' l' k' u hm (W.step W') hu fun s'' Φ' g => hk' .none trivial s'' Φ' g
theorem TX_ret0 {pos : Pos} {Q : Flow → Loc → Ab → Prop} (h : Q (.ret .none) m σ) : TX C A env m (.Return none pos) σ Q := fun σ₀ s₀ s R E W k => wpAny_Return_none (k _ _ _ _ W h)
theorem Wx.gn {A' : Around} {sR : Shared} (W : Wx C A' env m τ sR τ s) (hA : A'.frames = A.frames.map (env :: ·)) (hf : env.frame = some env.locals) : Gn C A (own env) τ sR s :=
  ⟨W.st, fun b o e n p z => W.mv.kp b o e n p fun z' => (fz_over hA hf z').elim (fun q => p q) z, W.mv.zs, W.mv.os, W.mv.gen⟩
/-- iter(path) -/
theorem path_iter (hK : C.K = Mine.hd.heap_39 P) (hA : A.depth + 15 < recursionLimit) (hh : A.handled = none) (hp : PathO τ I p ch lc hs) (hs' : Sub τ σ) : GCall C A (.ref 294) [.ref p] σ τ ch.length (fun i => (refs ch).getD i .none) := by
  obtain ⟨fs, ks, h1, h2, h3, h4, h5, h6, h7, h8, h9⟩ := hp
  refine GCall_def (m := [("self", .ref p)]) (by omega) (by rw [hK]; rfl) (by rw [hK]; kernel_rfl) rfl (fun us hus => ?_) (by decide +kernel) hs' fun L sR W H' => ?_
  · obtain ⟨u, rfl, hv⟩ := map_one hus
    exact ⟨[("self", u)], fun S => by rw [hK]; kernel_rfl, by simp; decide +kernel, by simp [locOf, hv]⟩
  · have hn : (refs ch).length = ch.length := by simp [refs]
    refine gs_genFor (m0 := [("self", .ref p)]) (out := fun i => some ((refs ch).getD i .none)) (ys := fun i => (refs ch).drop i) hh (.inl (by rfl)) (by rfl) h6 hn (by rfl) (by rfl) (own_call rfl) Ext.refl W (EV_attr (EV_loc (by rfl) (by rfl)) h1 h2 (by rw [hK]; kernel_rfl)) (fun i hi => ?_) ?_ (fun i v hi e => ?_) (by simp [refs]) ?_
    · rw [List.drop_eq_getElem_cons (by omega), List.getD_eq_getElem?_getD, List.getElem?_eq_getElem (by omega)]; rfl
    · rw [List.drop_eq_nil_iff]; omega
    · cases e
      simp only [List.length_drop, hn]
      congr 1
      omega
    · intro Ia k0 l0 pp i hi m s H'' Φ hm W' k
      exact gbody_yield (m0 := [("self", .ref p)]) (by rfl) lookup_cons_self (by rfl) (Ext.cons hm (by rfl)) W' k
end
structure Okc (c : CI) : Prop where
  su : PyData.strOk c.su = true
  is : PyData.strOk c.is = true
  kid : ∀ x, c.kid = some x → x ≠ [] ∧ x.length ≤ 1000
  aki : ∀ x, c.aki = some x → x ≠ [] ∧ x.length ≤ 1000
  ais : ∀ p, c.ais = some p → PyData.strOk p.1 = true
section
variable {C : Cx} {A : Around} {env : Env} {m : Loc} {σ σ₀ σ' τ : Ab} {s s₀ s' : Shared} {P : Params} {I : Addr → CI} {p lc hs : Addr} {ch : List Addr}
variable {r ds dk dc : Addr} {ns nk nc : Nat} {LF : Str → Option Addr} {Kf : List UInt8 → Option Addr} {Cf : Int → Bool} {K : List Addr} {a : Addr}
theorem Tru.kid {k : Option (List UInt8)} (h : ∀ x, k = some x → x ≠ [] ∧ x.length ≤ 1000) : Tru C A σ (kidV k) k.isSome := by
  cases k with
  | none => exact Tru.none
  | some x => exact TruB.bytes (h x rfl).1 (h x rfl).2
theorem kid_handed (k : Option (List UInt8)) : handedIn (kidV k) = true := by cases k <;> rfl
theorem ais_handed {v : Value} {k : Option (Str × Int)} (h : AisAt σ v k) : handedIn v = true := by
  cases k with
  | none => cases h; rfl
  | some p => obtain ⟨t, rfl, _⟩ := h; rfl
theorem Tru.ais {v : Value} {k : Option (Str × Int)} (h : AisAt σ v k) : Tru C A σ v k.isSome := by
  cases k with
  | none => cases h; exact Tru.none
  | some p => obtain ⟨t, rfl, ht⟩ := h; exact Tru.tup ht (by simp)
/-- the issuers that the search goes up to, out of those of the name -/
theorem iss_eq : iss I K a = (SO I K (I a).is).filter fun b => sameC (I a) (I b) := by
  unfold iss SO fits
  rw [List.filter_filter]
  congr 1
abbrev mP1 (r a : Addr) (x : Str) : Loc := [("issuer_hashable", .str x 0), ("cert", .ref a), ("self", .ref r)]
abbrev mP2 (r a b : Addr) (x : Str) : Loc := [("issuer", .ref b), ("issuer_hashable", .str x 0), ("cert", .ref a), ("self", .ref r)]
theorem Cmp.notIn_dS' {d : Addr} {f : Str → Option Value} {n : Nat} {x : Str} {b : Bool} (e : σ d = some (.dS f n)) (h : (!(f x).isSome) = b) : Cmp C A σ .NotIn (.str x 0) (.ref d) b := h ▸ Cmp.notIn_dS e
theorem sameC_ais {f c : CI} (h : (f.aki.isSome && (c.kid.isSome && true)) = false) : sameC f c = match f.ais with | none => true | some p => p.1 == c.is && p.2 == c.ser := by
  unfold sameC
  cases h1 : f.aki with
  | none => rfl
  | some x =>
    cases h2 : c.kid with
    | none => rfl
    | some y => rw [h1, h2] at h; cases h
theorem over_depth {t : Expr} {it : Value} {b o fb : List Stmt} {k0 : Result → Sem Fin} {l0 : List Value} {p : Pos} : (A.in1.over (.forLoop t it b o env) [.ret k0 none false l0 (.func fb env) p []]).depth = A.depth + 1 := rfl
theorem over_units {t : Expr} {it : Value} {b o fb : List Stmt} {k0 : Result → Sem Fin} {l0 : List Value} {p : Pos} : (A.in1.over (.forLoop t it b o env) [.ret k0 none false l0 (.func fb env) p []]).units = A.units + 1 + 3 := rfl
theorem possible (hK : C.K = Mine.hd.heap_39 P) (hA : A.depth + 25 < recursionLimit) (hh : A.handled = none) (hu : A.units + 200 < cLine) (G : Reg τ r ds dk dc ns nk nc LF (SO I K) Kf Cf) (hC : ∀ b ∈ K, Crt τ b (I b)) (hO : ∀ b ∈ K, Okc (I b)) (ha : Crt τ a (I a)) (oa : Okc (I a)) (hs' : Sub τ σ) :
    GCall C A (.ref 380) [.ref r, .ref a] σ τ (iss I K a).length (fun i => (refs (iss I K a)).getD i .none) := by
  refine Crt.elim ha fun fs na ia av c1 c2 c3 c4 c5 c6 c7 c8 c9 c10 c11 => ?_
  refine GCall_def (m := [("cert", .ref a), ("self", .ref r)]) (by omega) (by rw [hK]; rfl) (by rw [hK]; kernel_rfl) rfl (fun us hus => ?_) (by decide +kernel) hs' fun L sR W H' => ?_
  · obtain ⟨u, v, rfl, hu', hv⟩ := map_two hus
    exact ⟨[("self", u), ("cert", v)], fun S => by rw [hK]; kernel_rfl, by simp; decide +kernel, by simp [locOf, hu', hv]⟩
  · refine gs_cons (gs_TX (Q := fun f m' σ' => f = .next ∧ m' = mP1 r a (I a).is ∧ σ' = τ) (TX_assign (.inl (by rfl)) ((EV_attr (EV_attr (EV_loc (by rfl) (by rfl)) c1 c4 (by rw [hK]; kernel_rfl)) c6 (by rfl) (by rw [hK]; kernel_rfl)).te ⟨rfl, rfl, rfl⟩)) W fun f s1 m1 σ1 W1 q => ?_)
    obtain ⟨hf, rfl, rfl⟩ := q
    obtain rfl : f = .next := by cases f with | next => rfl | ret v => cases hf | _ => cases hf
    cases hL : LF (I a).is with
    | none =>
      have e0 : iss I K a = [] := by rw [iss_eq, G.z _ hL]; rfl
      refine gs_cons (gs_TX (Q := fun f m' σ' => f = .ret .none ∧ σ' = σ1) (TX_ifB (b := true) (EB_cmp (EV_loc (by rfl) (by rfl)) (EV_attr (EV_loc (by rfl) (by rfl)) G.r (by rfl) (by rw [hK]; kernel_rfl)) (Cmp.notIn_dS' G.s (by rw [hL]; rfl))) (fun _ => TXs_cons (TX_ret0 ⟨rfl, rfl⟩)) fun q => by cases q) W1 fun f s2 m2 σ2 W2 q => ?_)
      obtain ⟨hf, rfl⟩ := q
      obtain ⟨v, rfl, hv⟩ : ∃ v, f = .ret v ∧ nv v = .none := by cases f with | ret v => exact ⟨v, rfl, by simpa using hf⟩ | _ => cases hf
      obtain rfl := nv_to_none hv
      rw [e0]
      exact gs_end (.ok (.ret .none)) ⟨rfl, W2.gn rfl (by rfl)⟩
    | some L₁ =>
      refine gs_cons (gs_TX (Q := fun f m' σ' => f = .next ∧ m' = mP1 r a (I a).is ∧ σ' = σ1) (TX_ifB (b := false) (EB_cmp (EV_loc (by rfl) (by rfl)) (EV_attr (EV_loc (by rfl) (by rfl)) G.r (by rfl) (by rw [hK]; kernel_rfl)) (Cmp.notIn_dS' G.s (by rw [hL]; rfl))) (fun q => by cases q) fun _ => TXs_nil ⟨rfl, rfl, rfl⟩) W1 fun f s2 m2 σ2 W2 q => ?_)
      obtain ⟨hf, rfl, rfl⟩ := q
      obtain rfl : f = .next := by cases f with | next => rfl | ret v => cases hf | _ => cases hf
      have hS := G.l _ _ hL
      generalize hz : SO I K (I a).is = zs at hS
      have hzK : ∀ b ∈ zs, b ∈ K := fun b hb => by rw [← hz] at hb; exact (List.mem_filter.mp hb).1
      have hi : iss I K a = zs.filter fun b => sameC (I a) (I b) := by rw [iss_eq, hz]
      have hn : (refs zs).length = zs.length := by simp [refs]
      refine gs_genFor (m0 := mP1 r a (I a).is) (out := fun i => if sameC (I a) (I (zs.getD i 0)) = true then some (.ref (zs.getD i 0)) else none) (ys := fun i => refs ((zs.drop i).filter fun b => sameC (I a) (I b))) hh (.inl (by rfl)) (by rfl) hS hn (by rfl) (by rfl) (own_call rfl) Ext.refl W2
        (EV_item (EV_attr (EV_loc (by rfl) (by rfl)) G.r (by rfl) (by rw [hK]; kernel_rfl)) (EV_loc (by rfl) (by rfl)) (Itm.dS G.s (by rw [hL]; rfl))) (fun i hi => ?_) ?_ (fun i v hi' e => ?_) (by rw [List.drop_zero, hi]; simp [refs]) ?_
      · have e1 : zs.drop i = zs.getD i 0 :: zs.drop (i + 1) := by rw [List.drop_eq_getElem_cons hi, List.getD_eq_getElem?_getD, List.getElem?_eq_getElem hi]; rfl
        show refs ((zs.drop i).filter _) = _
        rw [e1, List.filter_cons]
        by_cases q : sameC (I a) (I (zs.getD i 0)) = true
        · rw [if_pos q, if_pos q]; rfl
        · rw [if_neg q, if_neg q]; rfl
      · show refs ((zs.drop zs.length).filter _) = _
        rw [List.drop_length]; rfl
      · have e1 : zs.drop i = zs.getD i 0 :: zs.drop (i + 1) := by rw [List.drop_eq_getElem_cons hi', List.getD_eq_getElem?_getD, List.getElem?_eq_getElem hi']; rfl
        have q : sameC (I a) (I (zs.getD i 0)) = true := by
          by_cases q : sameC (I a) (I (zs.getD i 0)) = true
          · exact q
          · rw [if_neg q] at e; cases e
        rw [if_pos q] at e; cases e
        have e2 : iss I K a = ((zs.take i).filter fun b => sameC (I a) (I b)) ++ (zs.drop i).filter fun b => sameC (I a) (I b) := by rw [hi, ← List.filter_append, List.take_append_drop]
        have e3 : (refs ((zs.drop i).filter fun b => sameC (I a) (I b))).length = ((zs.drop i).filter fun b => sameC (I a) (I b)).length := by simp [refs]
        show (refs (iss I K a)).getD ((iss I K a).length - (refs ((zs.drop i).filter fun b => sameC (I a) (I b))).length) .none = _
        rw [e3, e2, List.length_append, Nat.add_sub_cancel]
        have e4 : refs (((zs.take i).filter fun b => sameC (I a) (I b)) ++ (zs.drop i).filter fun b => sameC (I a) (I b)) = refs ((zs.take i).filter fun b => sameC (I a) (I b)) ++ refs ((zs.drop i).filter fun b => sameC (I a) (I b)) := by simp [refs]
        have e5 : (refs ((zs.take i).filter fun b => sameC (I a) (I b))).length = ((zs.take i).filter fun b => sameC (I a) (I b)).length := by simp [refs]
        rw [e4, List.getD_eq_getElem?_getD, ← e5, List.getElem?_append_right (Nat.le_refl _), Nat.sub_self, e1, List.filter_cons, if_pos q]
        rfl
      · intro Ia k0 l0 pp i hi'' m s H'' Φ hm W' k
        have hb : (refs zs).getD i .none = .ref (zs.getD i 0) := by simp [refs, List.getD_eq_getElem?_getD, hi'']
        rw [hb] at W'
        have hbm : zs.getD i 0 ∈ zs := by rw [List.getD_eq_getElem?_getD, List.getElem?_eq_getElem hi'']; exact List.getElem_mem _
        generalize zs.getD i 0 = b at W' k hbm
        have hcb := hC b (hzK b hbm)
        have ob := hO b (hzK b hbm)
        refine Crt.elim hcb fun gs na' ia' bv d1 d2 d3 d4 d5 d6 d7 d8 d9 d10 d11 => ?_
        have hm' : Ext (mP2 r a b (I a).is) (("issuer", .ref b) :: m) := .add (by rfl) (hm.cons (by rfl))
        refine gs_cons (gs_TX (Q := fun f m' σ' => f = (if sameC (I a) (I b) = true then .next else .cont) ∧ Ext (mP2 r a b (I a).is) m' ∧ Sub σ2 σ') (TS.pre hm' (Sub.refl _) (TX_ifB (b := ((I a).aki.isSome && ((I b).kid.isSome && true)))
          (EB_and (EB_tru (EV_attr (EV_loc (by rfl) (by rfl)) c1 c7 (by rw [hK]; kernel_rfl) (kid_handed _)) (Tru.kid oa.aki)) fun _ => EB_and (EB_tru (EV_attr (EV_loc (by rfl) (by rfl)) d1 d5 (by rw [hK]; kernel_rfl) (kid_handed _)) (Tru.kid ob.kid)) fun _ => EB_and_nil) ?_ ?_)) W' fun f s3 m3 σ3 W3 q => ?_)
        · intro q
          obtain ⟨x, hx⟩ : ∃ x, (I a).aki = some x := Option.isSome_iff_exists.mp (Bool.and_eq_true_iff.mp q).1
          obtain ⟨y, hy⟩ : ∃ y, (I b).kid = some y := Option.isSome_iff_exists.mp (Bool.and_eq_true_iff.mp (Bool.and_eq_true_iff.mp q).2).1
          have c7 := c7
          have d5 := d5
          rw [hx] at c7
          rw [hy] at d5
          have es : sameC (I a) (I b) = (x == y) := by unfold sameC; rw [hx, hy]
          refine TXs_cons (TX_ifB (EB_cmp (EV_attr (EV_loc (by rfl) (by rfl)) c1 c7 (by rw [hK]; kernel_rfl)) (EV_attr (EV_loc (by rfl) (by rfl)) d1 d5 (by rw [hK]; kernel_rfl)) (Cmp.ne_bytes x y)) (fun h => TXs_cons (TX_continue ⟨?_, Ext.refl, Sub.refl _⟩)) fun h => TXs_nil (TXs_nil ⟨?_, Ext.refl, Sub.refl _⟩))
          · rw [es, if_neg]; intro h'; rw [bne, h'] at h; cases h
          · rw [es, if_pos]; rw [bne] at h; simpa using h
        · intro q
          have es := sameC_ais q
          refine TXs_cons (TX_ifB (EB_tru (EV_attr (EV_loc (by rfl) (by rfl)) c1 c10 (by rw [hK]; kernel_rfl) (ais_handed c11)) (Tru.ais c11)) (fun h => ?_) fun h => TXs_nil (TXs_nil ⟨?_, Ext.refl, Sub.refl _⟩))
          · obtain ⟨pq, hp⟩ := Option.isSome_iff_exists.mp h
            rw [hp] at c11 es
            obtain ⟨tt, rfl, htt⟩ := c11
            have es : sameC (I a) (I b) = (pq.1 == (I b).is && pq.2 == (I b).ser) := es
            refine TXs_cons (TX_if (TB_cmp ((EV_attr (EV_loc (by rfl) (by rfl)) c1 c10 (by rw [hK]; kernel_rfl)).te (TE_issuer_serial hK (by rw [over_depth]; omega) hcb (EV_loc (by rfl) (by rfl)) fun T hT => ⟨_, Cmp.ne_si (oa.ais _ hp) ob.is (put_new htt hT) (put_same ..) (by rw [over_units]; omega), ?_⟩))))
            by_cases z : (pq.1 == (I b).is && pq.2 == (I b).ser) = true
            · rw [show (!(pq.1 == (I b).is && pq.2 == (I b).ser)) = false by rw [z]; rfl, if_neg Bool.false_ne_true]
              exact TXs_nil (TXs_nil (TXs_nil ⟨by rw [es, if_pos z], Ext.refl, Sub.put hT⟩))
            · rw [Bool.not_eq_true] at z
              rw [show (!(pq.1 == (I b).is && pq.2 == (I b).ser)) = true by rw [z]; rfl, if_pos rfl]
              exact TXs_cons (TX_continue ⟨by rw [es, z]; rfl, Ext.refl, Sub.put hT⟩)
          · have hn : (I a).ais = none := by cases z : (I a).ais with | none => rfl | some p => rw [z] at h; cases h
            rw [es, hn]; rfl
        · obtain ⟨hf3, he3, hx3⟩ := q
          have W3' := W3.sub hx3
          have he31 : Ext (mP1 r a (I a).is) m3 := fun y v hy => he3 y v (by
            rw [lookup_cons_ne]
            · exact hy
            · rintro rfl; cases hy)
          by_cases z : sameC (I a) (I b) = true
          · rw [if_pos z] at hf3 k
            obtain rfl : f = .next := by cases f with | next => rfl | ret v => cases hf3 | _ => cases hf3
            exact gbody_yield (m0 := mP1 r a (I a).is) (by rfl) (he3 _ _ (by rfl)) (by rfl) he31 W3'.self fun s4 m4 p4 l4 k4 u4 hm4 W4 hu4 hk4 => k s4 m4 p4 l4 k4 u4 hm4 (W3'.trans W4) hu4 hk4
          · rw [if_neg z] at hf3 k
            obtain rfl : f = .cont := by cases f with | cont => rfl | ret v => cases hf3 | _ => cases hf3
            exact k s3 m3 he31 W3'
end
end J
end

section
open PySem PySem.W PySem.Calls PyProof.Rows
set_option Elab.async false
set_option linter.unusedVariables false
set_option maxRecDepth 100000
namespace J
/-- what stands while paths are built: the registry and the certificates -/
structure Sta (ρ : Ab) (I : Addr → CI) (K Rs : List Addr) (Cs : Addr → Prop) (r : Addr) : Prop where
  reg : ∃ ds dk dc ns nk nc LF Kf Cf, Reg ρ r ds dk dc ns nk nc LF (SO I K) Kf Cf ∧ ∀ a, Cs a → Cf (I a).num = decide (a ∈ Rs)
  crt : ∀ a, Cs a → Crt ρ a (I a)
  ok : ∀ a, Cs a → Okc (I a)
  kn : ∀ b ∈ K, Cs b
/-- paths, one for each chain; their lists are none of the two -/
inductive PathsAt (σ : Ab) (I : Addr → CI) (pa fa : Addr) : List Addr → List (List Addr) → Prop
  | nil : PathsAt σ I pa fa [] []
  | cons {q lc hs : Addr} {ch qs : List Addr} {chs : List (List Addr)} : PathO σ I q ch lc hs → lc ≠ pa → lc ≠ fa → PathsAt σ I pa fa qs chs → PathsAt σ I pa fa (q :: qs) (ch :: chs)
def Fail (σ : Ab) (I : Addr → CI) (Cs : Addr → Prop) (pa fa q : Addr) : Prop := ∃ c lc hs, PathO σ I q c lc hs ∧ lc ≠ pa ∧ lc ≠ fa ∧ c ≠ [] ∧ ∀ x ∈ c, Cs x
section
variable {C : Cx} {A : Around} {env : Env} {m : Loc} {σ σ₀ σ' τ ρ : Ab} {s s₀ s' : Shared} {P : Params} {I : Addr → CI} {p lc hs pa fa : Addr} {ch : List Addr} {K Rs : List Addr} {Cs : Addr → Prop} {r : Addr}
def PF (pa fa : Addr) (x : Addr) : Prop := x = pa ∨ x = fa
theorem PathsAt.kp {qs : List Addr} {chs : List (List Addr)} (h : PathsAt σ I pa fa qs chs) (k : Kps σ σ' (PF pa fa)) (hX : ∀ b, PF pa fa b → ∃ xs, σ b = some (.list xs)) : PathsAt σ' I pa fa qs chs := by
  induction h with
  | nil => exact .nil
  | cons hp h1 h2 _ ih => exact .cons (hp.kp k hX fun q => q.elim h1 h2) h1 h2 ih
theorem Fail.kp {q : Addr} (h : Fail σ I Cs pa fa q) (k : Kps σ σ' (PF pa fa)) (hX : ∀ b, PF pa fa b → ∃ xs, σ b = some (.list xs)) : Fail σ' I Cs pa fa q := by
  obtain ⟨c, lc, hs, hp, h1, h2, h3, h4⟩ := h
  exact ⟨c, lc, hs, hp.kp k hX fun q => q.elim h1 h2, h1, h2, h3, h4⟩
theorem PathsAt.app {qs qs' : List Addr} {chs chs' : List (List Addr)} (h : PathsAt σ I pa fa qs chs) (h' : PathsAt σ I pa fa qs' chs') : PathsAt σ I pa fa (qs ++ qs') (chs ++ chs') := by
  induction h with
  | nil => exact h'
  | cons hp h1 h2 _ ih => exact .cons hp h1 h2 ih
theorem PathsAt.len {qs : List Addr} {chs : List (List Addr)} (h : PathsAt σ I pa fa qs chs) : qs.length = chs.length := by
  induction h with
  | nil => rfl
  | cons _ _ _ _ ih => simp [ih]
theorem frames_cons {A' : Around} (h : A'.frames = A.frames.map (env :: ·)) : ∀ l, A'.frames = some l → ∃ outer, l = env :: outer := fun l hl => by
  rw [h] at hl
  cases q : A.frames with
  | none => rw [q] at hl; cases hl
  | some l0 => rw [q] at hl; cases hl; exact ⟨l0, rfl⟩
theorem TC_fnF {f : Addr} {oc : Value} {od : Option Addr} {osl : Array (Option Value)} {fd : FuncData} {body : List Stmt} {args : List Value} {binds : List (Str × Value)} {Q : Value → Ab → Prop}
    (hA : A.depth < recursionLimit) (hf : C.K.lookup f = some ⟨oc, od, .func fd, osl⟩) (hcd : codeIn C.K fd.code fd.qualname = true) (hbody : fd.body = .stmts body)
    (hb : ∀ S, peek C.K S (bindArgs fd ⟨args, []⟩) = some binds) (hcell : ∀ x ∈ fd.scope.names, x.2 ≠ .cell) (hloc : ∀ x ∈ binds, fd.scope.names.lookup x.1 = some .local) (hm : locOf binds = m)
    (h : ∀ L A', A'.depth = A.depth + 1 → A'.handled = A.handled → A'.units = A.units + 3 → A'.frames = A.frames.map (callEnv fd L f :: ·) → TXs C A' (callEnv fd L f) m body σ fun fl _ σ' => Q (match fl with | .ret v => v | _ => .none) σ')
    (hco : fd.scope.isCoroutine = false := by rfl) (hgen : fd.scope.isGenerator = false := by rfl) (hk : fd.scope.kind = .function := by rfl)
    (hgl : fd.globals = mainGlobals := by rfl) (hbi : fd.builtins = builtinsNs := by rfl) (hcl : fd.closure = [] := by rfl) : TC C A (.ref f) args σ Q :=
  TC_call hA hf hcd hbody hb hcell hloc (fun L _ => by rw [hm]; exact h L _ rfl rfl rfl rfl) hco hgen hk hgl hbi hcl
theorem Cmp.in_dI' {d : Addr} {f : Int → Option Value} {n : Nat} {x : Int} {b : Bool} (e : σ d = some (.dI f n)) (h : (f x).isSome = b) : Cmp C A σ .In (.int x 0) (.ref d) b := h ▸ Cmp.in_dI e
theorem map_four {us : List Value} {a b c d : Value} (h : us.map nv = [a, b, c, d]) : ∃ u v w x, us = [u, v, w, x] ∧ nv u = a ∧ nv v = b ∧ nv w = c ∧ nv x = d := by
  rcases us with _ | ⟨ua, us⟩
  · simp at h
  · obtain ⟨h1, h2⟩ := List.cons.inj h
    obtain ⟨u, v, w, rfl, h5, h6, h7⟩ := map_three h2
    exact ⟨ua, u, v, w, rfl, h1, h5, h6, h7⟩
abbrev mW (r p pa fa : Addr) : Loc := [("failed_paths", .ref fa), ("paths", .ref pa), ("path", .ref p), ("self", .ref r)]
abbrev mW2 (r p pa fa : Addr) (k : Nat) : Loc := [("new_branches", .int k 0), ("failed_paths", .ref fa), ("paths", .ref pa), ("path", .ref p), ("self", .ref r)]
/-- self._walk_issuers(path, paths, failed_paths) -/
theorem walk (hK : C.K = Mine.hd.heap_39 P) (S : Sta ρ I K Rs Cs r) (hpa : ρ pa = none) (hfa : ρ fa = none) (hpf : pa ≠ fa) : ∀ (n : Nat) (A : Around) (σ : Ab) (p lc hs : Addr) (ch ps fls : List Addr) (Q : Value → Ab → Prop),
    A.depth + 2 * n + 40 < recursionLimit → A.units + 4 * n + 300 < cLine → A.handled = none → ms I K ch < n → ch ≠ [] → (∀ c ∈ ch, Cs c) → ch.length + ms I K ch ≤ 5 → Sub ρ σ → PathO σ I p ch lc hs → lc ≠ pa → lc ≠ fa →
    σ pa = some (.list (refs ps)) → σ fa = some (.list (refs fls)) → ps.length + 5 ^ ms I K ch ≤ 900 → fls.length + 5 ^ ms I K ch ≤ 900 →
    (∀ σ' new more, Kps σ σ' (PF pa fa) → σ' pa = some (.list (refs (ps ++ new))) → σ' fa = some (.list (refs (fls ++ more))) → PathsAt σ' I pa fa new (pth I K Rs n ch) → (pth I K Rs n ch = [] → more ≠ []) → (∀ q ∈ more, Fail σ' I Cs pa fa q) → more.length ≤ 5 ^ ms I K ch → Q .none σ') →
    CallR C A (.ref 373) [.ref r, .ref p, .ref pa, .ref fa] σ Q
  | 0, A, σ, p, lc, hs, ch, ps, fls, Q, _, _, _, hms, _, _, _, _, _, _, _, _, _, _, _, _ => absurd hms (Nat.not_lt_zero _)
  | n + 1, A, σ, p, lc, hs, ch, ps, fls, Q, hA, hu, hh, hms, hne, hcs, h5, hx, hp, hl1, hl2, hps, hfl, hn1, hn2, k => CallR.tc fun us hus => by
    obtain ⟨u1, u2, u3, u4, rfl, v1, v2, v3, v4⟩ := map_four hus
    obtain ⟨a, rest, rfl⟩ := List.exists_cons_of_ne_nil hne
    have hca := hcs a (.head _)
    obtain ⟨ds, dk, dc, ns, nk, nc, LF, Kf, Cf, G, hroot⟩ := S.reg
    have hXl : ∀ {σ' : Ab} {xs ys : List Addr}, σ' pa = some (.list (refs xs)) → σ' fa = some (.list (refs ys)) → ∀ b, PF pa fa b → ∃ xs, σ' b = some (.list xs) := fun h1 h2 b hb => by
      rcases hb with rfl | rfl
      · exact ⟨_, h1⟩
      · exact ⟨_, h2⟩
    have rk : ∀ {σ' : Ab}, Kps σ σ' (PF pa fa) → Sub ρ σ' := fun kp b o e => kp b o (hx b o e) (by
      rintro (rfl | rfl)
      · rw [hpa] at e; cases e
      · rw [hfa] at e; cases e)
    have hm4 : ms I K (a :: rest) ≤ 4 := by simp at h5; omega
    refine TC_fnF (C := C) (binds := [("self", u1), ("path", u2), ("paths", u3), ("failed_paths", u4)]) (m := mW r p pa fa) (by omega) (by rw [hK]; rfl) (by rw [hK]; kernel_rfl) rfl (fun S => by rw [hK]; kernel_rfl) (by decide +kernel) (by simp; decide +kernel) (by simp [locOf, v1, v2, v3, v4]) fun L A' hd hh' hun hfr => ?_
    have hhA : A'.handled = none := hh'.trans hh
    refine Crt.elim ((S.crt a hca).sub hx) fun gs na ia av c1 c2 c3 c4 c5 c6 c7 c8 c9 c10 c11 => ?_
    have hpow : 1 ≤ 5 ^ ms I K (a :: rest) := Nat.one_le_pow _ _ (by decide)
    refine TXs_cons (TX_ifB (b := decide (a ∈ Rs)) (EB_cmp (EV_attr (EV_first hK (by omega) hp (EV_loc (by rfl) (by rfl))) c1 c9 (by rw [hK]; kernel_rfl)) (EV_attr (EV_loc (by rfl) (by rfl)) (hx _ _ G.r) (by rfl) (by rw [hK]; kernel_rfl)) (Cmp.in_dI' (hx _ _ G.c) (by rw [hroot a hca]; by_cases q : a ∈ Rs <;> simp [q]))) (fun hq => ?_) fun hq => TXs_nil ?_)
    · have hq : a ∈ Rs := of_decide_eq_true hq
      have ep : pth I K Rs (n + 1) (a :: rest) = [a :: rest] := by rw [pth, if_pos hq]
      refine TXs_cons (TX_expr (TE_bmeth (ao := .list _) (EV_loc (by rfl) (by rfl)) hps rfl PySem.F.plainAttrs_list PySem.F.slot_list_append PySem.F.type_list_append
          (TAs_cons ((EV_loc (by rfl) (by rfl)).te (TAs_nil (call_append hps (Nat.le_trans (by simp [refs]; omega) (show 900 ≤ sizeLine by decide)) ?_))))))
      refine TXs_cons (TX_ret0 ?_)
      have kp : Kps σ (σ.put pa (.list (refs ps ++ [.ref p]))) (PF pa fa) := Kps.put (.inl (.inl rfl))
      refine k _ [p] [] kp (by rw [put_same]; simp [refs]) (by rw [put_ne (Ne.symm hpf), hfl]; simp) ?_ (by rw [ep]; intro q; cases q) (fun q hq => by cases hq) (by simp)
      rw [ep]
      exact .cons (hp.kp kp (hXl hps hfl) fun q => q.elim hl1 hl2) hl1 hl2 .nil
    · have hq : a ∉ Rs := of_decide_eq_false hq
      have ep : pth I K Rs (n + 1) (a :: rest) = (iss I K a).flatMap fun b => if dup I (a :: rest) b then [] else pth I K Rs n (b :: a :: rest) := by rw [pth, if_neg hq]
      refine TXs_cons (TX_assign (.inl (by rfl)) (EV_int.te ?_))
      generalize hF : (fun b => if dup I (a :: rest) b then [] else pth I K Rs n (b :: a :: rest)) = F at ep
      have hFd : ∀ b, dup I (a :: rest) b = true → F b = [] := fun b h => by rw [← hF]; simp [h]
      have hFn : ∀ b, dup I (a :: rest) b = false → F b = pth I K Rs n (b :: a :: rest) := fun b h => by rw [← hF]; simp [h]
      have hiK : ∀ b ∈ iss I K a, b ∈ K := fun b hb => (List.mem_filter.mp hb).1
      have hFl : ∀ b ∈ iss I K a, dup I (a :: rest) b = false → (F b).length ≤ 5 ^ (ms I K (a :: rest) - 1) := fun b hb h => by
        have h1 := ms_cons (I := I) (hiK b hb) h
        rw [hFn b h]
        exact Nat.le_trans (pth_len n _ (by omega)) (Nat.pow_le_pow_right (by decide) (by omega))
      have hj4 : ∀ i, (((iss I K a).take i).filter fun b => !dup I (a :: rest) b).length ≤ ms I K (a :: rest) := fun i =>
        Nat.le_trans (((List.take_sublist i _).filter _).length_le) iss_ms
      have hflat : ∀ i, (((iss I K a).take i).flatMap F).length ≤ (((iss I K a).take i).filter fun b => !dup I (a :: rest) b).length * 5 ^ (ms I K (a :: rest) - 1) := fun i =>
        flat_len (p := fun b => !dup I (a :: rest) b) (fun b hb h => hFd b (by simpa using h)) fun b hb h => hFl b (List.mem_of_mem_take hb) (by simpa using h)
      refine TXs_cons (TX_forG (τ := ρ) hhA (by omega) (GSrc.meth (EV_loc (by rfl) (by rfl)) (hx _ _ G.r) (by rfl) (by rw [hK]; kernel_rfl) (EV_first hK (by omega) hp (EV_loc (by rfl) (by rfl))) (possible hK (by omega) hhA (by omega) G (fun b hb => S.crt b (S.kn b hb)) (fun b hb => S.ok b (S.kn b hb)) (S.crt a hca) (S.ok a hca) hx)) hx
        (fun i m' σ' => ∃ (new more : List Addr) (j : Nat), Ext (mW2 r p pa fa j) m' ∧ Kps σ σ' (PF pa fa) ∧ σ' pa = some (.list (refs (ps ++ new))) ∧ σ' fa = some (.list (refs (fls ++ more))) ∧ PathsAt σ' I pa fa new (((iss I K a).take i).flatMap F) ∧
          j = (((iss I K a).take i).filter fun b => !dup I (a :: rest) b).length ∧ more.length ≤ j * 5 ^ (ms I K (a :: rest) - 1) ∧ (j ≠ 0 → ((iss I K a).take i).flatMap F = [] → more ≠ []) ∧ ∀ q ∈ more, Fail σ' I Cs pa fa q)
        ⟨[], [], 0, Ext.refl, fun a o e _ => e, by simpa using hps, by simpa using hfl, .nil, rfl, by simp, fun h => absurd rfl h, fun q hq => by cases hq⟩ ?_ ?_)
      · rintro i m' σ1 u hi hu1 hx1 ⟨new, more, j, he, kp, q1, q2, q3, q4, q5, q6, q7⟩
        obtain ⟨b, hbi, rfl⟩ := refs_get (by simpa [refs] using hi) hu1
        have hbm : b ∈ iss I K a := List.mem_of_getElem? hbi
        have hcb := S.crt b (S.kn b (hiK b hbm))
        have htk : (iss I K a).take (i + 1) = (iss I K a).take i ++ [b] := by rw [List.take_add_one, hbi]; rfl
        have hp1 := hp.kp kp (hXl hps hfl) fun q => q.elim hl1 hl2
        refine TS.pre he (Sub.refl _) (TS_name (.inl (by rfl)) ?_)
        have hp1' := hp1
        obtain ⟨fs, ks, f1, f2, f3, f4, f5, f6, f7, f8, f9⟩ := hp1'
        have hlen5 : (a :: rest).length ≤ 5 := by omega
        cases hdup : dup I (a :: rest) b with
        | true =>
          refine TXs_cons (TX_tryR (D := 199) (bm := [.type "Exception", .type "BaseException", .type "object"]) (newId := "Exception.__new__") (Q := fun σ'' => Sub σ1 σ'') (frames_cons hfr) (by rfl) (by rw [hK]; kernel_rfl) (by rfl) (by rw [hK]; kernel_rfl) (by decide +kernel)
            (TSr_expr (TEr_methArg (f := 373) (EV_loc (by rfl) (by rfl)) (hx1 _ _ G.r) (by rfl) (by rw [hK]; kernel_rfl) (TEr_methG (TE_meth0 (EV_loc (by rfl) (by rfl)) f1 (f4 _ (by decide) (by decide)) (by rw [hK]; kernel_rfl)
              (path_copy hK (by omega) hp1 hlen5 fun q lc' hs' σ2 nq nl nh x2 hp2 => ?_))))) fun y σ2 hx2 => TXs_cons (TX_pass (TXs_nil (TXs_nil ⟨hx1.trans hx2, new, more, j, Ext.cons Ext.refl (by rfl), fun c o e n => hx2 _ _ (kp c o e n), hx2 _ _ q1, hx2 _ _ q2, ?_, ?_, q5, ?_, fun q hq => (q7 q hq).kp (Kps.of_sub hx2) (hXl q1 q2)⟩))))
          · obtain ⟨gs2, ks2, g1, g2, g3, g4, g5, g6, g7, g8, g9⟩ := id hp2
            exact ⟨q, 304, 273, gs2, rfl, g1, g4 _ (by decide) (by decide), by rw [hK]; kernel_rfl, TAs_cons ((EV_loc (by rfl) (by rfl)).te (TAs_nil (fun us hus => by
              have := prepend_dup (A := A') hK (by omega) hhA (by omega) hp2 ((hcb.sub hx1).sub x2) hdup us hus
              exact fun σ₀ s₀ s R W k => this σ₀ s₀ s R W fun e s' σ' T q => k e s' σ' T (x2.trans q))))⟩
          · rw [htk, List.flatMap_append]
            have : [b].flatMap F = [] := by simp [hFd b hdup]
            rw [this, List.append_nil]
            exact q3.kp (Kps.of_sub hx2) (hXl q1 q2)
          · rw [htk, List.filter_append]; simp [hdup, q4]
          · intro h1 h2
            rw [htk, List.flatMap_append] at h2
            exact q6 h1 (List.append_eq_nil_iff.mp h2).1
        | false =>
          have hm1 := ms_cons (I := I) (hiK b hbm) hdup
          obtain ⟨M, hM⟩ : ∃ M, ms I K (a :: rest) = M + 1 := ⟨ms I K (a :: rest) - 1, by omega⟩
          have hj1 : j + 1 ≤ ms I K (a :: rest) := by
            have := hj4 (i + 1)
            rw [htk, List.filter_append] at this
            simpa [hdup, q4] using this
          have hpw : 5 ^ ms I K (a :: rest) = 5 * 5 ^ M := by rw [hM, Nat.pow_succ, Nat.mul_comm]
          have hpc : 5 ^ ms I K (b :: a :: rest) ≤ 5 ^ M := Nat.pow_le_pow_right (by decide) (by omega)
          have hM1 : ms I K (a :: rest) - 1 = M := by omega
          rw [hM1] at q5
          have hj5 : (j + 1) * 5 ^ M ≤ 5 * 5 ^ M := Nat.mul_le_mul_right _ (by omega)
          rw [Nat.succ_mul] at hj5
          have hnew : new.length ≤ j * 5 ^ M := by
            have := hflat i
            rw [← q4, hM1] at this
            rw [q3.len]; exact this
          refine TXs_cons (TX_tryOk (TXs_cons (TX_expr (TE_meth (f := 373) (EV_loc (by rfl) (by rfl)) (hx1 _ _ G.r) (by rfl) (by rw [hK]; kernel_rfl) (TAs_cons (TE_methG (TE_meth0 (EV_loc (by rfl) (by rfl)) f1 (f4 _ (by decide) (by decide)) (by rw [hK]; kernel_rfl)
              (path_copy hK (by omega) hp1 hlen5 fun q lc' hs' σ2 nq nl nh x2 hp2 => ?_))))))))
          obtain ⟨gs2, ks2, g1, g2, g3, g4, g5, g6, g7, g8, g9⟩ := id hp2
          refine ⟨q, 304, 273, gs2, rfl, g1, g4 _ (by decide) (by decide), by rw [hK]; kernel_rfl, TAs_cons ((EV_loc (by rfl) (by rfl)).te (TAs_nil (prepend hK (by omega) (by omega) hp2 (by omega) ((hcb.sub hx1).sub x2) hdup fun σ3 kp3 hp3 => ?_)))⟩
          have x13 : Sub σ1 σ3 := fun c o e => kp3 c o (x2 _ _ e) (by
            rintro (rfl | rfl)
            · rw [nl] at e; cases e
            · rw [nh] at e; cases e)
          refine TAs_cons ((EV_loc (by rfl) (by rfl)).te (TAs_cons ((EV_loc (by rfl) (by rfl)).te (TAs_nil ?_))))
          refine walk hK S hpa hfa hpf n A' σ3 q lc' hs' (b :: a :: rest) (ps ++ new) (fls ++ more) _ (by omega) (by omega) hhA (by omega) (by simp) (fun c hc => by
            rcases List.mem_cons.mp hc with rfl | hc
            · exact S.kn _ (hiK _ hbm)
            · exact hcs c hc) (by rw [List.length_cons]; omega) (hx1.trans x13) hp3 (Ne.symm (ne_of_new q1 nl)) (Ne.symm (ne_of_new q2 nl)) (x13 _ _ q1) (x13 _ _ q2) (by rw [List.length_append]; omega) (by rw [List.length_append]; omega) fun σ4 new' more' kp4 w1 w2 w3 w4 w5 w6 => ?_
          have X3 := hXl (x13 _ _ q1) (x13 _ _ q2)
          have kp14 : Kps σ1 σ4 (PF pa fa) := fun c o e nn => kp4 c o (x13 _ _ e) nn
          refine TXs_cons (TX_aug (by rfl) (by rfl) EV_int (TXs_nil (TXs_nil ⟨rk (kp.trans kp14), new ++ new', more ++ more', j + 1, ?_, kp.trans kp14, by rw [← List.append_assoc]; exact w1, by rw [← List.append_assoc]; exact w2, ?_, ?_, ?_, ?_, ?_⟩)))
          · refine .add (by rfl) (.add (by rfl) (.add (by rfl) (.add (by rfl) (.add (by rfl) .nil))))
          · rw [htk, List.flatMap_append]
            have e1 : [b].flatMap F = pth I K Rs n (b :: a :: rest) := by simp [hFn b hdup]
            rw [e1]
            exact (q3.kp kp14 (hXl q1 q2)).app w3
          · rw [htk, List.filter_append]; simp [hdup, q4]
          · rw [hM1, List.length_append, Nat.succ_mul]; omega
          · intro _ h2
            rw [htk, List.flatMap_append] at h2
            have e1 : [b].flatMap F = pth I K Rs n (b :: a :: rest) := by simp [hFn b hdup]
            have := w4 (by rw [← e1]; exact (List.append_eq_nil_iff.mp h2).2)
            intro h3
            exact this (List.append_eq_nil_iff.mp h3).2
          · intro q' hq'
            rcases List.mem_append.mp hq' with h | h
            · exact (q7 q' h).kp kp14 (hXl q1 q2)
            · exact w5 q' h
      · rintro m' σ1 hx1 ⟨new, more, j, he, kp, q1, q2, q3, q4, q5, q6, q7⟩
        have e0 : (iss I K a).take (iss I K a).length = iss I K a := List.take_length
        rw [e0] at q3 q6
        rw [← ep] at q3 q6
        have hp1 := hp.kp kp (hXl hps hfl) fun q => q.elim hl1 hl2
        refine he.pre ?_
        have hjb : j * 5 ^ (ms I K (a :: rest) - 1) ≤ 5 ^ ms I K (a :: rest) := by
          have := hj4 (iss I K a).length
          rw [← q4] at this
          by_cases z : j = 0
          · rw [z]; omega
          · obtain ⟨M, hM⟩ : ∃ M, ms I K (a :: rest) = M + 1 := ⟨ms I K (a :: rest) - 1, by omega⟩
            rw [hM] at this hm4 ⊢
            rw [Nat.pow_succ, Nat.mul_comm]
            exact Nat.mul_le_mul_left _ (by omega)
        refine TXs_cons (TX_ifB (b := !((j : Int) != 0)) (EB_not (EB_tru (EV_loc (by rfl) (by rfl)) (Tru.int _))) (fun h => ?_) fun h => TXs_nil (TXs_nil (k σ1 new more kp q1 q2 q3 (q6 (by simpa using h)) q7 (Nat.le_trans q5 hjb))))
        have hj0 : j = 0 := by simpa using h
        have hm0 : more = [] := by
          rw [hj0, Nat.zero_mul] at q5
          exact List.length_eq_zero_iff.mp (Nat.le_zero.mp q5)
        subst hm0
        rw [List.append_nil] at q2
        refine TXs_cons (TX_expr (TE_bmeth (ao := .list _) (EV_loc (by rfl) (by rfl)) q2 rfl PySem.F.plainAttrs_list PySem.F.slot_list_append PySem.F.type_list_append
          (TAs_cons ((EV_loc (by rfl) (by rfl)).te (TAs_nil (call_append q2 (Nat.le_trans (by simp [refs]; omega) (show 900 ≤ sizeLine by decide)) ?_))))))
        have kp2 : Kps σ1 (σ1.put fa (.list (refs fls ++ [.ref p]))) (PF pa fa) := Kps.put (.inl (.inr rfl))
        refine TXs_nil (TXs_nil (k _ new [p] (kp.trans kp2) (by rw [put_ne hpf]; exact q1) (by rw [put_same]; simp [refs]) (q3.kp kp2 (hXl q1 q2)) (fun _ h => by cases h) (fun q hq => ?_) (by simpa using hpow)))
        obtain rfl : q = p := by simpa using hq
        exact ⟨a :: rest, lc, hs, hp1.kp kp2 (hXl q1 q2) fun q => q.elim hl1 hl2, hl1, hl2, by simp, hcs⟩
end
end J
end

section
open PySem PySem.W PySem.Calls PyProof.Rows
set_option Elab.async false
set_option linter.unusedVariables false
set_option maxRecDepth 100000
namespace J
section
variable {C : Cx} {A : Around} {env : Env} {m : Loc} {σ σ₀ σ' τ ρ : Ab} {s s₀ s' : Shared} {P : Params} {I : Addr → CI} {K Rs : List Addr} {Cs : Addr → Prop} {r a : Addr}
theorem TCr_fnF {f D : Addr} {oc : Value} {od : Option Addr} {osl : Array (Option Value)} {fd : FuncData} {body : List Stmt} {args : List Value} {binds : List (Str × Value)} {Q : Ab → Prop}
    (hA : A.depth < recursionLimit) (hf : C.K.lookup f = some ⟨oc, od, .func fd, osl⟩) (hcd : codeIn C.K fd.code fd.qualname = true) (hbody : fd.body = .stmts body)
    (hb : ∀ S, peek C.K S (bindArgs fd ⟨args, []⟩) = some binds) (hcell : ∀ x ∈ fd.scope.names, x.2 ≠ .cell) (hloc : ∀ x ∈ binds, fd.scope.names.lookup x.1 = some .local) (hm : locOf binds = m)
    (h : ∀ L A', A'.depth = A.depth + 1 → A'.handled = A.handled → A'.units = A.units + 3 → A'.frames = A.frames.map (callEnv fd L f :: ·) → TXr C A' (callEnv fd L f) m body σ D Q)
    (hco : fd.scope.isCoroutine = false := by rfl) (hgen : fd.scope.isGenerator = false := by rfl) (hk : fd.scope.kind = .function := by rfl)
    (hgl : fd.globals = mainGlobals := by rfl) (hbi : fd.builtins = builtinsNs := by rfl) (hcl : fd.closure = [] := by rfl) : TCr C A (.ref f) args σ D Q :=
  TCr_call hA hf hcd hbody hb hcell hloc (fun L _ => by rw [hm]; exact h L _ rfl rfl rfl rfl) hco hgen hk hgl hbi hcl
theorem pretty3 (hK : C.K = Mine.hd.heap_39 P) (hA : A.depth + 5 < recursionLimit) {v w x : Value} {Q : Value → Ab → Prop} (h : Q v σ) : CallR C A (.ref 28) [v, w, x] σ Q := CallR.tc fun us hu => by
  obtain ⟨u, u2, u3, rfl, hv, hw, hx⟩ := map_three hu
  refine TC_callV (C := C) (binds := fun D => [("string", u), ("params", .ref D)]) (ot := { cls := .type "tuple", data := .seq #[u2, u3] }) (g := fun D => pure [("string", u), ("params", .ref D)]) (m := [("string", v)]) (by omega) (by rw [hK]; rfl) (by rw [hK]; kernel_rfl) rfl (fun S => by rw [hK]; kernel_rfl) (fun D => rfl) (by decide +kernel) (fun D => by simp; decide +kernel) (fun D => .add (by show some (nv u) = _; rw [hv]) .nil) fun L A' hd hh hun => ?_
  exact TXs_cons (TX_ret ((EV_loc (by rfl) (by rfl)).te h))
/-- registry.build_paths(cert), where there is one -/
theorem build (hK : C.K = Mine.hd.heap_39 P) (S : Sta σ I K Rs Cs r) (hA : A.depth + 60 < recursionLimit) (hu : A.units + 400 < cLine) (hh : A.handled = none) (hca : Cs a) (h4 : ms I K [a] ≤ 4) (hne : pth I K Rs 6 [a] ≠ []) {Q : Value → Ab → Prop}
    (h : ∀ σ' pa fa qs, Sub σ σ' → σ' pa = some (.list (refs qs)) → PathsAt σ' I pa fa qs (pth I K Rs 6 [a]) → Q (.ref pa) σ') : CallR C A (.ref 366) [.ref r, .ref a] σ Q := CallR.tc fun us hus => by
  obtain ⟨u, v, rfl, hu', hv⟩ := map_two hus
  refine Crt.elim (S.crt a hca) fun gs na ia av c1 c2 c3 c4 c5 c6 c7 c8 c9 c10 c11 => ?_
  obtain ⟨ds, dk, dc, ns, nk, nc, LF, Kf, Cf, G, hroot⟩ := S.reg
  refine TC_fnF (C := C) (binds := [("self", u), ("end_entity_cert", v)]) (m := [("end_entity_cert", .ref a), ("self", .ref r)]) (by omega) (by rw [hK]; rfl) (by rw [hK]; kernel_rfl) rfl (fun S => by rw [hK]; kernel_rfl) (by decide +kernel) (by simp; decide +kernel) (by simp [locOf, hu', hv]) fun L A' hd hh' hun hfr => ?_
  have hhA : A'.handled = none := hh'.trans hh
  refine TXs_cons (TX_ifB (b := false) ?_ (fun q => by cases q) fun _ => TXs_nil ?_)
  · exact EB_not (b := true) (EB_bcall (EV_built (v := .builtin "isinstance") (by rw [hK]; kernel_rfl) (by kernel_rfl) (by rfl)) fun Q q => TAs_cons ((EV_loc (by rfl) (by rfl)).te (TAs_cons ((EV_glob (v := .ref 160) (by rw [hK]; kernel_rfl) (by rfl)).te (TAs_nil (call_isinst c1 (by rw [hK]; kernel_rfl) q))))))
  refine TXs_cons (TX_assign (.inl (by rfl)) (TE_call (f := .ref 304) (EV_glob (v := .ref 304) (by rw [hK]; kernel_rfl) (by rfl)) nv_fix_ref (by rw [hK]; kernel_rfl) rfl (TAs_cons ((EV_loc (by rfl) (by rfl)).te (TAs_nil (path_make1 (I := I) hK (by omega) (by omega) (S.crt a hca) fun p lc hs σ1 np nl nh x1 hp => ?_))))))
  refine TXs_cons (TX_assign (.inl (by rfl)) (TE_list (TAs_nil ⟨(show (0 : Nat) ≤ sizeLine by decide), fun pa npa => ?_⟩)))
  refine TXs_cons (TX_assign (.inl (by rfl)) (TE_list (TAs_nil ⟨(show (0 : Nat) ≤ sizeLine by decide), fun fa nfa => ?_⟩)))
  have x2 := Sub.put (o := .list []) npa
  have x3 := Sub.put (o := .list []) nfa
  have q1 := x3 _ _ (put_same σ1 pa (.list []))
  have q2 := put_same (σ1.put pa (.list [])) fa (.list [])
  have x13 := x2.trans x3
  have hp3 := hp.sub x13
  have npf : pa ≠ fa := ne_of_new (put_same ..) nfa
  have nlp : lc ≠ pa := by obtain ⟨fs, ks, _, _, _, _, _, h6, _⟩ := hp; exact ne_of_new h6 npa
  have nlf : lc ≠ fa := by obtain ⟨fs, ks, _, _, _, _, _, h6, _⟩ := hp; exact ne_of_new (x2 _ _ h6) nfa
  have ρpa : σ pa = none := by
    cases z : σ pa with
    | none => rfl
    | some o => rw [x1 _ _ z] at npa; cases npa
  have ρfa : σ fa = none := by
    cases z : σ fa with
    | none => rfl
    | some o => rw [x2 _ _ (x1 _ _ z)] at nfa; cases nfa
  have x03 := x1.trans x13
  generalize (σ1.put pa (.list [])).put fa (.list []) = σ3 at q1 q2 x03 hp3 ⊢
  refine TXs_cons (TX_expr (TE_meth (f := 373) (EV_loc (by rfl) (by rfl)) (x03 _ _ G.r) (by rfl) (by rw [hK]; kernel_rfl) (TAs_cons ((EV_loc (by rfl) (by rfl)).te (TAs_cons ((EV_loc (by rfl) (by rfl)).te (TAs_cons ((EV_loc (by rfl) (by rfl)).te (TAs_nil
    (walk hK S ρpa ρfa npf 6 A' σ3 p lc hs [a] [] [] _ (by omega) (by omega) hhA (by omega) (by simp) (fun c hc => by rw [List.mem_singleton] at hc; rw [hc]; exact hca) (by simp; omega) x03 hp3 nlp nlf q1 q2 (by have := pow_le h4; simp; omega) (by have := pow_le h4; simp; omega)
      fun σ4 new more kp w1 w2 w3 w4 w5 w6 => ?_))))))))))
  rw [List.nil_append] at w1
  have x04 : Sub σ σ4 := fun b o e => kp b o (x03 _ _ e) (by
    rintro (rfl | rfl)
    · rw [ρpa] at e; cases e
    · rw [ρfa] at e; cases e)
  have hlen := w3.len
  have hb := pth_len (I := I) (K := K) (Rs := Rs) 6 [a] h4
  have hp5 := pow_le h4
  have hpos : 0 < new.length := by rw [hlen]; exact List.length_pos_iff.mpr hne
  refine TXs_cons (TX_if (TB_cmp (TE_bcall (EV_built (v := .builtin "len") (by rw [hK]; kernel_rfl) (by kernel_rfl) (by rfl)) (TAs_cons ((EV_loc (by rfl) (by rfl)).te (TAs_nil (call_len w1 (by simp [refs]; omega) (EV_int.te ⟨_, Cmp.eq_int _ _, ?_⟩)))))))) 
  have e0 : decide (((refs new).length : Int) = 0) = false := by
    simp [refs]
    rintro rfl
    simp at hpos
  rw [e0, if_neg Bool.false_ne_true]
  exact TXs_nil (TXs_cons (TX_ret ((EV_loc (by rfl) (by rfl)).te (h σ4 pa fa new x04 w1 w3))))
/-- .. and where there is none -/
theorem build_none (hK : C.K = Mine.hd.heap_39 P) (S : Sta σ I K Rs Cs r) (hA : A.depth + 60 < recursionLimit) (hu : A.units + 400 < cLine) (hh : A.handled = none) (hca : Cs a) (h4 : ms I K [a] ≤ 4) (hne : pth I K Rs 6 [a] = []) : CallRr C A (.ref 366) [.ref r, .ref a] σ 187 (fun σ' => Sub σ σ') := fun us hus => by
  obtain ⟨u, v, rfl, hu', hv⟩ := map_two hus
  refine Crt.elim (S.crt a hca) fun gs na ia av c1 c2 c3 c4 c5 c6 c7 c8 c9 c10 c11 => ?_
  obtain ⟨ds, dk, dc, ns, nk, nc, LF, Kf, Cf, G, hroot⟩ := S.reg
  refine TCr_fnF (C := C) (binds := [("self", u), ("end_entity_cert", v)]) (m := [("end_entity_cert", .ref a), ("self", .ref r)]) (by omega) (by rw [hK]; rfl) (by rw [hK]; kernel_rfl) rfl (fun S => by rw [hK]; kernel_rfl) (by decide +kernel) (by simp; decide +kernel) (by simp [locOf, hu', hv]) fun L A' hd hh' hun hfr => ?_
  have hhA : A'.handled = none := hh'.trans hh
  refine TXr_cons (TX_ifB (b := false) ?_ (fun q => by cases q) fun _ => TXs_nil ⟨rfl, ?_⟩)
  · exact EB_not (b := true) (EB_bcall (EV_built (v := .builtin "isinstance") (by rw [hK]; kernel_rfl) (by kernel_rfl) (by rfl)) fun Q q => TAs_cons ((EV_loc (by rfl) (by rfl)).te (TAs_cons ((EV_glob (v := .ref 160) (by rw [hK]; kernel_rfl) (by rfl)).te (TAs_nil (call_isinst c1 (by rw [hK]; kernel_rfl) q))))))
  refine TXr_cons (TX_assign (.inl (by rfl)) (TE_call (f := .ref 304) (EV_glob (v := .ref 304) (by rw [hK]; kernel_rfl) (by rfl)) nv_fix_ref (by rw [hK]; kernel_rfl) rfl (TAs_cons ((EV_loc (by rfl) (by rfl)).te (TAs_nil (path_make1 (I := I) hK (by omega) (by omega) (S.crt a hca) fun p lc hs σ1 np nl nh x1 hp => ⟨rfl, ?_⟩))))))
  refine TXr_cons (TX_assign (.inl (by rfl)) (TE_list (TAs_nil ⟨(show (0 : Nat) ≤ sizeLine by decide), fun pa npa => ⟨rfl, ?_⟩⟩)))
  refine TXr_cons (TX_assign (.inl (by rfl)) (TE_list (TAs_nil ⟨(show (0 : Nat) ≤ sizeLine by decide), fun fa nfa => ⟨rfl, ?_⟩⟩)))
  have x2 := Sub.put (o := .list []) npa
  have x3 := Sub.put (o := .list []) nfa
  have q1 := x3 _ _ (put_same σ1 pa (.list []))
  have q2 := put_same (σ1.put pa (.list [])) fa (.list [])
  have x13 := x2.trans x3
  have hp3 := hp.sub x13
  have npf : pa ≠ fa := ne_of_new (put_same ..) nfa
  have nlp : lc ≠ pa := by obtain ⟨fs, ks, _, _, _, _, _, h6, _⟩ := hp; exact ne_of_new h6 npa
  have nlf : lc ≠ fa := by obtain ⟨fs, ks, _, _, _, _, _, h6, _⟩ := hp; exact ne_of_new (x2 _ _ h6) nfa
  have ρpa : σ pa = none := by
    cases z : σ pa with
    | none => rfl
    | some o => rw [x1 _ _ z] at npa; cases npa
  have ρfa : σ fa = none := by
    cases z : σ fa with
    | none => rfl
    | some o => rw [x2 _ _ (x1 _ _ z)] at nfa; cases nfa
  have x03 := x1.trans x13
  generalize (σ1.put pa (.list [])).put fa (.list []) = σ3 at q1 q2 x03 hp3 ⊢
  refine TXr_cons (TX_expr (TE_meth (f := 373) (EV_loc (by rfl) (by rfl)) (x03 _ _ G.r) (by rfl) (by rw [hK]; kernel_rfl) (TAs_cons ((EV_loc (by rfl) (by rfl)).te (TAs_cons ((EV_loc (by rfl) (by rfl)).te (TAs_cons ((EV_loc (by rfl) (by rfl)).te (TAs_nil
    (walk hK S ρpa ρfa npf 6 A' σ3 p lc hs [a] [] [] _ (by omega) (by omega) hhA (by omega) (by simp) (fun c hc => by rw [List.mem_singleton] at hc; rw [hc]; exact hca) (by simp; omega) x03 hp3 nlp nlf q1 q2 (by have := pow_le h4; simp; omega) (by have := pow_le h4; simp; omega)
      fun σ4 new more kp w1 w2 w3 w4 w5 w6 => ⟨rfl, ?_⟩))))))))))
  rw [List.nil_append] at w1 w2
  have x04 : Sub σ σ4 := fun b o e => kp b o (x03 _ _ e) (by
    rintro (rfl | rfl)
    · rw [ρpa] at e; cases e
    · rw [ρfa] at e; cases e)
  rw [hne] at w3
  have hn0 : new = [] := by cases w3; rfl
  subst hn0
  obtain ⟨q, more', rfl⟩ := List.exists_cons_of_ne_nil (w4 hne)
  obtain ⟨c, lq, hq, hpq, _, _, hcn, hcc⟩ := w5 q (.head _)
  obtain ⟨b, c', rfl⟩ := List.exists_cons_of_ne_nil hcn
  refine Crt.elim ((S.crt a hca).sub x04) fun gs na ia av c1 c2 c3 c4 c5 c6 c7 c8 c9 c10 c11 => ?_
  refine Crt.elim ((S.crt b (hcc b (.head _))).sub x04) fun gs na' ia' av' d1 d2 d3 d4 d5 d6 d7 d8 d9 d10 d11 => ?_
  refine TXr_if (TB_cmp (TE_bcall (EV_built (v := .builtin "len") (by rw [hK]; kernel_rfl) (by kernel_rfl) (by rfl)) (TAs_cons ((EV_loc (by rfl) (by rfl)).te (TAs_nil (call_len w1 (by simp [refs]) (EV_int.te ⟨_, Cmp.eq_int _ _, rfl, ?_⟩))))))) 
  refine TXr_cons (TX_assign (.inl (by rfl)) ((EV_attr (EV_attr (EV_loc (by rfl) (by rfl)) c1 c2 (by rw [hK]; kernel_rfl)) c3 (by rfl) (by rw [hK]; kernel_rfl)).te ⟨rfl, ?_⟩))
  refine TXr_cons (TX_assign (.inl (by rfl)) ((EV_attr (EV_attr (EV_first hK (by omega) hpq (EV_item (EV_loc (by rfl) (by rfl)) EV_int (Itm.list w2 (by decide) (by decide) (by rfl)))) d1 d4 (by rw [hK]; kernel_rfl)) d6 (by rfl) (by rw [hK]; kernel_rfl)).te ⟨rfl, ?_⟩))
  exact TXr_raise1 (bm := [.type "Exception", .type "BaseException", .type "object"]) (newId := "Exception.__new__") (by rw [hK]; kernel_rfl) (by rfl) (by rw [hK]; kernel_rfl) PySem.F.excBase_Exception (by decide +kernel) PySem.F.excBase_Exception hhA
    (TE_call (f := .ref 28) (EV_glob (v := .ref 28) (by rw [hK]; kernel_rfl) (by rfl)) nv_fix_ref (by rw [hK]; kernel_rfl) rfl (TAs_cons (EV_str.te (TAs_cons ((EV_loc (by rfl) (by rfl)).te (TAs_cons ((EV_loc (by rfl) (by rfl)).te (TAs_nil (pretty3 hK (by omega) x04)))))))))
end
end J
end

section
open PySem PySem.W PySem.Calls PyProof.Rows
set_option Elab.async false
set_option linter.unusedVariables false
set_option maxRecDepth 100000
namespace J
/-- lists of certificates, one for each chain -/
inductive ChainsAt (σ : Ab) : List Addr → List (List Addr) → Prop
  | nil : ChainsAt σ [] []
  | cons {l : Addr} {ch ls : List Addr} {chs : List (List Addr)} : σ l = some (.list (refs ch)) → ChainsAt σ ls chs → ChainsAt σ (l :: ls) (ch :: chs)
section
variable {C : Cx} {A : Around} {env : Env} {m : Loc} {σ σ₀ σ' τ ρ : Ab} {s s₀ s' : Shared} {P : Params} {I : Addr → CI} {K Rs : List Addr} {Cs : Addr → Prop} {rl kl : Addr}
theorem ChainsAt.sub {ls : List Addr} {chs : List (List Addr)} (h : ChainsAt σ ls chs) (x : Sub σ σ') : ChainsAt σ' ls chs := by
  induction h with
  | nil => exact .nil
  | cons h _ ih => exact .cons (x _ _ h) ih
theorem ChainsAt.app {ls ls' : List Addr} {chs chs' : List (List Addr)} (h : ChainsAt σ ls chs) (h' : ChainsAt σ ls' chs') : ChainsAt σ (ls ++ ls') (chs ++ chs') := by
  induction h with
  | nil => exact h'
  | cons h _ ih => exact .cons h ih
theorem ChainsAt.len {ls : List Addr} {chs : List (List Addr)} (h : ChainsAt σ ls chs) : ls.length = chs.length := by
  induction h with
  | nil => rfl
  | cons _ _ ih => simp [ih]
theorem Cmp.isNot_kid (k : Option (List UInt8)) : Cmp C A σ .IsNot (kidV k) .none k.isSome := by
  cases k with
  | none => exact Cmp.isNot_none
  | some x => have := isNone_plain (C := C) (A := A) (σ := σ) (.bytes x.toArray 0) (.inr (.inr ⟨_, rfl⟩)); exact this
theorem Cmp.is_ais {v : Value} {k : Option (Str × Int)} (h : AisAt σ v k) : Cmp C A σ .Is v .none k.isNone := by
  cases k with
  | none => cases h; exact Cmp.is_none _ (.inl rfl)
  | some p => obtain ⟨t, rfl, _⟩ := h; exact Cmp.is_ref
theorem flatMap_filter' {α β : Type} {p : α → Bool} {f : α → List β} : ∀ l : List α, (l.filter p).flatMap f = l.flatMap fun x => if p x = true then f x else []
  | [] => rfl
  | x :: l => by
    rw [List.filter_cons, List.flatMap_cons, ← flatMap_filter' l]
    by_cases q : p x = true
    · rw [if_pos q, if_pos q, List.flatMap_cons]
    · rw [if_neg q, if_neg q, List.nil_append]
theorem mem_refs {a : Addr} {l : List Addr} : (Value.ref a ∈ refs l) ↔ a ∈ l := by
  unfold refs
  rw [List.mem_map]
  exact ⟨fun ⟨b, hb, e⟩ => by cases e; exact hb, fun h => ⟨a, h, rfl⟩⟩
abbrev mC (c rl kl : Addr) : Loc := [("known", .ref kl), ("roots", .ref rl), ("chain", .ref c)]
abbrev mC2 (c rl kl a F : Addr) (k : Option (List UInt8)) (av : Value) : Loc := [("found", .ref F), ("one", kidV k), ("told", av), ("first", .ref a), ("known", .ref kl), ("roots", .ref rl), ("chain", .ref c)]
abbrev mC3 (c rl kl a F b : Addr) (k k2 : Option (List UInt8)) (av : Value) (sm : Bool) : Loc := [("same", .bool sm), ("two", kidV k2), ("cert", .ref b), ("found", .ref F), ("one", kidV k), ("told", av), ("first", .ref a), ("known", .ref kl), ("roots", .ref rl), ("chain", .ref c)]
set_option maxHeartbeats 1000000 in
/-- _law_chains(chain, roots, known) -/
theorem chains (hK : C.K = Mine.hd.heap_39 P) (hC : ∀ a, Cs a → Crt ρ a (I a)) (hO : ∀ a, Cs a → Okc (I a)) (hKn : ∀ b ∈ K, Cs b) (hRn : ∀ b ∈ Rs, Cs b) (hrl : ρ rl = some (.list (refs Rs))) (hkl : ρ kl = some (.list (refs K))) : ∀ (n : Nat) (A : Around) (σ : Ab) (c : Addr) (ch : List Addr) (Q : Value → Ab → Prop),
    A.depth + 2 * n + 40 < recursionLimit → A.units + 4 * n + 300 < cLine → A.handled = none → ms I K ch < n → ch ≠ [] → (∀ x ∈ ch, Cs x) → ch.length + ms I K ch ≤ 5 → Sub ρ σ → σ c = some (.list (refs ch)) →
    (∀ D σ' ls, Sub σ σ' → σ' D = some (.list (refs ls)) → ChainsAt σ' ls (pth I K Rs n ch) → Q (.ref D) σ') → CallR C A (.ref 392) [.ref c, .ref rl, .ref kl] σ Q
  | 0, A, σ, c, ch, Q, _, _, _, hms, _, _, _, _, _, _ => absurd hms (Nat.not_lt_zero _)
  | n + 1, A, σ, c, ch, Q, hA, hu, hh, hms, hne, hcs, h5, hx, hc, k => CallR.tc fun us hus => by
    obtain ⟨u1, u2, u3, rfl, v1, v2, v3⟩ := map_three hus
    obtain ⟨a, rest, rfl⟩ := List.exists_cons_of_ne_nil hne
    have hca := hcs a (.head _)
    have hm4 : ms I K (a :: rest) ≤ 4 := by simp at h5; omega
    refine TC_callC (C := C) (binds := [("chain", u1), ("roots", u2), ("known", u3)]) (m := mC c rl kl) (by omega) (by rw [hK]; rfl) (by rw [hK]; kernel_rfl) rfl (fun S => by rw [hK]; kernel_rfl) (by simp; decide +kernel) (by simp [locOf, v1, v2, v3]) fun L A' hd hh' hun hfr => ?_
    have hhA : A'.handled = none := hh'.trans hh
    refine Crt.elim ((hC a hca).sub hx) fun gs na ia av c1 c2 c3 c4 c5 c6 c7 c8 c9 c10 c11 => ?_
    refine TXs_cons (TX_assign (.inl (by rfl)) ((EV_item (EV_loc (by rfl) (by rfl)) EV_int (Itm.list hc (by decide) (by decide) (by rfl))).te ?_))
    refine TXs_cons (TX_ifB (b := decide (a ∈ Rs)) (EB_cmp (EV_loc (by rfl) (by rfl)) (EV_loc (by rfl) (by rfl)) (by
      have := Cmp.in_objs (C := C) (A := A') (K := 160) (by rw [hK]; kernel_rfl) c1 (hx _ _ hrl) (fun v hv => by
        obtain ⟨b, hb, rfl⟩ := List.mem_map.mp hv
        obtain ⟨fs, _, _, _, e, _⟩ := (hC b (hRn b hb)).sub hx
        exact ⟨b, fs, rfl, e⟩) (by omega)
      rwa [decide_eq_decide.mpr mem_refs] at this)) (fun hq => ?_) fun hq => TXs_nil ?_)
    · have hq : a ∈ Rs := of_decide_eq_true hq
      have ep : pth I K Rs (n + 1) (a :: rest) = [a :: rest] := by rw [pth, if_pos hq]
      refine TXs_cons (TX_ret (TE_list (TAs_cons ((EV_loc (by rfl) (by rfl)).te (TAs_nil ⟨(show (1 : Nat) ≤ sizeLine by decide), fun D hD => ?_⟩)))))
      refine k D _ [c] (Sub.put hD) (put_same ..) ?_
      rw [ep]
      exact .cons (put_new hc hD) .nil
    · have hq : a ∉ Rs := of_decide_eq_false hq
      have ep : pth I K Rs (n + 1) (a :: rest) = (iss I K a).flatMap fun b => if dup I (a :: rest) b then [] else pth I K Rs n (b :: a :: rest) := by rw [pth, if_neg hq]
      have hpl := pth_len (I := I) (K := K) (Rs := Rs) (n + 1) (a :: rest) hm4
      have hp5 := pow_le hm4
      have ep' : pth I K Rs (n + 1) (a :: rest) = K.flatMap fun b => if fits I a b = true then (if dup I (a :: rest) b then [] else pth I K Rs n (b :: a :: rest)) else [] := by rw [ep, iss, flatMap_filter']
      generalize hG : (fun b => if fits I a b = true then (if dup I (a :: rest) b then [] else pth I K Rs n (b :: a :: rest)) else []) = G at ep'
      have hG0 : ∀ b, fits I a b = false → G b = [] := fun b h => by rw [← hG]; simp [h]
      have hG1 : ∀ b, dup I (a :: rest) b = true → G b = [] := fun b h => by rw [← hG]; simp [h]
      have hG2 : ∀ b, fits I a b = true → dup I (a :: rest) b = false → G b = pth I K Rs n (b :: a :: rest) := fun b h h' => by rw [← hG]; simp [h, h']
      have hflat : ∀ i, ((K.take i).flatMap G).length ≤ 625 := fun i => by
        have e1 : K.flatMap G = (K.take i).flatMap G ++ (K.drop i).flatMap G := by rw [← List.flatMap_append, List.take_append_drop]
        have := hpl
        rw [ep', e1, List.length_append] at this
        omega
      have oa := hO a hca
      refine TXs_cons (TX_swap3 (x := "found") (y := "one") (z := "told") hhA (.inl (by rfl)) (.inl (by rfl)) (.inl (by rfl)) (TE_tup (TAs_cons (TE_list (TAs_nil ⟨(show (0 : Nat) ≤ sizeLine by decide), fun F hF => TAs_cons ((EV_attr (EV_loc (by rfl) (by rfl)) (put_new c1 hF) c7 (by rw [hK]; kernel_rfl) (kid_handed _)).te (TAs_cons ((EV_attr (EV_loc (by rfl) (by rfl)) (put_new c1 hF) c10 (by rw [hK]; kernel_rfl) (ais_handed c11)).te (TAs_nil ⟨(show (3 : Nat) ≤ sizeLine by decide), fun T hT => ⟨T, .ref F, kidV (I a).aki, av, rfl, put_same .., ?_⟩⟩))))⟩)))))
      have xF := Sub.put (o := .list []) hF
      have xT := Sub.put (o := .tup [.ref F, kidV (I a).aki, av]) hT
      have rF := xT _ _ (put_same σ F (.list []))
      have x0 := xF.trans xT
      generalize (σ.put F (.list [])).put T (.tup [.ref F, kidV (I a).aki, av]) = σ0 at rF x0 ⊢
      refine TXs_cons (TX_for (Src.list hhA (EV_loc (by rfl) (by rfl)) (x0 _ _ (hx _ _ hkl))) (x0 _ _ (hx _ _ hkl))
        (fun i m' σ' => ∃ (F : Addr) (ls : List Addr), Ext (mC2 c rl kl a F (I a).aki av) m' ∧ Sub σ σ' ∧ σ' F = some (.list (refs ls)) ∧ ChainsAt σ' ls ((K.take i).flatMap G))
        ⟨F, [], .add (by rfl) (.add (by rfl) (.add (by rfl) (.add (by rfl) (.add (by rfl) (.add (by rfl) (.add (by rfl) .nil)))))), x0, rF, .nil⟩ ?_ ?_)
      · rintro i m' σ1 u hi hu1 hS1 ⟨F, ls, he, x1, rF, hL⟩
        obtain ⟨b, hbi, rfl⟩ := refs_get hi hu1
        have hbK : b ∈ K := List.mem_of_getElem? hbi
        have hcb := hKn b hbK
        have ob := hO b hcb
        have htk : K.take (i + 1) = K.take i ++ [b] := by rw [List.take_add_one, hbi]; rfl
        have hC1 : ∀ y, Cs y → Crt σ1 y (I y) := fun y hy => ((hC y hy).sub hx).sub x1
        have k11 : AisAt σ1 av (I a).ais := by
          cases q : (I a).ais with
          | none => rw [q] at c11; exact c11
          | some pq => rw [q] at c11; obtain ⟨tt, e, ht⟩ := c11; exact ⟨tt, e, x1 _ _ ht⟩
        refine Crt.elim (hC1 b hcb) fun gs nb ib bv d1 d2 d3 d4 d5 d6 d7 d8 d9 d10 d11 => ?_
        refine TS.pre he (Sub.refl _) (TS_name (.inr ⟨by rfl, L + 1, by rfl⟩) ?_)
        refine TXs_cons (TX_assign (.inl (by rfl)) ((EV_attr (EV_cell (by rfl) (by rfl)) d1 d5 (by rw [hK]; kernel_rfl) (kid_handed _)).te ?_))
        refine TXs_seq (fun m₂ σ₂ => m₂ = mC3 c rl kl a F b (I a).aki (I b).kid av (sameC (I a) (I b)) ∧ Sub σ1 σ₂)
          (TX_assign (.inl (by rfl)) (TE_if (c := (I a).aki.isSome && ((I b).kid.isSome && true)) (EB_and (EB_cmp (EV_loc (by rfl) (by rfl)) EV_none (Cmp.isNot_kid _)) fun _ => EB_and (EB_cmp (EV_loc (by rfl) (by rfl)) EV_none (Cmp.isNot_kid _)) fun _ => EB_and_nil) (fun q => ?_) fun q => ?_)) ?_
        · obtain ⟨y, hy⟩ : ∃ y, (I a).aki = some y := Option.isSome_iff_exists.mp (Bool.and_eq_true_iff.mp q).1
          obtain ⟨z, hz⟩ : ∃ z, (I b).kid = some z := Option.isSome_iff_exists.mp (Bool.and_eq_true_iff.mp (Bool.and_eq_true_iff.mp q).2).1
          have es : sameC (I a) (I b) = (y == z) := by unfold sameC; rw [hy, hz]
          rw [es]
          exact (EV_cmp (a := .bytes y.toArray 0) (b := .bytes z.toArray 0) (EV_loc (by show some (kidV (I a).aki) = _; rw [hy]; rfl) (by rfl)) (EV_loc (by show some (kidV (I b).kid) = _; rw [hz]; rfl) (by rfl)) (Cmp.eq_bytes y z)).te ⟨rfl, Sub.refl _⟩
        · have es := sameC_ais q
          refine TE_or ((EV_cmp (EV_loc (by rfl) (by rfl)) EV_none (Cmp.is_ais k11)).te ⟨_, Tru.bool _, ?_⟩)
          cases hn : (I a).ais with
          | none =>
            rw [hn] at es
            rw [es]
            exact ⟨rfl, Sub.refl _⟩
          | some pq =>
            rw [hn] at es k11
            obtain ⟨tt, rfl, htt⟩ := k11
            rw [es, if_neg (show ¬ ((some pq : Option (Str × Int)).isNone = true) from Bool.false_ne_true)]
            exact TE_bool1 (TE_cmp ((EV_loc (by rfl) (by rfl)).te (TE_tup (TAs_cons ((EV_attr (EV_attr (EV_cell (by rfl) (by rfl)) d1 d4 (by rw [hK]; kernel_rfl)) d6 (by rfl) (by rw [hK]; kernel_rfl)).te (TAs_cons ((EV_attr (EV_cell (by rfl) (by rfl)) d1 d8 (by rw [hK]; kernel_rfl)).te (TAs_nil ⟨(show (2 : Nat) ≤ sizeLine by decide), fun T hT => ⟨_, Cmp.eq_si (oa.ais _ hn) ob.is (put_new htt hT) (put_same ..) (by omega), rfl, Sub.put hT⟩⟩))))))))
        · rintro _ σ2 ⟨rfl, x2⟩
          have x12 := x1.trans x2
          have hC2 : ∀ y, Cs y → Crt σ2 y (I y) := fun y hy => (hC1 y hy).sub x2
          refine Crt.elim (hC2 b hcb) fun gs nb ib bv d1 d2 d3 d4 d5 d6 d7 d8 d9 d10 d11 => ?_
          refine Crt.elim (hC2 a hca) fun gs na ia av' c1 c2 c3 c4 c5 c6 c7 c8 c9 c10 c11 => ?_
          have rF2 := x2 _ _ rF
          have hL2 := hL.sub x2
          have hS2 := x2 _ _ hS1
          have hc2 := x12 _ _ hc
          have hmm : Ext (mC2 c rl kl a F (I a).aki av) (mC3 c rl kl a F b (I a).aki (I b).kid av (sameC (I a) (I b))) := .add (by rfl) (.add (by rfl) (.add (by rfl) (.add (by rfl) (.add (by rfl) (.add (by rfl) (.add (by rfl) .nil))))))
          refine TXs_cons (TX_ifB (b := sameC (I a) (I b) && (((I b).su == (I a).is) && true)) (EB_and (EB_tru (EV_loc (by rfl) (by rfl)) (Tru.bool _)) fun _ => EB_and (EB_cmp (EV_attr (EV_attr (EV_cell (by rfl) (by rfl)) d1 d2 (by rw [hK]; kernel_rfl)) d3 (by rfl) (by rw [hK]; kernel_rfl)) (EV_attr (EV_attr (EV_loc (by rfl) (by rfl)) c1 c4 (by rw [hK]; kernel_rfl)) c6 (by rfl) (by rw [hK]; kernel_rfl)) (Cmp.eq_str _ _)) fun _ => EB_and_nil) (fun q => ?_) fun q => ?_)
          · have hfit : fits I a b = true := by unfold fits; simpa using q
            have e5 : (a :: rest).length ≤ 5 := by omega
            refine TXs_cons (TX_if (TB_not (TB_tru (TE_compL (cl := [("cert", L + 1)]) (mc := [("cert", .ref b)]) hhA ((EV_loc (by rfl) (by rfl)).te ⟨c, refs (a :: rest), rfl, hc2, by simp only [refs, List.length_map]; exact Nat.le_trans e5 (by decide),
              (fun i ys σ' => Sub σ2 σ' ∧ ys = refs (((a :: rest).take i).filter fun o => ky I o == ky I b)), ⟨Sub.refl _, rfl⟩, ?_, ?_⟩) (by rfl) (cl_cons (by rfl) cl_nil) (mc_cons (fun _ => by rfl) (by rfl) (by rfl) (by rfl) mc_nil)))))
            · rintro Cc j ys σ3 u hj hju hS3 ⟨x3, rfl⟩
              obtain ⟨o, hoj, rfl⟩ := refs_get hj hju
              have hom := List.mem_of_getElem? hoj
              have htk3 : (a :: rest).take (j + 1) = (a :: rest).take j ++ [o] := by rw [List.take_add_one, hoj]; rfl
              refine Crt.elim ((hC2 o (hcs o hom)).sub x3) fun fo no io ov o1 o2 o3 o4 o5 o6 o7 o8 o9 o10 o11 => ?_
              refine Crt.elim ((hC2 b hcb).sub x3) fun gs nb ib bv d1 d2 d3 d4 d5 d6 d7 d8 d9 d10 d11 => ?_
              refine ⟨[("other", .ref o)], Tgt.name (by rfl) (by rfl), fun x v hx => fs_one hx (by rfl), TIfs_one (TB_cmp (TE_tup (TAs_cons ((EV_attr (EV_attr (EV_loc (by rfl) (by rfl)) o1 o4 (by rw [hK]; kernel_rfl)) o6 (by rfl) (by rw [hK]; kernel_rfl)).te (TAs_cons ((EV_attr (EV_loc (by rfl) (by rfl)) o1 o8 (by rw [hK]; kernel_rfl)).te (TAs_nil ⟨(show (2 : Nat) ≤ sizeLine by decide), fun T hT =>
                TE_tup (TAs_cons ((EV_attr (EV_attr (EV_cell (by rfl) (by rfl)) (put_new d1 hT) d4 (by rw [hK]; kernel_rfl)) (put_new d6 hT) (by rfl) (by rw [hK]; kernel_rfl)).te (TAs_cons ((EV_attr (EV_cell (by rfl) (by rfl)) (put_new d1 hT) d8 (by rw [hK]; kernel_rfl)).te (TAs_nil ⟨(show (2 : Nat) ≤ sizeLine by decide), fun T2 hT2 => ⟨_, Cmp.eq_si (hO o (hcs o hom)).is ob.is (put_new (put_same ..) hT2) (put_same ..) (by omega), ?_⟩⟩)))))⟩)))))))⟩
              have xs3 : Sub σ3 ((σ3.put T (.tup [.str (I o).is 0, .int (I o).ser 0])).put T2 (.tup [.str (I b).is 0, .int (I b).ser 0])) := (Sub.put hT).trans (Sub.put hT2)
              cases z : (ky I o == ky I b) with
              | true =>
                rw [show ((I o).is == (I b).is && (I o).ser == (I b).ser) = true from z, if_pos rfl]
                refine (EV_loc (by rfl) (by rfl)).te ⟨xs3 _ _ hS3, x3.trans xs3, ?_⟩
                rw [htk3]; simp [refs, z]
              | false =>
                rw [show ((I o).is == (I b).is && (I o).ser == (I b).ser) = false from z, if_neg Bool.false_ne_true]
                refine ⟨xs3 _ _ hS3, x3.trans xs3, ?_⟩
                rw [htk3]; simp [refs, z]
            · rintro ys σ3 D hS3 ⟨x3, rfl⟩ hD
              have e6 : (a :: rest).take (refs (a :: rest)).length = a :: rest := List.take_of_length_le (by simp [refs])
              rw [e6]
              refine ⟨_, Tru.list (put_same ..) (by simp only [refs, List.length_map]; exact Nat.le_trans (List.length_filter_le _ _) (Nat.le_trans e5 (by decide))), ?_⟩
              have x4 := x3.trans (Sub.put (o := .list (refs ((a :: rest).filter fun o => ky I o == ky I b))) hD)
              generalize σ3.put D (.list (refs ((a :: rest).filter fun o => ky I o == ky I b))) = σ4 at x4 ⊢
              have hdd : (!(!(refs ((a :: rest).filter fun o => ky I o == ky I b)).isEmpty)) = !dup I (a :: rest) b := by
                rw [Bool.not_not]
                unfold dup
                rw [Bool.eq_iff_iff]
                simp only [refs, List.isEmpty_iff, List.map_eq_nil_iff, List.filter_eq_nil_iff, Bool.not_eq_true', List.any_eq_false]
              rw [hdd]
              cases hdup : dup I (a :: rest) b with
              | true =>
                rw [if_neg (show ¬ ((!true) = true) by decide)]
                refine TXs_nil (TXs_nil (TXs_nil ⟨x4 _ _ hS2, F, ls, hmm, x12.trans x4, x4 _ _ rF2, ?_⟩))
                rw [htk, List.flatMap_append]
                have : [b].flatMap G = [] := by simp [hG1 b hdup]
                rw [this, List.append_nil]; exact hL2.sub x4
              | false =>
                rw [if_pos (show (!false) = true by decide)]
                have hm1 := ms_cons (I := I) hbK hdup
                have hfl := hflat (i + 1)
                rw [htk, List.flatMap_append, List.length_append] at hfl
                have e7 : [b].flatMap G = pth I K Rs n (b :: a :: rest) := by simp [hG2 b hfit hdup]
                rw [e7] at hfl
                refine TXs_cons (TX_assign (.inl (by rfl)) (TE_catG ((EV_loc (by rfl) (by rfl)).te (TE_call (f := .ref 392) (EV_glob (v := .ref 392) (by rw [hK]; kernel_rfl) (by rfl)) nv_fix_ref (by rw [hK]; kernel_rfl) rfl
                  (TAs_cons (TE_catG (TE_list (TAs_cons ((EV_cell (by rfl) (by rfl)).te (TAs_nil ⟨(show (1 : Nat) ≤ sizeLine by decide), fun B hB => (EV_loc (by rfl) (by rfl)).te ⟨B, c, [.ref b], refs (a :: rest), rfl, rfl, put_same .., put_new (x4 _ _ hc2) hB, by simp only [refs, List.length_map, List.length_singleton]; omega, fun N hN =>
                    TAs_cons ((EV_loc (by rfl) (by rfl)).te (TAs_cons ((EV_loc (by rfl) (by rfl)).te (TAs_nil ?_))))⟩⟩))))))))))
                have x5 := x4.trans ((Sub.put (o := .list [.ref b]) hB).trans (Sub.put (o := .list ([.ref b] ++ refs (a :: rest))) hN))
                have rN : (((σ4.put B (.list [.ref b])).put N (.list ([.ref b] ++ refs (a :: rest))))) N = some (.list (refs (b :: a :: rest))) := by rw [put_same]; rfl
                generalize (σ4.put B (.list [.ref b])).put N (.list ([.ref b] ++ refs (a :: rest))) = σ5 at x5 rN ⊢
                have x15 := x12.trans x5
                refine chains hK hC hO hKn hRn hrl hkl n A' σ5 N (b :: a :: rest) _ (by omega) (by omega) hhA (by omega) (by simp) (fun y hy => by
                  rcases List.mem_cons.mp hy with rfl | hy
                  · exact hcb
                  · exact hcs y hy) (by rw [List.length_cons]; omega) (hx.trans x15) rN fun D2 σ6 ls2 x6 rD2 hL6 => ?_
                refine ⟨F, D2, refs ls, refs ls2, rfl, rfl, x6 _ _ (x5 _ _ rF2), rD2, ?_, fun D3 hD3 => ?_⟩
                · simp only [refs, List.length_map]
                  rw [hL2.len, hL6.len]; omega
                · have x7 := x6.trans (Sub.put (o := .list (refs ls ++ refs ls2)) hD3)
                  have rD3 : (σ6.put D3 (.list (refs ls ++ refs ls2))) D3 = some (.list (refs (ls ++ ls2))) := by rw [put_same]; simp [refs]
                  refine TXs_nil (TXs_nil (TXs_nil ⟨x7 _ _ (x5 _ _ hS2), D3, ls ++ ls2, ?_, x15.trans x7, rD3, ?_⟩))
                  · exact .add (by rfl) (.add (by rfl) (.add (by rfl) (.add (by rfl) (.add (by rfl) (.add (by rfl) (.add (by rfl) .nil))))))
                  · rw [htk, List.flatMap_append, e7]
                    exact ((hL2.sub x5).sub x7).app (hL6.sub (Sub.put hD3))
          · have hfit : fits I a b = false := by unfold fits; simpa using q
            refine TXs_nil (TXs_nil ⟨hS2, F, ls, hmm, x12, rF2, ?_⟩)
            rw [htk, List.flatMap_append]
            have : [b].flatMap G = [] := by simp [hG0 b hfit]
            rw [this, List.append_nil]; exact hL2
      · rintro m' σ1 hS1 ⟨F, ls, he, x1, rF, hL⟩
        refine he.pre ?_
        have e0 : K.take (refs K).length = K := List.take_of_length_le (by simp [refs])
        rw [e0, ← ep'] at hL
        exact TXs_cons (TX_ret ((EV_loc (by rfl) (by rfl)).te (k F σ1 ls x1 rF hL)))
end
end J
end

section
open PySem PySem.W PySem.Calls PyProof.Rows
set_option Elab.async false
set_option linter.unusedVariables false
set_option maxRecDepth 100000
namespace J
theorem same_fd {K : Frag} {f : Addr} {oc oc' : Value} {od od' : Option Addr} {fd fd' : FuncData} {osl osl' : Array (Option Value)} (h : K.lookup f = some ⟨oc, od, .func fd, osl⟩) (h' : K.lookup f = some ⟨oc', od', .func fd', osl'⟩) : fd = fd' := by
  rw [h] at h'; cases h'; rfl
def abcd : Str := "abcd"
theorem four {a : Int} : a.fmod 4 = 0 ∨ a.fmod 4 = 1 ∨ a.fmod 4 = 2 ∨ a.fmod 4 = 3 := by
  obtain ⟨h0, h1⟩ := fmod_range (a := a) (b := 4) (by decide)
  omega
theorem abcd_at (a : Int) : abcd.cps[(a.fmod 4).toNat]? = some (abcd.cps.getD (a.fmod 4).toNat 0) := by
  rcases four (a := a) with h | h | h | h <;> rw [h] <;> rfl
theorem abcd_ok (a : Int) : PyData.strOk ⟨#[abcd.cps.getD (a.fmod 4).toNat 0]⟩ = true := by
  rcases four (a := a) with h | h | h | h <;> rw [h] <;> decide +kernel
abbrev kids : List Value := [.none, .none, .bytes [107, 49].toArray 0, .bytes [107, 50].toArray 0]
theorem kid4 (a : Int) : ∃ k : Option (List UInt8), kids[(a.fmod 4).toNat]? = some (kidV k) ∧ ∀ x, k = some x → x ≠ [] ∧ x.length ≤ 1000 := by
  rcases four (a := a) with h | h | h | h <;> rw [h]
  · exact ⟨none, rfl, fun x q => by cases q⟩
  · exact ⟨none, rfl, fun x q => by cases q⟩
  · exact ⟨some [107, 49], rfl, fun x q => by cases q; exact ⟨by simp, by simp⟩⟩
  · exact ⟨some [107, 50], rfl, fun x q => by cases q; exact ⟨by simp, by simp⟩⟩
/-- a certificate, and how many stores it took -/
def Crl (σ : Ab) (c : Addr) (i : CI) (n : Nat) : Prop := Crt σ c i ∧ ∀ fs, σ c = some (.inst 160 fs) → fs.length ≤ n
theorem Crt.at {σ : Ab} {c : Addr} {i : CI} {fs : Loc} (h : Crt σ c i) (e : σ c = some (.inst 160 fs)) : ∃ na ia av, fs.lookup ("subject" : Str) = some (.ref na) ∧ σ na = some (.inst 87 (nameFs i.su)) ∧ fs.lookup ("issuer" : Str) = some (.ref ia) ∧ fs.lookup ("key_identifier" : Str) = some (kidV i.kid) ∧
  σ ia = some (.inst 87 (nameFs i.is)) ∧ fs.lookup ("authority_key_identifier" : Str) = some (kidV i.aki) ∧ fs.lookup ("serial_number" : Str) = some (.int i.ser 0) ∧ fs.lookup ("signature" : Str) = some (.int i.num 0) ∧ fs.lookup ("authority_issuer_serial" : Str) = some av ∧ AisAt σ av i.ais ∧ fs.lookup ("issuer_serial" : Str) = none := by
  obtain ⟨fs', na, ia, av, c1, r⟩ := h
  rw [e] at c1; cases c1
  exact ⟨na, ia, av, r⟩
theorem ais_put {σ : Ab} {c : Addr} {fs fs' : Loc} {v : Value} {k : Option (Str × Int)} (e : σ c = some (.inst 160 fs)) (h : AisAt σ v k) : AisAt (σ.put c (.inst 160 fs')) v k := by
  cases k with
  | none => exact h
  | some p => obtain ⟨t, rfl, ht⟩ := h; exact ⟨t, rfl, by rw [put_ne (ne_of_ao ht e (by intro z; cases z))]; exact ht⟩
theorem name_put {σ : Ab} {c n : Addr} {fs fs' : Loc} {x : Str} (e : σ c = some (.inst 160 fs)) (h : σ n = some (.inst 87 (nameFs x))) : (σ.put c (.inst 160 fs')) n = some (.inst 87 (nameFs x)) := by
  rw [put_ne (ne_of_ao h e (by intro z; cases z))]; exact h
section
variable {σ : Ab} {c : Addr} {i : CI} {n : Nat} {fs : Loc}
theorem Crl.kid (h : Crl σ c i n) (e : σ c = some (.inst 160 fs)) (k : Option (List UInt8)) : Crl (σ.put c (.inst 160 (("key_identifier", kidV k) :: fs))) c { i with kid := k } (n + 1) := by
  obtain ⟨na, ia, av, r1, r2, r3, r4, r5, r6, r7, r8, r9, r10, r11⟩ := h.1.at e
  refine ⟨⟨_, na, ia, av, put_same .., ?_, name_put e r2, ?_, lookup_cons_self, name_put e r5, ?_, ?_, ?_, ?_, ais_put e r10, ?_⟩, fun fs' e' => ?_⟩
  all_goals first | (rw [lookup_cons_ne (by decide)]; assumption) | skip
  rw [put_same] at e'; cases e'; have := h.2 _ e; simp; omega
theorem Crl.aki (h : Crl σ c i n) (e : σ c = some (.inst 160 fs)) (k : Option (List UInt8)) : Crl (σ.put c (.inst 160 (("authority_key_identifier", kidV k) :: fs))) c { i with aki := k } (n + 1) := by
  obtain ⟨na, ia, av, r1, r2, r3, r4, r5, r6, r7, r8, r9, r10, r11⟩ := h.1.at e
  refine ⟨⟨_, na, ia, av, put_same .., ?_, name_put e r2, ?_, ?_, name_put e r5, lookup_cons_self, ?_, ?_, ?_, ais_put e r10, ?_⟩, fun fs' e' => ?_⟩
  all_goals first | (rw [lookup_cons_ne (by decide)]; assumption) | skip
  rw [put_same] at e'; cases e'; have := h.2 _ e; simp; omega
theorem Crl.ser (h : Crl σ c i n) (e : σ c = some (.inst 160 fs)) (k : Int) : Crl (σ.put c (.inst 160 (("serial_number", .int k 0) :: fs))) c { i with ser := k } (n + 1) := by
  obtain ⟨na, ia, av, r1, r2, r3, r4, r5, r6, r7, r8, r9, r10, r11⟩ := h.1.at e
  refine ⟨⟨_, na, ia, av, put_same .., ?_, name_put e r2, ?_, ?_, name_put e r5, ?_, lookup_cons_self, ?_, ?_, ais_put e r10, ?_⟩, fun fs' e' => ?_⟩
  all_goals first | (rw [lookup_cons_ne (by decide)]; assumption) | skip
  rw [put_same] at e'; cases e'; have := h.2 _ e; simp; omega
theorem Crl.ais (h : Crl σ c i n) (e : σ c = some (.inst 160 fs)) {t : Addr} {p : Str × Int} (ht : σ t = some (.tup [.str p.1 0, .int p.2 0])) : Crl (σ.put c (.inst 160 (("authority_issuer_serial", .ref t) :: fs))) c { i with ais := some p } (n + 1) := by
  obtain ⟨na, ia, av, r1, r2, r3, r4, r5, r6, r7, r8, r9, r10, r11⟩ := h.1.at e
  refine ⟨⟨_, na, ia, .ref t, put_same .., ?_, name_put e r2, ?_, ?_, name_put e r5, ?_, ?_, ?_, lookup_cons_self, ais_put e ⟨t, rfl, ht⟩, ?_⟩, fun fs' e' => ?_⟩
  all_goals first | (rw [lookup_cons_ne (by decide)]; assumption) | skip
  rw [put_same] at e'; cases e'; have := h.2 _ e; simp; omega
theorem Crl.sub {σ' : Ab} (h : Crl σ c i n) (x : Sub σ σ') : Crl σ' c i n := ⟨h.1.sub x, fun fs e => by
  obtain ⟨fs', na, ia, av, c1, _⟩ := id h.1
  have := x _ _ c1
  rw [e] at this; cases this
  exact h.2 _ c1⟩
end
structure Pool (σ : Ab) (pl : Addr) (cs : List Addr) (I : Addr → CI) : Prop where
  l : σ pl = some (.list (refs cs))
  nd : cs.Nodup
  crt : ∀ c ∈ cs, Crt σ c (I c)
  ok : ∀ c, Okc (I c)
  num : ∀ (i : Nat) c, cs[i]? = some c → (I c).num = ((i + 1 : Nat) : Int)
theorem Pool.sub {σ σ' : Ab} {pl : Addr} {cs : List Addr} {I : Addr → CI} (h : Pool σ pl cs I) (x : Sub σ σ') : Pool σ' pl cs I := ⟨x _ _ h.l, h.nd, fun c hc => (h.crt c hc).sub x, h.ok, h.num⟩
section
variable {C : Cx} {A : Around} {env : Env} {m : Loc} {σ σ₀ σ' : Ab} {s s₀ s' : Shared} {P : Params}
/-- the reading of the script -/
theorem ev_read {lst : Addr} {vs : List Value} {ws : List Int} (hL : C.h₀.IsList lst vs.toArray) (hI : IntsAre vs ws) (hn : ws.length ≤ 63) {e1 e2 : Expr} {i : Int} (h0 : 0 ≤ i) (hi : i < 1000)
    {x : Str} {px py p1 p2 p3 p4 p5 p6 : Pos} {kk : Nat} (hx : EV C A env m σ (.Name x px) (.ref lst)) (hx' : EV C A env m σ (.Name x py) (.ref lst)) (hlen : EV C A env m σ (.Name "len" p3) (.builtin "len")) (he1 : EV C A env m σ e1 (.int i 0)) (he2 : EV C A env m σ e2 (.int i 0))
    (hsub : ∀ o i', subscripted e1 false o i' = operate [o, i'] (getItem o i'))
    (hst : starEach [.Name x py] env = (false, eval (.Name x py) env) :: starEach [] env) (hst0 : (backTo p4 (starEach [] env)).any (·.1) = false)
    (hm : behindInMarks .Lt (.Call (.Name "len" p3) [.Name x py] [] p4) = false) :
    EV C A env m σ (.IfExp (.Compare e2 [.Lt] [.Call (.Name "len" p3) [.Name x py] [] p4] p5) (.Subscript (.Name x px) e1 p1) (.Constant (.int 0) kk p2) p6) (.int (gi ws i) 0) := by
  have hz := ints_size hI
  refine EV_if (c := decide (i < ws.length)) (EB_cmp he2 (EV_call fun Q q => TE_bcall hlen (TAs_cons (hx'.te (TAs_nil (call_len0 (n := ws.length) hL (by simpa using hz) (by omega) q))) hst) hst hst0) (Cmp.lt_int _ _) hm) (fun hq => ?_) fun hq => ?_
  · have hq : i < ws.length := by simpa using hq
    have hlt : i.toNat < ws.length := by omega
    obtain ⟨u, hu, hv⟩ := ints_get hI hlt
    exact EV_item hx he1 (Itm.list0 hL h0 (by omega) (by simpa using hu) hv) hsub
  · have hq : ¬ i < ws.length := by simpa using hq
    have : gi ws i = 0 := by
      unfold gi
      rw [List.getD_eq_getElem?_getD, List.getElem?_eq_none (by omega)]; rfl
    rw [this]; exact EV_int
/-- many, pool = (1 + (script[0] % 5 if script else 0), []) -/
theorem seg0 (hK : C.K = Mine.hd.heap_39 P) (hh : A.handled = none) {oc : Value} {od : Option Addr} {fd : FuncData} {osl : Array (Option Value)} {body : List Stmt} (hf : C.K.lookup 397 = some ⟨oc, od, .func fd, osl⟩) (hb : fd.body = .stmts body) {nm : Str} {L fa : Addr} {cd : Value} {Q : Flow → Loc → Ab → Prop}
    {lst : Addr} {vs : List Value} {ws : List Int} (hL : C.h₀.IsList lst vs.toArray) (hI : IntsAre vs ws) (hn : ws.length ≤ 63) (hm : Ext [("script", .ref lst)] m)
    (h : ∀ pl m' σ' (M : Nat), 1 ≤ M → M ≤ 5 → Ext [("many", .int M 0), ("pool", .ref pl), ("script", .ref lst)] m' → σ' pl = some (.list []) → TXs C A (envOfC nm fd.scope L fa cd) m' (body.drop 1) σ' Q) : TXs C A (envOfC nm fd.scope L fa cd) m (body.drop 0) σ Q := by
  obtain rfl := same_fd hf (by rw [hK]; rfl)
  cases hb
  refine hm.pre ?_
  have hz := ints_size hI
  obtain ⟨f0, f1⟩ := fmod_range (a := gi ws 0) (b := 5) (by decide)
  refine TXs_cons (TX_assignT (TE_tup (TAs_cons ((EV_add (b := (gi ws 0).fmod 5) EV_int (EV_if (c := decide (vs.toArray.size ≠ 0)) (EB_tru (EV_cell (by rfl) (by rfl)) (Tru.list0 hL (by simp; omega))) (fun hq => ?_) fun hq => ?_)).te (TAs_cons (TE_list (TAs_nil ⟨(show (0 : Nat) ≤ sizeLine by decide), fun pl hpl => TAs_nil ⟨(show (2 : Nat) ≤ sizeLine by decide), fun T hT u hu => ?_⟩⟩)))))))
  · have hq : vs.toArray.size ≠ 0 := of_decide_eq_true hq
    have hlt : (0 : Int).toNat < ws.length := by simp at hq ⊢; rw [← hz]; exact Nat.pos_of_ne_zero (by simpa using hq)
    obtain ⟨u, hu, hv⟩ := ints_get hI hlt
    exact EV_mod (EV_item (EV_cell (by rfl) (by rfl)) EV_int (Itm.list0 hL (by decide) (by decide) (by simpa using hu) hv)) EV_int (by decide)
  · have hq : ¬ vs.toArray.size ≠ 0 := of_decide_eq_false hq
    have e0 : ws = [] := by
      have : ws.length = 0 := by rw [← hz]; simpa using hq
      exact List.length_eq_zero_iff.mp this
    have : (gi ws 0).fmod 5 = 0 := by rw [e0]; rfl
    rw [this]; exact EV_int
  · obtain rfl := nv_to_ref hu
    refine TS_tupT hh (put_same ..) (by rfl) (by rfl) (TIn.cons fun u1 h1 => TS_name (.inl (by rfl)) (TIn.cons fun u2 h2 => TS_name (.inr ⟨by rfl, _, by rfl⟩) (TIn.nil ?_)))
    rw [h1, h2]
    refine h pl _ _ (1 + ((gi ws 0).fmod 5).toNat) (by omega) (by omega) (.add ?_ (.add (by rfl) (.add (by rfl) .nil))) (put_new (put_same ..) hT)
    show some (Value.int (1 + (gi ws 0).fmod 5) 0) = _
    congr 2; push_cast; omega
end
end J
end

section
open PySem PySem.W PySem.Calls PyProof.Rows
set_option Elab.async false
set_option linter.unusedVariables false
set_option maxRecDepth 100000
namespace J
theorem range_many {M : Nat} (h1 : 1 ≤ M) (h5 : M ≤ 5) : Builtin.Range.rangeSize 1 ((M : Int) + 1) 1 = (M : Int) ∧ Builtin.Range.small 1 ((M : Int) + 1) 1 = true := by
  have : M = 1 ∨ M = 2 ∨ M = 3 ∨ M = 4 ∨ M = 5 := by omega
  rcases this with rfl | rfl | rfl | rfl | rfl <;> exact ⟨by rfl, by rfl⟩
abbrev mL (M : Nat) (pl lst : Addr) : Loc := [("many", .int M 0), ("pool", .ref pl), ("script", .ref lst)]
abbrev mL2 (M : Nat) (pl lst : Addr) (q p jv : Int) : Loc := [("q", .int q 0), ("p", .int p 0), ("j", .int jv 0), ("many", .int M 0), ("pool", .ref pl), ("script", .ref lst)]
abbrev mL3 (M : Nat) (pl lst c : Addr) (q : Int) : Loc := [("cert", .ref c), ("q", .int q 0), ("many", .int M 0), ("pool", .ref pl), ("script", .ref lst)]
section
variable {C : Cx} {A : Around} {env : Env} {m : Loc} {σ σ₀ σ' : Ab} {s s₀ s' : Shared} {P : Params}
set_option maxHeartbeats 4000000 in
/-- the loop that makes the pool -/
theorem seg1 (hK : C.K = Mine.hd.heap_39 P) (hA : A.depth + 9 < recursionLimit) (hh : A.handled = none) {oc : Value} {od : Option Addr} {fd : FuncData} {osl : Array (Option Value)} {body : List Stmt} (hf : C.K.lookup 397 = some ⟨oc, od, .func fd, osl⟩) (hb : fd.body = .stmts body) {nm : Str} {L fa : Addr} {cd : Value} {Q : Flow → Loc → Ab → Prop}
    {lst : Addr} {vs : List Value} {ws : List Int} (hL : C.h₀.IsList lst vs.toArray) (hI : IntsAre vs ws) (hn : ws.length ≤ 63) {pl : Addr} {M : Nat} (hM1 : 1 ≤ M) (hM5 : M ≤ 5) (hpl : σ pl = some (.list [])) (hm : Ext (mL M pl lst) m)
    (h : ∀ m' σ' cs I, Ext (mL M pl lst) m' → Pool σ' pl cs I → cs.length = M → TXs C A (envOfC nm fd.scope L fa cd) m' (body.drop 2) σ' Q) :
    TXs C A (envOfC nm fd.scope L fa cd) m (body.drop 1) σ Q := by
  obtain rfl := same_fd hf (by rw [hK]; rfl)
  cases hb
  have hA5 : A.depth + 5 < recursionLimit := by omega
  refine hm.pre ?_
  refine TXs_seq (fun m' σ' => Ext (mL M pl lst) m' ∧ ∃ cs I, Pool σ' pl cs I ∧ cs.length = M)
    (TX_for (Src.range2 (a := 1) (b := (M : Int) + 1) (n := M) hh ?_ EV_int (EV_add (EV_loc (by rfl) (by rfl)) EV_int) (range_many hM1 hM5).1 (range_many hM1 hM5).2) trivial
      (fun i m' σ' => Ext (mL M pl lst) m' ∧ ∃ cs I, Pool σ' pl cs I ∧ cs.length = i)
      ⟨Ext.refl, [], fun _ => ⟨"", "", 0, none, none, none, 0⟩, ⟨hpl, List.nodup_nil, (fun c hc => by cases hc), (fun c => ⟨by decide +kernel, by decide +kernel, (fun x q => by cases q), (fun x q => by cases q), (fun p q => by cases q)⟩), (fun i c hc => by cases hc)⟩, rfl⟩ ?_ fun m' σ' _ hJ => hJ) ?_
  · exact EV_built (v := .type "range") (by rw [hK]; kernel_rfl) (by kernel_rfl) (by rfl)
  · rintro i m' σ' u hi hu _ ⟨he, cs, I, hps, hlen⟩
    refine TS.pre he (Sub.refl _) (TS_name (.inr ⟨by rfl, _, by rfl⟩) ?_)
    rw [hu]
    have hi6 : (i : Int) < 6 := by omega
    refine TXs_cons (TX_assignT (TE_comp (cl := [("script", L + 1), ("j", L + 3)]) (mc := [("j", .int (1 + (i : Int)) 0), ("script", .ref lst)]) (Src.range1 (b := 2) (n := 2) hh (EV_built (v := .type "range") (by rw [hK]; kernel_rfl) (by kernel_rfl) (by rfl)) EV_int (by rfl) (by rfl)) trivial
      (fun k ys σ'' => σ'' = σ' ∧ ys = (List.range k).map fun k => .int (gi ws (2 * (1 + (i : Int)) - 1 + k)) 0) ⟨rfl, rfl⟩ ?_ ?_ (by decide) (by rfl) ?_ ?_))
    · rintro Cc k ys σ'' u' hk hu' _ ⟨rfl, rfl⟩
      refine ⟨[("k", nv u')], Tgt.name (by rfl) (by rfl), fun x v hx => fs_one hx (by rfl), TIfs_nil ?_⟩
      rw [if_pos rfl, hu']
      refine (ev_read (i := 2 * (1 + (i : Int)) - 1 + (0 + (k : Int))) hL hI hn (by omega) (by omega) (EV_cell (by rfl) (by rfl)) (EV_cell (by rfl) (by rfl)) (EV_built (v := .builtin "len") (by rw [hK]; kernel_rfl) (by kernel_rfl) (by rfl)) ?_ ?_ (by intro _ _; with_unfolding_all rfl) (by rfl) (by rfl) (by with_unfolding_all rfl)).te ?_
      · exact EV_add (EV_sub (EV_mul EV_int (EV_cell (by rfl) (by rfl)) (.of_left (by decide))) EV_int) (EV_loc (by rfl) (by rfl))
      · exact EV_add (EV_sub (EV_mul EV_int (EV_cell (by rfl) (by rfl)) (.of_left (by decide))) EV_int) (EV_loc (by rfl) (by rfl))
      · refine ⟨trivial, rfl, ?_⟩
        rw [List.range_succ, List.map_append]; simp
    · rintro ys σ'' D _ ⟨rfl, rfl⟩ hD u' hu'
      obtain rfl := nv_to_ref hu'
      refine TS_tupL hh (put_same ..) (by rfl) (by rfl) ?_
      refine TIn.cons fun u1 hu1 => TS_name (.inl (by rfl)) (TIn.cons fun u2 hu2 => TS_name (.inl (by rfl)) (TIn.nil ?_))
      have e1 : nv u1 = .int (gi ws (2 * ((i + 1 : Nat) : Int) - 1)) 0 := hu1.trans (by show Value.int (gi ws (2 * (1 + (i : Int)) - 1 + ((0 : Nat) : Int))) 0 = _; congr 2; push_cast; omega)
      have e2 : nv u2 = .int (gi ws (2 * ((i + 1 : Nat) : Int))) 0 := hu2.trans (by show Value.int (gi ws (2 * (1 + (i : Int)) - 1 + ((1 : Nat) : Int))) 0 = _; congr 2; push_cast; omega)
      have e3 : Value.int (1 + (i : Int)) 0 = .int ((i + 1 : Nat) : Int) 0 := by congr 1; push_cast; omega
      have hps := hps.sub (Sub.put (o := .list ((List.range 2).map fun k : Nat => .int (gi ws (2 * (1 + (i : Int)) - 1 + (k : Int))) 0)) hD)
      refine Ext.pre (m₀ := mL2 M pl lst (gi ws (2 * ((i + 1 : Nat) : Int))) (gi ws (2 * ((i + 1 : Nat) : Int) - 1)) ((i + 1 : Nat) : Int))
        (.add (by show some (nv u2) = _; rw [e2]) (.add (by show some (nv u1) = _; rw [e1]) (.add (by show some (Value.int (1 + (i : Int)) 0) = _; rw [e3]) (.add (by rfl) (.add (by rfl) (.add (by rfl) .nil)))))) ?_
      have hj : ((i + 1 : Nat) : Int) = ((cs.length + 1 : Nat) : Int) := by rw [hlen]
      have hj0 : 0 ≤ ((i + 1 : Nat) : Int) ∧ ((i + 1 : Nat) : Int) < 100 := by constructor <;> omega
      generalize ((i + 1 : Nat) : Int) = jv at hj hj0 ⊢
      generalize σ''.put D _ = σ1 at hps ⊢
      generalize gi ws (2 * jv - 1) = pv
      generalize gi ws (2 * jv) = qv
      obtain ⟨p0, p1⟩ := fmod_range (a := pv) (b := 4) (by decide)
      obtain ⟨p2, p3⟩ := fmod_range (a := pv.fdiv 4) (b := 4) (by decide)
      refine TXs_cons (TX_assign (.inl (by rfl)) (TE_call (f := .ref 160) (EV_glob (v := .ref 160) (by rw [hK]; kernel_rfl) (by rfl)) nv_fix_ref (by rw [hK]; kernel_rfl) rfl
        (TAs_cons ((EV_cell (by rfl) (by rfl)).te (TAs_cons (TE_call (f := .ref 87) (EV_glob (v := .ref 87) (by rw [hK]; kernel_rfl) (by rfl)) nv_fix_ref (by rw [hK]; kernel_rfl) rfl
          (TAs_cons ((EV_item (v := .str ⟨#[abcd.cps.getD (pv.fmod 4).toNat 0]⟩ 0) EV_str (EV_mod (EV_loc (by rfl) (by rfl)) EV_int (by decide)) ?_).te (TAs_nil (name_make hK hA5 fun na hna => ?_))))))))))
      · have := Itm.str (C := C) (A := A) (σ := σ1) (x := abcd) (i := (pv.fmod 4).toNat) (by omega) (abcd_at pv)
        rw [Int.toNat_of_nonneg p0] at this
        exact this
      refine TAs_cons (TE_call (f := .ref 87) (EV_glob (v := .ref 87) (by rw [hK]; kernel_rfl) (by rfl)) nv_fix_ref (by rw [hK]; kernel_rfl) rfl (TAs_cons ((EV_item (v := .str ⟨#[abcd.cps.getD ((pv.fdiv 4).fmod 4).toNat 0]⟩ 0) EV_str (EV_mod (EV_fdiv (EV_loc (by rfl) (by rfl)) EV_int (by decide) (by decide)) EV_int (by decide)) ?_).te (TAs_nil (name_make hK hA5 fun nz hnz => ?_)))))
      · have := Itm.str (C := C) (A := A) (σ := σ1.put na (.inst 87 (nameFs ⟨#[abcd.cps.getD (pv.fmod 4).toNat 0]⟩))) (x := abcd) (i := ((pv.fdiv 4).fmod 4).toNat) (by omega) (abcd_at _)
        rw [Int.toNat_of_nonneg p2] at this
        exact this
      refine TAs_cons (TE_call (f := .ref 108) (EV_glob (v := .ref 108) (by rw [hK]; kernel_rfl) (by rfl)) nv_fix_ref (by rw [hK]; kernel_rfl) rfl (TAs_cons ((EV_add EV_int (EV_cell (by rfl) (by rfl))).te (TAs_nil (key_make hK hA5 (by omega) (by omega) fun ka hka => ?_)))))
      refine TAs_cons (EV_int.te (TAs_nil (cert_make hK hA5 fun c ce hc => ?_)))
      generalize hsu : (⟨#[abcd.cps.getD (pv.fmod 4).toNat 0]⟩ : Str) = su at *
      generalize hsi : (⟨#[abcd.cps.getD ((pv.fdiv 4).fmod 4).toNat 0]⟩ : Str) = si at *
      have k1 := Sub.put (o := .inst 87 (nameFs su)) hna
      have rna := put_same σ1 na (.inst 87 (nameFs su))
      generalize σ1.put na (.inst 87 (nameFs su)) = σ2 at k1 rna hnz hka hc ⊢
      have k2 := k1.trans (Sub.put (o := .inst 87 (nameFs si)) hnz)
      have rna := put_new (o := .inst 87 (nameFs si)) rna hnz
      have rnz := put_same σ2 nz (.inst 87 (nameFs si))
      generalize σ2.put nz (.inst 87 (nameFs si)) = σ3 at k2 rna rnz hka hc ⊢
      have k3 := k2.trans (Sub.put (o := .inst 108 (keyFs (100 + jv))) hka)
      have rna := put_new (o := .inst 108 (keyFs (100 + jv))) rna hka
      have rnz := put_new (o := .inst 108 (keyFs (100 + jv))) rnz hka
      generalize σ3.put ka (.inst 108 (keyFs (100 + jv))) = σ4 at k3 rna rnz hc ⊢
      have nc : σ1 c = none := by
        cases z : σ1 c with
        | none => rfl
        | some o => rw [k3 _ _ z] at hc; cases hc
      have k4 := k3.trans (Sub.put (o := .inst 160 (certFs jv (.ref na) (.ref nz) (.ref ka) (.int 0 0) (.ref ce))) hc)
      have rna := put_new (o := .inst 160 (certFs jv (.ref na) (.ref nz) (.ref ka) (.int 0 0) (.ref ce))) rna hc
      have rnz := put_new (o := .inst 160 (certFs jv (.ref na) (.ref nz) (.ref ka) (.int 0 0) (.ref ce))) rnz hc
      have rc := put_same σ4 c (.inst 160 (certFs jv (.ref na) (.ref nz) (.ref ka) (.int 0 0) (.ref ce)))
      generalize σ4.put c (.inst 160 (certFs jv (.ref na) (.ref nz) (.ref ka) (.int 0 0) (.ref ce))) = σ5 at k4 rna rnz rc ⊢
      have oc : Okc ⟨su, si, jv, none, none, none, jv⟩ := ⟨by rw [← hsu]; exact abcd_ok _, by rw [← hsi]; exact abcd_ok _, (fun x q => by cases q), (fun x q => by cases q), (fun p q => by cases q)⟩
      have hcr : Crl σ5 c ⟨su, si, jv, none, none, none, jv⟩ 30 := ⟨⟨_, na, nz, .none, rc, by rfl, rna, by rfl, by rfl, rnz, by rfl, by rfl, by rfl, by rfl, rfl, by rfl⟩, fun fs e => by rw [rc] at e; cases e; simp [certFs]⟩
      obtain ⟨kid, hkid, okid⟩ := kid4 (pv.fdiv 16)
      obtain ⟨aki, haki, oaki⟩ := kid4 (pv.fdiv 64)
      obtain ⟨p4, p5⟩ := fmod_range (a := pv.fdiv 16) (b := 4) (by decide)
      obtain ⟨p6, p7⟩ := fmod_range (a := pv.fdiv 64) (b := 4) (by decide)
      clear hna hnz hka hc rna rnz
      refine TXs_cons (TX_assignT (TE_tup (TAs_cons (TE_item (TE_list (TAs_cons (EV_none.te (TAs_cons (EV_none.te (TAs_cons (EV_bytes.te (TAs_cons (EV_bytes.te (TAs_nil
        ⟨(show (4 : Nat) ≤ sizeLine by decide), fun D2 hD2 => ⟨.int ((pv.fdiv 16).fmod 4) 0, kidV kid, EV_mod (EV_fdiv (EV_loc (by rfl) (by rfl)) EV_int (by decide) (by decide)) EV_int (by decide), Itm.list (put_same ..) p4 (by omega) hkid,
          TAs_cons (TE_item (TE_list (TAs_cons (EV_none.te (TAs_cons (EV_none.te (TAs_cons (EV_bytes.te (TAs_cons (EV_bytes.te (TAs_nil
            ⟨(show (4 : Nat) ≤ sizeLine by decide), fun D3 hD3 => ⟨.int ((pv.fdiv 64).fmod 4) 0, kidV aki, EV_mod (EV_fdiv (EV_loc (by rfl) (by rfl)) EV_int (by decide) (by decide)) EV_int (by decide), Itm.list (put_same ..) p6 (by omega) haki,
              TAs_nil ⟨(show (2 : Nat) ≤ sizeLine by decide), fun T hT u hu => ?_⟩⟩⟩)))))))))))⟩⟩))))))))))))))
      obtain rfl := nv_to_ref hu
      have x1 := (Sub.put (o := .list kids) hD2).trans ((Sub.put (o := .list kids) hD3).trans (Sub.put (o := .tup [kidV kid, kidV aki]) hT))
      have rT := put_same ((σ5.put D2 (.list kids)).put D3 (.list kids)) T (.tup [kidV kid, kidV aki])
      have k5 := k4.trans x1
      have rc5 := x1 _ _ rc
      have hcr5 := hcr.sub x1
      change TS C A _ _ _ _ (((σ5.put D2 (.list kids)).put D3 (.list kids)).put T (.tup [kidV kid, kidV aki])) _
      generalize ((σ5.put D2 (.list kids)).put D3 (.list kids)).put T (.tup [kidV kid, kidV aki]) = σ6 at rT k5 rc5 hcr5 ⊢
      have hcr6 := hcr5.kid rc5 kid
      have hcr7 := hcr6.aki (put_same ..) aki
      refine TS_tupT hh rT (by rfl) (by rfl) (TIn.cons fun u1 h1 => TS_attr (EV_loc (by rfl) (by rfl)) rc5 (by rw [hK]; kernel_rfl) (by simp [certFs]) (TIn.cons fun u2 h2 => TS_attr (EV_loc (by rfl) (by rfl)) (put_same ..) (by rw [hK]; kernel_rfl) (by simp [certFs]) (TIn.nil ?_)))
      rw [h1, h2]
      have k7 : Sub σ1 ((σ6.put c (.inst 160 (("key_identifier", kidV kid) :: certFs jv (.ref na) (.ref nz) (.ref ka) (.int 0 0) (.ref ce)))).put c (.inst 160 (("authority_key_identifier", kidV aki) :: ("key_identifier", kidV kid) :: certFs jv (.ref na) (.ref nz) (.ref ka) (.int 0 0) (.ref ce)))) := fun b o e => by
        have hbc := ne_of_new e nc
        rw [put_ne hbc, put_ne hbc]; exact k5 _ _ e
      have oc7 : Okc { (⟨su, si, jv, none, none, none, jv⟩ : CI) with kid := kid, aki := aki } := ⟨oc.su, oc.is, okid, oaki, fun p q => by cases q⟩
      have rc7 := put_same (σ6.put c (.inst 160 (("key_identifier", kidV kid) :: certFs jv (.ref na) (.ref nz) (.ref ka) (.int 0 0) (.ref ce)))) c (.inst 160 (("authority_key_identifier", kidV aki) :: ("key_identifier", kidV kid) :: certFs jv (.ref na) (.ref nz) (.ref ka) (.int 0 0) (.ref ce)))
      clear rc5 hcr5 hcr6 hcr k5 k4 rc
      generalize (σ6.put c (.inst 160 (("key_identifier", kidV kid) :: certFs jv (.ref na) (.ref nz) (.ref ka) (.int 0 0) (.ref ce)))).put c (.inst 160 (("authority_key_identifier", kidV aki) :: ("key_identifier", kidV kid) :: certFs jv (.ref na) (.ref nz) (.ref ka) (.int 0 0) (.ref ce))) = σ7 at k7 hcr7 rc7 ⊢
      have hm3 : ∀ {m₀ : Loc}, Ext (("cert", .ref c) :: mL2 M pl lst qv pv jv) m₀ → Ext (mL3 M pl lst c qv) m₀ := fun e x v hx => e x v (by
        by_cases q1 : x = "cert"
        · subst q1; exact hx
        · rw [lookup_cons_ne q1] at hx ⊢
          by_cases q2 : x = "q"
          · subst q2; exact hx
          · rw [lookup_cons_ne q2] at hx ⊢
            rw [lookup_cons_ne, lookup_cons_ne]
            · exact hx
            · rintro rfl; cases hx
            · rintro rfl; cases hx)
      refine Ext.pre (m₀ := mL3 M pl lst c qv) (hm3 Ext.refl) ?_
      clear hm3
      refine TXs_seq (fun m₁ σ₁ => Ext (mL3 M pl lst c qv) m₁ ∧ Sub σ1 σ₁ ∧ ∃ i8 : CI, Okc i8 ∧ i8.num = jv ∧ Crl σ₁ c i8 40)
        (TX_ifB (EB_cmp (EV_mod (EV_loc (by rfl) (by rfl)) EV_int (by decide)) EV_int (Cmp.eq_int _ _)) (fun hq => ?_) fun hq => TXs_nil ⟨Ext.refl, k7, _, oc7, rfl, hcr7.1, fun fs e => Nat.le_trans (hcr7.2 fs e) (by decide)⟩) ?_
      · refine TXs_cons (TX_setAttr (EV_int.te ⟨c, 160, _, EV_loc (by rfl) (by rfl), rc7, (by rw [hK]; kernel_rfl), Nat.le_trans (hcr7.2 _ rc7) (by decide), ?_⟩))
        have h8 := hcr7.ser rc7 1
        exact TXs_nil ⟨Ext.refl, fun b o e => by rw [put_ne (ne_of_new e nc)]; exact k7 _ _ e, { (⟨su, si, jv, none, none, none, jv⟩ : CI) with kid := kid, aki := aki, ser := 1 }, ⟨oc7.su, oc7.is, oc7.kid, oc7.aki, oc7.ais⟩, rfl, h8.1, fun fs e => Nat.le_trans (h8.2 fs e) (by decide)⟩
      rintro m₁ σ8 ⟨he8, k8, i8, oc8, n8, hcr8⟩
      refine he8.pre ?_
      have hps8 := hps.sub k8
      have hcl : cs.length ≤ 5 := by omega
      refine TXs_seq (fun m₁ σ₁ => Ext (mL3 M pl lst c qv) m₁ ∧ Sub σ1 σ₁ ∧ ∃ i9 : CI, Okc i9 ∧ i9.num = jv ∧ Crt σ₁ c i9)
        (TX_ifB (b := (!(refs cs).isEmpty) && (decide (1 < (qv.fdiv 8).fmod 4) && true)) (EB_and (EB_tru (EV_cell (by rfl) (by rfl)) (Tru.list hps8.l (by simp [refs]; omega))) fun _ => EB_and (EB_cmp (EV_mod (EV_fdiv (EV_loc (by rfl) (by rfl)) EV_int (by decide) (by decide)) EV_int (by decide)) EV_int (Cmp.gt_int _ _)) fun _ => EB_and_nil) (fun hq => ?_) fun hq => TXs_nil ⟨Ext.refl, k8, i8, oc8, n8, hcr8.1⟩) ?_
      · have hne : cs ≠ [] := by rintro rfl; cases hq
        have hlpos : 0 < (refs cs).length := by simp only [refs, List.length_map]; exact List.length_pos_iff.mpr hne
        obtain ⟨g0, g1⟩ := fmod_range (a := (qv.fdiv 8).fmod 4 - 2) (b := ((refs cs).length : Int)) (by omega)
        have hlen5 : (refs cs).length ≤ 5 := by simp only [refs, List.length_map]; exact hcl
        have hlt : (((qv.fdiv 8).fmod 4 - 2).fmod ((refs cs).length : Int)).toNat < cs.length := by
          have : (refs cs).length = cs.length := by simp [refs]
          omega
        obtain ⟨d, hd⟩ : ∃ d, cs[(((qv.fdiv 8).fmod 4 - 2).fmod ((refs cs).length : Int)).toNat]? = some d := ⟨_, List.getElem?_eq_getElem hlt⟩
        have hdm := List.mem_of_getElem? hd
        refine Crt.elim (hps8.crt d hdm) fun gs nd id' dv d1 d2 d3 d4 d5 d6 d7 d8 d9 d10 d11 => ?_
        obtain ⟨fs8, _, _, _, rc8, _⟩ := id hcr8.1
        refine TXs_cons (TX_assign (.inl (by rfl)) ((EV_item (EV_cell (by rfl) (by rfl)) (EV_mod (EV_sub (EV_mod (EV_fdiv (EV_loc (by rfl) (by rfl)) EV_int (by decide) (by decide)) EV_int (by decide)) EV_int) (EV_call fun Q q => TE_bcall (EV_built (v := .builtin "len") (by rw [hK]; kernel_rfl) (by kernel_rfl) (by rfl)) (TAs_cons ((EV_cell (by rfl) (by rfl)).te (TAs_nil (call_len hps8.l (by omega) q))))) (by omega)) (Itm.list (v := .ref d) hps8.l g0 (by omega) (by simp only [refs, List.getElem?_map]; rw [show (List.map Value.ref cs).length = (refs cs).length from rfl, hd]; rfl))).te ?_))
        refine TXs_cons (TX_setAttr (TE_tup (TAs_cons ((EV_attr (EV_attr (EV_loc (by rfl) (by rfl)) d1 d4 (by rw [hK]; kernel_rfl)) d6 (by rfl) (by rw [hK]; kernel_rfl)).te (TAs_cons ((EV_attr (EV_loc (by rfl) (by rfl)) d1 d8 (by rw [hK]; kernel_rfl)).te (TAs_nil ⟨(show (2 : Nat) ≤ sizeLine by decide), fun T hT => ⟨c, 160, fs8, EV_loc (by rfl) (by rfl), put_new rc8 hT, (by rw [hK]; kernel_rfl), Nat.le_trans (hcr8.2 _ rc8) (by decide), ?_⟩⟩)))))))
        have h9 := (hcr8.sub (Sub.put (o := .tup [.str (I d).is 0, .int (I d).ser 0]) hT)).ais (put_new rc8 hT) (t := T) (p := ((I d).is, (I d).ser)) (put_same ..)
        refine TXs_nil ⟨.add (by rfl) (.add (by rfl) (.add (by rfl) (.add (by rfl) (.add (by rfl) .nil)))), fun b o e => ?_, { i8 with ais := some ((I d).is, (I d).ser) }, ⟨oc8.su, oc8.is, oc8.kid, oc8.aki, fun p q => by cases q; exact (hps8.ok d).is⟩, n8, h9.1⟩
        rw [put_ne (ne_of_new e nc)]; exact put_new (k8 _ _ e) hT
      rintro m₂ σ9 ⟨he9, k9, i9, oc9, n9, hcr9⟩
      refine he9.pre ?_
      have hps9 := hps.sub k9
      have hni : ∀ b, InTup σ9 b → ¬ b = pl := fun b hb => by
        rcases hb with ⟨K, fs, hb⟩ | ⟨xs, hb⟩
        · exact ne_of_ao hb hps9.l (by intro z; cases z)
        · exact ne_of_ao hb hps9.l (by intro z; cases z)
      have hcn : c ∉ cs := fun h => by
        obtain ⟨fs, _, _, _, e, _⟩ := hps.crt c h
        rw [nc] at e; cases e
      have kpl : Kps σ9 (σ9.put pl (.list (refs cs ++ [.ref c]))) (fun a => a = pl) := Kps.put (.inl rfl)
      refine TXs_cons (TX_expr (TE_bmeth (ao := .list _) (EV_cell (by rfl) (by rfl)) hps9.l rfl PySem.F.plainAttrs_list PySem.F.slot_list_append PySem.F.type_list_append
        (TAs_cons ((EV_loc (by rfl) (by rfl)).te (TAs_nil (call_append hps9.l (Nat.le_trans (by simp [refs]; omega) (show 900 ≤ sizeLine by decide)) ?_))))))
      refine TXs_nil ⟨trivial, .add (by rfl) (.add (by rfl) (.add (by rfl) .nil)), cs ++ [c], fun a => if a = c then i9 else I a, ⟨by rw [put_same]; simp [refs], ?_, fun b hb => ?_, fun b => ?_, fun k b hb => ?_⟩, by simp [hlen]⟩
      · rw [List.nodup_append]
        refine ⟨hps9.nd, by simp, fun a ha b hb hab => ?_⟩
        rw [hab] at ha
        rw [List.mem_singleton] at hb
        rw [hb] at ha
        exact hcn ha
      · by_cases z : b = c
        · rw [if_pos z, z]; exact hcr9.kp kpl hni
        · rw [if_neg z]
          rcases List.mem_append.mp hb with h | h
          · exact (hps9.crt b h).kp kpl hni
          · exact absurd (by simpa using h) z
      · by_cases z : b = c
        · rw [if_pos z]; exact oc9
        · rw [if_neg z]; exact hps9.ok b
      · by_cases hk : k < cs.length
        · rw [List.getElem?_append_left hk] at hb
          have : ¬ b = c := by rintro rfl; exact hcn (List.mem_of_getElem? hb)
          rw [if_neg this]; exact hps9.num k b hb
        · rw [List.getElem?_append_right (by omega)] at hb
          have hk0 : k - cs.length = 0 := by
            have := (List.getElem?_eq_some_iff.mp hb).1
            simp at this; omega
          rw [hk0] at hb
          obtain rfl : c = b := by simpa using hb
          rw [if_pos rfl, n9, hj]
          congr 2; omega
    · exact cl_cons (by rfl) (cl_cons (by rfl) cl_nil)
    · exact mc_cons (fun _ => by rfl) (by rfl) (by rfl) (by rfl) (mc_cons (fun _ => by rfl) (by rfl) (by rfl) (by rfl) mc_nil)
  · rintro m' σ' ⟨he, cs, I, hps, hl⟩
    exact h m' σ' cs I he hps hl
end
end J
end

section
open PySem PySem.W PySem.Calls PyProof.Rows
set_option Elab.async false
set_option linter.unusedVariables false
set_option maxRecDepth 100000
namespace J
abbrev mK (M : Nat) (pl lst : Addr) (mu al : Int) : Loc := [("asked", .int al 0), ("marks", .int mu 0), ("many", .int M 0), ("pool", .ref pl), ("script", .ref lst)]
abbrev mR (M : Nat) (pl lst rt ot : Addr) (mu al : Int) : Loc := [("roots", .ref rt), ("others", .ref ot), ("asked", .int al 0), ("marks", .int mu 0), ("many", .int M 0), ("pool", .ref pl), ("script", .ref lst)]
section
variable {C : Cx} {A : Around} {env : Env} {m : Loc} {σ σ₀ σ' : Ab} {s s₀ s' : Shared} {P : Params}
/-- script[i] if len(script) > i else v -/
theorem ev_at {lst : Addr} {vs : List Value} {ws : List Int} (hL : C.h₀.IsList lst vs.toArray) (hI : IntsAre vs ws) (hn : ws.length ≤ 63) {e : Expr} {i : Nat} {v : Int} (hi : i < 1000)
    {x : Str} {px py p1 p2 p3 p4 p5 p6 p7 : Pos} {kk k2 : Nat} (hx : EV C A env m σ (.Name x px) (.ref lst)) (hx' : EV C A env m σ (.Name x py) (.ref lst)) (hlen : EV C A env m σ (.Name "len" p3) (.builtin "len")) (he : EV C A env m σ e (.int v 0))
    (hst : starEach [.Name x py] env = (false, eval (.Name x py) env) :: starEach [] env) (hst0 : (backTo p4 (starEach [] env)).any (·.1) = false) :
    EV C A env m σ (.IfExp (.Compare (.Call (.Name "len" p3) [.Name x py] [] p4) [.Gt] [.Constant (.int (i : Int)) kk p2] p5) (.Subscript (.Name x px) (.Constant (.int (i : Int)) k2 p7) p1) e p6) (.int (if (i : Int) < ws.length then gi ws i else v) 0) := by
  have hz := ints_size hI
  refine EV_if (c := decide ((i : Int) < ws.length)) (EB_cmp (EV_call fun Q q => TE_bcall hlen (TAs_cons (hx'.te (TAs_nil (call_len0 (n := ws.length) hL (by simpa using hz) (by omega) q))) hst) hst hst0) EV_int (Cmp.gt_int _ _)) (fun hq => ?_) fun hq => ?_
  · have hq : (i : Int) < ws.length := of_decide_eq_true hq
    rw [if_pos hq]
    obtain ⟨u, hu, hv⟩ := ints_get hI (i := ((i : Int)).toNat) (by omega)
    exact EV_item hx EV_int (Itm.list0 hL (by omega) (by omega) (by simpa using hu) hv)
  · have hq : ¬ (i : Int) < ws.length := of_decide_eq_false hq
    rw [if_neg hq]; exact he
/-- marks, asked -/
theorem seg2 (hK : C.K = Mine.hd.heap_39 P) (hh : A.handled = none) {oc : Value} {od : Option Addr} {fd : FuncData} {osl : Array (Option Value)} {body : List Stmt} (hf : C.K.lookup 397 = some ⟨oc, od, .func fd, osl⟩) (hb : fd.body = .stmts body) {nm : Str} {L fa : Addr} {cd : Value} {Q : Flow → Loc → Ab → Prop}
    {lst : Addr} {vs : List Value} {ws : List Int} (hL : C.h₀.IsList lst vs.toArray) (hI : IntsAre vs ws) (hn : ws.length ≤ 63) {pl : Addr} {M : Nat} (hM1 : 1 ≤ M) (hm : Ext (mL M pl lst) m)
    (h : ∀ (σ' : Ab) (mu al : Int), 0 ≤ al → al < (M : Int) → Sub σ σ' → TXs C A (envOfC nm fd.scope L fa cd) (mK M pl lst mu al) (body.drop 3) σ' Q) : TXs C A (envOfC nm fd.scope L fa cd) m (body.drop 2) σ Q := by
  obtain rfl := same_fd hf (by rw [hK]; rfl)
  cases hb
  refine hm.pre ?_
  have hlen : ∀ {p : Pos} {m : Loc} {σ : Ab}, EV C A (envOfC nm (Mine.hd.scopeOf (Mine.hd.cell 19)) L fa cd) m σ (.Name "len" p) (.builtin "len") := EV_built (v := .builtin "len") (by rw [hK]; kernel_rfl) (by kernel_rfl) (by rfl)
  refine TXs_cons (TX_assignT (TE_tup (TAs_cons ((ev_at (i := 13) hL hI hn (by decide) (EV_cell (by rfl) (by rfl)) (EV_cell (by rfl) (by rfl)) hlen EV_int (by rfl) (by rfl)).te
    (TAs_cons ((EV_mod (ev_at (i := 14) hL hI hn (by decide) (EV_cell (by rfl) (by rfl)) (EV_cell (by rfl) (by rfl)) hlen (EV_sub (EV_loc (by rfl) (by rfl)) EV_int) (by rfl) (by rfl)) (EV_loc (by rfl) (by rfl)) (by omega)).te (TAs_nil ⟨(show (2 : Nat) ≤ sizeLine by decide), fun T hT u hu => ?_⟩)))))))
  obtain rfl := nv_to_ref hu
  refine TS_tupT hh (put_same ..) (by rfl) (by rfl) (TIn.cons fun u1 h1 => TS_name (.inr ⟨by rfl, _, by rfl⟩) (TIn.cons fun u2 h2 => TS_name (.inr ⟨by rfl, _, by rfl⟩) (TIn.nil ?_)))
  rw [h1, h2]
  generalize hv : (if ((14 : Nat) : Int) < ws.length then gi ws ((14 : Nat) : Int) else (M : Int) - 1) = v
  obtain ⟨g0, g1⟩ := fmod_range (a := v) (b := (M : Int)) (by omega)
  exact h _ _ _ g0 g1 (Sub.put hT)
/-- roots, others -/
theorem seg3 (hK : C.K = Mine.hd.heap_39 P) (hh : A.handled = none) {oc : Value} {od : Option Addr} {fd : FuncData} {osl : Array (Option Value)} {body : List Stmt} (hf : C.K.lookup 397 = some ⟨oc, od, .func fd, osl⟩) (hb : fd.body = .stmts body) {nm : Str} {L fa : Addr} {cd : Value} {Q : Flow → Loc → Ab → Prop}
    {lst pl : Addr} {M : Nat} {mu al : Int} {cs : List Addr} {I : Addr → CI} (hM5 : M ≤ 5) (hp : Pool σ pl cs I) (hl : cs.length = M) (h0 : 0 ≤ al) (h1 : al < (M : Int)) {a : Addr} (ha : cs[al.toNat]? = some a)
    (h : ∀ σ' rt ot (k : Nat) (f : Addr → Bool), (∀ b, b ≠ a → f b = true) → Sub σ σ' → σ' rt = some (.list (refs (cs.take k))) → σ' ot = some (.list (refs ((cs.drop k).filter f))) → TXs C A (envOfC nm fd.scope L fa cd) (mR M pl lst rt ot mu al) (body.drop 4) σ' Q) :
    TXs C A (envOfC nm fd.scope L fa cd) (mK M pl lst mu al) (body.drop 3) σ Q := by
  obtain rfl := same_fd hf (by rw [hK]; rfl)
  cases hb
  obtain ⟨k0, k1⟩ := fmod_range (a := mu) (b := 4) (by decide)
  obtain ⟨k, hk⟩ : ∃ k : Nat, mu.fmod 4 = (k : Int) := ⟨(mu.fmod 4).toNat, (Int.toNat_of_nonneg k0).symm⟩
  have hkk : ∀ {m : Loc} {σ : Ab} {env : Env} {p1 p3 p4 : Pos} {kk : Nat}, EV C A env m σ (.Name "marks" p1) (.int mu 0) → EV C A env m σ (.BinOp (.Name "marks" p1) .Mod (.Constant (.int 4) kk p3) p4) (.int (k : Int) 0) := fun h => hk ▸ EV_mod h EV_int (by decide)
  have hcs : ∀ b ∈ cs, ∃ fs, σ b = some (.inst 160 fs) := fun b hb => by obtain ⟨fs, _, _, _, e, _⟩ := hp.crt b hb; exact ⟨fs, e⟩
  have ham := List.mem_of_getElem? ha
  refine TXs_cons (TX_swap2 (x := "roots") (y := "others") hh (.inl (by rfl)) (.inl (by rfl)) (TE_tup (TAs_cons (TE_sliceTo (i := k) (EV_cell (by rfl) (by rfl)) hp.l (by simp [refs]; omega) (hkk (EV_cell (by rfl) (by rfl))) fun rt hrt =>
    TAs_cons (TE_compL (cl := [("pool", L + 2), ("marks", L + 4), ("asked", L + 5)]) (mc := [("pool", .ref pl), ("marks", .int mu 0), ("asked", .int al 0)]) hh (TE_sliceFrom (i := k) (EV_cell (by rfl) (by rfl)) (put_new hp.l hrt) (by simp [refs]; omega) (hkk (EV_cell (by rfl) (by rfl))) fun D hD => ?_) ?_ ?_ ?_)))))
  · have x1 := (Sub.put (o := .list ((refs cs).take k)) hrt).trans (Sub.put (o := .list ((refs cs).drop k)) hD)
    have rr : ((σ.put rt (.list ((refs cs).take k))).put D (.list ((refs cs).drop k))) rt = some (.list (refs (cs.take k))) := by
      rw [put_new (put_same ..) hD]; simp [refs]
    have rD : ((σ.put rt (.list ((refs cs).take k))).put D (.list ((refs cs).drop k))) D = some (.list (refs (cs.drop k))) := by
      rw [put_same]; simp [refs]
    generalize (σ.put rt (.list ((refs cs).take k))).put D (.list ((refs cs).drop k)) = σ1 at x1 rr rD ⊢
    refine ⟨D, refs (cs.drop k), rfl, rD, ?_, (fun j ys σ' => σ' = σ1 ∧ ys = refs (((cs.drop k).take j).filter fun b => (!decide (b = a)) || (decide ((mu.fdiv 4).fmod 2 = 0) || false))), ⟨rfl, rfl⟩, ?_, ?_⟩
    · simp only [refs, List.length_map]
      exact Nat.le_trans (by rw [List.length_drop]; omega : (cs.drop k).length ≤ 5) (by decide)
    · rintro Cc j ys σ2 u hj hju hS ⟨rfl, rfl⟩
      obtain ⟨b, hbj, rfl⟩ := refs_get hj hju
      have hbm : b ∈ cs := List.mem_of_mem_drop (List.mem_of_getElem? hbj)
      have htk : (cs.drop k).take (j + 1) = (cs.drop k).take j ++ [b] := by rw [List.take_add_one, hbj]; rfl
      obtain ⟨fs, eb⟩ := hcs b hbm
      obtain ⟨fsa, ea⟩ := hcs a ham
      refine ⟨[("cert", .ref b)], Tgt.name (by rfl) (by rfl), fun x v hx => fs_one hx (by rfl), TIfs_one ((EB_or (EB_cmp (EV_loc (by rfl) (by rfl)) (EV_item (EV_cell (by rfl) (by rfl)) (EV_cell (by rfl) (by rfl)) (Itm.list (v := .ref a) (x1 _ _ hp.l) h0 (by omega) (by simp only [refs, List.getElem?_map]; rw [ha]; rfl))) (Cmp.isNot_refs (x1 _ _ eb) (x1 _ _ ea)))
        fun _ => EB_or (EB_cmp (EV_mod (EV_fdiv (EV_cell (by rfl) (by rfl)) EV_int (by decide) (by decide)) EV_int (by decide)) EV_int (Cmp.eq_int _ _)) fun _ => EB_or_nil).tb ?_)⟩
      cases z : ((!decide (b = a)) || (decide ((mu.fdiv 4).fmod 2 = 0) || false)) with
      | true =>
        rw [if_pos rfl]
        refine (EV_loc (by rfl) (by rfl)).te ⟨hS, rfl, ?_⟩
        rw [htk, List.filter_append, List.filter_cons, if_pos z]; simp [refs]
      | false =>
        rw [if_neg Bool.false_ne_true]
        refine ⟨hS, rfl, ?_⟩
        rw [htk, List.filter_append, List.filter_cons, if_neg (by rw [z]; exact Bool.false_ne_true)]; simp [refs]
    · rintro ys σ2 D2 hS ⟨rfl, rfl⟩ hD2
      have e6 : (cs.drop k).take (refs (cs.drop k)).length = cs.drop k := List.take_of_length_le (by simp [refs])
      rw [e6]
      refine TAs_nil ⟨(show (2 : Nat) ≤ sizeLine by decide), fun T hT => ⟨T, .ref rt, .ref D2, rfl, put_same .., ?_⟩⟩
      have x2 := (Sub.put (o := .list (refs ((cs.drop k).filter fun b => (!decide (b = a)) || (decide ((mu.fdiv 4).fmod 2 = 0) || false)))) hD2).trans (Sub.put (o := .tup [.ref rt, .ref D2]) hT)
      exact h _ rt D2 k (fun b => (!decide (b = a)) || (decide ((mu.fdiv 4).fmod 2 = 0) || false)) (fun b hb => by simp [hb]) (x1.trans x2) (x2 _ _ rr) (put_new (put_same ..) hT)
  · rfl
  · exact cl_cons (by rfl) (cl_cons (by rfl) (cl_cons (by rfl) cl_nil))
  · exact mc_cons (fun _ => by rfl) (by rfl) (by rfl) (by rfl) (mc_cons (fun _ => by rfl) (by rfl) (by rfl) (by rfl) (mc_cons (fun _ => by rfl) (by rfl) (by rfl) (by rfl) mc_nil))
end
end J
end

section
open PySem PySem.W PySem.Calls PyProof.Rows
set_option Elab.async false
set_option linter.unusedVariables false
set_option maxRecDepth 100000
namespace J
section
variable {I : Addr → CI} {K Rs cs : List Addr} {a : Addr}
theorem pth_mem : ∀ (n : Nat) (ch : List Addr), ∀ c ∈ pth I K Rs n ch, (∀ b ∈ c, b ∈ ch ∨ b ∈ K) ∧ c.length ≤ ch.length + n
  | 0, _, c, h => by simp [pth] at h
  | _ + 1, [], c, h => by simp [pth] at h
  | n + 1, a :: r, c, h => by
    rw [pth] at h
    split at h
    · obtain rfl : c = a :: r := by simpa using h
      exact ⟨fun b hb => .inl hb, by simp⟩
    · obtain ⟨b, hb, hc⟩ := List.mem_flatMap.mp h
      have hbK : b ∈ K := (List.mem_filter.mp hb).1
      split at hc
      · cases hc
      · obtain ⟨h1, h2⟩ := pth_mem n (b :: a :: r) c hc
        refine ⟨fun x hx => ?_, by simp at h2 ⊢; omega⟩
        rcases h1 x hx with h | h
        · rcases List.mem_cons.mp h with rfl | h
          · exact .inr hbK
          · exact .inl h
        · exact .inr h
theorem ms_pool {f : Addr → Bool} {k : Nat} (hl : cs.length ≤ 5) (ha : a ∈ cs) : ms I (cs.take k ++ (cs.drop k).filter f) [a] ≤ 4 := by
  have hs : (cs.take k ++ (cs.drop k).filter f).Sublist cs := by
    have := (List.Sublist.refl (cs.take k)).append (List.filter_sublist (l := cs.drop k) (p := f))
    rwa [List.take_append_drop] at this
  have h1 : ms I (cs.take k ++ (cs.drop k).filter f) [a] ≤ (cs.filter fun b => !dup I [a] b).length := (hs.filter _).length_le
  have h2 : (cs.filter fun b => !dup I [a] b).length < cs.length := by
    refine Nat.lt_of_le_of_ne (List.length_filter_le _ _) fun q => ?_
    have := (List.length_filter_eq_length_iff.mp q) a ha
    simp [dup] at this
  omega
end
section
variable {C : Cx} {A : Around} {env : Env} {m : Loc} {σ σ₀ σ' : Ab} {s s₀ s' : Shared} {P : Params}
theorem Pool.inj {pl : Addr} {cs : List Addr} {I : Addr → CI} (h : Pool σ pl cs I) {a b : Addr} (ha : a ∈ cs) (hb : b ∈ cs) (e : (I a).num = (I b).num) : a = b := by
  obtain ⟨i, hi, rfl⟩ := List.getElem_of_mem ha
  obtain ⟨j, hj, rfl⟩ := List.getElem_of_mem hb
  have h1 := h.num i _ (List.getElem?_eq_getElem hi)
  have h2 := h.num j _ (List.getElem?_eq_getElem hj)
  rw [h1, h2] at e
  have : i = j := by omega
  subst this; rfl
abbrev mG (M : Nat) (pl lst rt ot r : Addr) (mu al : Int) : Loc := [("registry", .ref r), ("roots", .ref rt), ("others", .ref ot), ("asked", .int al 0), ("marks", .int mu 0), ("many", .int M 0), ("pool", .ref pl), ("script", .ref lst)]
/-- the registry -/
theorem seg4 (hK : C.K = Mine.hd.heap_39 P) (hA : A.depth + 12 < recursionLimit) (hh : A.handled = none) {oc : Value} {od : Option Addr} {fd : FuncData} {osl : Array (Option Value)} {body : List Stmt} (hf : C.K.lookup 397 = some ⟨oc, od, .func fd, osl⟩) (hb : fd.body = .stmts body) {nm : Str} {L fa : Addr} {cd : Value} {Q : Flow → Loc → Ab → Prop}
    {lst pl rt ot : Addr} {M : Nat} {mu al : Int} {cs Rs Os : List Addr} {I : Addr → CI} (hp : Pool σ pl cs I) (hl : cs.length ≤ 5) (hR : ∀ b ∈ Rs, b ∈ cs) (hO : ∀ b ∈ Os, b ∈ cs) (hRl : Rs.length + Os.length ≤ 5) (hrt : σ rt = some (.list (refs Rs))) (hot : σ ot = some (.list (refs Os)))
    (h : ∀ σ' r, Sub σ σ' → Sta σ' I (Rs ++ Os) Rs (· ∈ cs) r → TXs C A (envOfC nm fd.scope L fa cd) (mG M pl lst rt ot r mu al) (body.drop 5) σ' Q) :
    TXs C A (envOfC nm fd.scope L fa cd) (mR M pl lst rt ot mu al) (body.drop 4) σ Q := by
  obtain rfl := same_fd hf (by rw [hK]; rfl)
  cases hb
  refine TXs_cons (TX_assign (.inl (by rfl)) (TE_call (f := .ref 383) (EV_glob (v := .ref 383) (by rw [hK]; kernel_rfl) (by rfl)) nv_fix_ref (by rw [hK]; kernel_rfl) rfl
    (TAs_cons (TE_sliceAll (EV_loc (by rfl) (by rfl)) hrt (by simp [refs]; omega) fun D hD => TAs_cons (EV_none.te (TAs_cons ((EV_loc (by rfl) (by rfl)).te (TAs_nil
      (reg_make hK (by omega) hh (I := I) (lr := Rs) (lo := Os) (by omega) (fun b hb => ((hp.crt b (by
        rcases List.mem_append.mp hb with h | h
        · exact hR b h
        · exact hO b h)).sub (Sub.put hD))) (fun b y hy => (hp.ok b).kid y hy) (put_same ..) (put_new hot hD) fun r ds dk dc σ' ns nk nc LF _ _ hG hk _ => ?_)))))))))
  have x : Sub σ σ' := (Sub.put hD).trans hk.sub
  refine h σ' r x ⟨⟨ds, dk, dc, ns, nk, nc, LF, _, _, hG, fun a ha => ?_⟩, fun a ha => (hp.crt a ha).sub x, fun a _ => hp.ok a, fun b hb => ?_⟩
  · unfold CO
    rw [Bool.eq_iff_iff, List.any_eq_true, decide_eq_true_iff]
    constructor
    · rintro ⟨b, hb, e⟩
      have e := of_decide_eq_true e
      rw [hp.inj ha (hR b hb) e.symm]; exact hb
    · intro h; exact ⟨a, h, by simp⟩
  · rcases List.mem_append.mp hb with h | h
    · exact hR b h
    · exact hO b h
theorem ChainsAt.get {ls : List Addr} {chs : List (List Addr)} (h : ChainsAt σ ls chs) : ∀ {i : Nat} {l : Addr}, ls[i]? = some l → ∃ ch, chs[i]? = some ch ∧ σ l = some (.list (refs ch)) := by
  induction h with
  | nil => intro i l h; simp at h
  | cons h _ ih =>
    intro i l hl
    cases i with
    | zero => rw [List.getElem?_cons_zero] at hl; cases hl; exact ⟨_, rfl, h⟩
    | succ j => rw [List.getElem?_cons_succ] at hl; obtain ⟨ch, h1, h2⟩ := ih hl; exact ⟨ch, h1, h2⟩
theorem PathsAt.get {pa fa : Addr} {I : Addr → CI} {ls : List Addr} {chs : List (List Addr)} (h : PathsAt σ I pa fa ls chs) : ∀ {i : Nat} {l : Addr}, ls[i]? = some l → ∃ ch lc hs, chs[i]? = some ch ∧ PathO σ I l ch lc hs := by
  induction h with
  | nil => intro i l h; simp at h
  | cons h _ _ _ ih =>
    intro i l hl
    cases i with
    | zero => rw [List.getElem?_cons_zero] at hl; cases hl; exact ⟨_, _, _, rfl, h⟩
    | succ j => rw [List.getElem?_cons_succ] at hl; obtain ⟨ch, lc, hs, h1, h2⟩ := ih hl; exact ⟨ch, lc, hs, h1, h2⟩
theorem IntsAt.sub {rs : List Value} {xss : List (List Int)} (h : IntsAt σ rs xss) (x : Sub σ σ') : IntsAt σ' rs xss := by
  induction h with
  | nil => exact .nil
  | cons h _ ih => exact .cons (x _ _ h) ih
theorem IntsAt.snoc {rs : List Value} {xss : List (List Int)} {a : Addr} {xs : List Int} (h : IntsAt σ rs xss) (ha : σ a = some (.list (iV xs))) : IntsAt σ (rs ++ [.ref a]) (xss ++ [xs]) := by
  induction h with
  | nil => exact .cons ha .nil
  | cons h _ ih => exact .cons h ih
def numsOf (I : Addr → CI) (ch : List Addr) : List Int := ch.map fun b => (I b).num
/-- [cert.signature for cert in (a list)] -/
theorem turn_sig (hK : C.K = Mine.hd.heap_39 P) {scope : Scope} {I : Addr → CI} {Sd : Ab → Prop} {res : List Addr} (hc : ∀ b ∈ res, Crt σ b (I b)) (hSd : ∀ σ', Sub σ σ' → Sd σ') (hfn : scope.kind = .function) (h1 : ∀ Cc, (compEnvC scope [] Cc env).kindOf "cert" = some .local) {p1 p2 p3 : Pos} :
    CTurn C A env scope [] [] (.Name "cert" p1) (.Attribute (.Name "cert" p2) "signature" p3) [] (refs res).length (fun i => (refs res).getD i .none) Sd
      (fun i ys σ' => Sub σ σ' ∧ ys = iV (numsOf I (res.take i))) := by
  rintro Cc i ys σ' u hi hu hS ⟨x, rfl⟩
  obtain ⟨b, hb, rfl⟩ := refs_get hi hu
  have hbm := List.mem_of_getElem? hb
  have htk : res.take (i + 1) = res.take i ++ [b] := by rw [List.take_add_one, hb]; rfl
  refine Crt.elim ((hc b hbm).sub x) fun gs nb ib bv d1 d2 d3 d4 d5 d6 d7 d8 d9 d10 d11 => ?_
  refine ⟨[("cert", .ref b)], Tgt.name hfn (h1 Cc), fun x v hx => fs_one hx (h1 Cc), TIfs_nil ?_⟩
  rw [if_pos rfl]
  refine (EV_attr (EV_loc (by rfl) (h1 Cc)) d1 d9 (by rw [hK]; kernel_rfl)).te ⟨hSd _ x, x, ?_⟩
  rw [htk]; simp [numsOf, iV]
end
end J
end

section
open PySem PySem.W PySem.Calls PyProof.Rows
set_option Elab.async false
set_option linter.unusedVariables false
set_option maxRecDepth 100000
namespace J
section
variable {C : Cx} {A : Around} {env : Env} {m : Loc} {σ σ₀ σ' : Ab} {s s₀ s' : Shared} {P : Params}
abbrev mD (M : Nat) (pl lst rt ot r du : Addr) (mu al : Int) : Loc := [("due", .ref du), ("registry", .ref r), ("roots", .ref rt), ("others", .ref ot), ("asked", .int al 0), ("marks", .int mu 0), ("many", .int M 0), ("pool", .ref pl), ("script", .ref lst)]
set_option maxHeartbeats 1000000 in
/-- due -/
theorem seg5 (hK : C.K = Mine.hd.heap_39 P) (hA : A.depth + 80 < recursionLimit) (hu : A.units + 500 < cLine) (hh : A.handled = none) {oc : Value} {od : Option Addr} {fd : FuncData} {osl : Array (Option Value)} {body : List Stmt} (hf : C.K.lookup 397 = some ⟨oc, od, .func fd, osl⟩) (hb : fd.body = .stmts body) {nm : Str} {L fa : Addr} {cd : Value} {Q : Flow → Loc → Ab → Prop}
    {lst pl rt ot r a : Addr} {M : Nat} {mu al : Int} {cs Rs Os : List Addr} {I : Addr → CI} (hp : Pool σ pl cs I) (hl : cs.length ≤ 5) (hR : ∀ b ∈ Rs, b ∈ cs) (hO : ∀ b ∈ Os, b ∈ cs) (hRl : Rs.length + Os.length ≤ 5) (hrt : σ rt = some (.list (refs Rs))) (hot : σ ot = some (.list (refs Os)))
    (h0 : 0 ≤ al) (h1 : al < 1000) (ha : cs[al.toNat]? = some a) (hms : ms I (Rs ++ Os) [a] ≤ 4)
    (h : ∀ σ' du, Sub σ σ' → DatInts σ' du ((pth I (Rs ++ Os) Rs 6 [a]).map (numsOf I)) → TXs C A (envOfC nm fd.scope L fa cd) (mD M pl lst rt ot r du mu al) (body.drop 6) σ' Q) :
    TXs C A (envOfC nm fd.scope L fa cd) (mG M pl lst rt ot r mu al) (body.drop 5) σ Q := by
  obtain rfl := same_fd hf (by rw [hK]; rfl)
  cases hb
  have ham := List.mem_of_getElem? ha
  have hKm : ∀ b ∈ Rs ++ Os, b ∈ cs := fun b hb => by
    rcases List.mem_append.mp hb with h | h
    · exact hR b h
    · exact hO b h
  refine TXs_cons (TX_assignCompL (cl := []) (mc := []) hh (by rfl) (TE_call (f := .ref 392) (EV_glob (v := .ref 392) (by rw [hK]; kernel_rfl) (by rfl)) nv_fix_ref (by rw [hK]; kernel_rfl) rfl
    (TAs_cons (TE_list (TAs_cons ((EV_item (EV_cell (by rfl) (by rfl)) (EV_cell (by rfl) (by rfl)) (Itm.list (v := .ref a) hp.l h0 (by omega) (by simp only [refs, List.getElem?_map]; rw [ha]; rfl))).te (TAs_nil ⟨(show (1 : Nat) ≤ sizeLine by decide), fun c hc =>
      TAs_cons ((EV_loc (by rfl) (by rfl)).te (TAs_cons (TE_catG ((EV_loc (by rfl) (by rfl)).te ((EV_loc (by rfl) (by rfl)).te ⟨rt, ot, refs Rs, refs Os, rfl, rfl, put_new hrt hc, put_new hot hc, by simp only [refs, List.length_map]; omega, fun kl hkl => TAs_nil ?_⟩))))) ⟩)))))) (by rfl) cl_nil mc_nil (by rfl))
  have x1 := (Sub.put (o := .list [.ref a]) hc).trans (Sub.put (o := .list (refs Rs ++ refs Os)) hkl)
  have rc : ((σ.put c (.list [.ref a])).put kl (.list (refs Rs ++ refs Os))) c = some (.list (refs [a])) := put_new (put_same ..) hkl
  have rk : ((σ.put c (.list [.ref a])).put kl (.list (refs Rs ++ refs Os))) kl = some (.list (refs (Rs ++ Os))) := by rw [put_same]; simp [refs]
  generalize (σ.put c (.list [.ref a])).put kl (.list (refs Rs ++ refs Os)) = σ1 at x1 rc rk ⊢
  refine chains hK (ρ := σ1) (Cs := (· ∈ cs)) (K := Rs ++ Os) (Rs := Rs) (I := I) (fun b hb => (hp.crt b hb).sub x1) (fun b _ => hp.ok b) hKm hR (x1 _ _ hrt) rk 6 A σ1 c [a] _ (by omega) (by omega) hh (by omega) (by simp) (fun b hb => by rw [List.mem_singleton] at hb; rw [hb]; exact ham) (by simp; omega) (Sub.refl _) rc fun D σ2 ls x2 rD hL => ?_
  have hlen := hL.len
  have hpl := pth_len (I := I) (K := Rs ++ Os) (Rs := Rs) 6 [a] hms
  have hp5 := pow_le hms
  have hmem : ∀ ch ∈ pth I (Rs ++ Os) Rs 6 [a], (∀ b ∈ ch, b ∈ cs) ∧ ch.length ≤ 7 := fun ch hch => by
    obtain ⟨h1, h2⟩ := pth_mem 6 [a] ch hch
    refine ⟨fun b hb => ?_, h2⟩
    rcases h1 b hb with h | h
    · rw [List.mem_singleton] at h; rw [h]; exact ham
    · exact hKm b h
  have x12 := x1.trans x2
  generalize pth I (Rs ++ Os) Rs 6 [a] = ps at hL hlen hpl hmem h ⊢
  refine ⟨D, refs ls, rfl, rD, by simp only [refs, List.length_map]; exact Nat.le_trans (by omega : ls.length ≤ 625) (by decide), (fun i ys σ' => Sub σ2 σ' ∧ IntsAt σ' ys ((ps.take i).map (numsOf I))), ⟨Sub.refl _, .nil⟩, ?_, ?_⟩
  · rintro Cc i ys σ3 u hi hiu hS ⟨x3, hY⟩
    obtain ⟨l, hli, rfl⟩ := refs_get hi hiu
    obtain ⟨ch, hch, rl⟩ := hL.get hli
    obtain ⟨hcm, hcl⟩ := hmem ch (List.mem_of_getElem? hch)
    have htk : ps.take (i + 1) = ps.take i ++ [ch] := by rw [List.take_add_one, hch]; rfl
    refine ⟨[("chain", .ref l)], Tgt.name (by rfl) (by rfl), fun x v hx => fs_one hx (by rfl), TIfs_nil ?_⟩
    rw [if_pos rfl]
    refine TE_compL (cl := []) (mc := []) hh ((EV_loc (by rfl) (by rfl)).te ⟨l, refs ch, rfl, x3 _ _ rl, by simp only [refs, List.length_map]; exact Nat.le_trans hcl (by decide), _, ⟨Sub.refl _, rfl⟩, turn_sig hK (σ := σ3) (fun b hb => ((hp.crt b (hcm b hb)).sub x12).sub x3) (fun σ' x => x _ _ (x3 _ _ rl)) (by rfl) (fun _ => by rfl), ?_⟩) (by rfl) cl_nil mc_nil
    rintro zs σ4 D4 hS4 ⟨x4, rfl⟩ hD4
    have e6 : ch.take (refs ch).length = ch := List.take_of_length_le (by simp [refs])
    rw [e6]
    have x5 := x4.trans (Sub.put (o := .list (iV (numsOf I ch))) hD4)
    refine ⟨x5 _ _ hS, x3.trans x5, ?_⟩
    rw [htk, List.map_append]
    exact (hY.sub x5).snoc (put_same ..)
  · rintro ys σ3 D3 hS ⟨x3, hY⟩ hD3
    have e6 : ps.take (refs ls).length = ps := List.take_of_length_le (by simp [refs, hlen])
    rw [e6] at hY
    have x4 := x3.trans (Sub.put (o := .list ys) hD3)
    exact h _ D3 (x12.trans x4) ⟨ys, put_same .., hY.sub (Sub.put hD3)⟩
end
end J
end

section
open PySem PySem.W PySem.Calls PyProof.Rows
set_option Elab.async false
set_option linter.unusedVariables false
set_option maxRecDepth 100000
namespace J
section
variable {C : Cx} {A : Around} {env : Env} {m : Loc} {σ σ₀ σ' : Ab} {s s₀ s' : Shared} {P : Params}
theorem DatInts.sub {l : Addr} {xss : List (List Int)} (h : DatInts σ l xss) (x : Sub σ σ') : DatInts σ' l xss := let ⟨rs, h1, h2⟩ := h; ⟨rs, x _ _ h1, h2.sub x⟩
theorem DatInts.new {D : Addr} : DatInts (σ.put D (.list [])) D [] := ⟨[], put_same .., .nil⟩
set_option maxHeartbeats 1000000 in
/-- the try, and the answer -/
theorem seg6 (hK : C.K = Mine.hd.heap_39 P) (hA : A.depth + 80 < recursionLimit) (hu : A.units + 500 < cLine) (hh : A.handled = none) {oc : Value} {od : Option Addr} {fd : FuncData} {osl : Array (Option Value)} {body : List Stmt} (hf : C.K.lookup 397 = some ⟨oc, od, .func fd, osl⟩) (hb : fd.body = .stmts body) {nm : Str} {L fa : Addr} {cd : Value} {Q : Flow → Loc → Ab → Prop}
    (hfr : A.frames = some [envOfC nm fd.scope L fa cd]) {lst pl rt ot r a du : Addr} {M : Nat} {mu al : Int} {cs Rs Os : List Addr} {I : Addr → CI} (hp : Pool σ pl cs I) (S : Sta σ I (Rs ++ Os) Rs (· ∈ cs) r)
    (h0 : 0 ≤ al) (h1 : al < 1000) (ha : cs[al.toNat]? = some a) (hms : ms I (Rs ++ Os) [a] ≤ 4) (hD : DatInts σ du ((pth I (Rs ++ Os) Rs 6 [a]).map (numsOf I)))
    (h : ∀ m' σ', Q (.ret (.bool true)) m' σ') : TXs C A (envOfC nm fd.scope L fa cd) (mD M pl lst rt ot r du mu al) (body.drop 6) σ Q := by
  obtain rfl := same_fd hf (by rw [hK]; rfl)
  cases hb
  have ham := List.mem_of_getElem? ha
  obtain ⟨ds, dk, dc, ns, nk, nc, LF, Kf, Cf, G, hroot⟩ := S.reg
  have hask : ∀ {p1 p2 p3 : Pos}, EV C A (envOfC nm (Mine.hd.scopeOf (Mine.hd.cell 19)) L fa cd) (mD M pl lst rt ot r du mu al) σ (.Subscript (.Name "pool" p1) (.Name "asked" p2) p3) (.ref a) := EV_item (EV_cell (by rfl) (by rfl)) (EV_cell (by rfl) (by rfl)) (Itm.list (v := .ref a) hp.l h0 (by omega) (by simp only [refs, List.getElem?_map]; rw [ha]; rfl))
  by_cases hne : pth I (Rs ++ Os) Rs 6 [a] = []
  · refine TXs_cons (TX_tryR (D := 187) (bm := [.type "Exception", .type "BaseException", .type "object"]) (newId := "Exception.__new__") (Q := fun σ' => Sub σ σ') (fun l hl => ⟨[], Option.some.inj (hl.symm.trans hfr)⟩) (by rfl) (by rw [hK]; kernel_rfl) (by rfl) (by rw [hK]; kernel_rfl) (by decide +kernel)
      (TSr_assignComp (cl := []) (TEr_methG ((EV_loc (by rfl) (by rfl)).te ⟨r, 383, 366, _, rfl, G.r, by rfl, by rw [hK]; kernel_rfl, TAs_cons (hask.te (TAs_nil (build_none hK S (by omega) (by omega) hh ham hms hne)))⟩)) (by rfl) (by rfl)) fun y σ1 x1 => ?_)
    have hd1 := hD.sub x1
    rw [hne] at hd1
    refine TXs_cons (TX_ret (TE_cmp ((EV_loc (by rfl) (by rfl)).te (TE_list (TAs_nil ⟨(show (0 : Nat) ≤ sizeLine by decide), fun E hE => ⟨_, Cmp.eq_intss (hd1.sub (Sub.put hE)) DatInts.new (by show A.units + 64 < cLine; omega), ?_⟩⟩)))))
    exact h _ _
  · refine TXs_cons (TX_tryOk (TXs_cons (TX_assignCompL (cl := []) (mc := []) hh (by rfl) (TE_meth (f := 366) (EV_loc (by rfl) (by rfl)) G.r (by rfl) (by rw [hK]; kernel_rfl) (TAs_cons (hask.te (TAs_nil (build hK S (by omega) (by omega) hh ham hms hne fun σ1 pa fa qs x1 rpa hP => ?_))))) (by rfl) cl_nil mc_nil (by rfl))))
    have hlen := hP.len
    have hpl := pth_len (I := I) (K := Rs ++ Os) (Rs := Rs) 6 [a] hms
    have hp5 := pow_le hms
    have hmem : ∀ ch ∈ pth I (Rs ++ Os) Rs 6 [a], (∀ b ∈ ch, b ∈ cs) ∧ ch.length ≤ 7 := fun ch hch => by
      obtain ⟨h1, h2⟩ := pth_mem 6 [a] ch hch
      refine ⟨fun b hb => ?_, h2⟩
      rcases h1 b hb with h | h
      · rw [List.mem_singleton] at h; rw [h]; exact ham
      · exact S.kn b h
    generalize pth I (Rs ++ Os) Rs 6 [a] = ps at hP hlen hpl hmem hD hne ⊢
    refine ⟨pa, refs qs, rfl, rpa, by simp only [refs, List.length_map]; exact Nat.le_trans (by omega : qs.length ≤ 625) (by decide), (fun i ys σ' => Sub σ1 σ' ∧ IntsAt σ' ys ((ps.take i).map (numsOf I))), ⟨Sub.refl _, .nil⟩, ?_, ?_⟩
    · rintro Cc i ys σ3 u hi hiu hS ⟨x3, hY⟩
      obtain ⟨q, hqi, rfl⟩ := refs_get hi hiu
      obtain ⟨ch, lc, hs, hch, hq⟩ := hP.get hqi
      obtain ⟨hcm, hcl⟩ := hmem ch (List.mem_of_getElem? hch)
      have htk : ps.take (i + 1) = ps.take i ++ [ch] := by rw [List.take_add_one, hch]; rfl
      have e : (refs ch).length = ch.length := by simp [refs]
      have hg : GCall C A (.ref 294) [.ref q] σ3 σ1 (refs ch).length (fun i => (refs ch).getD i .none) := by rw [e]; exact path_iter hK (by omega) hh hq x3
      obtain ⟨gs, gk, g1, _⟩ := id hq
      refine ⟨[("path", .ref q)], Tgt.name (by rfl) (by rfl), fun x v hx => fs_one hx (by rfl), TIfs_nil ?_⟩
      rw [if_pos rfl]
      refine TE_compG (cl := []) (mc := []) hh (by omega) (GSrc.inst (EV_loc (by rfl) (by rfl)) (x3 _ _ g1) (by rw [hK]; kernel_rfl) (by rw [hK]; kernel_rfl) hg) x3 _ ⟨Sub.refl _, rfl⟩ (turn_sig hK (σ := σ3) (fun b hb => ((hp.crt b (hcm b hb)).sub x1).sub x3) (fun σ' x => x3.trans x) (by rfl) (fun _ => by rfl)) ?_ (by rw [e]; exact Nat.le_trans hcl (by decide)) (by rfl) cl_nil mc_nil
      rintro zs σ4 D4 _ ⟨x4, rfl⟩ hD4
      have e6 : ch.take (refs ch).length = ch := List.take_of_length_le (by simp [refs])
      rw [e6]
      have x5 := x4.trans (Sub.put (o := .list (iV (numsOf I ch))) hD4)
      refine ⟨x5 _ _ hS, x3.trans x5, ?_⟩
      rw [htk, List.map_append]
      exact (hY.sub x5).snoc (put_same ..)
    · rintro ys σ3 D3 hS ⟨x3, hY⟩ hD3
      have e6 : ps.take (refs qs).length = ps := List.take_of_length_le (by simp [refs, hlen])
      rw [e6] at hY
      have x4 := x3.trans (Sub.put (o := .list ys) hD3)
      have ht : DatInts (σ3.put D3 (.list ys)) D3 (ps.map (numsOf I)) := ⟨ys, put_same .., hY.sub (Sub.put hD3)⟩
      have hd := hD.sub (x1.trans x4)
      generalize σ3.put D3 (.list ys) = σ4 at ht hd ⊢
      refine TXs_nil (TXs_cons (TX_ret (TE_and ((EV_cmp (EV_loc (by rfl) (by rfl)) (EV_loc (by rfl) (by rfl)) (Cmp.eq_intss ht hd (by omega))).te ⟨_, Tru.bool _, ?_⟩))))
      rw [decide_eq_true rfl, if_pos rfl]
      refine TE_bool1 (TE_cmp ((EV_loc (by rfl) (by rfl)).te (TE_list (TAs_nil ⟨(show (0 : Nat) ≤ sizeLine by decide), fun E hE => ⟨_, Cmp.ne_intss (hd.sub (Sub.put hE)) DatInts.new (by omega), ?_⟩⟩))))
      rw [show (!decide (ps.map (numsOf I) = [])) = true by simp [hne]]
      exact h _ _
end
end J
end

section
set_option Elab.async false
set_option linter.unusedVariables false
set_option maxRecDepth 100000
open PySem PySem.W PySem.Calls PyProof.Rows
namespace J
theorem dom_nil {b : Addr} : ¬ dom Ab.nil b := by
  rintro (⟨o, e⟩ | ⟨K, fs, e⟩) <;> cases e
section
variable {C : Cx} {A : Around} {env : Env} {m : Loc} {σ σ₀ σ' : Ab} {s s₀ s' : Shared} {P : Params}
theorem Reg.sub {r ds dk dc : Addr} {ns nk nc : Nat} {LF : Str → Option Addr} {S : Str → List Addr} {Kf : List UInt8 → Option Addr} {Cf : Int → Bool} (G : Reg σ r ds dk dc ns nk nc LF S Kf Cf) (x : Sub σ σ') : Reg σ' r ds dk dc ns nk nc LF S Kf Cf :=
  ⟨x _ _ G.r, x _ _ G.s, x _ _ G.k, x _ _ G.c, fun y L h => x _ _ (G.l y L h), G.z, G.i⟩
theorem Sta.sub {I : Addr → CI} {K Rs : List Addr} {Cs : Addr → Prop} {r : Addr} (S : Sta σ I K Rs Cs r) (x : Sub σ σ') : Sta σ' I K Rs Cs r := by
  obtain ⟨ds, dk, dc, ns, nk, nc, LF, Kf, Cf, G, h⟩ := S.reg
  exact ⟨⟨ds, dk, dc, ns, nk, nc, LF, Kf, Cf, G.sub x, h⟩, fun a ha => (S.crt a ha).sub x, S.ok, S.kn⟩
theorem law_body (hK : C.K = Mine.hd.heap_39 P) (hA : A.depth + 80 < recursionLimit) (hh : A.handled = none) (hu : A.units + 500 < cLine) {oc : Value} {od : Option Addr} {fd : FuncData} {osl : Array (Option Value)} {body : List Stmt} (hf : C.K.lookup 397 = some ⟨oc, od, .func fd, osl⟩) (hb : fd.body = .stmts body) {nm : Str} {L fa : Addr} {cd : Value}
    (hl : A.frames = some [envOfC nm fd.scope L fa cd]) {lst : Addr} {vs : List Value} {ws : List Int} (hL : C.h₀.IsList lst vs.toArray) (hI : IntsAre vs ws) (hn : ws.length ≤ 63) :
    TXs C A (envOfC nm fd.scope L fa cd) [("script", .ref lst)] body Ab.nil fun f _ _ => f = .ret (.bool true) := by
  refine seg0 hK hh hf hb hL hI hn Ext.refl fun pl m1 σ1 M hM1 hM5 hm1 hpl => ?_
  refine seg1 hK (by omega) hh hf hb hL hI hn hM1 hM5 hpl hm1 fun m2 σ2 cs I hm2 hp hlen => ?_
  refine seg2 hK hh hf hb hL hI hn hM1 hm2 fun σ3 mu al h0 h1 x3 => ?_
  obtain ⟨a, ha⟩ : ∃ a, cs[al.toNat]? = some a := ⟨_, List.getElem?_eq_getElem (by omega)⟩
  have ham := List.mem_of_getElem? ha
  refine seg3 hK hh hf hb hM5 (hp.sub x3) hlen h0 h1 ha fun σ4 rt ot k f hfa x4 hrt hot => ?_
  have hR : ∀ b ∈ cs.take k, b ∈ cs := fun b hb => List.mem_of_mem_take hb
  have hO : ∀ b ∈ (cs.drop k).filter f, b ∈ cs := fun b hb => List.mem_of_mem_drop (List.mem_filter.mp hb).1
  have hRl : (cs.take k).length + ((cs.drop k).filter f).length ≤ 5 := by
    have h1 := List.length_filter_le f (cs.drop k)
    rw [List.length_drop] at h1
    rw [List.length_take]
    omega
  have hms : ms I (cs.take k ++ (cs.drop k).filter f) [a] ≤ 4 := ms_pool (by omega) ham
  refine seg4 hK (by omega) hh hf hb ((hp.sub x3).sub x4) (by omega) hR hO hRl hrt hot fun σ5 r x5 S => ?_
  refine seg5 hK hA hu hh hf hb (((hp.sub x3).sub x4).sub x5) (by omega) hR hO hRl (x5 _ _ hrt) (x5 _ _ hot) h0 (by omega) ha hms fun σ6 du x6 hD => ?_
  exact seg6 hK hA hu hh hf hb hl ((((hp.sub x3).sub x4).sub x5).sub x6) (S.sub x6) h0 (by omega) ha hms hD fun _ _ => rfl
end
noncomputable def lawFd (P : Params) : Option FuncData := match (Mine.hd.heap_39 P).lookup 397 with | some ⟨_, _, .func fd, _⟩ => some fd | _ => none
theorem lookup_of_lawFd {P : Params} {fd : FuncData} (h : lawFd P = some fd) : ∃ oc od osl, (Mine.hd.heap_39 P).lookup 397 = some ⟨oc, od, .func fd, osl⟩ := by
  unfold lawFd at h
  split at h
  · rename_i oc od fd' osl hl
    cases h; exact ⟨oc, od, osl, hl⟩
  · cases h
theorem law_goal {prog : Program} {w : World} {s₁ : Shared} {h₁ : Heap} {tk₁ : Nat} {p : Program} {loose : List Str} {mean : ExcName → Option Value} {mg mb : Str → Option Value} {M : Str → Option Value} {nm : Str} {sc : Scope} {fa : Addr} {cd : Value} {body : List Stmt} {lst : Addr} {vs : List Value} {ws : List Int} {o1 o2 o3 o4 o5 : Obj} {v2 v3 v4 v5 : Option Value}
    (KX : (Mine.hd.heap_39 w.params).In s₁.heap) (T : Top p loose mean mg mb s₁.heap) (hfd : ∃ fd, lawFd w.params = some fd ∧ fd.body = .stmts body ∧ fd.scope = sc) (F : Fr s₁.heap s₁.heap.objs.size h₁ M)
    (N : News s₁.heap s₁.heap.objs.size h₁ [(s₁.heap.objs.size + 1 + 1 + 1 + 1 + 1, o5), (s₁.heap.objs.size + 1 + 1 + 1 + 1, o4), (s₁.heap.objs.size + 1 + 1 + 1, o3), (s₁.heap.objs.size + 1 + 1, o2), (s₁.heap.objs.size + 1, o1)])
    (d5 : o5.data = .cell v5) (d4 : o4.data = .cell v4) (d3 : o3.data = .cell v3) (d2 : o2.data = .cell v2) (d1 : o1.data = .cell (some (.ref lst)))
    (hcs : cellsFrom (s₁.heap.objs.size + 1) sc.names [] = [(("asked" : Str), s₁.heap.objs.size + 1 + 1 + 1 + 1 + 1), ("marks", s₁.heap.objs.size + 1 + 1 + 1 + 1), ("j", s₁.heap.objs.size + 1 + 1 + 1), ("pool", s₁.heap.objs.size + 1 + 1), ("script", s₁.heap.objs.size + 1)])
    (hkd : sc.names.lookup ("script" : Str) = some .cell) (hks : sc.kind = .function) (hL : s₁.heap.IsList lst vs.toArray) (hI : IntsAre vs ws) (hn : ¬ ((63 : Int) < (ws.length : Int))) {Q : Flow → Shared → Prop} {E : Value → Shared → Prop}
    (k : ∀ s', (∀ b o, s₁.heap.get? b = some o → s'.heap.get? b = some o) → s'.os = s₁.os → (AllBare s₁.gens → AllBare s'.gens) → Q (.ret (.bool true)) s') :
    wpAny (model prog w) (callerA.deeper (envOfC nm sc s₁.heap.objs.size fa cd)) (execs body (envOfC nm sc s₁.heap.objs.size fa cd)) Q E { s₁ with heap := h₁, toks := tk₁ } := by
  obtain ⟨fd, hfd, hb, rfl⟩ := hfd
  obtain ⟨oc, od, osl, hf⟩ := lookup_of_lawFd hfd
  let C : Cx := ⟨prog, w, s₁.heap, Mine.hd.heap_39 w.params, p, loose, mg, mb, KX, topRead_of T⟩
  have hnew : ∀ {b : Addr}, s₁.heap.objs.size ≤ b → s₁.heap.get? b = none := fun {b} hb => by
    cases q : s₁.heap.get? b with
    | none => rfl
    | some o => exact absurd (Heap.lt_size q) (Nat.not_lt.mpr hb)
  have hcell : ∀ x c, (envOfC nm fd.scope s₁.heap.objs.size fa cd).cells.lookup x = some c → ∃ i : Nat, 1 ≤ i ∧ c = s₁.heap.objs.size + i ∧ (∃ v, h₁.IsCell c v) ∧ (x = "asked" ∧ i = 5 ∨ x = "marks" ∧ i = 4 ∨ x = "j" ∧ i = 3 ∨ x = "pool" ∧ i = 2 ∨ x = "script" ∧ i = 1) := fun x c hc => by
    change List.lookup x (cellsFrom (s₁.heap.objs.size + 1) fd.scope.names []) = some c at hc
    rw [hcs] at hc
    by_cases q1 : x = "asked"
    · subst q1; rw [List.lookup_cons, beq_self_eq_true] at hc; cases hc
      exact ⟨5, by decide, rfl, ⟨v5, o5, (N _ (.head _)).1, d5⟩, .inl ⟨rfl, rfl⟩⟩
    · rw [List.lookup_cons, beq_eq_false_iff_ne.mpr q1] at hc
      by_cases q2 : x = "marks"
      · subst q2; rw [List.lookup_cons, beq_self_eq_true] at hc; cases hc
        exact ⟨4, by decide, rfl, ⟨v4, o4, (N _ (.tail _ (.head _))).1, d4⟩, .inr (.inl ⟨rfl, rfl⟩)⟩
      · rw [List.lookup_cons, beq_eq_false_iff_ne.mpr q2] at hc
        by_cases q3 : x = "j"
        · subst q3; rw [List.lookup_cons, beq_self_eq_true] at hc; cases hc
          exact ⟨3, by decide, rfl, ⟨v3, o3, (N _ (.tail _ (.tail _ (.head _)))).1, d3⟩, .inr (.inr (.inl ⟨rfl, rfl⟩))⟩
        · rw [List.lookup_cons, beq_eq_false_iff_ne.mpr q3] at hc
          by_cases q4 : x = "pool"
          · subst q4; rw [List.lookup_cons, beq_self_eq_true] at hc; cases hc
            exact ⟨2, by decide, rfl, ⟨v2, o2, (N _ (.tail _ (.tail _ (.tail _ (.head _))))).1, d2⟩, .inr (.inr (.inr (.inl ⟨rfl, rfl⟩)))⟩
          · rw [List.lookup_cons, beq_eq_false_iff_ne.mpr q4] at hc
            by_cases q5 : x = "script"
            · subst q5; rw [List.lookup_cons, beq_self_eq_true] at hc; cases hc
              exact ⟨1, by decide, rfl, ⟨_, o1, (N _ (.tail _ (.tail _ (.tail _ (.tail _ (.head _)))))).1, d1⟩, .inr (.inr (.inr (.inr ⟨rfl, rfl⟩)))⟩
            · rw [List.lookup_cons, beq_eq_false_iff_ne.mpr q5] at hc; cases hc
  have hm1 : ∀ x v, List.lookup x ([("script", .ref lst)] : Loc) = some v → x = "script" ∧ v = .ref lst := fun x v hx => by
    by_cases q : x = "script"
    · subst q; rw [lookup_cons_self] at hx; cases hx; exact ⟨rfl, rfl⟩
    · rw [lookup_cons_ne q] at hx; cases hx
  have W : Wx C (callerA.deeper (envOfC nm fd.scope s₁.heap.objs.size fa cd)) (envOfC nm fd.scope s₁.heap.objs.size fa cd) [("script", .ref lst)] Ab.nil { s₁ with heap := h₁, toks := tk₁ } Ab.nil { s₁ with heap := h₁, toks := tk₁ } := by
    refine ⟨⟨F.keep, fun a o e => (by cases e), fun b d => absurd d dom_nil, fun b K fs e => (by cases e)⟩, ⟨_, rfl, .cons (L := s₁.heap.objs.size) (by show fd.scope.kind ≠ .module; rw [hks]; decide) rfl F.ns (hnew (Nat.le_refl _)) trivial, fun e he L hL d => dom_nil d⟩,
      ⟨hks, rfl, rfl, fun b hb => ⟨dom_nil, ?_⟩, ⟨M, F.ns, fun x v hx hk => ?_⟩, fun x c hc => ?_, fun x v hx hk => ?_, fun x y c h1 h2 => ?_⟩, Mv.refl ..⟩
    · rcases hb with rfl | ⟨x, hx⟩
      · exact hnew (Nat.le_refl _)
      · obtain ⟨i, h1, rfl, _⟩ := hcell x b hx
        exact hnew (Nat.le_add_right _ _)
    · obtain ⟨rfl, _⟩ := hm1 x v hx
      have hk' : fd.scope.names.lookup ("script" : Str) = some .local := hk
      rw [hkd] at hk'; cases hk'
    · obtain ⟨i, h1, rfl, hv, _⟩ := hcell x c hc
      exact ⟨Nat.ne_of_gt (Nat.lt_add_of_pos_right h1), hv⟩
    · obtain ⟨rfl, rfl⟩ := hm1 x v hx
      refine ⟨s₁.heap.objs.size + 1, .ref lst, ?_, ⟨o1, (N _ (.tail _ (.tail _ (.tail _ (.tail _ (.head _)))))).1, d1⟩, rfl⟩
      show List.lookup ("script" : Str) (cellsFrom (s₁.heap.objs.size + 1) fd.scope.names []) = _
      rw [hcs]; rfl
    · obtain ⟨i, _, e1, _, q1⟩ := hcell x c h1
      obtain ⟨i', _, e2, _, q2⟩ := hcell y c h2
      have e : i = i' := Nat.add_left_cancel (e1.symm.trans e2)
      subst e
      rcases q1 with ⟨rfl, rfl⟩ | ⟨rfl, rfl⟩ | ⟨rfl, rfl⟩ | ⟨rfl, rfl⟩ | ⟨rfl, rfl⟩ <;> rcases q2 with ⟨rfl, h⟩ | ⟨rfl, h⟩ | ⟨rfl, h⟩ | ⟨rfl, h⟩ | ⟨rfl, h⟩ <;> first | rfl | (cases h)
  have hlen : ws.length ≤ 63 := by omega
  refine law_body (C := C) (P := w.params) rfl (by show callerA.depth + 1 + 80 < recursionLimit; decide) rfl (by show callerA.units + 3 + 500 < cLine; decide) hf hb rfl hL hI hlen Ab.nil _ _ Q E W fun f s' m' σ' W' q => ?_
  have hfq : f = .ret (.bool true) := by
    cases f with
    | ret v => rw [nf_ret] at q; rw [nv_to_bool (Flow.ret.inj q)]
    | _ => cases q
  subst hfq
  exact k s' W'.st.keep W'.mv.os W'.mv.gen.bare
end J
end

section
open PySem PySem.W PyProof.Rows
set_option Elab.async false
set_option maxRecDepth 100000 in
set_option maxHeartbeats 8000000 in
theorem PySem.Challenge.cw_je0006_01_holds : PySem.Challenge.rw_je0006_01.Holds := by
  w_on
  refine holds_law (by kernel_rfl) fun said => ?_
  refine holds_open (q := Mine.hd.q) (loose := Mine.hd.loose) (Xt := Mine.hd.Xt) (XP := XL Mine.hd.q []) (Yf := Mine.hd.hk.obs) (Ya := Mine.hd.hk.val) (YP := Mine.hd.hk.says) (N := 6762) Mine.hd.left (Hook.of Mine.hd.hk) (Hook.keeps Mine.hd.hk) (fun s e => xl_of s (Bool.and_eq_true_iff.mp e).1) XL.keeps (by rfl) (by rfl) (by rfl) (fun s e => recFacts_of (Bool.and_eq_true_iff.mp e).2) (by rfl) said (by decide +kernel) ⟨rfl, rfl, rfl, rfl, rfl, by decide +kernel⟩ ?hw ?hc
  case hw => w_witness2
  case hc =>
  w_strict (
    intro w s₀ s₁ mg mb G Y fa o pm cd doc dV kV ho hd hcd hD hmg hg args vals as hpre hlay hrd hwl hlo
    have KX : (Mine.hd.heap_39 w.params).In s₁.heap := kIn_of Y
    refine Ground.open G ?_
    intro T B D TE TW
    clear hmg
    wrow_args hpre hlay hrd hwl hlo
    all_goals (
      first | refine callC_kw (enter_call ?_) | refine enter_call ?_
      w_top on
      have K0 := below_caller (Top.heap T)
      w_call any ho hd hcd hD T F)
    rename_i o5 o4 o3 o2 o1 d5 d4 d3 d2 d1 N0 X0
    refine J.law_goal KX T ⟨_, rfl, rfl, rfl⟩ F N0 d5 d4 d3 d2 d1 (by rfl) (by rfl) (by rfl) (by assumption) (by assumption) (by assumption) ?_
    intro s' hk hos hb
    exact ⟨.inl ⟨_, _, [], rfl, (fun _ => rfl), ReadsW.bool true, (by first | rfl | wrow_post), fun _ => ⟨List.nodup_nil, fun _ hm => nomatch hm⟩⟩, OldK.of_keep hk, hos, hb (.of_eq hg)⟩)
end
