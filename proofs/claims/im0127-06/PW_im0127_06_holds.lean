import PyProof.Rows.All
import Wide.All
import OpenK.AllK
import Wide.FinOn
import Lean
import PySem.Challenge.RW_im0127_06
set_option autoImplicit false
set_option linter.unusedVariables false
set_option linter.unusedSimpArgs false
set_option Elab.async false
set_option pp.deepTerms false
set_option pp.deepTerms.threshold 8
section
set_option autoImplicit false
set_option Elab.async false
namespace Go
open PySem

/-- the masks that come up -/
def MaskOk (m : Nat) : Prop := m = 7 ∨ m = 15 ∨ m = 31 ∨ m = 63 ∨ m = 127 ∨ m = 255

def lcg (m i : Nat) : Nat := (i * 5 + 1) % (m + 1)
def lcgN (m : Nat) : Nat → Nat → Nat
  | 0, i => i
  | n + 1, i => lcgN m n (lcg m i)

theorem lcgN_succ (m n i : Nat) : lcgN m (n + 1) i = lcg m (lcgN m n i) := by
  induction n generalizing i with
  | zero => rfl
  | succ n ih => rw [lcgN, ih]; rfl
theorem lcgN_add (m a b i : Nat) : lcgN m (a + b) i = lcgN m a (lcgN m b i) := by
  induction b generalizing i with
  | zero => rfl
  | succ b ih => rw [← Nat.add_assoc, lcgN, ih, lcgN]

/-- a list of the first n values from 0 -/
def lcgList (m : Nat) : Nat → Nat → List Nat
  | 0, _ => []
  | n + 1, i => i :: lcgList m n (lcg m i)
theorem mem_lcgList {m : Nat} : ∀ {n i x : Nat}, x ∈ lcgList m n i → ∃ k, k < n ∧ lcgN m k i = x
  | n + 1, i, x, h => by
    rcases List.mem_cons.mp h with rfl | h
    · exact ⟨0, by omega, rfl⟩
    · obtain ⟨k, hk, e⟩ := mem_lcgList h
      exact ⟨k + 1, by omega, e⟩

def lcgCheck (m : Nat) : Bool := lcgN m (m + 1) 0 == 0 && (let l := lcgList m (m + 1) 0; (List.range (m + 1)).all fun x => l.contains x)

theorem lcgCheck_ok {m : Nat} (h : MaskOk m) : lcgCheck m = true := by
  rcases h with rfl | rfl | rfl | rfl | rfl | rfl <;> decide +kernel

theorem lcg_from0 {m x : Nat} (h : MaskOk m) (hx : x ≤ m) : ∃ k, k < m + 1 ∧ lcgN m k 0 = x := by
  have c := lcgCheck_ok h
  unfold lcgCheck at c
  simp only [Bool.and_eq_true, List.all_eq_true, List.mem_range] at c
  have := c.2 x (by omega)
  exact mem_lcgList (List.contains_iff_mem.mp this)

theorem lcg_period {m : Nat} (h : MaskOk m) : lcgN m (m + 1) 0 = 0 := by
  have c := lcgCheck_ok h
  unfold lcgCheck at c
  simp only [Bool.and_eq_true, beq_iff_eq] at c
  exact c.1

/-- from any place every place is come to within m + 1 turns -/
theorem lcg_cover {m i x : Nat} (h : MaskOk m) (hi : i ≤ m) (hx : x ≤ m) : ∃ k, k < m + 1 ∧ lcgN m k i = x := by
  obtain ⟨a, ha, ea⟩ := lcg_from0 h hi
  obtain ⟨b, hb, eb⟩ := lcg_from0 h hx
  by_cases hab : a ≤ b
  · refine ⟨b - a, by omega, ?_⟩
    rw [← ea, ← lcgN_add, Nat.sub_add_cancel hab]; exact eb
  · refine ⟨b + (m + 1 - a), by omega, ?_⟩
    rw [← ea, ← lcgN_add, show b + (m + 1 - a) + a = b + (m + 1) by omega, lcgN_add, lcg_period h]; exact eb

/-- one step of a probe, by the mask alone -/
def adv (m : Nat) (p : SetTable.Probe) : SetTable.Probe :=
  if p.more > 0 then { p with j := p.j + 1, more := p.more - 1 } else
  let q := SetTable.leap m p.i p.perturb
  { p with j := q.1, more := SetTable.runEnd m q.1 - q.1, i := q.1, perturb := q.2 }
theorem advance_eq (t : SetTable) (p : SetTable.Probe) : t.advance p = adv t.mask p := rfl

def advN (m : Nat) : Nat → SetTable.Probe → SetTable.Probe
  | 0, p => p
  | n + 1, p => advN m n (adv m p)
theorem advN_succ (m n : Nat) (p : SetTable.Probe) : advN m (n + 1) p = adv m (advN m n p) := by
  induction n generalizing p with
  | zero => rfl
  | succ n ih => rw [advN, ih]; rfl
theorem advN_add (m a b : Nat) (p : SetTable.Probe) : advN m (a + b) p = advN m a (advN m b p) := by
  induction b generalizing p with
  | zero => rfl
  | succ b ih => rw [← Nat.add_assoc, advN, ih, advN]

/-- a probe that a walk may stand at -/
structure POk (m : Nat) (p : SetTable.Probe) : Prop where
  i : p.i ≤ m
  j : p.j + p.more ≤ m
  more : p.more ≤ 9
  pert : p.perturb < 2 ^ 64

theorem runEnd_le {m i : Nat} (h : i ≤ m) : i ≤ SetTable.runEnd m i ∧ SetTable.runEnd m i ≤ m ∧ SetTable.runEnd m i - i ≤ 9 := by
  unfold SetTable.runEnd; split <;> omega

theorem POk.adv {m : Nat} {p : SetTable.Probe} (h : POk m p) : POk m (adv m p) := by
  unfold Go.adv
  split
  · exact ⟨h.i, by have := h.j; dsimp only; omega, by have := h.more; dsimp only; omega, h.pert⟩
  · have hq : (SetTable.leap m p.i p.perturb).1 ≤ m := by
      unfold SetTable.leap; dsimp only; have := Nat.mod_lt (p.i * 5 + 1 + p.perturb / 32) (show m + 1 > 0 by omega); omega
    have := runEnd_le hq
    refine ⟨hq, by dsimp only; omega, by dsimp only; omega, ?_⟩
    show p.perturb / 32 < 2 ^ 64
    have := h.pert; omega
theorem POk.advN {m : Nat} {p : SetTable.Probe} (h : POk m p) : ∀ n, POk m (advN m n p)
  | 0 => h
  | n + 1 => by rw [advN_succ]; exact (POk.advN h n).adv

/-- to the next run's head -/
theorem advN_more {m : Nat} : ∀ (n : Nat) (p : SetTable.Probe), p.more = n → ∃ q, advN m (n + 1) p = q ∧ q.i = (SetTable.leap m p.i p.perturb).1 ∧ q.j = q.i ∧ q.perturb = p.perturb / 32
  | 0, p, e => by
    refine ⟨_, rfl, ?_⟩
    show (adv m p).i = _ ∧ (adv m p).j = (adv m p).i ∧ (adv m p).perturb = _
    unfold adv; rw [if_neg (by omega)]; exact ⟨rfl, rfl, rfl⟩
  | n + 1, p, e => by
    have h1 : adv m p = { p with j := p.j + 1, more := p.more - 1 } := by unfold adv; rw [if_pos (by omega)]
    obtain ⟨q, e1, e2, e3, e4⟩ := advN_more n (adv m p) (by rw [h1]; dsimp only; omega)
    refine ⟨q, e1, ?_, e3, ?_⟩
    · rw [e2, h1]
    · rw [e4, h1]

/-- the head of the k-th run behind a probe lies within 10 k steps -/
theorem run_head {m : Nat} : ∀ (k : Nat) {p : SetTable.Probe}, POk m p → ∃ d q, d ≤ 10 * (k + 1) ∧ advN m d p = q ∧ q.j = q.i ∧ q.perturb = p.perturb / 32 ^ (k + 1)
  | 0, p, h => by
    obtain ⟨q, e1, e2, e3, e4⟩ := advN_more (m := m) p.more p rfl
    exact ⟨p.more + 1, q, by have := h.more; omega, e1, e3, by simpa using e4⟩
  | k + 1, p, h => by
    obtain ⟨d, q, hd, e1, e2, e3⟩ := run_head k h
    have hq : POk m q := e1 ▸ h.advN d
    obtain ⟨q', f1, f2, f3, f4⟩ := advN_more (m := m) q.more q rfl
    refine ⟨(q.more + 1) + d, q', by have := hq.more; omega, by rw [advN_add, e1, f1], f3, ?_⟩
    rw [f4, e3, Nat.div_div_eq_div_mul, ← Nat.pow_succ]

/-- from a head with no perturbation, the heads go by the generator -/
theorem heads_lcg {m : Nat} : ∀ (k : Nat) {p : SetTable.Probe}, POk m p → p.perturb = 0 → p.j = p.i → ∃ d q, d ≤ 10 * k ∧ advN m d p = q ∧ q.j = lcgN m k p.i ∧ q.i = q.j ∧ q.perturb = 0
  | 0, p, _, hz, hj => ⟨0, p, by omega, rfl, by rw [hj]; rfl, hj.symm, hz⟩
  | k + 1, p, h, hz, hj => by
    obtain ⟨d, q, hd, e1, e2, e3, e4⟩ := heads_lcg k h hz hj
    have hq : POk m q := e1 ▸ h.advN d
    obtain ⟨q', f1, f2, f3, f4⟩ := advN_more (m := m) q.more q rfl
    refine ⟨(q.more + 1) + d, q', by have := hq.more; omega, by rw [advN_add, e1, f1], ?_, f3.symm, by rw [f4, e4]⟩
    rw [f3, f2, lcgN_succ, ← e2, ← e3]
    unfold SetTable.leap lcg
    dsimp only
    rw [e4]

/-- every slot is come to within the turns that a probe is given -/
theorem cover {m : Nat} (hm : MaskOk m) {p : SetTable.Probe} (h : POk m p) {x : Nat} (hx : x ≤ m) : ∃ d, d < 10 * SetTable.turns m ∧ (advN m d p).j = x := by
  obtain ⟨d, q, hd, e1, e2, e3⟩ := run_head 12 h
  have hq : POk m q := e1 ▸ h.advN d
  have hz : q.perturb = 0 := by rw [e3]; apply Nat.div_eq_of_lt; exact Nat.lt_of_lt_of_le h.pert (by decide)
  obtain ⟨k, hk, ek⟩ := lcg_cover hm hq.i hx
  obtain ⟨d', q', hd', f1, f2, _, _⟩ := heads_lcg k hq hz e2
  refine ⟨d' + d, by unfold SetTable.turns; omega, ?_⟩
  rw [advN_add, e1, f1, f2, ek]

theorem bits_lt (h : Int) : SetTable.bits h < 2 ^ 64 := by
  unfold SetTable.bits
  have h1 := Int.emod_lt_of_pos h (show (0 : Int) < 2 ^ 64 by decide)
  have h0 := Int.emod_nonneg h (show (2 ^ 64 : Int) ≠ 0 by decide)
  omega

def pstart (m : Nat) (h : Int) : SetTable.Probe :=
  let i := SetTable.bits h % (m + 1)
  { j := i, more := SetTable.runEnd m i - i, i, perturb := SetTable.bits h, dummy := none }
theorem probeStart_eq (t : SetTable) (h : Int) : t.probeStart h = pstart t.mask h := rfl
theorem pstart_ok (m : Nat) (h : Int) : POk m (pstart m h) := by
  have hi : SetTable.bits h % (m + 1) ≤ m := by have := Nat.mod_lt (SetTable.bits h) (show m + 1 > 0 by omega); omega
  have := runEnd_le hi
  exact ⟨hi, by show SetTable.bits h % (m + 1) + (SetTable.runEnd m (SetTable.bits h % (m + 1)) - _) ≤ m; omega, this.2.2, bits_lt h⟩

end Go

end
section
set_option autoImplicit false
set_option Elab.async false
namespace Go
open PySem

def Rise (xs : Array Nat) : Prop := xs.toList.Pairwise (· < ·)

theorem Rise.lt {xs : Array Nat} (h : Rise xs) {i k x y : Nat} (hik : i < k) (hx : xs[i]? = some x) (hy : xs[k]? = some y) : x < y := by
  have hi : i < xs.size := (Array.getElem?_eq_some_iff.mp hx).1
  have hk : k < xs.size := (Array.getElem?_eq_some_iff.mp hy).1
  have := (List.pairwise_iff_getElem.mp h) i k (by simpa using hi) (by simpa using hk) hik
  rw [Array.getElem?_eq_getElem hi] at hx
  rw [Array.getElem?_eq_getElem hk] at hy
  cases hx; cases hy
  simpa using this

theorem below_go {xs : Array Nat} (h : Rise xs) (j : Nat) : ∀ (f lo hi : Nat), hi - lo ≤ f → lo ≤ hi → hi ≤ xs.size →
    (∀ i x, i < lo → xs[i]? = some x → x < j) → (∀ i x, hi ≤ i → xs[i]? = some x → j ≤ x) →
    ∃ p, SetTable.below.go xs j f lo hi = p ∧ p ≤ xs.size ∧ (∀ i x, i < p → xs[i]? = some x → x < j) ∧ (∀ i x, p ≤ i → xs[i]? = some x → j ≤ x)
  | 0, lo, hi, hf, hl, hs, h1, h2 => ⟨lo, rfl, by omega, h1, fun i x hi' => h2 i x (by omega)⟩
  | f + 1, lo, hi, hf, hl, hs, h1, h2 => by
    unfold SetTable.below.go
    by_cases hlt : lo < hi
    · rw [if_pos hlt]
      have hm : (lo + hi) / 2 < xs.size := by omega
      have hmx : xs[(lo + hi) / 2]? = some (xs.getD ((lo + hi) / 2) j) := by
        rw [Array.getD_eq_getD_getElem?, Array.getElem?_eq_getElem hm]; rfl
      by_cases hc : xs.getD ((lo + hi) / 2) j < j
      · simp only [if_pos hc]
        refine below_go h j f ((lo + hi) / 2 + 1) hi (by omega) (by omega) hs (fun i x hi' hx => ?_) h2
        by_cases e : i = (lo + hi) / 2
        · subst e; rw [hmx] at hx; cases hx; exact hc
        · exact Nat.lt_trans (h.lt (show i < (lo + hi) / 2 by omega) hx hmx) hc
      · simp only [if_neg hc]
        refine below_go h j f lo ((lo + hi) / 2) (by omega) (by omega) (by omega) h1 (fun i x hi' hx => ?_)
        by_cases e : i = (lo + hi) / 2
        · subst e; rw [hmx] at hx; cases hx; omega
        · have := h.lt (show (lo + hi) / 2 < i by omega) hmx hx; omega
    · rw [if_neg hlt]
      exact ⟨lo, rfl, by omega, h1, fun i x hi' => h2 i x (by omega)⟩

theorem below_spec {xs : Array Nat} (h : Rise xs) (j : Nat) : SetTable.below xs j ≤ xs.size ∧ (∀ i x, i < SetTable.below xs j → xs[i]? = some x → x < j) ∧ (∀ i x, SetTable.below xs j ≤ i → xs[i]? = some x → j ≤ x) := by
  obtain ⟨p, e, r⟩ := below_go h j xs.size 0 xs.size (by omega) (by omega) (Nat.le_refl _) (fun i _ q => absurd q (by omega)) (fun i x q hx => absurd (Array.getElem?_eq_some_iff.mp hx).1 (by omega))
  have : SetTable.below xs j = p := e
  rw [this]; exact r

/-- where it is, if it is there -/
theorem below_mem {xs : Array Nat} (h : Rise xs) {j i : Nat} (hx : xs[i]? = some j) : SetTable.below xs j = i := by
  obtain ⟨_, h2, h3⟩ := below_spec h j
  by_cases hlt : i < SetTable.below xs j
  · exact absurd (h2 i j hlt hx) (Nat.lt_irrefl _)
  · by_cases e : SetTable.below xs j = i
    · exact e
    · have hb : SetTable.below xs j < i := by omega
      have hbs : SetTable.below xs j < xs.size := Nat.lt_trans hb (Array.getElem?_eq_some_iff.mp hx).1
      have := h3 _ _ (Nat.le_refl _) (Array.getElem?_eq_getElem hbs)
      have := h.lt hb (Array.getElem?_eq_getElem hbs) hx
      omega

theorem has_iff {xs : Array Nat} (h : Rise xs) (j : Nat) : SetTable.has xs j = true ↔ j ∈ xs.toList := by
  unfold SetTable.has
  rw [beq_iff_eq]
  constructor
  · intro e; exact Array.mem_toList_iff.mpr (Array.mem_of_getElem? e)
  · intro hm
    obtain ⟨i, hi⟩ := Array.getElem?_of_mem (Array.mem_toList_iff.mp hm)
    rw [below_mem h hi]; exact hi

theorem slot_live {t : SetTable} (h : Rise t.place) {i j : Nat} (hx : t.place[i]? = some j) : t.slot j = .live i := by
  unfold SetTable.slot
  rw [below_mem h hx]
  simp [hx]
theorem slot_not {t : SetTable} (h : Rise t.place) {j : Nat} (hx : j ∉ t.place.toList) : t.slot j = if SetTable.has t.dummies j then .dummy else .empty := by
  unfold SetTable.slot
  have : ¬ (t.place[SetTable.below t.place j]? == some j) = true := by
    intro e
    exact hx ((has_iff h j).mp e)
  simp only [this]
  rfl

/-- a slot that holds something, or held something -/
def NonE (t : SetTable) (j : Nat) : Prop := j ∈ t.place.toList ∨ j ∈ t.dummies.toList

/-- a slot that a search for the hash comes to, behind slots that all hold or held something -/
def Rch (t : SetTable) (j : Nat) (h : Int) : Prop := ∃ N, (advN t.mask N (pstart t.mask h)).j = j ∧ ∀ n, n < N → NonE t (advN t.mask n (pstart t.mask h)).j

structure TOk (t : SetTable) (es : List (Int × Value)) : Prop where
  len : t.place.size = es.length
  mask : MaskOk t.mask
  rp : Rise t.place
  rd : Rise t.dummies
  disj : ∀ j, j ∈ t.place.toList → j ∉ t.dummies.toList
  lep : ∀ j, j ∈ t.place.toList → j ≤ t.mask
  led : ∀ j, j ∈ t.dummies.toList → j ≤ t.mask
  fill : t.fill * 5 < t.mask * 3
  reach : ∀ (i j : Nat) (e : Int × Value), t.place[i]? = some j → es[i]? = some e → Rch t j e.1

theorem pigeon : ∀ (m : Nat) (l : List Nat), l.length ≤ m → ∃ x, x ≤ m ∧ x ∉ l
  | m, l, h => by
    apply Classical.byContradiction
    intro hn
    have hall : ∀ x, x ∈ List.range (m + 1) → x ∈ l := fun x hx => by
      rw [List.mem_range] at hx
      apply Classical.byContradiction
      intro hc; exact hn ⟨x, by omega, hc⟩
    have := (List.nodup_range (n := m + 1)).length_le_of_subset hall
    rw [List.length_range] at this
    omega

theorem TOk.exists_empty {t : SetTable} {es : List (Int × Value)} (T : TOk t es) : ∃ j, j ≤ t.mask ∧ ¬ NonE t j := by
  obtain ⟨j, h1, h2⟩ := pigeon t.mask (t.place.toList ++ t.dummies.toList) (by
    have := T.fill; unfold SetTable.fill at this; rw [List.length_append, Array.length_toList, Array.length_toList]
    rcases T.mask with e | e | e | e | e | e <;> rw [e] at this ⊢ <;> omega)
  exact ⟨j, h1, fun hc => h2 (List.mem_append.mpr hc)⟩

end Go

end
section
set_option autoImplicit false
set_option Elab.async false
namespace Go
open PySem

def setD (q : SetTable.Probe) (d : Option Nat) : SetTable.Probe := { q with dummy := d }
theorem adv_setD (m : Nat) (q : SetTable.Probe) (d : Option Nat) : adv m (setD q d) = setD (adv m q) d := by
  unfold adv setD; dsimp only; split <;> rfl
theorem setD_setD (q : SetTable.Probe) (d d' : Option Nat) : setD (setD q d) d' = setD q d' := rfl
theorem setD_j (q : SetTable.Probe) (d : Option Nat) : (setD q d).j = q.j := rfl

def Hit (t : SetTable) (hashAt : Nat → Int) (h : Int) (j : Nat) : Prop := t.slot j = .empty ∨ ∃ i, t.slot j = .live i ∧ hashAt i = h

def PSpec (t : SetTable) (hashAt : Nat → Int) (h : Int) (fuel : Nat) (p : SetTable.Probe) (x : Option Nat) : Prop :=
  ∃ d dm, (∀ n, n < d → ¬ Hit t hashAt h (advN t.mask n p).j) ∧
      (dm = x ∨ ∃ n, n < d ∧ dm = some (advN t.mask n p).j ∧ t.slot (advN t.mask n p).j = .dummy) ∧
      ((t.slot (advN t.mask d p).j = .empty ∧ SetTable.probe.go t hashAt h fuel (setD p x) = some (.empty (advN t.mask d p).j dm)) ∨
       (∃ i, t.slot (advN t.mask d p).j = .live i ∧ hashAt i = h ∧ SetTable.probe.go t hashAt h fuel (setD p x) = some (.candidate (advN t.mask d p).j i (setD (advN t.mask (d + 1) p) dm))))

theorem probe_go (t : SetTable) (hashAt : Nat → Int) (h : Int) : ∀ (fuel : Nat) (p : SetTable.Probe) (x : Option Nat),
    (∃ d, d < fuel ∧ Hit t hashAt h (advN t.mask d p).j) → PSpec t hashAt h fuel p x
  | 0, _, _, ⟨d, hd, _⟩ => absurd hd (by omega)
  | fuel + 1, p, x, ⟨d, hd, hh⟩ => by
    have rest : ∀ y, ¬ Hit t hashAt h p.j → SetTable.probe.go t hashAt h (fuel + 1) (setD p x) = SetTable.probe.go t hashAt h fuel (setD (adv t.mask p) y) →
        (y = x ∨ (y = some p.j ∧ t.slot p.j = .dummy)) → PSpec t hashAt h (fuel + 1) p x := fun y hn e hy => by
      have hd0 : d ≠ 0 := fun q => by subst q; exact hn hh
      obtain ⟨d', rfl⟩ : ∃ d', d = d' + 1 := ⟨d - 1, by omega⟩
      obtain ⟨d₁, dm, h1, h2, h3⟩ := probe_go t hashAt h fuel (adv t.mask p) y ⟨d', by omega, hh⟩
      refine ⟨d₁ + 1, dm, fun n hn' => ?_, ?_, ?_⟩
      · cases n with
        | zero => exact hn
        | succ n => exact h1 n (by omega)
      · rcases h2 with e2 | ⟨n, hn', e2⟩
        · rcases hy with e3 | ⟨e3, e4⟩
          · exact .inl (e2.trans e3)
          · exact .inr ⟨0, by omega, e2.trans e3, e4⟩
        · exact .inr ⟨n + 1, by omega, e2⟩
      · rw [e]; exact h3
    cases hs : t.slot p.j with
    | empty =>
      refine ⟨0, x, fun n hn => absurd hn (by omega), .inl rfl, .inl ⟨hs, ?_⟩⟩
      rw [SetTable.probe.go, setD_j, hs]; rfl
    | dummy =>
      refine rest (some p.j) (fun q => ?_) ?_ (.inr ⟨rfl, hs⟩)
      · rcases q with q | ⟨i, q, _⟩ <;> rw [hs] at q <;> cases q
      · rw [SetTable.probe.go, setD_j, hs]
        dsimp only
        rw [advance_eq]
        show _ = SetTable.probe.go t hashAt h fuel (setD (adv t.mask p) (some p.j))
        rw [← adv_setD]; rfl
    | live i =>
      by_cases hi : hashAt i = h
      · refine ⟨0, x, fun n hn => absurd hn (by omega), .inl rfl, .inr ⟨i, hs, hi, ?_⟩⟩
        rw [SetTable.probe.go, setD_j, hs]
        dsimp only
        rw [if_pos (by rw [beq_iff_eq]; exact hi), advance_eq, adv_setD]; rfl
      · refine rest x (fun q => ?_) ?_ (.inl rfl)
        · rcases q with q | ⟨i', q, q'⟩ <;> rw [hs] at q <;> cases q
          exact hi q'
        · rw [SetTable.probe.go, setD_j, hs]
          dsimp only
          rw [if_neg (by rw [beq_iff_eq]; exact hi), advance_eq, adv_setD]

theorem slot_cases {t : SetTable} {es : List (Int × Value)} (T : TOk t es) (j : Nat) :
    (t.slot j = .empty ∧ ¬ NonE t j) ∨ (t.slot j = .dummy ∧ j ∉ t.place.toList ∧ j ∈ t.dummies.toList) ∨ (∃ i, t.slot j = .live i ∧ t.place[i]? = some j) := by
  by_cases h : j ∈ t.place.toList
  · obtain ⟨i, hi⟩ := Array.getElem?_of_mem (Array.mem_toList_iff.mp h)
    exact .inr (.inr ⟨i, slot_live T.rp hi, hi⟩)
  · by_cases hd : j ∈ t.dummies.toList
    · refine .inr (.inl ⟨?_, h, hd⟩)
      rw [slot_not T.rp h, (has_iff T.rd j).mpr hd]; rfl
    · refine .inl ⟨?_, fun q => q.elim h hd⟩
      rw [slot_not T.rp h, if_neg (fun e => hd ((has_iff T.rd j).mp e))]

theorem TOk.nonE_of {t : SetTable} {es : List (Int × Value)} (T : TOk t es) {j : Nat} (h : t.slot j ≠ .empty) : NonE t j := by
  rcases slot_cases T j with ⟨e, _⟩ | ⟨_, _, hd⟩ | ⟨i, _, hi⟩
  · exact absurd e h
  · exact .inr hd
  · exact .inl (Array.mem_toList_iff.mpr (Array.mem_of_getElem? hi))

/-- what one asking of the table tells, from the n-th place of the search on -/
theorem TOk.probe {t : SetTable} {es : List (Int × Value)} (T : TOk t es) (hashAt : Nat → Int) (h : Int) (n : Nat) (x : Option Nat) :
    ∃ d dm, n ≤ d ∧ (∀ k, n ≤ k → k < d → NonE t (advN t.mask k (pstart t.mask h)).j ∧ ∀ i, t.place[i]? = some (advN t.mask k (pstart t.mask h)).j → hashAt i ≠ h) ∧
      (dm = x ∨ ∃ k, k < d ∧ dm = some (advN t.mask k (pstart t.mask h)).j ∧ t.slot (advN t.mask k (pstart t.mask h)).j = .dummy ∧ n ≤ k) ∧
      ((¬ NonE t (advN t.mask d (pstart t.mask h)).j ∧ t.probe hashAt h (setD (advN t.mask n (pstart t.mask h)) x) = some (.empty (advN t.mask d (pstart t.mask h)).j dm)) ∨
       (∃ i, t.place[i]? = some (advN t.mask d (pstart t.mask h)).j ∧ t.slot (advN t.mask d (pstart t.mask h)).j = .live i ∧ hashAt i = h ∧
          t.probe hashAt h (setD (advN t.mask n (pstart t.mask h)) x) = some (.candidate (advN t.mask d (pstart t.mask h)).j i (setD (advN t.mask (d + 1) (pstart t.mask h)) dm)))) := by
  obtain ⟨j, hj, hne⟩ := T.exists_empty
  have hp := (pstart_ok t.mask h).advN n
  obtain ⟨d₀, hd₀, e₀⟩ := cover T.mask hp hj
  have hemp : t.slot j = .empty := by
    rcases slot_cases T j with ⟨e, _⟩ | ⟨_, _, hd⟩ | ⟨i, _, hi⟩
    · exact e
    · exact absurd (.inr hd) hne
    · exact absurd (.inl (Array.mem_toList_iff.mpr (Array.mem_of_getElem? hi))) hne
  obtain ⟨d, dm, h1, h2, h3⟩ := probe_go t hashAt h (10 * SetTable.turns t.mask) (advN t.mask n (pstart t.mask h)) x ⟨d₀, hd₀, .inl (by rw [e₀]; exact hemp)⟩
  have sh : ∀ k, advN t.mask k (advN t.mask n (pstart t.mask h)) = advN t.mask (k + n) (pstart t.mask h) := fun k => (advN_add _ _ _ _).symm
  simp only [sh] at h1 h2 h3
  refine ⟨d + n, dm, by omega, fun k hk hkd => ?_, ?_, ?_⟩
  · have hh := h1 (k - n) (by omega)
    rw [Nat.sub_add_cancel hk] at hh
    refine ⟨T.nonE_of fun e => hh (.inl e), fun i hi e => hh (.inr ⟨i, slot_live T.rp hi, e⟩)⟩
  · rcases h2 with e | ⟨k, hk, e1, e2⟩
    · exact .inl e
    · exact .inr ⟨k + n, by omega, e1, e2, by omega⟩
  · rcases h3 with ⟨e1, e2⟩ | ⟨i, e1, e2, e3⟩
    · refine .inl ⟨?_, e2⟩
      rcases slot_cases T (advN t.mask (d + n) (pstart t.mask h)).j with ⟨_, q⟩ | ⟨q, _⟩ | ⟨i, q, _⟩
      · exact q
      · rw [e1] at q; cases q
      · rw [e1] at q; cases q
    · refine .inr ⟨i, ?_, e1, e2, by rw [show d + n + 1 = d + 1 + n by omega]; exact e3⟩
      rcases slot_cases T (advN t.mask (d + n) (pstart t.mask h)).j with ⟨q, _⟩ | ⟨q, _⟩ | ⟨i', q, hi'⟩
      · rw [e1] at q; cases q
      · rw [e1] at q; cases q
      · rw [e1] at q; cases q; exact hi'

end Go

end
section
set_option autoImplicit false
set_option Elab.async false
namespace Go
open PySem

structure TB (t : SetTable) (es : List (Int × Value)) : Prop where
  len : t.place.size = es.length
  mask : MaskOk t.mask
  rp : Rise t.place
  rd : Rise t.dummies
  disj : ∀ j, j ∈ t.place.toList → j ∉ t.dummies.toList
  lep : ∀ j, j ∈ t.place.toList → j ≤ t.mask
  led : ∀ j, j ∈ t.dummies.toList → j ≤ t.mask
  reach : ∀ (i j : Nat) (e : Int × Value), t.place[i]? = some j → es[i]? = some e → Rch t j e.1

theorem TOk.tb {t : SetTable} {es : List (Int × Value)} (T : TOk t es) : TB t es := ⟨T.len, T.mask, T.rp, T.rd, T.disj, T.lep, T.led, T.reach⟩
theorem TB.tok {t : SetTable} {es : List (Int × Value)} (T : TB t es) (h : t.fill * 5 < t.mask * 3) : TOk t es := ⟨T.len, T.mask, T.rp, T.rd, T.disj, T.lep, T.led, h, T.reach⟩

theorem getElem?_ins {α : Type} (l : List α) (p : Nat) (x : α) (hp : p ≤ l.length) (i : Nat) :
    (l.take p ++ x :: l.drop p)[i]? = if i < p then l[i]? else if i = p then some x else l[i - 1]? := by
  have hl : (l.take p).length = p := by simp [hp]
  by_cases h : i < p
  · rw [if_pos h, List.getElem?_append_left (by rw [hl]; exact h), List.getElem?_take_of_lt h]
  · rw [if_neg h, List.getElem?_append_right (by rw [hl]; omega), hl]
    by_cases e : i = p
    · subst e; simp
    · rw [if_neg e]
      obtain ⟨k, hk⟩ : ∃ k, i - p = k + 1 := ⟨i - p - 1, by omega⟩
      rw [hk, List.getElem?_cons_succ, List.getElem?_drop]
      congr 1; omega

theorem getElem?_del {α : Type} (l : List α) (p : Nat) (hp : p < l.length) (i : Nat) :
    (l.take p ++ l.drop (p + 1))[i]? = if i < p then l[i]? else l[i + 1]? := by
  have hl : (l.take p).length = p := by simp; omega
  by_cases h : i < p
  · rw [if_pos h, List.getElem?_append_left (by rw [hl]; exact h), List.getElem?_take_of_lt h]
  · rw [if_neg h, List.getElem?_append_right (by rw [hl]; omega), hl, List.getElem?_drop]
    congr 1; omega

theorem toList_eraseAt {α : Type} (xs : Array α) (p : Nat) : (SetTable.eraseAt xs p).toList = xs.toList.take p ++ xs.toList.drop (p + 1) := by
  unfold SetTable.eraseAt
  rw [Array.toList_append, Array.toList_extract, Array.toList_extract]
  simp [List.extract]
  exact List.take_of_length_le (by simp)

theorem rise_insert {xs : Array Nat} (h : Rise xs) {j : Nat} (hn : j ∉ xs.toList) : Rise (SetTable.insertAt xs (SetTable.below xs j) j) := by
  obtain ⟨h1, h2, h3⟩ := below_spec h j
  unfold Rise
  rw [SetTable.toList_insertAt]
  have hp := h
  unfold Rise at hp
  rw [← List.take_append_drop (SetTable.below xs j) xs.toList, List.pairwise_append] at hp
  rw [List.pairwise_append]
  refine ⟨hp.1, List.pairwise_cons.mpr ⟨fun y hy => ?_, hp.2.1⟩, fun x hx y hy => ?_⟩
  · obtain ⟨i, hi⟩ := List.getElem?_of_mem hy
    rw [List.getElem?_drop] at hi
    have := h3 (SetTable.below xs j + i) y (by omega) (by simpa using hi)
    have : y ≠ j := fun e => hn (e ▸ List.mem_of_mem_drop hy)
    omega
  · have hxj : x < j := by
      obtain ⟨i, hi⟩ := List.getElem?_of_mem hx
      have hil : i < SetTable.below xs j := by
        have := (List.getElem?_eq_some_iff.mp hi).1
        simp at this; omega
      rw [List.getElem?_take_of_lt hil] at hi
      exact h2 i x hil (by simpa using hi)
    rcases List.mem_cons.mp hy with rfl | hy
    · exact hxj
    · exact hp.2.2 x hx y hy

theorem rise_erase {xs : Array Nat} (h : Rise xs) (p : Nat) : Rise (SetTable.eraseAt xs p) := by
  unfold Rise
  rw [toList_eraseAt]
  refine List.Pairwise.sublist ?_ h
  conv => rhs; rw [← List.take_append_drop p xs.toList]
  exact List.Sublist.append (List.Sublist.refl _) (by rw [← List.drop_drop]; exact List.drop_sublist _ _)

theorem mem_insertAt {α : Type} (xs : Array α) (p : Nat) (x y : α) : y ∈ (SetTable.insertAt xs p x).toList ↔ y = x ∨ y ∈ xs.toList := by
  rw [SetTable.toList_insertAt]
  constructor
  · intro h
    rcases List.mem_append.mp h with h | h
    · exact .inr (List.mem_of_mem_take h)
    · rcases List.mem_cons.mp h with h | h
      · exact .inl h
      · exact .inr (List.mem_of_mem_drop h)
  · rintro (rfl | h)
    · exact List.mem_append_right _ List.mem_cons_self
    · rw [← List.take_append_drop p xs.toList] at h
      rcases List.mem_append.mp h with h | h
      · exact List.mem_append_left _ h
      · exact List.mem_append_right _ (List.mem_cons_of_mem _ h)

theorem mem_eraseAt {xs : Array Nat} (h : Rise xs) {p j : Nat} (hj : xs[p]? = some j) (y : Nat) : y ∈ (SetTable.eraseAt xs p).toList ↔ y ≠ j ∧ y ∈ xs.toList := by
  have hp : p < xs.toList.length := by simpa using (Array.getElem?_eq_some_iff.mp hj).1
  have hj' : xs.toList[p]? = some j := by simpa using hj
  rw [toList_eraseAt]
  have split : xs.toList = xs.toList.take p ++ j :: xs.toList.drop (p + 1) := by
    conv => lhs; rw [← List.take_append_drop p xs.toList]
    congr 1
    rw [List.drop_eq_getElem_cons hp]
    congr 1
    rw [List.getElem?_eq_getElem hp] at hj'; exact Option.some.inj hj'
  have nd : (xs.toList).Nodup := List.Pairwise.imp (fun h => Nat.ne_of_lt h) h
  rw [split] at nd
  have nd' := List.perm_middle.nodup_iff.mp nd
  rw [List.nodup_cons] at nd'
  constructor
  · intro hy
    refine ⟨fun e => nd'.1 (e ▸ hy), ?_⟩
    rw [split]
    rcases List.mem_append.mp hy with hy | hy
    · exact List.mem_append_left _ hy
    · exact List.mem_append_right _ (List.mem_cons_of_mem _ hy)
  · rintro ⟨hne, hy⟩
    rw [split] at hy
    rcases List.mem_append.mp hy with hy | hy
    · exact List.mem_append_left _ hy
    · rcases List.mem_cons.mp hy with e | hy
      · exact absurd e hne
      · exact List.mem_append_right _ hy

theorem Rch.mono {t t' : SetTable} {j : Nat} {h : Int} (r : Rch t j h) (hm : t'.mask = t.mask) (k : ∀ j, NonE t j → NonE t' j) : Rch t' j h := by
  obtain ⟨N, e, a⟩ := r
  unfold Rch
  rw [hm]
  exact ⟨N, e, fun n hn => k _ (a n hn)⟩

theorem TB.put {t : SetTable} {es : List (Int × Value)} (T : TB t es) {j : Nat} {h : Int} {x : Value} (hj : j ≤ t.mask) (hn : j ∉ t.place.toList) (r : Rch t j h) :
    TB (t.put j).1 (es.take (t.put j).2 ++ (h, x) :: es.drop (t.put j).2) ∧ (t.put j).1.mask = t.mask ∧ (t.put j).1.plain = t.plain ∧ (t.put j).1.led = t.led ∧
      (t.put j).2 ≤ es.length ∧ ((t.put j).1.fill = if j ∈ t.dummies.toList then t.fill else t.fill + 1) := by
  have hb := (below_spec T.rp j).1
  have hsz : SetTable.below t.place j ≤ es.length := by rw [← T.len]; exact hb
  have hdum : ∀ y, y ∈ (if SetTable.has t.dummies j then SetTable.eraseAt t.dummies (SetTable.below t.dummies j) else t.dummies).toList ↔ y ≠ j ∧ y ∈ t.dummies.toList := by
    intro y
    by_cases hd : j ∈ t.dummies.toList
    · rw [if_pos ((has_iff T.rd j).mpr hd)]
      have : t.dummies[SetTable.below t.dummies j]? = some j := by
        have := (has_iff T.rd j).mpr hd
        unfold SetTable.has at this
        exact beq_iff_eq.mp this
      exact mem_eraseAt T.rd this y
    · rw [if_neg (fun e => hd ((has_iff T.rd j).mp e))]
      exact ⟨fun hy => ⟨fun e => hd (e ▸ hy), hy⟩, fun hy => hy.2⟩
  have keep : ∀ y, NonE t y → NonE (t.put j).1 y := by
    intro y hy
    by_cases e : y = j
    · subst e; exact .inl ((mem_insertAt _ _ _ _).mpr (.inl rfl))
    · rcases hy with hy | hy
      · exact .inl ((mem_insertAt _ _ _ _).mpr (.inr hy))
      · exact .inr ((hdum y).mpr ⟨e, hy⟩)
  refine ⟨⟨?_, T.mask, rise_insert T.rp hn, ?_, fun y hy hy' => ?_, fun y hy => ?_, fun y hy => T.led y ((hdum y).mp hy).2, fun i j' e hi he => ?_⟩, rfl, rfl, rfl, hsz, ?_⟩
  · show (SetTable.insertAt t.place (SetTable.below t.place j) j).size = _
    rw [← Array.length_toList, SetTable.toList_insertAt]
    have := T.len
    simp [SetTable.put]
    omega
  · show Rise (if SetTable.has t.dummies j then _ else _)
    split
    · exact rise_erase T.rd _
    · exact T.rd
  · have h2 := (hdum y).mp hy'
    rcases (mem_insertAt _ _ _ _).mp hy with e | hy
    · exact h2.1 e
    · exact T.disj y hy h2.2
  · rcases (mem_insertAt _ _ _ _).mp hy with e | hy
    · subst e; exact hj
    · exact T.lep y hy
  · have hi' : (t.place.toList.take (SetTable.below t.place j) ++ j :: t.place.toList.drop (SetTable.below t.place j))[i]? = some j' := by
      rw [← SetTable.toList_insertAt, Array.getElem?_toList]; exact hi
    rw [getElem?_ins _ _ _ (by simpa using hb)] at hi'
    rw [show (t.put j).2 = SetTable.below t.place j from rfl, getElem?_ins _ _ _ hsz] at he
    by_cases h1 : i < SetTable.below t.place j
    · rw [if_pos h1] at hi' he
      exact (T.reach i j' e (by simpa using hi') he).mono rfl keep
    · rw [if_neg h1] at hi' he
      by_cases h2 : i = SetTable.below t.place j
      · rw [if_pos h2] at hi' he
        cases hi'; cases he
        exact r.mono rfl keep
      · rw [if_neg h2] at hi' he
        exact (T.reach (i - 1) j' e (by simpa using hi') he).mono rfl keep
  · show (SetTable.insertAt t.place (SetTable.below t.place j) j).size + (if SetTable.has t.dummies j then SetTable.eraseAt t.dummies (SetTable.below t.dummies j) else t.dummies).size = _
    have e1 : (SetTable.insertAt t.place (SetTable.below t.place j) j).size = t.place.size + 1 := by
      rw [← Array.length_toList, SetTable.toList_insertAt]; simp; omega
    rw [e1]
    by_cases hd : j ∈ t.dummies.toList
    · rw [if_pos hd, if_pos ((has_iff T.rd j).mpr hd)]
      have hbd : t.dummies[SetTable.below t.dummies j]? = some j := by
        have := (has_iff T.rd j).mpr hd
        unfold SetTable.has at this
        exact beq_iff_eq.mp this
      have hlt := (Array.getElem?_eq_some_iff.mp hbd).1
      have e2 : (SetTable.eraseAt t.dummies (SetTable.below t.dummies j)).size = t.dummies.size - 1 := by
        rw [← Array.length_toList, toList_eraseAt]; simp; omega
      rw [e2]; unfold SetTable.fill; omega
    · rw [if_neg hd, if_neg (fun e => hd ((has_iff T.rd j).mp e))]; unfold SetTable.fill; omega

theorem TB.drop {t : SetTable} {es : List (Int × Value)} (T : TB t es) {i : Nat} (hi : i < es.length) :
    TB (t.drop i) (es.take i ++ es.drop (i + 1)) ∧ (t.drop i).mask = t.mask ∧ (t.drop i).plain = t.plain ∧ (t.drop i).led = t.led ∧ (t.drop i).fill = t.fill := by
  have hip : i < t.place.size := by rw [T.len]; exact hi
  have hj := Array.getElem?_eq_getElem hip
  have e : t.drop i = { t with place := SetTable.eraseAt t.place i, dummies := SetTable.insertAt t.dummies (SetTable.below t.dummies t.place[i]) t.place[i] } := by
    unfold SetTable.drop; rw [hj]
  have hjm : t.place[i] ∈ t.place.toList := Array.mem_toList_iff.mpr (Array.mem_of_getElem? hj)
  have hnd := T.disj _ hjm
  have keep : ∀ y, NonE t y → NonE (t.drop i) y := by
    intro y hy
    rw [e]
    by_cases q : y = t.place[i]
    · exact .inr ((mem_insertAt _ _ _ _).mpr (.inl q))
    · rcases hy with hy | hy
      · exact .inl ((mem_eraseAt T.rp hj y).mpr ⟨q, hy⟩)
      · exact .inr ((mem_insertAt _ _ _ _).mpr (.inr hy))
  refine ⟨⟨?_, by rw [e]; exact T.mask, by rw [e]; exact rise_erase T.rp i, by rw [e]; exact rise_insert T.rd hnd, fun y hy hy' => ?_, fun y hy => ?_, fun y hy => ?_, fun k j' en hk he => ?_⟩, by rw [e], by rw [e], by rw [e], ?_⟩
  · rw [e]
    show (SetTable.eraseAt t.place i).size = _
    rw [← Array.length_toList, toList_eraseAt]
    have := T.len
    simp; omega
  · rw [e] at hy hy'
    have h1 := (mem_eraseAt T.rp hj y).mp hy
    rcases (mem_insertAt _ _ _ _).mp hy' with q | q
    · exact h1.1 q
    · exact T.disj y h1.2 q
  · rw [e] at hy ⊢
    exact T.lep y ((mem_eraseAt T.rp hj y).mp hy).2
  · rw [e] at hy ⊢
    rcases (mem_insertAt _ _ _ _).mp hy with q | q
    · rw [q]; exact T.lep _ hjm
    · exact T.led y q
  · have hk' : (t.place.toList.take i ++ t.place.toList.drop (i + 1))[k]? = some j' := by
      rw [e] at hk
      rw [← toList_eraseAt]; simpa using hk
    rw [getElem?_del _ _ (by simpa using hip)] at hk'
    rw [getElem?_del _ _ hi] at he
    by_cases h1 : k < i
    · rw [if_pos h1] at hk' he
      exact (T.reach k j' en (by simpa using hk') he).mono (by rw [e]) keep
    · rw [if_neg h1] at hk' he
      exact (T.reach (k + 1) j' en (by simpa using hk') he).mono (by rw [e]) keep
  · rw [e]
    unfold SetTable.fill
    have e1 : (SetTable.eraseAt t.place i).size = t.place.size - 1 := by
      rw [← Array.length_toList, toList_eraseAt]; simp; omega
    have e2 : (SetTable.insertAt t.dummies (SetTable.below t.dummies t.place[i]) t.place[i]).size = t.dummies.size + 1 := by
      rw [← Array.length_toList, SetTable.toList_insertAt]; simp; omega
    show (SetTable.eraseAt t.place i).size + (SetTable.insertAt t.dummies (SetTable.below t.dummies t.place[i]) t.place[i]).size = _
    rw [e1, e2]; omega

end Go

end
section
set_option autoImplicit false
set_option Elab.async false
namespace Go
open PySem

/-- the head of a run -/
def hd (m i pt : Nat) : SetTable.Probe := { j := i, more := SetTable.runEnd m i - i, i, perturb := pt, dummy := none }

theorem adv_run {m i pt : Nat} : ∀ k, k ≤ SetTable.runEnd m i - i → advN m k (hd m i pt) = { hd m i pt with j := i + k, more := SetTable.runEnd m i - i - k }
  | 0, _ => rfl
  | k + 1, h => by
    rw [advN_succ, adv_run k (by omega)]
    unfold adv
    rw [if_pos (by show SetTable.runEnd m i - i - k > 0; omega)]
    rfl
theorem adv_next (m i pt : Nat) : advN m (SetTable.runEnd m i - i + 1) (hd m i pt) = hd m (SetTable.leap m i pt).1 (SetTable.leap m i pt).2 := by
  rw [advN_succ, adv_run _ (Nat.le_refl _)]
  unfold adv
  rw [if_neg (by show ¬ (SetTable.runEnd m i - i - (SetTable.runEnd m i - i) > 0); omega)]
  rfl
theorem hd_ok {m i pt : Nat} (hi : i ≤ m) (hp : pt < 2 ^ 64) : POk m (hd m i pt) := by
  have := runEnd_le hi
  exact ⟨hi, by show i + (SetTable.runEnd m i - i) ≤ m; omega, this.2.2, hp⟩

def leapN (m : Nat) : Nat → Nat × Nat → Nat × Nat
  | 0, x => x
  | n + 1, x => leapN m n (SetTable.leap m x.1 x.2)
theorem leapN_succ (m n : Nat) (x : Nat × Nat) : leapN m (n + 1) x = SetTable.leap m (leapN m n x).1 (leapN m n x).2 := by
  induction n generalizing x with
  | zero => rfl
  | succ n ih => rw [leapN, ih]; rfl
theorem leapN_add (m a b : Nat) (x : Nat × Nat) : leapN m (a + b) x = leapN m a (leapN m b x) := by
  induction b generalizing x with
  | zero => rfl
  | succ b ih => rw [← Nat.add_assoc, leapN, ih, leapN]
theorem leapN_le {m : Nat} {x : Nat × Nat} (h : x.1 ≤ m) : ∀ n, (leapN m n x).1 ≤ m
  | 0 => h
  | n + 1 => by
    rw [leapN_succ]; unfold SetTable.leap; dsimp only
    have := Nat.mod_lt ((leapN m n x).1 * 5 + 1 + (leapN m n x).2 / 32) (show m + 1 > 0 by omega); omega
theorem leapN_pert (m : Nat) (x : Nat × Nat) : ∀ n, (leapN m n x).2 = x.2 / 32 ^ n
  | 0 => by simp [leapN]
  | n + 1 => by rw [leapN_succ]; show (leapN m n x).2 / 32 = _; rw [leapN_pert m x n, Nat.div_div_eq_div_mul, Nat.pow_succ]
theorem leapN_lcg {m i : Nat} : ∀ n, leapN m n (i, 0) = (lcgN m n i, 0)
  | 0 => rfl
  | n + 1 => by rw [leapN_succ, leapN_lcg n, lcgN_succ]; unfold SetTable.leap lcg; simp

theorem leap_cover {m : Nat} (hm : MaskOk m) {i pt : Nat} (hi : i ≤ m) (hp : pt < 2 ^ 64) {x : Nat} (hx : x ≤ m) : ∃ r, r < SetTable.turns m ∧ (leapN m r (i, pt)).1 = x := by
  have h13 : (leapN m 13 (i, pt)).2 = 0 := by rw [leapN_pert]; exact Nat.div_eq_of_lt (Nat.lt_of_lt_of_le hp (by decide))
  obtain ⟨k, hk, ek⟩ := lcg_cover hm (leapN_le (x := (i, pt)) hi 13) hx
  refine ⟨k + 13, by unfold SetTable.turns; omega, ?_⟩
  rw [leapN_add, show leapN m 13 (i, pt) = ((leapN m 13 (i, pt)).1, 0) from Prod.ext rfl h13, leapN_lcg, ek]

def Full (owner : Array (Option Nat)) (j : Nat) : Prop := (owner.getD j (some 0)).isSome = true

theorem free_spec {m : Nat} (owner : Array (Option Nat)) : ∀ (fuel i pt : Nat), (∃ r, r < fuel ∧ ¬ Full owner (leapN m r (i, pt)).1) →
    ∃ j N, SetTable.layClean.free m owner fuel i pt = some j ∧ ¬ Full owner j ∧ (advN m N (hd m i pt)).j = j ∧ ∀ n, n < N → Full owner (advN m n (hd m i pt)).j
  | 0, _, _, ⟨r, hr, _⟩ => absurd hr (by omega)
  | fuel + 1, i, pt, ⟨r, hr, hf⟩ => by
    unfold SetTable.layClean.free
    cases hfind : (List.range (SetTable.runEnd m i + 1 - i)).find? (fun k => (owner.getD (i + k) (some 0)).isNone) with
    | some k =>
      have h1 : (owner.getD (i + k) (some 0)).isNone = true := by have := List.find?_some hfind; simpa using this
      have h2 : k < SetTable.runEnd m i + 1 - i := by have := List.mem_of_find?_eq_some hfind; simpa using this
      refine ⟨i + k, k, rfl, ?_, ?_, fun n hn => ?_⟩
      · unfold Full; rw [Option.isNone_iff_eq_none] at h1; rw [h1]; simp
      · rw [adv_run k (by omega)]
      · rw [adv_run n (by omega)]
        show (owner.getD (i + n) (some 0)).isSome = true
        have := (List.find?_eq_some_iff_getElem.mp hfind)
        obtain ⟨_, kk, hk1, hk2, hk3⟩ := this
        have ek : kk = k := by simpa using hk2
        have := hk3 n (by omega)
        have h := by simpa using this
        rw [Array.getD_eq_getD_getElem?]; exact h
    | none =>
      have hall : ∀ k, k < SetTable.runEnd m i + 1 - i → Full owner (i + k) := fun k hk => by
        have := List.find?_eq_none.mp hfind k (List.mem_range.mpr hk)
        unfold Full
        cases hq : owner.getD (i + k) (some 0) with
        | none => rw [hq] at this; simp at this
        | some _ => rfl
      have hr0 : r ≠ 0 := fun e => by
        subst e
        refine hf ?_
        have : i ≤ SetTable.runEnd m i := by unfold SetTable.runEnd; split <;> omega
        simpa [leapN] using hall 0 (by omega)
      obtain ⟨r', rfl⟩ : ∃ r', r = r' + 1 := ⟨r - 1, by omega⟩
      obtain ⟨j, N, e1, e2, e3, e4⟩ := free_spec owner fuel (SetTable.leap m i pt).1 (SetTable.leap m i pt).2 ⟨r', by omega, hf⟩
      refine ⟨j, N + (SetTable.runEnd m i - i + 1), e1, e2, by rw [advN_add, adv_next]; exact e3, fun n hn => ?_⟩
      by_cases hlt : n < SetTable.runEnd m i - i + 1
      · rw [adv_run n (by omega)]
        have : i ≤ SetTable.runEnd m i := by unfold SetTable.runEnd; split <;> omega
        exact hall n (by omega)
      · rw [show n = (n - (SetTable.runEnd m i - i + 1)) + (SetTable.runEnd m i - i + 1) by omega, advN_add, adv_next]
        exact e4 _ (by omega)

/-- a table laid anew, amid the laying: pl says where the first entries stand -/
structure LOk (m : Nat) (pl : List Nat) (hashes : List Int) (owner : Array (Option Nat)) : Prop where
  size : owner.size = m + 1
  nd : pl.Nodup
  le : ∀ j, j ∈ pl → j ≤ m
  own : ∀ (k j : Nat), pl[k]? = some j → owner[j]? = some (some k)
  emp : ∀ j, j ≤ m → j ∉ pl → owner[j]? = some none
  reach : ∀ (k j : Nat) (h : Int), pl[k]? = some j → hashes[k]? = some h → ∃ N, (advN m N (pstart m h)).j = j ∧ ∀ n, n < N → (advN m n (pstart m h)).j ∈ pl

theorem LOk.full {m : Nat} {pl : List Nat} {hashes : List Int} {owner : Array (Option Nat)} (L : LOk m pl hashes owner) {j : Nat} (hj : j ≤ m) : Full owner j ↔ j ∈ pl := by
  unfold Full
  constructor
  · intro h
    apply Classical.byContradiction
    intro hn
    have := L.emp j hj hn
    rw [Array.getD_eq_getD_getElem?, this] at h
    cases h
  · intro h
    obtain ⟨k, hk⟩ := List.getElem?_of_mem h
    rw [Array.getD_eq_getD_getElem?, L.own k j hk]; rfl

def layStep (m : Nat) (acc : Option (Array (Option Nat) × Nat)) (h : Int) : Option (Array (Option Nat) × Nat) := do
  let (owner, k) ← acc
  let j ← SetTable.layClean.free m owner (SetTable.turns m) (SetTable.bits h % (m + 1)) (SetTable.bits h)
  pure (owner.setIfInBounds j (some k), k + 1)
theorem layClean_eq (m : Nat) (hashes : Array Int) : SetTable.layClean m hashes = (hashes.toList.foldl (layStep m) (some (Array.replicate (m + 1) none, 0))).map (·.1) := by
  unfold SetTable.layClean
  rw [← Array.foldl_toList]; rfl

theorem pstart_hd (m : Nat) (h : Int) : pstart m h = hd m (SetTable.bits h % (m + 1)) (SetTable.bits h) := rfl

theorem lay_all {m : Nat} (hm : MaskOk m) : ∀ (todo done : List Int) (pl : List Nat) (owner : Array (Option Nat)), LOk m pl (done ++ todo) owner → pl.length = done.length → done.length + todo.length ≤ m →
    ∃ pl' owner', todo.foldl (layStep m) (some (owner, done.length)) = some (owner', (done ++ todo).length) ∧ LOk m pl' (done ++ todo) owner' ∧ pl'.length = (done ++ todo).length
  | [], done, pl, owner, L, hl, _ => ⟨pl, owner, by simp, L, by simpa using hl⟩
  | h :: todo, done, pl, owner, L, hl, hle => by
    have hsz : pl.length ≤ m := by rw [hl]; simp only [List.length_cons] at hle; omega
    obtain ⟨x, hx1, hx2⟩ := pigeon m pl hsz
    have hbi : SetTable.bits h % (m + 1) ≤ m := by have := Nat.mod_lt (SetTable.bits h) (show m + 1 > 0 by omega); omega
    obtain ⟨r, hr, er⟩ := leap_cover hm hbi (bits_lt h) hx1
    obtain ⟨j, N, e1, e2, e3, e4⟩ := free_spec owner (SetTable.turns m) (SetTable.bits h % (m + 1)) (SetTable.bits h) ⟨r, hr, by rw [er]; exact fun q => hx2 ((L.full hx1).mp q)⟩
    have pok : ∀ n, (advN m n (pstart m h)).j ≤ m := fun n => by have := ((pstart_ok m h).advN n).j; omega
    have hj : j ≤ m := by rw [← e3, ← pstart_hd]; exact pok N
    have hjn : j ∉ pl := fun q => e2 ((L.full hj).mpr q)
    have hget : (owner.setIfInBounds j (some done.length)) = owner.setIfInBounds j (some pl.length) := by rw [hl]
    have L' : LOk m (pl ++ [j]) (done ++ h :: todo) (owner.setIfInBounds j (some pl.length)) := by
      refine ⟨by simpa using L.size, ?_, ?_, ?_, ?_, ?_⟩
      · rw [List.nodup_append]
        exact ⟨L.nd, by simp, fun a ha b hb => by rw [List.mem_singleton.mp hb]; rintro rfl; exact hjn ha⟩
      · intro y hy
        rcases List.mem_append.mp hy with hy | hy
        · exact L.le y hy
        · rw [List.mem_singleton.mp hy]; exact hj
      · intro k y hk
        by_cases hkl : k < pl.length
        · rw [List.getElem?_append_left hkl] at hk
          have hy : y ≠ j := fun q => hjn (q ▸ List.mem_of_getElem? hk)
          rw [Array.getElem?_setIfInBounds_ne (Ne.symm hy)]
          exact L.own k y hk
        · rw [List.getElem?_append_right (by omega)] at hk
          have : k - pl.length = 0 := by
            have := (List.getElem?_eq_some_iff.mp hk).1; simp at this; omega
          rw [this] at hk; simp at hk; subst hk
          have : k = pl.length := by omega
          subst this
          rw [Array.getElem?_setIfInBounds_self_of_lt (by rw [L.size]; omega)]
      · intro y hy hyn
        have h1 : y ∉ pl := fun q => hyn (List.mem_append_left _ q)
        have h2 : y ≠ j := fun q => hyn (List.mem_append_right _ (by simp [q]))
        rw [Array.getElem?_setIfInBounds_ne (Ne.symm h2)]
        exact L.emp y hy h1
      · intro k y g hk hg
        by_cases hkl : k < pl.length
        · rw [List.getElem?_append_left hkl] at hk
          obtain ⟨N', f1, f2⟩ := L.reach k y g hk hg
          exact ⟨N', f1, fun n hn => List.mem_append_left _ (f2 n hn)⟩
        · rw [List.getElem?_append_right (by omega)] at hk
          have : k - pl.length = 0 := by
            have := (List.getElem?_eq_some_iff.mp hk).1; simp at this; omega
          rw [this] at hk; simp at hk; subst hk
          have : k = done.length := by omega
          subst this
          rw [List.getElem?_append_right (Nat.le_refl _)] at hg
          simp at hg; subst hg
          refine ⟨N, by rw [pstart_hd]; exact e3, fun n hn => List.mem_append_left _ ((L.full (pok n)).mp ?_)⟩
          rw [pstart_hd]; exact e4 n hn
    have L'' : LOk m (pl ++ [j]) ((done ++ [h]) ++ todo) (owner.setIfInBounds j (some pl.length)) := by simpa using L'
    obtain ⟨pl', owner', f1, f2, f3⟩ := lay_all hm todo (done ++ [h]) (pl ++ [j]) _ L'' (by simp [hl]) (by simp at hle ⊢; omega)
    refine ⟨pl', owner', ?_, by simpa using f2, by simpa using f3⟩
    rw [List.foldl_cons, show layStep m (some (owner, done.length)) h = some (owner.setIfInBounds j (some done.length), done.length + 1) from by
      unfold layStep; simp [e1], hget]
    simpa using f1

theorem lay_clean {m : Nat} (hm : MaskOk m) (hashes : Array Int) (hle : hashes.size ≤ m) :
    ∃ pl owner, SetTable.layClean m hashes = some owner ∧ LOk m pl hashes.toList owner ∧ pl.length = hashes.size := by
  obtain ⟨pl, owner, h1, h2, h3⟩ := lay_all hm hashes.toList [] [] (Array.replicate (m + 1) none)
    ⟨by simp, by simp, by simp, by simp, fun j hj _ => by rw [Array.getElem?_replicate, if_pos (by omega)], by simp⟩ rfl (by simpa using hle)
  refine ⟨pl, owner, ?_, by simpa using h2, by simpa using h3⟩
  rw [layClean_eq]
  have : hashes.toList.foldl (layStep m) (some (Array.replicate (m + 1) none, 0)) = some (owner, ([] ++ hashes.toList).length) := h1
  rw [this]; rfl

end Go

end
section
set_option autoImplicit false
set_option Elab.async false
namespace Go
open PySem

theorem filterMap_range_get {α : Type} : ∀ (l : List α), (List.range l.length).filterMap (l[·]?) = l
  | [] => rfl
  | a :: l => by
    rw [List.length_cons, List.range_succ_eq_map, List.filterMap_cons]
    simp only [List.getElem?_cons_zero, List.filterMap_map]
    congr 1
    exact filterMap_range_get l

theorem filterMap_all {α β : Type} (f : α → Option β) : ∀ (l : List α), (∀ x, x ∈ l → (f x).isSome = true) → ∀ (i : Nat) (x : α), l[i]? = some x → (l.filterMap f)[i]? = f x
  | a :: l, h, 0, x, e => by
    simp at e; subst e
    obtain ⟨b, hb⟩ := Option.isSome_iff_exists.mp (h a List.mem_cons_self)
    rw [List.filterMap_cons_some hb, hb]; rfl
  | a :: l, h, i + 1, x, e => by
    obtain ⟨b, hb⟩ := Option.isSome_iff_exists.mp (h a List.mem_cons_self)
    rw [List.filterMap_cons_some hb, List.getElem?_cons_succ]
    exact filterMap_all f l (fun y hy => h y (List.mem_cons_of_mem _ hy)) i x (by simpa using e)
theorem filterMap_all_len {α β : Type} (f : α → Option β) : ∀ (l : List α), (∀ x, x ∈ l → (f x).isSome = true) → (l.filterMap f).length = l.length
  | [], _ => rfl
  | a :: l, h => by
    obtain ⟨b, hb⟩ := Option.isSome_iff_exists.mp (h a List.mem_cons_self)
    rw [List.filterMap_cons_some hb, List.length_cons, List.length_cons, filterMap_all_len f l (fun y hy => h y (List.mem_cons_of_mem _ hy))]

theorem laid_ok {m : Nat} (hm : MaskOk m) (finger moves : Nat) (led plain : Bool) (es : Array (Int × Value)) (hf : es.size * 5 < m * 3) :
    ∃ t order, SetTable.laid m finger moves led plain (es.map (·.1)) = some (t, order) ∧ t.mask = m ∧ t.plain = plain ∧ t.led = led ∧
      (order.filterMap (es[·]?)).toList.Perm es.toList ∧ TOk t (order.filterMap (es[·]?)).toList := by
  obtain ⟨pl, owner, h1, L, h3⟩ := lay_clean hm (es.map (·.1)) (by rw [Array.size_map]; rcases hm with e | e | e | e | e | e <;> rw [e] at hf ⊢ <;> omega)
  have hpl : pl.length = es.toList.length := by rw [h3]; simp
  have fm : ∀ j, j ≤ m → (owner.getD j none).map (fun k => (j, k)) = (pl.zipIdx.find? (fun x => x.1 == j)) := by
    intro j hj
    by_cases hp : j ∈ pl
    · obtain ⟨k, hk⟩ := List.getElem?_of_mem hp
      rw [Array.getD_eq_getD_getElem?, L.own k j hk]
      symm
      have hmem : (j, k) ∈ pl.zipIdx := List.mem_zipIdx_iff_getElem?.mpr hk
      cases hq : pl.zipIdx.find? (fun x => x.1 == j) with
      | none => exact absurd (List.find?_eq_none.mp hq _ hmem) (by simp)
      | some y =>
        have y1 := List.find?_some hq
        have y2 := List.mem_of_find?_eq_some hq
        obtain ⟨y1', y2'⟩ := y
        have y1 : y1' = j := by simpa using y1
        subst y1
        have hk2 := List.mem_zipIdx_iff_getElem?.mp y2
        have e1 := L.own k y1' hk
        have e2 := L.own y2' y1' hk2
        rw [e1] at e2; cases e2; rfl
    · rw [Array.getD_eq_getD_getElem?, L.emp j hj hp]
      symm
      apply List.find?_eq_none.mpr
      rintro ⟨a, b⟩ hab
      have := List.mem_zipIdx_iff_getElem?.mp hab
      simp only [beq_iff_eq]
      rintro rfl
      exact hp (List.mem_of_getElem? this)
  let live := (List.range (m + 1)).filterMap fun j => (owner.getD j none).map (fun k => (j, k))
  have mlive : ∀ x, x ∈ live ↔ x ∈ pl.zipIdx := by
    rintro ⟨j, k⟩
    rw [List.mem_filterMap]
    constructor
    · rintro ⟨j', hj', e⟩
      rw [fm j' (by have := List.mem_range.mp hj'; omega)] at e
      exact List.mem_of_find?_eq_some e
    · intro h
      have hk := List.mem_zipIdx_iff_getElem?.mp h
      have hj : j ≤ m := L.le j (List.mem_of_getElem? hk)
      refine ⟨j, List.mem_range.mpr (by omega), ?_⟩
      rw [Array.getD_eq_getD_getElem?, L.own k j hk]; rfl
  have rlive : live.Pairwise (fun a b => a.1 < b.1) := by
    refine List.Pairwise.filterMap _ (R := (· < ·)) ?_ List.pairwise_lt_range
    intro a a' haa b hb b' hb'
    obtain ⟨x, _, rfl⟩ := Option.map_eq_some_iff.mp hb
    obtain ⟨x', _, rfl⟩ := Option.map_eq_some_iff.mp hb'
    exact haa
  have nlive : live.Nodup := List.Pairwise.imp (fun {a b} (h : a.1 < b.1) (e : a = b) => by rw [e] at h; exact Nat.lt_irrefl _ h) rlive
  have nzip : pl.zipIdx.Nodup := by
    have : (pl.zipIdx.map Prod.fst).Nodup := by rw [List.zipIdx_map_fst]; exact L.nd
    exact List.Pairwise.of_map Prod.fst (fun a b h e => h (by rw [e])) this
  have perm : live.Perm pl.zipIdx := (List.perm_ext_iff_of_nodup nlive nzip).mpr mlive
  have hsome : ∀ x, x ∈ live.map (·.2) → (es.toList[x]?).isSome = true := by
    intro x hx
    obtain ⟨⟨j, k⟩, hy, rfl⟩ := List.mem_map.mp hx
    have := (List.getElem?_eq_some_iff.mp (List.mem_zipIdx_iff_getElem?.mp ((mlive _).mp hy))).1
    have : k < es.toList.length := by rw [← hpl]; exact this
    simp only [List.getElem?_eq_getElem this]; rfl
  have eorder : ((live.map (·.2)).toArray.filterMap (es[·]?)).toList = (live.map (·.2)).filterMap (es.toList[·]?) := by
    rw [Array.toList_filterMap]
    congr 1
    funext x; simp
  refine ⟨_, (live.map (·.2)).toArray, by unfold SetTable.laid; rw [h1]; rfl, rfl, rfl, rfl, ?_, ?_⟩
  · rw [eorder]
    refine (List.Perm.filterMap _ (perm.map (·.2))).trans ?_
    rw [List.zipIdx_map_snd, hpl, ← List.range_eq_range', filterMap_range_get]
  · rw [eorder]
    have hplace : ∀ (i j : Nat), (live.map (·.1)).toArray[i]? = some j → ∃ k, live[i]? = some (j, k) ∧ pl[k]? = some j := by
      intro i j hi
      rw [List.getElem?_toArray, List.getElem?_map] at hi
      obtain ⟨⟨j', k⟩, hk, rfl⟩ := Option.map_eq_some_iff.mp hi
      exact ⟨k, hk, List.mem_zipIdx_iff_getElem?.mp ((mlive _).mp (List.mem_of_getElem? hk))⟩
    have hmem : ∀ j, j ∈ live.map (·.1) ↔ j ∈ pl := by
      intro j
      rw [List.mem_map]
      constructor
      · rintro ⟨⟨j', k⟩, hx, rfl⟩; exact List.mem_of_getElem? (List.mem_zipIdx_iff_getElem?.mp ((mlive _).mp hx))
      · intro h
        obtain ⟨k, hk⟩ := List.getElem?_of_mem h
        exact ⟨(j, k), (mlive _).mpr (List.mem_zipIdx_iff_getElem?.mpr hk), rfl⟩
    refine ⟨?_, hm, ?_, List.Pairwise.nil, (fun _ _ h => (nomatch h)), fun j hj => L.le j ((hmem j).mp hj), (fun _ h => (nomatch h)), ?_, ?_⟩
    · show (live.map (·.1)).toArray.size = _
      rw [filterMap_all_len _ _ hsome]; simp
    · exact List.pairwise_map.mpr rlive
    · show ((live.map (·.1)).toArray.size + 0) * 5 < m * 3
      have : live.length = es.size := by rw [perm.length_eq, List.length_zipIdx, hpl, Array.length_toList]
      simp [this]; exact hf
    · intro i j e hi he
      obtain ⟨k, hk1, hk2⟩ := hplace i j hi
      rw [filterMap_all _ _ hsome i k (by rw [List.getElem?_map, hk1]; rfl)] at he
      obtain ⟨N, r1, r2⟩ := L.reach k j e.1 hk2 (by simp at he ⊢; exact ⟨_, he⟩)
      exact ⟨N, r1, fun n hn => .inl ((hmem _).mpr (r2 n hn))⟩

theorem sizeAbove_ok {n : Nat} (h : n < 256) : MaskOk (SetTable.sizeAbove n - 1) ∧ n ≤ SetTable.sizeAbove n - 1 ∧ SetTable.sizeAbove n ≤ 256 := by
  have h8 : n < 8 → SetTable.sizeAbove n = 8 := fun q => by
    unfold SetTable.sizeAbove SetTable.sizeAbove.go; rw [if_neg (by omega)]
  have go : ∀ f s, ¬ (s ≤ n) → SetTable.sizeAbove.go n f s = s := fun f s q => by
    cases f with
    | zero => rfl
    | succ f => unfold SetTable.sizeAbove.go; rw [if_neg q]
  have st : ∀ f s, s ≤ n → SetTable.sizeAbove.go n (f + 1) s = SetTable.sizeAbove.go n f (s * 2) := fun f s q => by
    rw [SetTable.sizeAbove.go, if_pos q]
  have : SetTable.sizeAbove n = if n < 8 then 8 else if n < 16 then 16 else if n < 32 then 32 else if n < 64 then 64 else if n < 128 then 128 else 256 := by
    unfold SetTable.sizeAbove
    split
    · exact go _ _ (by omega)
    · rw [st _ _ (by omega)]
      split
      · exact go _ _ (by omega)
      · rw [st _ _ (by omega)]
        split
        · exact go _ _ (by omega)
        · rw [st _ _ (by omega)]
          split
          · exact go _ _ (by omega)
          · rw [st _ _ (by omega)]
            split
            · exact go _ _ (by omega)
            · rw [st _ _ (by omega)]; exact go _ _ (by omega)
  rw [this]
  unfold MaskOk
  (repeat' split) <;> omega

theorem relaid_ok {t : SetTable} (es : Array (Int × Value)) {wanted : Nat} (hw : wanted < 256) (h : es.size * 2 ≤ wanted) :
    ∃ t' order, t.relaid (es.map (·.1)) wanted = some (t', order) ∧ t'.plain = t.plain ∧ t'.led = t.led ∧
      (order.filterMap (es[·]?)).toList.Perm es.toList ∧ TOk t' (order.filterMap (es[·]?)).toList ∧ wanted ≤ t'.mask := by
  obtain ⟨h1, h2, _⟩ := sizeAbove_ok hw
  obtain ⟨t', order, e1, e2, e3, e4, e5, e6⟩ := laid_ok h1 t.finger (t.movedTo (SetTable.sizeAbove wanted - 1)) t.led t.plain es (by
    rcases h1 with e | e | e | e | e | e <;> rw [e] at h2 ⊢ <;> omega)
  exact ⟨t', order, e1, e3, e4, e5, e6, by rw [e2]; exact h2⟩

end Go

end
section
set_option autoImplicit false
set_option Elab.async false
namespace Go
open PySem

section
variable (prog : Program) (w : World)
abbrev PKey (h : Heap) (p : Int × Int) (x : Value) : Prop := ∃ a, x = .ref a ∧ IsTupleKey (intKind prog w) h [p.1, p.2] a
def phash (p : Int × Int) : Int := tupleKeyHash (intKind prog w) [p.1, p.2]

open Classical in
noncomputable def ptOf (h : Heap) (x : Value) : Int × Int := if q : ∃ p, PKey prog w h p x then q.choose else (0, 0)

variable {prog w}
theorem PKey.inj {h : Heap} {p q : Int × Int} {x : Value} (a : PKey prog w h p x) (b : PKey prog w h q x) : p = q := by
  obtain ⟨a1, rfl, ha⟩ := a
  obtain ⟨b1, e, hb⟩ := b
  cases e
  have := ha.inj hb
  injection this with h1 h2
  injection h2 with h2 _
  exact Prod.ext h1 h2
theorem PKey.pt {h : Heap} {p : Int × Int} {x : Value} (a : PKey prog w h p x) : ptOf prog w h x = p := by
  unfold ptOf
  rw [dif_pos ⟨p, a⟩]
  exact PKey.inj (Exists.choose_spec (⟨p, a⟩ : ∃ p, PKey prog w h p x)) a
/-- every tuple stays -/
def TK (h h' : Heap) : Prop := ∀ b o items n, h.get? b = some o → o.cls = .type "tuple" → o.data = .seq items n → h'.get? b = some o
theorem TK.of_keeps {h h' : Heap} (k : ∀ b o, h.get? b = some o → h'.get? b = some o) : TK h h' := fun b o _ _ e _ _ => k b o e
theorem TK.trans {h h' h'' : Heap} (x : TK h h') (y : TK h' h'') : TK h h'' := fun b o i n e c d => y b o i n (x b o i n e c d) c d
theorem PKey.keeps {h h' : Heap} {p : Int × Int} {x : Value} (k : PKey prog w h p x) (hk : TK h h') : PKey prog w h' p x := by
  obtain ⟨a, rfl, o, items, n, ho, hc, hd, hi⟩ := k
  exact ⟨a, rfl, o, items, n, hk _ _ _ _ ho hc hd, hc, hd, hi⟩

structure SetAt (prog : Program) (w : World) (h : Heap) (vs : List (Int × Int)) (es : Array (Int × Value)) (t : SetTable) : Prop where
  nd : vs.Nodup
  tok : TOk t es.toList
  plain : t.plain = true
  led : w.params.followText "set-order" = false → t.led = true
  perm : (es.toList.map (fun e => ptOf prog w h e.2)).Perm vs
  ent : ∀ e, e ∈ es.toList → ∃ p, PKey prog w h p e.2 ∧ e.1 = phash prog w p

namespace SetAt
variable {h h' : Heap} {vs : List (Int × Int)} {es : Array (Int × Value)} {t : SetTable}
theorem fits (S : SetAt prog w h vs es t) : t.fits es.size = true := by
  unfold SetTable.fits
  rw [Bool.and_eq_true, beq_iff_eq, decide_eq_true_eq]
  refine ⟨by rw [S.tok.len, Array.length_toList], ?_⟩
  have := S.tok.fill
  rcases S.tok.mask with e | e | e | e | e | e <;> rw [e] at this ⊢ <;> omega
theorem size (S : SetAt prog w h vs es t) : es.size = vs.length := by
  rw [← S.perm.length_eq, List.length_map, Array.length_toList]
theorem keeps (S : SetAt prog w h vs es t) (hk : TK h h') : SetAt prog w h' vs es t := by
  refine ⟨S.nd, S.tok, S.plain, S.led, ?_, fun e he => ?_⟩
  · have : es.toList.map (fun e => ptOf prog w h' e.2) = es.toList.map (fun e => ptOf prog w h e.2) := by
      apply List.map_congr_left
      intro e he
      obtain ⟨p, hp, _⟩ := S.ent e he
      rw [hp.pt, (hp.keeps hk).pt]
    rw [this]; exact S.perm
  · obtain ⟨p, hp, e1⟩ := S.ent e he
    exact ⟨p, hp.keeps hk, e1⟩
theorem gave (S : SetAt prog w h vs es t) : t.gaveWay = false := by
  unfold SetTable.gaveWay
  rcases S.tok.mask with e | e | e | e | e | e <;> rw [e] <;> rfl
theorem at_ (S : SetAt prog w h vs es t) {i : Nat} {e : Int × Value} (hi : es.toList[i]? = some e) : ∃ p, PKey prog w h p e.2 ∧ e.1 = phash prog w p ∧ p ∈ vs := by
  obtain ⟨p, hp, e1⟩ := S.ent e (List.mem_of_getElem? hi)
  refine ⟨p, hp, e1, S.perm.mem_iff.mp (List.mem_map.mpr ⟨e, List.mem_of_getElem? hi, hp.pt⟩)⟩
theorem has (S : SetAt prog w h vs es t) {p : Int × Int} (hp : p ∈ vs) : ∃ (i : Nat) (e : Int × Value), es.toList[i]? = some e ∧ PKey prog w h p e.2 ∧ e.1 = phash prog w p := by
  obtain ⟨e, he, e1⟩ := List.mem_map.mp (S.perm.mem_iff.mpr hp)
  obtain ⟨q, hq, e2⟩ := S.ent e he
  rw [hq.pt] at e1; subst e1
  obtain ⟨i, hi⟩ := List.getElem?_of_mem he
  exact ⟨i, e, hi, hq, e2⟩
end SetAt
end

section
variable {prog : Program} {w : World} {A : Around} {E : Value → Shared → Prop} {s : Shared}

theorem ofAClass_false {p : Int × Int} {x : Value} {Q : Bool → Shared → Prop} (k : PKey prog w s.heap p x) (h : Q false s) : wpAny (model prog w) A (ofAClassStatement 8 x) Q E s := by
  obtain ⟨a, rfl, o, items, n, ho, hc, hd, hi⟩ := k
  unfold ofAClassStatement
  refine wpAny_bind (m := typeOf (.ref a)) ?_
  refine wpAny_bind (wpAny_loadPart ho (wpAny_pure ?_))
  rw [hc]
  dsimp only
  refine wpAny_bind (wpAny_pure ?_)
  rw [if_neg (by decide)]
  refine wpAny_bind (wpAny_seqItems ho hd ?_)
  dsimp only
  refine wpAny_bind ?_
  rw [← Array.forIn_toList]
  refine wpAny_forIn_list _ (fun rest r s' => r.1 = none ∧ s' = s ∧ ∀ v ∈ rest, carriedByValue v = true) _ ?_ ?_ _ _ ⟨rfl, rfl, hi.byValue⟩
  · rintro v rest r s' ⟨hr, rfl, hall⟩
    have hv := hall v List.mem_cons_self
    have : ofAClassStatement 7 v = pure false := by
      cases v <;> first | rfl | (simp [carriedByValue] at hv)
    rw [this]
    refine wpAny_bind (wpAny_pure ?_)
    simp only [Bool.false_eq_true, if_false]
    exact wpAny_pure ⟨rfl, rfl, fun u hu' => hall u (List.mem_cons_of_mem _ hu')⟩
  · rintro ⟨r1, r2⟩ s' ⟨hr, rfl, _⟩
    simp only at hr
    subst hr
    exact wpAny_pure h

theorem quiet_pk {p : Int × Int} {x : Value} {Q : Bool → Shared → Prop} (k : PKey prog w s.heap p x) (h : Q true s) : wpAny (model prog w) A (eqIsQuiet 8 x) Q E s := by
  obtain ⟨a, rfl, hk⟩ := k
  exact wpAny_eqIsQuiet_tuple hk h

theorem seen_false {p : Int × Int} {x : Value} {Q : Bool → Shared → Prop} (k : PKey prog w s.heap p x) (l : List Value) (hl : ∀ y, y ∈ l → ∃ q, PKey prog w s.heap q y) (h : Q false s) :
    wpAny (model prog w) A (searchCouldBeSeen x l) Q E s := by
  unfold searchCouldBeSeen
  refine wpAny_bind ?_
  refine wpAny_forIn_list _ (fun rest r s' => r.1 = none ∧ s' = s ∧ ∀ y, y ∈ rest → ∃ q, PKey prog w s.heap q y) _ ?_ ?_ _ _ ⟨rfl, rfl, hl⟩
  · rintro y rest r s' ⟨hr, rfl, hall⟩
    obtain ⟨q, hq⟩ := hall y List.mem_cons_self
    have hrest : ∀ z, z ∈ rest → ∃ q, PKey prog w s'.heap q z := fun z hz => hall z (List.mem_cons_of_mem _ hz)
    have k0 := k
    have hq0 := hq
    obtain ⟨a, rfl, _⟩ := k
    obtain ⟨b, rfl, _⟩ := hq
    dsimp only
    by_cases hab : (a == b || carriedByValue (Value.ref a) && carriedByValue (Value.ref b)) = true
    · rw [if_pos hab]
      exact wpAny_pure ⟨rfl, rfl, hrest⟩
    · rw [if_neg hab]
      have k := k0
      have hq := hq0
      refine wpAny_bind (quiet_pk k ?_)
      rw [if_neg (by decide)]
      refine wpAny_bind (quiet_pk hq ?_)
      rw [if_neg (by decide)]
      refine wpAny_bind (ofAClass_false k ?_)
      rw [if_neg (by decide)]
      refine wpAny_bind (ofAClass_false hq ?_)
      rw [if_neg (by decide)]
      exact wpAny_pure ⟨rfl, rfl, hrest⟩
  · rintro ⟨r1, r2⟩ s' ⟨hr, rfl, _⟩
    simp only at hr
    subst hr
    exact wpAny_pure h

theorem pk_hash {p : Int × Int} {x : Value} {Q : Int → Shared → Prop} (hu : A.units < cLine) (k : PKey prog w s.heap p x) (h : Q (phash prog w p) { s with toks := s.toks + 3 }) : wpAny (model prog w) A (pyHash x) Q E s := by
  obtain ⟨a, rfl, hk⟩ := k
  exact wpAny_pyHash_tuple hu hk h
theorem pk_eq {p q : Int × Int} {x y : Value} {Q : Bool → Shared → Prop} (hu : A.units < cLine) (k : PKey prog w s.heap p x) (k' : PKey prog w s.heap q y) (h : Q (decide (p = q)) s) : wpAny (model prog w) A (eqBool x y) Q E s := by
  obtain ⟨a, rfl, hk⟩ := k
  obtain ⟨b, rfl, hk'⟩ := k'
  refine wpAny_eqBool_tuple hu hk hk' ?_
  have : decide ([p.1, p.2] = [q.1, q.2]) = decide (p = q) := by
    obtain ⟨p1, p2⟩ := p; obtain ⟨q1, q2⟩ := q
    simp
  rw [this]; exact h
end

end Go

end
section
set_option autoImplicit false
set_option Elab.async false
namespace Go
open PySem

section
variable {prog : Program} {w : World} {A : Around} {E : Value → Shared → Prop} {s : Shared}
variable {a : Addr} {o : Obj} {es : Array (Int × Value)} {ep : Nat} {t : SetTable} {vs : List (Int × Int)} {p : Int × Int} {x : Value}

theorem search_from (hu : A.units < cLine) (ho : s.heap.get? a = some o) (hd : o.data = .set es ep t) (S : SetAt prog w s.heap vs es t) (hx : PKey prog w s.heap p x) (adding : Bool) {Q : SetFound → Shared → Prop}
    (hin : ∀ (i : Nat) (e : Int × Value), p ∈ vs → es.toList[i]? = some e → PKey prog w s.heap p e.2 → Q (.there (if adding then none else some i)) s)
    (hout : p ∉ vs → ∀ slot wd, slot ≤ t.mask → slot ∉ t.place.toList → Rch t slot (phash prog w p) → (wd = true ↔ slot ∈ t.dummies.toList) → Q (.free slot wd) s) :
    ∀ (fuel n : Nat) (dm : Option Nat) (stand : Option SetTable.Probe), stand.getD (t.probeStart (phash prog w p)) = setD (advN t.mask n (pstart t.mask (phash prog w p))) dm →
      (∀ k, k < n → NonE t (advN t.mask k (pstart t.mask (phash prog w p))).j ∧ ∀ (i : Nat) (e : Int × Value), t.place[i]? = some (advN t.mask k (pstart t.mask (phash prog w p))).j → es.toList[i]? = some e → ¬ PKey prog w s.heap p e.2) →
      (dm = none ∨ ∃ k, k < n ∧ dm = some (advN t.mask k (pstart t.mask (phash prog w p))).j ∧ t.slot (advN t.mask k (pstart t.mask (phash prog w p))).j = .dummy) →
      (∃ Ne, ¬ NonE t (advN t.mask Ne (pstart t.mask (phash prog w p))).j ∧ Ne < n + fuel) →
      wpAny (model prog w) A (setSearchFrom a x (phash prog w p) adding fuel stand) Q E s
  | 0, n, dm, stand, _, hvis, _, ⟨Ne, h1, h2⟩ => absurd (hvis Ne (by omega)).1 h1
  | fuel + 1, n, dm, stand, hst, hvis, hdm, ⟨Ne, hne, hNe⟩ => by
    have sts : ∀ {Q' : (Array (Int × Value) × Nat × SetTable) → Shared → Prop}, Q' (es, ep, t) s → wpAny (model prog w) A (setState a) Q' E s := fun h => wpAny_setState_of ho hd S.fits h
    unfold setSearchFrom
    refine wpAny_bind (sts ?_)
    dsimp only
    rw [S.gave]
    simp only [Bool.false_eq_true, if_false]
    rw [hst]
    obtain ⟨d, dm', hnd, hv, hdm', hres⟩ := S.tok.probe (fun i => (es[i]?.map (·.1)).getD 0) (phash prog w p) n dm
    have plk : ∀ {i j : Nat}, t.place[i]? = some j → ∃ e, es.toList[i]? = some e := fun {i j} h => by
      have : i < es.toList.length := by rw [← S.tok.len]; exact (Array.getElem?_eq_some_iff.mp h).1
      exact ⟨_, List.getElem?_eq_getElem this⟩
    have hashE : ∀ {i : Nat} {e : Int × Value}, es.toList[i]? = some e → (es[i]?.map (·.1)).getD 0 = e.1 := fun {i e} h => by
      rw [← Array.getElem?_toList, h]; rfl
    -- the places up to d are seen, none of them is p
    have hvis' : ∀ k, k < d → NonE t (advN t.mask k (pstart t.mask (phash prog w p))).j ∧ ∀ (i : Nat) (e : Int × Value), t.place[i]? = some (advN t.mask k (pstart t.mask (phash prog w p))).j → es.toList[i]? = some e → ¬ PKey prog w s.heap p e.2 := by
      intro k hk
      by_cases hkn : k < n
      · exact hvis k hkn
      · obtain ⟨q1, q2⟩ := hv k (by omega) hk
        refine ⟨q1, fun i e hi he hp => ?_⟩
        obtain ⟨q, hq, e1, _⟩ := S.at_ he
        have : q = p := hq.inj hp
        subst this
        exact q2 i hi (by rw [hashE he]; exact e1)
    have hdm2 : dm' = none ∨ ∃ k, k < d ∧ dm' = some (advN t.mask k (pstart t.mask (phash prog w p))).j ∧ t.slot (advN t.mask k (pstart t.mask (phash prog w p))).j = .dummy := by
      rcases hdm' with e | ⟨k, hk, e1, e2, _⟩
      · rcases hdm with q | ⟨k, hk, q1, q2⟩
        · exact .inl (e.trans q)
        · exact .inr ⟨k, by omega, e.trans q1, q2⟩
      · exact .inr ⟨k, hk, e1, e2⟩
    have jle : ∀ k, (advN t.mask k (pstart t.mask (phash prog w p))).j ≤ t.mask := fun k => by have := ((pstart_ok t.mask (phash prog w p)).advN k).j; omega
    generalize hF : t.probe _ (phash prog w p) (setD (advN t.mask n (pstart t.mask (phash prog w p))) dm) = r
    rcases hres with ⟨hemp, hpr⟩ | ⟨i, hpl, hsl, hh, hpr⟩
    · -- an empty slot: p is not in the set
      have hnot : p ∉ vs := fun hp => by
        obtain ⟨i, e, he, hk, e1⟩ := S.has hp
        have hi : i < t.place.size := by rw [S.tok.len]; exact (List.getElem?_eq_some_iff.mp he).1
        obtain ⟨N, n1, n2⟩ := S.tok.reach i _ e (Array.getElem?_eq_getElem hi) he
        rw [e1] at n1 n2
        rcases Nat.lt_trichotomy N d with h | h | h
        · exact (hvis' N h).2 i e (by rw [n1]; exact Array.getElem?_eq_getElem hi) he hk
        · subst h; exact hemp (.inl (by rw [n1]; exact Array.mem_toList_iff.mpr (Array.getElem_mem hi)))
        · exact hemp (n2 d h)
      obtain rfl := hF.symm.trans hpr
      dsimp only
      cases dm' with
      | none =>
        dsimp only
        refine wpAny_pure (hout hnot _ false (jle d) (fun q => hemp (.inl q)) ⟨d, rfl, fun k hk => (hvis' k hk).1⟩ ?_)
        exact ⟨fun q => (nomatch q), fun q => absurd (.inr q) hemp⟩
      | some dd =>
        dsimp only
        obtain ⟨k, hk, e1, e2⟩ : ∃ k, k < d ∧ dd = (advN t.mask k (pstart t.mask (phash prog w p))).j ∧ t.slot (advN t.mask k (pstart t.mask (phash prog w p))).j = .dummy := by
          rcases hdm2 with q | ⟨k, hk, q1, q2⟩
          · cases q
          · exact ⟨k, hk, Option.some.inj q1, q2⟩
        subst e1
        rw [e2]
        rw [if_neg (by cases adding <;> decide)]
        have h3 : (advN t.mask k (pstart t.mask (phash prog w p))).j ∉ t.place.toList ∧ (advN t.mask k (pstart t.mask (phash prog w p))).j ∈ t.dummies.toList := by
          rcases slot_cases S.tok (advN t.mask k (pstart t.mask (phash prog w p))).j with ⟨q, _⟩ | ⟨_, q⟩ | ⟨i, q, _⟩
          · rw [e2] at q; cases q
          · exact q
          · rw [e2] at q; cases q
        exact wpAny_pure (hout hnot _ true (jle k) h3.1 ⟨k, rfl, fun k' hk' => (hvis' k' (by omega)).1⟩ ⟨fun _ => h3.2, fun _ => rfl⟩)
    · -- a slot that bears the hash
      obtain ⟨e, he⟩ := plk hpl
      obtain ⟨q, hq, e1, hqv⟩ := S.at_ he
      obtain rfl := hF.symm.trans hpr
      dsimp only
      have he' : es[i]? = some e := by rw [← Array.getElem?_toList]; exact he
      have hstored : ∀ y, y ∈ (es.filter (fun x => x.1 == phash prog w p)).toList.map (·.2) → ∃ q, PKey prog w s.heap q y := by
        intro y hy
        obtain ⟨e, he, rfl⟩ := List.mem_map.mp hy
        have he := Array.mem_toList_iff.mp he
        obtain ⟨q, hq, _⟩ := S.ent e (Array.mem_toList_iff.mpr (Array.mem_filter.mp he).1)
        exact ⟨q, hq⟩
      have same : t.sameMemory t.moves t.mask = some true := by unfold SetTable.sameMemory; simp
      rcases Bool.eq_false_or_eq_true t.led with hl | hl
      all_goals first
        | rw [if_neg (by rw [hl]; decide)]
        | (rw [if_pos (by rw [hl]; decide)]; refine wpAny_bind (seen_false hx _ hstored ?_); rw [if_neg (by decide)])
      all_goals
        rw [he']
        dsimp only
        refine wpAny_bind (wpAny_holding (pk_eq hu hq hx ?_))
        refine wpAny_bind (sts ?_)
        dsimp only
        by_cases hqp : q = p
        · subst hqp
          cases adding with
          | true => simp only [decide_true, Bool.and_true, if_true]; exact wpAny_pure (hin i e hqv he hq)
          | false =>
            simp only [Bool.false_and, Bool.false_eq_true, if_false]
            rw [same]
            simp only [if_true, hsl, he']
            obtain ⟨b, eb, _⟩ := id hq
            rw [eb]
            refine wpAny_bind (m := isSame (.ref b) (.ref b)) ?_
            unfold isSame
            dsimp only
            rw [if_pos (by simp)]
            refine wpAny_pure ?_
            simp only [if_true, decide_true]
            exact wpAny_bind (wpAny_pure (wpAny_pure (hin i e hqv he hq)))
        · simp only [hqp, decide_false, Bool.and_false, Bool.false_eq_true, if_false]
          rw [same]
          simp only [if_true, hsl, he']
          obtain ⟨b, eb, _⟩ := id hq
          rw [eb]
          refine wpAny_bind (m := isSame (.ref b) (.ref b)) ?_
          unfold isSame
          dsimp only
          rw [if_pos (by simp)]
          refine wpAny_pure ?_
          simp only [if_true]
          refine wpAny_bind (wpAny_pure ?_)
          dsimp only
          refine search_from hu ho hd S hx adding hin hout fuel (d + 1) dm' _ rfl (fun k hk => ?_) ?_ ⟨Ne, hne, by omega⟩
          · by_cases hkd : k = d
            · subst hkd
              refine ⟨.inl (Array.mem_toList_iff.mpr (Array.mem_of_getElem? hpl)), fun i' e' hi' he2 hp' => ?_⟩
              have : i' = i := by
                have h1 := slot_live S.tok.rp hi'
                rw [hsl] at h1; cases h1; rfl
              subst this
              rw [he] at he2; cases he2
              exact hqp (hq.inj hp')
            · exact hvis' k (by omega)
          · rcases hdm2 with q | ⟨k, hk, q⟩
            · exact .inl q
            · exact .inr ⟨k, by omega, q⟩

theorem set_search (hu : A.units < cLine) (ho : s.heap.get? a = some o) (hd : o.data = .set es ep t) (S : SetAt prog w s.heap vs es t) (hx : PKey prog w s.heap p x) (adding : Bool) {Q : SetFound → Shared → Prop}
    (hin : ∀ (i : Nat) (e : Int × Value), p ∈ vs → es.toList[i]? = some e → PKey prog w s.heap p e.2 → Q (.there (if adding then none else some i)) s)
    (hout : p ∉ vs → ∀ slot wd, slot ≤ t.mask → slot ∉ t.place.toList → Rch t slot (phash prog w p) → (wd = true ↔ slot ∈ t.dummies.toList) → Q (.free slot wd) s) :
    wpAny (model prog w) A (setSearch a x (phash prog w p) adding) Q E s := by
  unfold setSearch
  obtain ⟨j, hj, hne⟩ := S.tok.exists_empty
  obtain ⟨Ne, hNe, e⟩ := cover S.tok.mask (pstart_ok t.mask (phash prog w p)) hj
  refine search_from hu ho hd S hx adding hin hout 100000 0 none none rfl (fun k hk => absurd hk (by omega)) (.inl rfl) ⟨Ne, by rw [e]; exact hne, ?_⟩
  unfold SetTable.turns at hNe
  rcases S.tok.mask with e | e | e | e | e | e <;> rw [e] at hNe <;> omega
end

end Go

end
section
set_option autoImplicit false
set_option Elab.async false
namespace Go
open PySem

section
variable {prog : Program} {w : World} {A : Around} {E : Value → Shared → Prop} {s : Shared}
variable {a : Addr} {o : Obj} {es : Array (Int × Value)} {ep : Nat} {t : SetTable} {vs : List (Int × Int)} {p : Int × Int} {x : Value}

theorem obj_self (hd : o.data = .set es ep t) : { o with data := .set es ep t } = o := by
  obtain ⟨c, d, dt, sl⟩ := o; dsimp only at hd; subst hd; rfl

theorem byScan_pk {h : Heap} (hx : PKey prog w h p x) (es : Array (Int × Value)) : byScan x es = false := by
  obtain ⟨a, rfl, _⟩ := hx; rfl

theorem set_contains (hu : A.units < cLine) (ho : s.heap.get? a = some o) (hd : o.data = .set es ep t) (S : SetAt prog w s.heap vs es t) (hx : PKey prog w s.heap p x) {Q : Bool → Shared → Prop}
    (h : Q (decide (p ∈ vs)) { s with toks := s.toks + 3 }) : wpAny (model prog w) A (setContains a x) Q E s := by
  unfold setContains
  refine wpAny_holding (wpAny_bind (pk_hash hu hx (wpAny_bind ?_)))
  unfold setFind setFindIn
  refine wpAny_bind (wpAny_setState_of ho hd S.fits ?_)
  dsimp only
  rw [byScan_pk hx]
  simp only [Bool.false_eq_true, if_false]
  refine wpAny_bind (set_search (s := { s with toks := s.toks + 3 }) hu ho hd S hx false ?_ ?_)
  · intro i e hp _ _
    dsimp only
    refine wpAny_pure (wpAny_pure ?_)
    rw [decide_eq_true hp] at h; exact h
  · intro hp slot wd _ _ _ _
    dsimp only
    refine wpAny_pure (wpAny_pure ?_)
    rw [decide_eq_false hp] at h; exact h

theorem hashByValue_pk {Q : Bool → Shared → Prop} (hx : PKey prog w s.heap p x) (h : Q true s) : wpAny (model prog w) A (hashByValue 8 x) Q E s := by
  obtain ⟨b, rfl, hk⟩ := hx
  have hT := hk.typeIs
  obtain ⟨o, items, n, ho, hc, hd, hi⟩ := hk
  unfold hashByValue
  refine wpAny_bind (wpAny_specialOf hT F.slot_tuple_hash.lookup ?_)
  show wpAny _ _ (seqItems? (.ref b) >>= _) _ _ s
  refine wpAny_bind (wpAny_seqItems ho hd ?_)
  refine wpAny_bind ?_
  show wpAny _ _ (forIn items _ _) _ _ s
  rw [← Array.forIn_toList]
  refine wpAny_forIn_list _ (fun rest r s' => r.1 = none ∧ s' = s ∧ ∃ ks, ItemsAre (intKind prog w) ks rest) _ ?_ ?_ _ _ ⟨rfl, rfl, _, hi⟩
  · rintro v rest r s' ⟨hr, rfl, ks, hks⟩
    cases hks with
    | cons h1 h2 =>
      have : hashByValue 7 v = pure true := by
        cases v <;> first | rfl | (simp [intKind, Value.isInt] at h1)
      rw [this]
      refine wpAny_bind (wpAny_pure ?_)
      rw [if_neg (by decide)]
      exact wpAny_pure ⟨rfl, rfl, _, h2⟩
  · rintro ⟨r1, r2⟩ s' ⟨hr, rfl, _⟩
    simp only at hr
    subst hr
    exact wpAny_pure h

theorem upd_set {h : Heap} (ho : h.get? a = some o) (hd : o.data = .set es ep t) (es' : Array (Int × Value)) (t' : SetTable) :
    (h.update a (Obj.putSet es' t')).get? a = some { o with data := .set es' (ep + 1) t' } := by
  rw [← putSet_of es' t' hd]
  exact Heap.get?_update_self _ ho (by rw [putSet_of es' t' hd]; rfl)

theorem tup_keeps {h h' : Heap} (ho : h.get? a = some o) (hc : o.cls = .type "set") (hs : Heap.SameBut a h h') : TK h h' := by
  intro b ob _ _ hb hcb _
  by_cases e : b = a
  · subst e; rw [ho] at hb; cases hb; rw [hc] at hcb; simp at hcb
  · rw [hs.2 b e]; exact hb

/-- what the entries tell, whatever table they stand in -/
structure EntsAt (prog : Program) (w : World) (h : Heap) (vs : List (Int × Int)) (es : List (Int × Value)) : Prop where
  perm : (es.map (fun e => ptOf prog w h e.2)).Perm vs
  ent : ∀ e, e ∈ es → ∃ p, PKey prog w h p e.2 ∧ e.1 = phash prog w p
theorem SetAt.ents {h : Heap} (S : SetAt prog w h vs es t) : EntsAt prog w h vs es.toList := ⟨S.perm, S.ent⟩
theorem EntsAt.of_perm {h : Heap} {l l' : List (Int × Value)} (X : EntsAt prog w h vs l) (k : l'.Perm l) : EntsAt prog w h vs l' :=
  ⟨(k.map _).trans X.perm, fun e he => X.ent e (k.mem_iff.mp he)⟩
theorem EntsAt.keeps {h h' : Heap} {l : List (Int × Value)} (X : EntsAt prog w h vs l) (hk : TK h h') : EntsAt prog w h' vs l := by
  refine ⟨?_, fun e he => ?_⟩
  · have : l.map (fun e => ptOf prog w h' e.2) = l.map (fun e => ptOf prog w h e.2) := by
      apply List.map_congr_left
      intro e he
      obtain ⟨p, hp, _⟩ := X.ent e he
      rw [hp.pt, (hp.keeps hk).pt]
    rw [this]; exact X.perm
  · obtain ⟨p, hp, e1⟩ := X.ent e he
    exact ⟨p, hp.keeps hk, e1⟩
theorem EntsAt.ins {h : Heap} {l : List (Int × Value)} (X : EntsAt prog w h vs l) (hx : PKey prog w h p x) (k : Nat) : EntsAt prog w h (p :: vs) (l.take k ++ (phash prog w p, x) :: l.drop k) := by
  have hp : (l.take k ++ (phash prog w p, x) :: l.drop k).Perm ((phash prog w p, x) :: l) := by
    refine List.perm_middle.trans ?_
    rw [List.take_append_drop]
  refine EntsAt.of_perm ⟨?_, ?_⟩ hp
  · rw [List.map_cons, hx.pt]; exact X.perm.cons _
  · intro e he
    rcases List.mem_cons.mp he with rfl | he
    · exact ⟨p, hx, rfl⟩
    · exact X.ent e he

theorem set_relay {wanted : Nat} (ho : s.heap.get? a = some o) (hd : o.data = .set es ep t) (hf : t.fits es.size = true) (hw : wanted < 256) (h2 : es.size * 2 ≤ wanted) {Q : Unit → Shared → Prop}
    (h : ∀ es' t', es'.toList.Perm es.toList → TOk t' es'.toList → t'.plain = t.plain → t'.led = t.led → wanted ≤ t'.mask → Q () { s with heap := s.heap.update a (Obj.putSet es' t') }) :
    wpAny (model prog w) A (setRelay a wanted) Q E s := by
  obtain ⟨t', order, e1, e2, e3, e4, e5, e6⟩ := relaid_ok (t := t) es hw h2
  have hz : (order.filterMap (es[·]?)).size = es.size := by rw [← Array.length_toList, e4.length_eq, Array.length_toList]
  unfold setRelay
  refine wpAny_bind (wpAny_setState_of ho hd hf ?_)
  dsimp only
  rw [if_neg (by have := (sizeAbove_ok hw).2.2; rw [sizeLine_eq]; omega)]
  refine wpAny_bind (show wpAny (model prog w) A ((do
    let some (t, order) := t.relaid (es.map (·.1)) wanted | unsupported "internal:set-table-without-room"
    let es' := order.filterMap (es[·]?)
    if es'.size != es.size then unsupported "internal:set-table-lost-an-element"
    pure (es', t)) : Sem (Array (Int × Value) × SetTable)) _ E s from ?_)
  rw [e1]
  dsimp only
  rw [if_neg (by rw [hz]; simp)]
  refine wpAny_pure ?_
  dsimp only
  exact wpAny_storeSet_of ho hd (h _ _ e4 e5 e2 e3 e6) (by rw [hz]; have := hf; simp only [SetTable.fits, Bool.and_eq_true, beq_iff_eq] at this; rw [sizeLine_eq]; omega)

theorem set_addH (hu : A.units < cLine) (ho : s.heap.get? a = some o) (hc : o.cls = .type "set") (hd : o.data = .set es ep t) (S : SetAt prog w s.heap vs es t) (hx : PKey prog w s.heap p x) (sz : vs.length ≤ 60) {Q : Bool → Shared → Prop}
    (h : ∀ h' es' ep' t' tk, Heap.SameBut a s.heap h' → h'.get? a = some { o with data := .set es' ep' t' } → SetAt prog w h' (if p ∈ vs then vs else p :: vs) es' t' → Q (!decide (p ∈ vs)) { s with heap := h', toks := tk }) :
    wpAny (model prog w) A (setAddHashed a x (phash prog w p)) Q E s := by
  unfold setAddHashed
  refine wpAny_holding ?_
  unfold setAddHashedIn
  refine wpAny_bind (wpAny_setState_of ho hd S.fits ?_)
  dsimp only
  rw [byScan_pk hx]
  simp only [Bool.false_eq_true, if_false]
  refine wpAny_bind (set_search (s := s) hu ho hd S hx true ?_ ?_)
  · intro i e hp _ _
    dsimp only
    refine wpAny_pure ?_
    have := h s.heap es ep t s.toks (.refl ..) (by rw [obj_self hd]; exact ho) (by rw [if_pos hp]; exact S)
    rw [decide_eq_true hp] at this
    exact this
  · intro hp slot wd hle hnp hr hwd
    dsimp only
    refine wpAny_bind (wpAny_setState_of (s := s) ho hd S.fits ?_)
    dsimp only
    rw [if_pos (show (t.put slot).1.plain = true from S.plain)]
    refine wpAny_bind (hashByValue_pk (s := s) hx ?_)
    simp only [↓reduceIte]
    obtain ⟨T, hm, hpl, hl, hle2, hfill⟩ := S.tok.tb.put (x := x) hle hnp hr
    have hsz : es.size = vs.length := S.size
    have hins : (SetTable.insertAt es (t.put slot).2 (phash prog w p, x)).toList = es.toList.take (t.put slot).2 ++ (phash prog w p, x) :: es.toList.drop (t.put slot).2 := SetTable.toList_insertAt ..
    have hisz : (SetTable.insertAt es (t.put slot).2 (phash prog w p, x)).size = es.size + 1 := by
      rw [← Array.length_toList, hins]; rw [Array.length_toList] at hle2; simp; omega
    refine wpAny_bind (wpAny_storeSet_of (s := s) ho hd ?_ (by rw [hisz, hsz, sizeLine_eq]; omega))
    have hs1 : Heap.SameBut a s.heap (s.heap.update a (Obj.putSet (SetTable.insertAt es (t.put slot).2 (phash prog w p, x)) (t.put slot).1)) := .update ..
    have hk1 := tup_keeps ho hc hs1
    have X1 : EntsAt prog w (s.heap.update a (Obj.putSet (SetTable.insertAt es (t.put slot).2 (phash prog w p, x)) (t.put slot).1)) (p :: vs) (SetTable.insertAt es (t.put slot).2 (phash prog w p, x)).toList := by
      rw [hins]; exact ((S.ents).keeps hk1).ins (hx.keeps hk1) _
    have hg1 := upd_set ho hd (SetTable.insertAt es (t.put slot).2 (phash prog w p, x)) (t.put slot).1
    have nd : (p :: vs).Nodup := List.nodup_cons.mpr ⟨hp, S.nd⟩
    have hput : (t.put slot).1.plain = true := by rw [hpl]; exact S.plain
    have hfin : ∀ h' es' ep' t' tk, Heap.SameBut a s.heap h' → h'.get? a = some { o with data := .set es' ep' t' } → SetAt prog w h' (p :: vs) es' t' → Q true { s with heap := h', toks := tk } := by
      intro h' es' ep' t' tk q1 q2 q3
      have := h h' es' ep' t' tk q1 q2 (by rw [if_neg hp]; exact q3)
      rw [decide_eq_false hp] at this
      exact this
    by_cases hrel : (!wd && (t.put slot).1.tooFull) = true
    · rw [if_pos hrel]
      have hf1 : (t.put slot).1.fits (SetTable.insertAt es (t.put slot).2 (phash prog w p, x)).size = true := by
        unfold SetTable.fits
        rw [Bool.and_eq_true, beq_iff_eq, decide_eq_true_eq]
        refine ⟨by rw [T.len, hisz]; rw [Array.length_toList] at hle2; simp; omega, ?_⟩
        rw [hfill, hm]
        have := S.tok.fill
        rcases S.tok.mask with e | e | e | e | e | e <;> rw [e] at this ⊢ <;> split <;> omega
      refine wpAny_bind (set_relay (s := { s with heap := s.heap.update a (Obj.putSet (SetTable.insertAt es (t.put slot).2 (phash prog w p, x)) (t.put slot).1), toks := s.toks }) hg1 rfl hf1 ?_ ?_ ?_)
      · unfold SetTable.grown; rw [if_neg (by omega)]; omega
      · rw [hisz]; unfold SetTable.grown; rw [if_neg (by omega)]; omega
      · intro es' t' k1 k2 k3 k4 _
        refine wpAny_pure ?_
        have hs2 := hs1.trans (Heap.SameBut.update (s.heap.update a (Obj.putSet (SetTable.insertAt es (t.put slot).2 (phash prog w p, x)) (t.put slot).1)) a (Obj.putSet es' t'))
        have hk2 := tup_keeps hg1 hc (Heap.SameBut.update (s.heap.update a (Obj.putSet (SetTable.insertAt es (t.put slot).2 (phash prog w p, x)) (t.put slot).1)) a (Obj.putSet es' t'))
        have X2 := (X1.of_perm k1).keeps hk2
        exact hfin _ es' _ t' _ hs2 (upd_set hg1 rfl es' t') ⟨nd, k2, k3.trans hput, fun q => (k4.trans hl).trans (S.led q), X2.perm, X2.ent⟩
    · rw [if_neg hrel]
      refine wpAny_pure ?_
      have hfl : (t.put slot).1.fill * 5 < (t.put slot).1.mask * 3 := by
        by_cases hw : wd = true
        · rw [hfill, if_pos (hwd.mp hw), hm]; exact S.tok.fill
        · have : (t.put slot).1.tooFull = false := by
            cases q : (t.put slot).1.tooFull with
            | false => rfl
            | true => exact absurd (by rw [q]; simp [hw]) hrel
          unfold SetTable.tooFull at this
          have := of_decide_eq_false this
          omega
      exact hfin _ _ _ _ _ hs1 hg1 ⟨nd, by rw [hins]; exact T.tok hfl, hput, fun q => hl.trans (S.led q), X1.perm, X1.ent⟩
theorem set_add (hu : A.units < cLine) (ho : s.heap.get? a = some o) (hc : o.cls = .type "set") (hd : o.data = .set es ep t) (S : SetAt prog w s.heap vs es t) (hx : PKey prog w s.heap p x) (sz : vs.length ≤ 60) {Q : Bool → Shared → Prop}
    (h : ∀ h' es' ep' t' tk, Heap.SameBut a s.heap h' → h'.get? a = some { o with data := .set es' ep' t' } → SetAt prog w h' (if p ∈ vs then vs else p :: vs) es' t' → Q (!decide (p ∈ vs)) { s with heap := h', toks := tk }) :
    wpAny (model prog w) A (setAdd a x) Q E s := by
  unfold setAdd
  exact wpAny_holding (wpAny_bind (pk_hash hu hx (set_addH (s := { s with toks := s.toks + 3 }) hu ho hc hd S hx sz h)))
end

end Go

end
section
set_option autoImplicit false
set_option Elab.async false
namespace Go
open PySem

section
variable {prog : Program} {w : World} {A : Around} {E : Value → Shared → Prop} {s : Shared} {a : Addr} {o : Obj} {es : Array (Int × Value)} {ep : Nat} {t : SetTable} {vs : List (Int × Int)} {p : Int × Int} {x : Value}

theorem setAt_fresh (h : Heap) : SetAt prog w h [] #[] (.fresh 0 0 (!w.params.followText "set-order")) := by
  refine ⟨List.nodup_nil, ⟨rfl, .inl rfl, List.Pairwise.nil, List.Pairwise.nil, (fun j h => nomatch h), (fun j h => nomatch h), (fun j h => nomatch h), (by show (0:Nat) + 0 < 7 * 3; decide), fun i j e h => by simp [SetTable.fresh] at h⟩, rfl, fun q => ?_, .refl _, (fun e h => nomatch h)⟩
  show (!w.params.followText "set-order") = true
  rw [q]; rfl

theorem EntsAt.del {h : Heap} {l : List (Int × Value)} (X : EntsAt prog w h vs l) (nd : vs.Nodup) {i : Nat} {e : Int × Value} (hi : l[i]? = some e) : ∃ q, PKey prog w h q e.2 ∧ q ∈ vs ∧ EntsAt prog w h (vs.erase q) (l.take i ++ l.drop (i + 1)) := by
  have hlt := (List.getElem?_eq_some_iff.mp hi).1
  have hm : e ∈ l := List.mem_of_getElem? hi
  obtain ⟨q, hq, he⟩ := X.ent e hm
  have hl : l.Perm (e :: (l.take i ++ l.drop (i + 1))) := by
    have h1 : l = l.take i ++ e :: l.drop (i + 1) := by
      have h2 := List.drop_eq_getElem_cons hlt
      rw [List.getElem?_eq_getElem hlt, Option.some.injEq] at hi
      rw [hi] at h2
      rw [← h2, List.take_append_drop]
    exact (List.Perm.of_eq h1).trans List.perm_middle
  have hp : (q :: (l.take i ++ l.drop (i + 1)).map (fun e => ptOf prog w h e.2)).Perm vs := by
    have := (hl.map (fun e => ptOf prog w h e.2)).symm.trans X.perm
    rw [List.map_cons, hq.pt] at this
    exact this
  refine ⟨q, hq, hp.mem_iff.mp List.mem_cons_self, ?_, fun e' h' => X.ent e' (hl.mem_iff.mpr (List.mem_cons_of_mem _ h'))⟩
  have := hp.erase q
  rwa [List.erase_cons_head] at this

theorem set_pop (ho : s.heap.get? a = some o) (hc : o.cls = .type "set") (hd : o.data = .set es ep t) (S : SetAt prog w s.heap vs es t) (hne : vs ≠ []) (sz : vs.length ≤ 60) {Q : Option Value → Shared → Prop}
    (h : ∀ h' es' ep' t' q x d, q ∈ vs → PKey prog w h' q x → Heap.SameBut a s.heap h' → h'.get? a = some { o with data := .set es' ep' t' } → SetAt prog w h' (vs.erase q) es' t' → Q (some x) { s with heap := h', drawn := d }) :
    wpAny (model prog w) A (setPop a) Q E s := by
  have hsz := S.size
  have hlen := S.tok.len
  have hpos : 0 < es.size := by rw [hsz]; exact List.length_pos_iff.mpr hne
  have hps : t.place.size = es.size := by rw [hlen, Array.length_toList]
  -- taking out one entry
  have fin : ∀ (i : Nat) (s' : Shared), i < es.size → s'.heap = s.heap → s'.gens = s.gens → s'.toks = s.toks → s'.os = s.os → wpAny (model prog w) A (do
      let some (_, x) := es[i]? | unsupported "internal:set.pop"
      storeSet a (SetTable.eraseAt es i) (t.popped i)
      return some x) Q E s' := by
    intro i s' hi e1 e2 e3 e4
    have es' : s' = { s with drawn := s'.drawn } := by cases s'; cases s; simp_all
    generalize s'.drawn = dd at es'
    subst es'
    rw [Array.getElem?_eq_getElem hi]
    have hi' : es.toList[i]? = some es[i] := by rw [List.getElem?_eq_getElem (by rw [Array.length_toList]; exact hi)]; simp
    obtain ⟨q, hq, hm, X⟩ := S.ents.del S.nd hi'
    have her : (SetTable.eraseAt es i).toList = es.toList.take i ++ es.toList.drop (i + 1) := toList_eraseAt ..
    refine wpAny_bind (wpAny_storeSet_of (s := { s with drawn := dd }) ho hd ?_ (by rw [← Array.length_toList, her, sizeLine_eq]; simp; omega))
    obtain ⟨T, k1, k2, k3, k4⟩ := S.tok.tb.drop (i := i) (by rw [Array.length_toList]; exact hi)
    have hs1 : Heap.SameBut a s.heap (s.heap.update a (Obj.putSet (SetTable.eraseAt es i) (t.popped i))) := .update ..
    have hk1 := tup_keeps ho hc hs1
    have X1 := X.keeps hk1
    have Tp : TOk (t.popped i) (es.toList.take i ++ es.toList.drop (i + 1)) := by
      have T' := T.tok (by rw [k4, k1]; exact S.tok.fill)
      exact ⟨T'.len, T'.mask, T'.rp, T'.rd, T'.disj, T'.lep, T'.led, T'.fill, T'.reach⟩
    exact wpAny_pure (h _ _ _ _ q _ dd hm (hq.keeps hk1) hs1 (upd_set ho hd _ _) ⟨S.nd.erase q, by rw [her]; exact Tp, k2.trans S.plain, fun z => k3.trans (S.led z), by rw [her]; exact X1.perm, by rw [her]; exact X1.ent⟩)
  unfold setPop
  refine wpAny_bind (wpAny_setState_of ho hd S.fits ?_)
  dsimp only
  have hpp : t.popPlace = some (if SetTable.below t.place (t.finger % (t.mask + 1)) < t.place.size then SetTable.below t.place (t.finger % (t.mask + 1)) else 0) := by
    unfold SetTable.popPlace
    rw [if_neg (by rw [Array.isEmpty_iff_size_eq_zero]; omega)]
  rw [hpp]
  dsimp only
  have hbi : (if SetTable.below t.place (t.finger % (t.mask + 1)) < t.place.size then SetTable.below t.place (t.finger % (t.mask + 1)) else 0) < es.size := by split <;> omega
  have hdr : (!t.plain && decide (es.size > 1)) = false := by rw [S.plain]; rfl
  refine wpAny_bind ?_
  unfold setsByText
  refine wpAny_bind (wpAny_askSetting (wpAny_pure ?_))
  show wpAny _ _ (if (w.params.followText "set-order" || (!t.plain && decide (es.size > 1))) = true then choose .order es.size >>= fun i => (do
      let some (_, x) := es[i]? | unsupported "internal:set.pop"
      storeSet a (SetTable.eraseAt es i) (t.popped i)
      return some x) else (if (!t.led && decide (es.size > 1)) = true then unsupported "set:maker-not-led" else pure ()) >>= fun _ => pure _ >>= fun i => (do
      let some (_, x) := es[i]? | unsupported "internal:set.pop"
      storeSet a (SetTable.eraseAt es i) (t.popped i)
      return some x)) _ _ _
  rw [hdr, Bool.or_false]
  cases q : w.params.followText "set-order" with
  | true =>
    rw [if_pos rfl]
    refine wpAny_bind (fun Γ pp hΓ => ?_)
    unfold choose
    rw [Sem.wp_choose]
    refine ⟨by omega, ?_⟩
    rw [Sem.wp]
    exact fin _ { s with drawn := s.drawn.bump .order } (Nat.mod_lt _ hpos) rfl rfl rfl rfl
  | false =>
    rw [if_neg (by simp)]
    have hl := S.led q
    rw [if_neg (by rw [hl]; simp)]
    exact wpAny_bind (wpAny_pure (wpAny_bind (wpAny_pure (fin _ s hbi rfl rfl rfl rfl))))
end
end Go

end
section
set_option autoImplicit false
set_option Elab.async false
namespace Go
open PySem

theorem pick_go {α : Type} (nx : Nat → Nat) : ∀ (fuel kk : Nat) (left : List α) (out : Array α), left.length = fuel → (pickOrder.go nx fuel kk left out).toList.Perm (out.toList ++ left)
  | 0, kk, left, out, h => by
    have : left = [] := List.length_eq_zero_iff.mp h
    subst this
    rw [pickOrder.go, List.append_nil]
  | fuel + 1, kk, left, out, h => by
    have hlt : nx kk % left.length < left.length := Nat.mod_lt _ (by omega)
    rw [pickOrder.go, List.getElem?_eq_getElem hlt]
    dsimp only
    have hl : (left.eraseIdx (nx kk % left.length)).length = fuel := by rw [List.length_eraseIdx_of_lt hlt]; omega
    refine (pick_go nx fuel (kk + 1) _ _ hl).trans ?_
    rw [Array.toList_push, List.append_assoc]
    refine List.Perm.append_left _ ?_
    show (left[nx kk % left.length] :: left.eraseIdx (nx kk % left.length)).Perm left
    rw [List.eraseIdx_eq_take_drop_succ]
    refine (List.perm_middle (a := left[nx kk % left.length]) (l₁ := left.take (nx kk % left.length)) (l₂ := left.drop (nx kk % left.length + 1))).symm.trans (List.Perm.of_eq ?_)
    rw [← List.drop_eq_getElem_cons hlt, List.take_append_drop]
theorem pick_perm {α : Type} (nx : Nat → Nat) (xs : Array α) : (pickOrder nx xs).toList.Perm xs.toList := by
  unfold pickOrder
  exact (pick_go nx xs.size 0 xs.toList #[] (by simp)).trans (List.Perm.of_eq (by simp))

/-- the order in which a set is walked -/
def walkOf (w : World) (a : Addr) (es : Array (Int × Value)) (ep : Nat) : List (Int × Value) := if w.params.followText "set-order" then (pickOrder (w.params.setOrder a ep) es).toList else es.toList
theorem walk_perm (w : World) (a : Addr) (es : Array (Int × Value)) (ep : Nat) : (walkOf w a es ep).Perm es.toList := by
  unfold walkOf; split
  · exact pick_perm _ _
  · exact .refl _

namespace F
set_option maxRecDepth 1000000
theorem owner_set_iterator : Manifest.owners.lookup (String.ofList ['r', 'o', 't', 'a', 'r', 'e', 't', 'i', '_', 't', 'e', 's'].reverse) = some Manifest.sig_set_iterator := by kernel_rfl
theorem slot_set_iterator_next : Slot "set_iterator" "__next__" "set_iterator.__next__" :=
  .of (owner := "set_iterator") (n := "__next__") (by rw [typeLookup_type, builtinLookup_eq_fast]; kernel_rfl) (by decide +kernel) (by decide +kernel) (by decide +kernel)
    (by first | exact .inl (by decide +kernel) | exact .inr (by decide +kernel)) (by rw [isSubtype_type]; kernel_rfl)
theorem entry_set_iterator_next : entryFor table "set_iterator.__next__" = some Builtin.«set_iterator.__next__» := entryFor_of_tree (by kernel_rfl)
theorem args_set_iterator_next_1 (a : Value) : argsOk "set_iterator.__next__" ⟨[a], []⟩ := by
  unfold argsOk; rw [signature?_of (id := "set_iterator.__next__") (n := ['_', '_', 't', 'x', 'e', 'n', '_', '_']) (o := ['r', 'o', 't', 'a', 'r', 'e', 't', 'i', '_', 't', 'e', 's']) (by kernel_rfl) owner_set_iterator]; kernel_rfl
theorem slot_set_iterator_iter : Slot "set_iterator" "__iter__" "set_iterator.__iter__" :=
  .of (owner := "set_iterator") (n := "__iter__") (by rw [typeLookup_type, builtinLookup_eq_fast]; kernel_rfl) (by decide +kernel) (by decide +kernel) (by decide +kernel)
    (by first | exact .inl (by decide +kernel) | exact .inr (by decide +kernel)) (by rw [isSubtype_type]; kernel_rfl)
theorem args_set_iterator_iter_1 (a : Value) : argsOk "set_iterator.__iter__" ⟨[a], []⟩ := by
  unfold argsOk; rw [signature?_of (id := "set_iterator.__iter__") (n := ['_', '_', 'r', 'e', 't', 'i', '_', '_']) (o := ['r', 'o', 't', 'a', 'r', 'e', 't', 'i', '_', 't', 'e', 's']) (by kernel_rfl) owner_set_iterator]; kernel_rfl
theorem entry_set_iterator_iter : entryFor table "set_iterator.__iter__" = some Builtin.«dict_keyiterator.__iter__» :=
  entryFor_alias (id' := "dict_keyiterator.__iter__") (by kernel_rfl) rfl (by decide +kernel) (by kernel_rfl)
theorem entry_set_iter : entryFor table "set.__iter__" = some Builtin.«frozenset.__iter__» :=
  entryFor_alias (id' := "frozenset.__iter__") (by kernel_rfl) rfl (by decide +kernel) (by kernel_rfl)
end F

def IsSetIter (h : Heap) (it a : Addr) (slot i n ep : Nat) : Prop := ∃ o, h.get? it = some o ∧ o.cls = .type "set_iterator" ∧ o.data = .fields #[.int slot 0, .int i 0, .ref a, .int n 0, .int ep 0]

section
variable {prog : Program} {w : World} {A : Around} {E : Value → Shared → Prop} {s : Shared} {a it : Addr} {o : Obj} {es : Array (Int × Value)} {ep slot i : Nat} {t : SetTable} {vs : List (Int × Int)}

theorem pyIter_set (ho : s.heap.get? a = some o) (hc : o.cls = .type "set") (hd : o.data = .set es ep t) (S : SetAt prog w s.heap vs es t) {Q : Value → Shared → Prop}
    (h : Q (.ref s.heap.objs.size) { s with heap := s.heap.push { cls := .type "set_iterator", data := .fields #[.int 0 0, .int 0 0, .ref a, .int es.size 0, .int ep 0] } }) : wpAny (model prog w) A (pyIter (.ref a)) Q E s := by
  have hT : s.TypeIs (.ref a) "set" := ⟨o, ho, hc⟩
  refine wpAny_pyIter_slot hT PySem.F.slot_set_iter (wpAny_call_entry PySem.F.slot_set_iter hT F.entry_set_iter ?_ (PySem.F.args_set_iter_1 _))
  unfold Builtin.«frozenset.__iter__» Builtin.Frozenset.slot0 slotArgs
  simp only [List.isEmpty_nil, Bool.not_true, Bool.false_eq_true, ↓reduceIte, bind_assoc, List.length_nil, bne_self_eq_false]
  unfold Builtin.Frozenset.addrOf Builtin.Frozenset.sizeOf
  refine wpAny_bind (wpAny_pure ?_)
  try dsimp only
  refine wpAny_bind (wpAny_pure ?_)
  refine wpAny_bind (wpAny_bind (wpAny_setEntries_of ho hd S.fits (wpAny_pure ?_)))
  unfold setDrawn setsByText
  refine wpAny_bind (wpAny_bind (wpAny_setState_of ho hd S.fits (wpAny_bind (wpAny_bind (wpAny_askSetting (wpAny_pure ?_))))))
  have hdr : (!t.plain && decide (es.size > 1)) = false := by rw [S.plain]; rfl
  show wpAny _ _ (pure (!w.params.followText "set-order" && (!t.plain && decide (es.size > 1)))) _ _ _
  rw [hdr, Bool.and_false]
  refine wpAny_pure ?_
  try dsimp only
  rw [if_neg (by decide)]
  refine wpAny_bind (wpAny_pure ?_)
  unfold setEpoch
  refine wpAny_bind (wpAny_bind (wpAny_setState_of ho hd S.fits (wpAny_pure ?_)))
  refine wpAny_bind (wpAny_newObj_type (wpAny_pure ⟨_, rfl, "set_iterator", _, ⟨_, Heap.get?_push_size _ rfl, rfl⟩, F.slot_set_iterator_next.lookup, ?_⟩))
  exact h

theorem pyIter_setiter (hT : s.TypeIs (.ref it) "set_iterator") {Q : Value → Shared → Prop} (h : Q (.ref it) s) : wpAny (model prog w) A (pyIter (.ref it)) Q E s := by
  refine wpAny_pyIter_slot hT F.slot_set_iterator_iter (wpAny_call_entry F.slot_set_iterator_iter hT F.entry_set_iterator_iter ?_ (F.args_set_iterator_iter_1 _))
  show wpAny _ _ (ret (.ref it)) _ _ s
  exact wpAny_pure ⟨_, rfl, "set_iterator", _, hT, F.slot_set_iterator_next.lookup, h⟩

theorem below_next {xs : Array Nat} (h : Rise xs) {i j : Nat} (hj : xs[i]? = some j) : SetTable.below xs (j + 1) = i + 1 := by
  obtain ⟨h1, h2, h3⟩ := below_spec h (j + 1)
  have hi : i < xs.size := (Array.getElem?_eq_some_iff.mp hj).1
  rcases Nat.lt_trichotomy (SetTable.below xs (j + 1)) (i + 1) with q | q | q
  · have := h3 i j (by omega) hj; omega
  · exact q
  · have hlt : i + 1 < xs.size := by omega
    have := h2 (i + 1) xs[i + 1] q (Array.getElem?_eq_getElem hlt)
    have := h.lt (Nat.lt_succ_self i) hj (Array.getElem?_eq_getElem hlt)
    omega

theorem pyNext_set (hit : ∃ oi, s.heap.get? it = some oi ∧ oi.cls = .type "set_iterator" ∧ oi.data = .fields #[.int slot 0, .int i 0, .ref a, .int es.size 0, .int ep 0]) (ho : s.heap.get? a = some o) (hd : o.data = .set es ep t) (S : SetAt prog w s.heap vs es t)
    (hs : w.params.followText "set-order" = false → SetTable.below t.place slot = i) {e : Int × Value} (he : (walkOf w a es ep)[i]? = some e) {Q : Option Value → Shared → Prop}
    (h : ∀ h' slot', (w.params.followText "set-order" = false → SetTable.below t.place slot' = i + 1) → IsSetIter h' it a slot' (i + 1) es.size ep → Heap.SameBut it s.heap h' → Q (some e.2) { s with heap := h' }) : wpAny (model prog w) A (pyNext (.ref it)) Q E s := by
  obtain ⟨oi, hoi, hci, hdi⟩ := hit
  have hT : s.TypeIs (.ref it) "set_iterator" := ⟨oi, hoi, hci⟩
  have hsn : ∃ slot', (w.params.followText "set-order" = false → SetTable.below t.place slot' = i + 1) ∧ ∀ {Q' : Option (Value × Nat) → Shared → Prop} {E'}, Q' (some (e.2, slot')) s → wpAny (model prog w) A.in1 (setNext a slot i ep) Q' E' s := by
    cases q : w.params.followText "set-order" with
    | true =>
      refine ⟨slot, (fun z => nomatch z), fun {Q' E'} hq => ?_⟩
      unfold setNext setsByText
      refine wpAny_bind (wpAny_setState_of ho hd S.fits (wpAny_bind (wpAny_bind (wpAny_askSetting (wpAny_pure ?_)))))
      dsimp only
      rw [show (model prog w).w.params.followText "set-order" = true from q, if_pos rfl, if_neg (by simp)]
      unfold setWalk setsByText
      refine wpAny_bind (wpAny_bind (wpAny_setState_of ho hd S.fits (wpAny_bind (wpAny_bind (wpAny_askSetting (wpAny_pure ?_))))))
      dsimp only
      rw [show (model prog w).w.params.followText "set-order" = true from q, if_pos rfl]
      refine wpAny_bind (wpAny_askSetting (wpAny_pure (wpAny_pure ?_)))
      have : (pickOrder (w.params.setOrder a ep) es)[i]? = some e := by
        unfold walkOf at he; rw [if_pos q] at he; simpa using he
      show Q' (((pickOrder (w.params.setOrder a ep) es)[i]?).map fun e => (e.2, slot)) s
      rw [this]; exact hq
    | false =>
      have hb := hs q
      have hes : es[i]? = some e := by unfold walkOf at he; rw [if_neg (by rw [q]; decide)] at he; simpa using he
      have hi : i < es.size := (Array.getElem?_eq_some_iff.mp hes).1
      have hip : i < t.place.size := by rw [S.tok.len, Array.length_toList]; exact hi
      refine ⟨t.place[i] + 1, fun _ => below_next S.tok.rp (Array.getElem?_eq_getElem hip), fun {Q' E'} hq => ?_⟩
      unfold setNext setsByText
      refine wpAny_bind (wpAny_setState_of ho hd S.fits (wpAny_bind (wpAny_bind (wpAny_askSetting (wpAny_pure ?_)))))
      dsimp only
      have hdr : (!t.plain && decide (es.size > 1)) = false := by rw [S.plain]; rfl
      rw [show (model prog w).w.params.followText "set-order" = false from q, if_neg (by decide)]
      show wpAny _ _ (if (!t.plain && decide (es.size > 1)) = true then _ else _) _ _ _
      rw [hdr, if_neg (by decide)]
      show wpAny _ _ (do (if (!t.led && !es.isEmpty) = true then unsupported "set:maker-not-led" else pure ()); pure _) _ _ _
      rw [S.led q, if_neg (by simp)]
      refine wpAny_bind (wpAny_pure (wpAny_pure ?_))
      rw [hb, hes, Array.getElem?_eq_getElem hip]
      exact hq
  obtain ⟨slot', hs', hn⟩ := hsn
  unfold pyNext
  refine wpAny_bind (wpAny_attempt (wpAny_callSpecial?_slot (name := Str.ofString "__next__") hT F.slot_set_iterator_next
    (wpAny_call_entry F.slot_set_iterator_next hT F.entry_set_iterator_next ?_ (F.args_set_iterator_next_1 _))))
  unfold Builtin.«set_iterator.__next__»
  refine wpAny_bind (wpAny_pure ?_)
  refine wpAny_bind (wpAny_fieldsOf hoi hdi ?_)
  dsimp only
  refine wpAny_bind (wpAny_setEntries_of ho hd S.fits ?_)
  rw [if_neg (by simp)]
  simp only [Int.toNat_natCast]
  refine wpAny_bind (hn ?_)
  refine wpAny_bind (wpAny_setField hoi hdi (by simp) ?_)
  have h1 := Heap.get?_update_self (Obj.mapFields (·.setIfInBounds 0 (rawInt slot'))) hoi (Obj.isFreed_of_fields (Obj.data_mapFields hdi _))
  have d1 := Obj.data_mapFields hdi (·.setIfInBounds 0 (rawInt slot'))
  refine wpAny_bind (wpAny_setField h1 d1 (by simp) (wpAny_pure ⟨e.2, rfl, wpAny_pure (h _ slot' hs' ?_ ((Heap.SameBut.update ..).trans (Heap.SameBut.update ..)))⟩))
  refine ⟨_, Heap.get?_update_self _ h1 (Obj.isFreed_of_fields (Obj.data_mapFields d1 _)), ((Obj.cls_mapFields ..).trans (Obj.cls_mapFields ..)).trans hci, ?_⟩
  rw [Obj.data_mapFields d1]; simp [rawInt]

theorem pyNext_set_end (hh : A.handled = none) (hit : ∃ oi, s.heap.get? it = some oi ∧ oi.cls = .type "set_iterator" ∧ oi.data = .fields #[.int slot 0, .int i 0, .ref a, .int es.size 0, .int ep 0]) (ho : s.heap.get? a = some o) (hd : o.data = .set es ep t) (S : SetAt prog w s.heap vs es t)
    (hs : w.params.followText "set-order" = false → SetTable.below t.place slot = i) (he : (walkOf w a es ep)[i]? = none) {Q : Option Value → Shared → Prop}
    (h : ∀ h', Heap.ExtBut it s.heap h' → Q none { s with heap := h' }) : wpAny (model prog w) A (pyNext (.ref it)) Q E s := by
  obtain ⟨oi, hoi, hci, hdi⟩ := hit
  have hT : s.TypeIs (.ref it) "set_iterator" := ⟨oi, hoi, hci⟩
  have hn : ∀ {Q' : Option (Value × Nat) → Shared → Prop} {E'}, Q' none s → wpAny (model prog w) A.in1 (setNext a slot i ep) Q' E' s := by
    cases q : w.params.followText "set-order" with
    | true =>
      intro Q' E' hq
      unfold setNext setsByText
      refine wpAny_bind (wpAny_setState_of ho hd S.fits (wpAny_bind (wpAny_bind (wpAny_askSetting (wpAny_pure ?_)))))
      dsimp only
      rw [show (model prog w).w.params.followText "set-order" = true from q, if_pos rfl, if_neg (by simp)]
      unfold setWalk setsByText
      refine wpAny_bind (wpAny_bind (wpAny_setState_of ho hd S.fits (wpAny_bind (wpAny_bind (wpAny_askSetting (wpAny_pure ?_))))))
      dsimp only
      rw [show (model prog w).w.params.followText "set-order" = true from q, if_pos rfl]
      refine wpAny_bind (wpAny_askSetting (wpAny_pure (wpAny_pure ?_)))
      have : (pickOrder (w.params.setOrder a ep) es)[i]? = none := by
        unfold walkOf at he; rw [if_pos q] at he; simpa using he
      show Q' (((pickOrder (w.params.setOrder a ep) es)[i]?).map fun e => (e.2, slot)) s
      rw [this]; exact hq
    | false =>
      intro Q' E' hq
      have hb := hs q
      have hes : es[i]? = none := by unfold walkOf at he; rw [if_neg (by rw [q]; decide)] at he; simpa using he
      unfold setNext setsByText
      refine wpAny_bind (wpAny_setState_of ho hd S.fits (wpAny_bind (wpAny_bind (wpAny_askSetting (wpAny_pure ?_)))))
      dsimp only
      have hdr : (!t.plain && decide (es.size > 1)) = false := by rw [S.plain]; rfl
      rw [show (model prog w).w.params.followText "set-order" = false from q, if_neg (by decide)]
      show wpAny _ _ (if (!t.plain && decide (es.size > 1)) = true then _ else _) _ _ _
      rw [hdr, if_neg (by decide)]
      show wpAny _ _ (do (if (!t.led && !es.isEmpty) = true then unsupported "set:maker-not-led" else pure ()); pure _) _ _ _
      rw [S.led q, if_neg (by simp)]
      refine wpAny_bind (wpAny_pure (wpAny_pure ?_))
      rw [hb, hes]
      exact hq
  unfold pyNext
  refine wpAny_bind (wpAny_attempt (wpAny_callSpecial?_slot (name := Str.ofString "__next__") hT F.slot_set_iterator_next
    (wpAny_call_entry F.slot_set_iterator_next hT F.entry_set_iterator_next ?_ (F.args_set_iterator_next_1 _))))
  unfold Builtin.«set_iterator.__next__»
  refine wpAny_bind (wpAny_pure ?_)
  refine wpAny_bind (wpAny_fieldsOf hoi hdi ?_)
  dsimp only
  refine wpAny_bind (wpAny_setEntries_of ho hd S.fits ?_)
  rw [if_neg (by simp)]
  simp only [Int.toNat_natCast]
  refine wpAny_bind (hn ?_)
  refine wpAny_bind (wpAny_setField hoi hdi (by simp) ?_)
  show wpAny _ _ (newExc (.type "StopIteration") [] >>= _) _ _ _
  refine wpAny_bind ?_
  simp only [newExc, newTuple]
  refine wpAny_bind (wpAny_newObj_type ?_ (by size_fits))
  refine wpAny_bind (m := firstArgMember _ _) (wpAny_of_eq (a := Value.none) (by first | rfl | (simp only [firstArgMember]; rfl)) ?_)
  refine wpAny_newObj_type ?_ (by size_fits)
  simp only [raiseNew]
  refine wpAny_bind (wpAny_handled ?_)
  rw [show A.in1.handled = none from hh]
  refine wpAny_bind (wpAny_pure (wpAny_throw ?_))
  refine wpAny_bind (wpAny_isInstance (T := "StopIteration") (b := true) ⟨_, Heap.get?_push_size _ rfl, rfl⟩ isSubtype_stop ?_)
  exact wpAny_pure (h _ (((Heap.SameBut.update ..).extBut.push _).push _))
end
end Go

end
section
set_option autoImplicit false
set_option linter.unusedVariables false
set_option linter.unusedSimpArgs false
set_option Elab.async false
namespace Go
open PySem PySem.W PyProof.Rows

inductive LV where
  | none
  | bool (b : Bool)
  | int (i : Int)
  | str (s : Str)
  | tup (vs : List LV)
  | ref (a : Addr)
  | inst (c a d : Addr)
  | ro (a : Addr) (vs : List LV)

inductive LO where
  | lst (vs : List LV)
  | pset (ps : List (Int × Int))
  | psetx (a : Addr) (W : List (Int × Int)) (ob : Obj)
  | sset (ss : List Str)
  | sdict (fs : List (Str × LV))
  | pdict (fs : List ((Int × Int) × LV)) (ep : Nat)
  | ns (fs : List (Str × LV))

abbrev Hp := Addr → Option LO
abbrev Cm := Addr → Option Obj
abbrev Loc := List (Str × Option LV)

def hset (H : Hp) (a : Addr) (o : LO) : Hp := fun b => if b = a then some o else H b
def hdel (H : Hp) (a : Addr) : Hp := fun b => if b = a then none else H b
def cset (C : Cm) (a : Addr) (o : Obj) : Cm := fun b => if b = a then some o else C b
def cdel (C : Cm) (a : Addr) : Cm := fun b => if b = a then none else C b
def Cle (C C' : Cm) : Prop := ∀ a o, C a = some o → C' a = some o
theorem Cle.refl (C : Cm) : Cle C C := fun _ _ e => e
theorem Cle.trans {C C' C'' : Cm} (x : Cle C C') (y : Cle C' C'') : Cle C C'' := fun a o e => y a o (x a o e)
theorem Cle.set {C : Cm} {a : Addr} (o : Obj) (h : C a = Option.none) : Cle C (cset C a o) := fun b ob e => by
  unfold cset; split
  · rename_i q; subst q; rw [h] at e; cases e
  · exact e
@[simp] theorem hset_same (H : Hp) (a : Addr) (o : LO) : hset H a o a = some o := by simp [hset]
theorem hset_ne (H : Hp) {a b : Addr} (o : LO) (h : b ≠ a) : hset H a o b = H b := by simp [hset, h]
theorem cset_same (C : Cm) (a : Addr) (o : Obj) : cset C a o a = some o := by simp [cset]
theorem cset_ne (C : Cm) {a b : Addr} (o : Obj) (h : b ≠ a) : cset C a o b = C b := by simp [cset, h]

mutual
def VR (C : Cm) : LV → Value → Prop
  | .none, v => v = .none
  | .bool b, v => v = .bool b
  | .int i, v => ∃ t, v = .int i t
  | .str s, v => ∃ t, v = .str s t
  | .tup ls, v => ∃ a vs, v = .ref a ∧ (∃ o n, C a = some o ∧ o.cls = .type "tuple" ∧ o.data = .seq (List.toArray vs) n) ∧ VRs C ls vs
  | .ref a, v => v = .ref a
  | .inst c a d, v => v = .ref a ∧ C a = some ⟨.ref c, some d, .plain, #[]⟩
  | .ro a ls, v => v = .ref a ∧ ∃ o n vs, C a = some o ∧ o.cls = .type "list" ∧ o.data = .seq (List.toArray vs) n ∧ VRs C ls vs
def VRs (C : Cm) : List LV → List Value → Prop
  | [], vs => vs = []
  | l :: ls, vs => ∃ v r, vs = v :: r ∧ VR C l v ∧ VRs C ls r
end

mutual
theorem VR.mono {C C' : Cm} (k : Cle C C') : ∀ {l : LV} {v : Value}, VR C l v → VR C' l v
  | .none, _, h => h
  | .bool _, _, h => h
  | .int _, _, h => h
  | .str _, _, h => h
  | .tup _, _, ⟨a, vs, e, ⟨o, n, c, d⟩, r⟩ => ⟨a, vs, e, ⟨o, n, k _ _ c, d⟩, VRs.mono k r⟩
  | .ref _, _, h => h
  | .inst _ _ _, _, ⟨e, c⟩ => ⟨e, k _ _ c⟩
  | .ro _ _, _, ⟨e, o, n, vs, c, h1, h2, r⟩ => ⟨e, o, n, vs, k _ _ c, h1, h2, VRs.mono k r⟩
theorem VRs.mono {C C' : Cm} (k : Cle C C') : ∀ {l : List LV} {v : List Value}, VRs C l v → VRs C' l v
  | [], _, h => h
  | _ :: _, _, ⟨v, r, e, h1, h2⟩ => ⟨v, r, e, VR.mono k h1, VRs.mono k h2⟩
end

theorem VRs.length {C : Cm} : ∀ {ls : List LV} {vs : List Value}, VRs C ls vs → vs.length = ls.length
  | [], _, h => by cases h; rfl
  | _ :: _, _, ⟨v, r, e, _, h2⟩ => by subst e; simp [VRs.length h2]

theorem VRs.get {C : Cm} : ∀ {ls : List LV} {vs : List Value} {i : Nat} {l : LV}, VRs C ls vs → ls[i]? = some l → ∃ v, vs[i]? = some v ∧ VR C l v
  | [], _, _, _, _, e => by simp at e
  | _ :: _, _, 0, _, ⟨v, r, e, h1, _⟩, q => by subst e; simp at q; subst q; exact ⟨v, rfl, h1⟩
  | _ :: _, _, i + 1, _, ⟨v, r, e, _, h2⟩, q => by subst e; simp at q; simpa using VRs.get h2 q

theorem VRs.append {C : Cm} : ∀ {ls ms : List LV} {vs ws : List Value}, VRs C ls vs → VRs C ms ws → VRs C (ls ++ ms) (vs ++ ws)
  | [], _, _, _, h, k => by cases h; exact k
  | _ :: _, _, _, _, ⟨v, r, e, h1, h2⟩, k => by subst e; exact ⟨v, r ++ _, rfl, h1, VRs.append h2 k⟩

theorem VRs.single {C : Cm} {l : LV} {v : Value} (h : VR C l v) : VRs C [l] [v] := ⟨v, [], rfl, h, rfl⟩

theorem VRs.take {C : Cm} : ∀ {ls : List LV} {vs : List Value} (n : Nat), VRs C ls vs → VRs C (ls.take n) (vs.take n)
  | _, _, 0, _ => by simp [VRs]
  | [], _, _ + 1, h => by cases h; simp [VRs]
  | _ :: _, _, n + 1, ⟨v, r, e, h1, h2⟩ => by subst e; exact ⟨v, _, rfl, h1, VRs.take n h2⟩
theorem VRs.drop {C : Cm} : ∀ {ls : List LV} {vs : List Value} (n : Nat), VRs C ls vs → VRs C (ls.drop n) (vs.drop n)
  | _, _, 0, h => by simpa using h
  | [], _, _ + 1, h => by cases h; simp [VRs]
  | _ :: _, _, n + 1, ⟨v, r, e, h1, h2⟩ => by subst e; exact VRs.drop n h2
theorem VRs.of_split {C : Cm} : ∀ {ls ms : List LV} {ws : List Value}, VRs C (ls ++ ms) ws → ∃ vs us, ws = vs ++ us ∧ VRs C ls vs ∧ VRs C ms us
  | [], _, ws, h => ⟨[], ws, rfl, rfl, h⟩
  | _ :: _, _, _, ⟨v, r, e, h1, h2⟩ => by
    obtain ⟨vs, us, q, a, b⟩ := VRs.of_split h2
    exact ⟨v :: vs, us, by rw [e, q]; rfl, ⟨v, vs, rfl, h1, a⟩, b⟩


def pv (p : Int × Int) : LV := .tup [.int p.1, .int p.2]

structure Gl where
  prog : Program
  w : World
  h₀ : Heap
  os₀ : OsState
  K : Frag
  mg : Str → Option Value
  mb : Str → Option Value
  kin : K.In h₀
  gns : h₀.Ns mainGlobals mg
  bns : h₀.Ns builtinsNs mb
  nolimit : h₀.NoLimit
  blt : ∀ x : Str, x ≠ "__name__" → mb x = bootBuiltins x
  sysm : ∃ o, h₀.get? sysModules = some o
  hn : Bool

abbrev Gl.M (G : Gl) : Model := model G.prog G.w

/-- a dict with texts for keys -/
def SEnt (G : Gl) (C : Cm) : List (Str × LV) → List DictEntry → Prop
  | [], es => es = []
  | (x, l) :: fs, es => ∃ e r, es = e :: r ∧ e.hash = PyData.keyHash G.w.params x ∧ (∃ t, e.key = .str x t) ∧ VR C l e.val ∧ SEnt G C fs r
theorem SEnt.mono {G : Gl} {C C' : Cm} (k : Cle C C') : ∀ {fs : List (Str × LV)} {es : List DictEntry}, SEnt G C fs es → SEnt G C' fs es
  | [], _, h => h
  | (_, _) :: _, _, ⟨e, r, q, h1, h2, h3, h4⟩ => ⟨e, r, q, h1, h2, VR.mono k h3, SEnt.mono k h4⟩

/-- a dict with points for keys -/
def PEnt (G : Gl) (C : Cm) : List ((Int × Int) × LV) → List DictEntry → Prop
  | [], es => es = []
  | (p, l) :: fs, es => ∃ e r, es = e :: r ∧ e.hash = phash G.prog G.w p ∧ VR C (pv p) e.key ∧ VR C l e.val ∧ PEnt G C fs r
theorem PEnt.mono {G : Gl} {C C' : Cm} (k : Cle C C') : ∀ {fs : List ((Int × Int) × LV)} {es : List DictEntry}, PEnt G C fs es → PEnt G C' fs es
  | [], _, h => h
  | (_, _) :: _, _, ⟨e, r, q, h1, h2, h3, h4⟩ => ⟨e, r, q, h1, VR.mono k h2, VR.mono k h3, PEnt.mono k h4⟩

def OR (G : Gl) (C : Cm) (h : Heap) : LO → Obj → Prop
  | .lst vs, ob => ob.cls = .type "list" ∧ ob.dict = none ∧ ob.slots = #[] ∧ vs.length ≤ 4096 ∧ ∃ us n, ob.data = .seq (List.toArray us) n ∧ VRs C vs us
  | .pset ps, ob => ob.ExactSet ∧ ps.length ≤ 60 ∧ ∃ es ep t, ob.data = .set es ep t ∧ SetAt G.prog G.w h ps es t
  | .psetx a W ob', ob => ob = ob' ∧ ob.ExactSet ∧ W.length ≤ 60 ∧ ∃ es ep t, ob.data = .set es ep t ∧ SetAt G.prog G.w h W es t ∧ W.length = (walkOf G.w a es ep).length ∧ ∀ (i : Nat) (e : Int × Value) (p : Int × Int), (walkOf G.w a es ep)[i]? = some e → W[i]? = some p → PKey G.prog G.w h p e.2
  | .sset ss, ob => ob.ExactSet ∧ ∃ es ep t, ob.data = .set es ep t ∧ ElemsOf (strKind G.prog G.w) es.toList ∧ (∀ k, k ∈ ss ↔ ∃ e ∈ es.toList, (strKind G.prog G.w).is k e.2 = true) ∧ es.size = ss.length ∧ ss.Nodup ∧ t.fits es.size = true
  | .sdict fs, ob => ob.cls = .type "dict" ∧ ob.dict = none ∧ ob.slots = #[] ∧ (fs.map (·.1)).Nodup ∧ ∃ es n, ob.data = .dict (List.toArray es) n ∧ SEnt G C fs es
  | .pdict fs ep, ob => ob.cls = .type "dict" ∧ ob.dict = none ∧ ob.slots = #[] ∧ (fs.map (·.1)).Nodup ∧ fs.length ≤ 100 ∧ ∃ es, ob.data = .dict (List.toArray es) ep ∧ PEnt G C fs es
  | .ns fs, ob => ob.cls = .type "dict" ∧ ob.dict = none ∧ ob.slots = #[] ∧ fs.length ≤ 900 ∧ ∃ es n, ob.data = .dict (List.toArray es) n ∧ SEnt G C fs es

theorem OR.mono {G : Gl} {C C' : Cm} {h h' : Heap} {o : LO} {ob : Obj} (k : Cle C C') (t : TK h h') (x : OR G C h o ob) : OR G C' h' o ob := by
  cases o with
  | lst vs => obtain ⟨a, d, d', z, us, n, b, c⟩ := x; exact ⟨a, d, d', z, us, n, b, VRs.mono k c⟩
  | pset ps => obtain ⟨a, z, es, ep, tt, b, c⟩ := x; exact ⟨a, z, es, ep, tt, b, c.keeps t⟩
  | psetx a W ob' => obtain ⟨q, b, z, es, ep, tt, c, d, e, f⟩ := x; exact ⟨q, b, z, es, ep, tt, c, d.keeps t, e, fun i e p h1 h2 => (f i e p h1 h2).keeps t⟩
  | sset ss => exact x
  | sdict fs => obtain ⟨a, b, c, d, es, n, e, f⟩ := x; exact ⟨a, b, c, d, es, n, e, f.mono k⟩
  | pdict fs ep => obtain ⟨a, b, c, d, z, es, e, f⟩ := x; exact ⟨a, b, c, d, z, es, e, f.mono k⟩
  | ns fs => obtain ⟨a, b, c, d, es, n, e, f⟩ := x; exact ⟨a, b, c, d, es, n, e, f.mono k⟩
/-- it is no tuple -/
theorem OR.noTup {G : Gl} {C : Cm} {h : Heap} {o : LO} {ob : Obj} (x : OR G C h o ob) : ob.cls ≠ .type "tuple" := by
  cases o with
  | lst vs => rw [x.1]; simp
  | pset ps => rw [x.1.1]; simp
  | psetx a W ob' => rw [x.2.1.1]; simp
  | sset ss => rw [x.1.1]; simp
  | sdict fs => rw [x.1]; simp
  | pdict fs ep => rw [x.1]; simp
  | ns fs => rw [x.1]; simp
theorem OR.noFields {G : Gl} {C : Cm} {h : Heap} {o : LO} {ob : Obj} (x : OR G C h o ob) : ∀ vs, ob.data ≠ .fields vs := by
  intro vs q
  cases o with
  | lst _ => obtain ⟨_, _, _, _, us, n, b, _⟩ := x; rw [b] at q; cases q
  | pset ps => obtain ⟨a, _, es, ep, tt, b, c⟩ := x; rw [b] at q; cases q
  | psetx a W ob' => obtain ⟨_, b, z, es, ep, tt, c, _⟩ := x; rw [c] at q; cases q
  | sset ss => obtain ⟨a, es, ep, tt, b, c⟩ := x; rw [b] at q; cases q
  | sdict fs => obtain ⟨a, b, c, d, es, n, e, f⟩ := x; rw [e] at q; cases q
  | pdict fs ep => obtain ⟨a, b, c, d, z, es, e, f⟩ := x; rw [e] at q; cases q
  | ns fs => obtain ⟨a, b, c, d, es, n, e, f⟩ := x; rw [e] at q; cases q

abbrev Zs := List (Env × Data)

def ZOk (C : Cm) (H : Hp) (h : Heap) (Z : Zs) : Prop := ∀ z, z ∈ Z → z.1.scope.kind ≠ .module ∧ (∀ vs, z.2 ≠ .fields vs) ∧
  ∃ L, z.1.frame = some L ∧ C L = none ∧ H L = none ∧ ∃ o, h.get? L = some o ∧ o.data = z.2 ∧ ∃ es n, o.data = .dict es n

structure St (G : Gl) (C : Cm) (Z : Zs) (H : Hp) (s : Shared) : Prop where
  con : ∀ a o, C a = some o → s.heap.get? a = some o
  hp : ∀ a o, H a = some o → ∃ ob, s.heap.get? a = some ob ∧ OR G C s.heap o ob
  dis : ∀ a o, H a = some o → C a = none
  base : ∀ a o, G.h₀.get? a = some o → C a = some o
  gens : s.gens = #[]
  os : s.os = G.os₀
  zs : ZOk C H s.heap Z

structure FR (fl : Bool) (C : Cm) (Z : Zs) (H : Hp) (env : Env) (m : Loc) (h : Heap) : Prop where
  ns : ∃ mm, h.Ns env.locals mm ∧ ∀ x lv, (x, some lv) ∈ m → env.kindOf x = some .local → ∃ v, mm x = some v ∧ VR C lv v
  cell : ∀ x o, (x, o) ∈ m → env.kindOf x ≠ some .local → ∃ c v, env.cells.lookup x = some c ∧ h.IsCell c v ∧ ∀ lv, o = some lv → ∃ u, v = some u ∧ VR C lv u
  kinds : ∀ x o, (x, o) ∈ m → env.kindOf x = some .local ∨ env.kindOf x = some .cell ∨ env.kindOf x = some .free
  nd : (m.map (·.1)).Nodup
  apart : ∀ x y c, env.cells.lookup x = some c → env.cells.lookup y = some c → x = y
  ownL : C env.locals = none ∧ H env.locals = none ∧ ∀ z, z ∈ Z → z.1.frame ≠ some env.locals
  ownC : ∀ x c, env.cells.lookup x = some c → (fl = true → C c = none) ∧ H c = none ∧ c ≠ env.locals ∧ (∀ z, z ∈ Z → z.1.frame ≠ some c) ∧ ∃ v, h.IsCell c v

def Room (k : Nat) (A : Around) : Prop := A.depth + 2 * k < 1000 ∧ A.units + 20 * k < 9000

/-- what is being handled: nothing, or an exception that stays, without a context -/
def HOk (C : Cm) (A : Around) : Prop := A.handled = none ∨ ∃ ha ob vs, A.handled = some (.ref ha) ∧ C ha = some ob ∧ ob.data = .fields vs ∧ vs[2]? = some .none
theorem HOk.mono {C C' : Cm} {A : Around} (k : ∀ a o vs, C a = some o → o.data = .fields vs → C' a = some o) (h : HOk C A) : HOk C' A := by
  rcases h with h | ⟨ha, ob, vs, h1, h2, h3, h4⟩
  · exact .inl h
  · exact .inr ⟨ha, ob, vs, h1, k _ _ vs h2 h3, h3, h4⟩

structure Inv (G : Gl) (k : Nat) (fl : Bool) (env : Env) (A : Around) (C : Cm) (Z : Zs) (m : Loc) (H : Hp) (s : Shared) : Prop where
  kind : env.scope.kind = .function
  glob : env.globals = mainGlobals
  blt : env.builtins = builtinsNs
  room : Room k A
  frames : A.frames = some (if fl then env :: Z.map (·.1) else Z.map (·.1))
  frame : fl = true → env.frame = some env.locals
  hd : HOk C A
  hno : G.hn = true → A.handled = none
  st : St G C Z H s
  fr : FR fl C Z H env m s.heap

end Go

end
section
set_option autoImplicit false
set_option linter.unusedVariables false
set_option linter.unusedSimpArgs false
set_option Elab.async false
namespace Go
open PySem PySem.W PyProof.Rows

section
variable {G : Gl} {k : Nat} {fl : Bool} {env : Env} {A : Around} {C C' : Cm} {Z : Zs} {m : Loc} {H H' : Hp} {s : Shared} {h' : Heap} {tk : Nat} {a : Addr}

theorem ZOk.step {h h' : Heap} (X : ZOk C H h Z) (kp : ∀ b o, b ≠ a → h.get? b = some o → h'.get? b = some o) (za : ∀ z, z ∈ Z → z.1.frame ≠ some a)
    (hh : ∀ b o, b ≠ a → H' b = some o → H b = some o) (cn : ∀ b o, b ≠ a → C' b = some o → C b = some o) : ZOk C' H' h' Z := by
  intro z hz
  obtain ⟨x1, x2, L, x3, x4, x5, o, x6, x7, x8⟩ := X z hz
  have hne : L ≠ a := fun q => za z hz (q ▸ x3)
  refine ⟨x1, x2, L, x3, ?_, ?_, o, kp L o hne x6, x7, x8⟩
  · cases q : C' L with
    | none => rfl
    | some ob => rw [cn L ob hne q] at x4; cases x4
  · cases q : H' L with
    | none => rfl
    | some ob => rw [hh L ob hne q] at x5; cases x5

theorem St.step (X : St G C Z H s) (kp : ∀ b o, b ≠ a → s.heap.get? b = some o → h'.get? b = some o)
    (nt : ∀ o items n, s.heap.get? a = some o → o.cls = .type "tuple" → o.data = .seq items n → False)
    (ca : C a = none) (za : ∀ z, z ∈ Z → z.1.frame ≠ some a)
    (hh : ∀ b o, b ≠ a → H' b = some o → H b = some o) (ha : ∀ o, H' a = some o → C' a = none ∧ ∃ ob, h'.get? a = some ob ∧ OR G C' h' o ob)
    (cc : Cle C C') (cn : ∀ b o, b ≠ a → C' b = some o → C b = some o) (cna : ∀ o, C' a = some o → h'.get? a = some o) : St G C' Z H' { s with heap := h', toks := tk } := by
  have tkk : TK s.heap h' := fun b o items n e1 e2 e3 => by
    by_cases q : b = a
    · subst q; exact (nt o items n e1 e2 e3).elim
    · exact kp b o q e1
  refine ⟨fun b o e => ?_, fun b o e => ?_, fun b o e => ?_, fun b o e => cc _ _ (X.base b o e), X.gens, X.os, X.zs.step kp za hh cn⟩
  · by_cases q : b = a
    · subst q; exact cna o e
    · exact kp b o q (X.con b o (cn b o q e))
  · by_cases q : b = a
    · subst q; exact (ha o e).2
    · obtain ⟨ob, x1, x2⟩ := X.hp b o (hh b o q e)
      exact ⟨ob, kp b ob q x1, x2.mono cc tkk⟩
  · by_cases q : b = a
    · subst q; exact (ha o e).1
    · have := X.dis b o (hh b o q e)
      cases q2 : C' b with
      | none => rfl
      | some ob => rw [cn b ob q q2] at this; cases this

theorem FR.step {h h' : Heap} (X : FR fl C Z H env m h) (kp : ∀ b o, b ≠ a → h.get? b = some o → h'.get? b = some o) (aL : a ≠ env.locals) (aC : ∀ x c, env.cells.lookup x = some c → c ≠ a)
    (hh : ∀ b o, b ≠ a → H' b = some o → H b = some o) (cc : Cle C C') (cn : ∀ b o, b ≠ a → C' b = some o → C b = some o) : FR fl C' Z H' env m h' := by
  have no1 : ∀ b, b ≠ a → C b = none → C' b = none := fun b q e => by
    cases q2 : C' b with
    | none => rfl
    | some ob => rw [cn b ob q q2] at e; cases e
  have no2 : ∀ b, b ≠ a → H b = none → H' b = none := fun b q e => by
    cases q2 : H' b with
    | none => rfl
    | some ob => rw [hh b ob q q2] at e; cases e
  have cellK : ∀ x c v, env.cells.lookup x = some c → h.IsCell c v → h'.IsCell c v := fun x c v e ⟨o, e1, e2⟩ => ⟨o, kp c o (aC x c e) e1, e2⟩
  refine ⟨?_, fun x o hm hk => ?_, X.kinds, X.nd, X.apart, ⟨no1 _ (Ne.symm aL) X.ownL.1, no2 _ (Ne.symm aL) X.ownL.2.1, X.ownL.2.2⟩, fun x c e => ?_⟩
  · obtain ⟨mm, hn, hv⟩ := X.ns
    obtain ⟨o, es, ep, e1, e2, e3⟩ := hn
    refine ⟨mm, ⟨o, es, ep, kp _ o (Ne.symm aL) e1, e2, e3⟩, fun x lv hm hk => ?_⟩
    obtain ⟨v, v1, v2⟩ := hv x lv hm hk
    exact ⟨v, v1, v2.mono cc⟩
  · obtain ⟨c, v, c1, c2, c3⟩ := X.cell x o hm hk
    refine ⟨c, v, c1, cellK x c v c1 c2, fun lv e => ?_⟩
    obtain ⟨u, u1, u2⟩ := c3 lv e
    exact ⟨u, u1, u2.mono cc⟩
  · obtain ⟨x1, x2, x3, x4, v, x5⟩ := X.ownC x c e
    exact ⟨fun q => no1 c (aC x c e) (x1 q), no2 c (aC x c e) x2, x3, x4, v, cellK x c v e x5⟩

theorem Inv.step (X : Inv G k fl env A C Z m H s) (kp : ∀ b o, b ≠ a → s.heap.get? b = some o → h'.get? b = some o)
    (nt : ∀ o items n, s.heap.get? a = some o → o.cls = .type "tuple" → o.data = .seq items n → False)
    (ca : C a = none) (za : ∀ z, z ∈ Z → z.1.frame ≠ some a) (aL : a ≠ env.locals) (aC : ∀ x c, env.cells.lookup x = some c → c ≠ a)
    (hh : ∀ b o, b ≠ a → H' b = some o → H b = some o) (ha : ∀ o, H' a = some o → C' a = none ∧ ∃ ob, h'.get? a = some ob ∧ OR G C' h' o ob)
    (cc : Cle C C') (cn : ∀ b o, b ≠ a → C' b = some o → C b = some o) (cna : ∀ o, C' a = some o → h'.get? a = some o) : Inv G k fl env A C' Z m H' { s with heap := h', toks := tk } :=
  ⟨X.kind, X.glob, X.blt, X.room, X.frames, X.frame, X.hd.mono (fun a o _ e _ => cc a o e), X.hno, X.st.step kp nt ca za hh ha cc cn cna, X.fr.step kp aL aC hh cc cn⟩

/-- what a fresh place is not -/
theorem Inv.fresh (X : Inv G k fl env A C Z m H s) (hn : s.heap.get? a = none) : C a = none ∧ H a = none ∧ (∀ z, z ∈ Z → z.1.frame ≠ some a) ∧ a ≠ env.locals ∧ ∀ x c, env.cells.lookup x = some c → c ≠ a := by
  refine ⟨?_, ?_, fun z hz q => ?_, fun q => ?_, fun x c e q => ?_⟩
  · cases q : C a with
    | none => rfl
    | some o => rw [X.st.con a o q] at hn; cases hn
  · cases q : H a with
    | none => rfl
    | some o => obtain ⟨ob, e, _⟩ := X.st.hp a o q; rw [e] at hn; cases hn
  · obtain ⟨_, _, L, x3, _, _, o, x6, _⟩ := X.st.zs z hz
    rw [q] at x3; cases x3
    rw [x6] at hn; cases hn
  · obtain ⟨mm, ⟨o, es, ep, e1, _⟩, _⟩ := X.fr.ns
    rw [← q, hn] at e1; cases e1
  · obtain ⟨_, _, _, _, v, o, e1, _⟩ := X.fr.ownC x c e
    rw [q, hn] at e1; cases e1

/-- a place of the heap that the calculus owns -/
theorem Inv.own (X : Inv G k fl env A C Z m H s) {o : LO} (hn : H a = some o) : C a = none ∧ (∀ z, z ∈ Z → z.1.frame ≠ some a) ∧ a ≠ env.locals ∧ (∀ x c, env.cells.lookup x = some c → c ≠ a) ∧
    ∃ ob, s.heap.get? a = some ob ∧ OR G C s.heap o ob ∧ ∀ o' items n, s.heap.get? a = some o' → o'.cls = .type "tuple" → o'.data = .seq items n → False := by
  obtain ⟨ob, e, r⟩ := X.st.hp a o hn
  refine ⟨X.st.dis a o hn, fun z hz q => ?_, fun q => ?_, fun x c e q => ?_, ob, e, r, fun o' items n e1 e2 _ => ?_⟩
  · obtain ⟨_, _, L, x3, _, x5, _⟩ := X.st.zs z hz
    rw [q] at x3; cases x3
    rw [hn] at x5; cases x5
  · have := X.fr.ownL.2.1; rw [← q, hn] at this; cases this
  · have := (X.fr.ownC x c e).2.1; rw [q, hn] at this; cases this
  · rw [e] at e1; cases e1; exact r.noTup e2

/-- an object of the calculus's heap is changed -/
theorem Inv.upd (X : Inv G k fl env A C Z m H s) {o o' : LO} (hn : H a = some o) (hs : Heap.SameBut a s.heap h') {ob : Obj} (hg : h'.get? a = some ob) (r : OR G C h' o' ob) :
    Inv G k fl env A C Z m (hset H a o') { s with heap := h', toks := tk } := by
  obtain ⟨x1, x2, x3, x4, ob0, x5, x6, x7⟩ := X.own hn
  refine X.step (a := a) (fun b o q e => (hs.2 b q).trans e) x7 x1 x2 x3 x4 (fun b o q e => by rwa [hset_ne H _ q] at e) (fun o e => ?_) (Cle.refl C) (fun _ _ _ e => e) (fun o e => ?_)
  · rw [hset_same] at e; cases e; exact ⟨x1, ob, hg, r⟩
  · rw [x1] at e; cases e

/-- the heap grew by what nobody asks for -/
theorem Inv.keeps (X : Inv G k fl env A C Z m H s) (kp : ∀ b o, s.heap.get? b = some o → h'.get? b = some o) : Inv G k fl env A C Z m H { s with heap := h', toks := tk } := by
  have hn : s.heap.get? s.heap.objs.size = none := Heap.get?_none_of_le (Nat.le_refl _)
  obtain ⟨x1, x2, x3, x4, x5⟩ := X.fresh hn
  exact X.step (a := s.heap.objs.size) (fun b o _ e => kp b o e) (fun o _ _ e => by rw [hn] at e; cases e) x1 x3 x4 x5 (fun _ _ _ e => e) (fun o e => by rw [x2] at e; cases e) (Cle.refl C) (fun _ _ _ e => e) (fun o e => by rw [x1] at e; cases e)

theorem Inv.toks (X : Inv G k fl env A C Z m H s) : Inv G k fl env A C Z m H { s with toks := tk } := X.keeps fun _ _ e => e

/-- a new object of the calculus's heap -/
theorem Inv.allocH (X : Inv G k fl env A C Z m H s) (hn : s.heap.get? a = none) (kp : ∀ b o, s.heap.get? b = some o → h'.get? b = some o) {o : LO} {ob : Obj} (hg : h'.get? a = some ob) (r : OR G C h' o ob) :
    H a = none ∧ Inv G k fl env A C Z m (hset H a o) { s with heap := h', toks := tk } := by
  obtain ⟨x1, x2, x3, x4, x5⟩ := X.fresh hn
  refine ⟨x2, X.step (a := a) (fun b o _ e => kp b o e) (fun o _ _ e => by rw [hn] at e; cases e) x1 x3 x4 x5 (fun b o q e => by rwa [hset_ne H _ q] at e) (fun o e => ?_) (Cle.refl C) (fun _ _ _ e => e) (fun o e => by rw [x1] at e; cases e)⟩
  rw [hset_same] at e; cases e; exact ⟨x1, ob, hg, r⟩

/-- a new object that never changes -/
theorem Inv.allocC (X : Inv G k fl env A C Z m H s) (hn : s.heap.get? a = none) (kp : ∀ b o, s.heap.get? b = some o → h'.get? b = some o) {ob : Obj} (hg : h'.get? a = some ob) :
    Cle C (cset C a ob) ∧ Inv G k fl env A (cset C a ob) Z m H { s with heap := h', toks := tk } := by
  obtain ⟨x1, x2, x3, x4, x5⟩ := X.fresh hn
  refine ⟨Cle.set ob x1, X.step (a := a) (fun b o _ e => kp b o e) (fun o _ _ e => by rw [hn] at e; cases e) x1 x3 x4 x5 (fun _ _ _ e => e) (fun o e => by rw [x2] at e; cases e) (Cle.set ob x1) (fun b o q e => by rwa [cset_ne C _ q] at e) (fun o e => ?_)⟩
  rw [cset_same] at e; cases e; exact hg

end
end Go

end
section
set_option autoImplicit false
set_option linter.unusedVariables false
set_option linter.unusedSimpArgs false
set_option Elab.async false
namespace Go
open PySem PySem.W PyProof.Rows

inductive Put : Loc → Str → LV → Loc → Prop
  | here {m : Loc} {x : Str} {o : Option LV} {v : LV} : Put ((x, o) :: m) x v ((x, some v) :: m)
  | there {m m' : Loc} {x y : Str} {o : Option LV} {v : LV} : Put m x v m' → Put ((y, o) :: m) x v ((y, o) :: m')

theorem Put.keys {m m' : Loc} {x : Str} {v : LV} (p : Put m x v m') : m'.map (·.1) = m.map (·.1) := by
  induction p with
  | here => rfl
  | there _ ih => simp [ih]
theorem Put.has {m m' : Loc} {x : Str} {v : LV} (p : Put m x v m') : ∃ o, (x, o) ∈ m := by
  induction p with
  | here => exact ⟨_, List.mem_cons_self⟩
  | there _ ih => obtain ⟨o, h⟩ := ih; exact ⟨o, List.mem_cons_of_mem _ h⟩
theorem Put.mem {m m' : Loc} {x : Str} {v : LV} (p : Put m x v m') (nd : (m.map (·.1)).Nodup) {y : Str} {o : Option LV} (h : (y, o) ∈ m') : (y = x ∧ o = some v) ∨ (y ≠ x ∧ (y, o) ∈ m) := by
  induction p with
  | @here m x o' v =>
    rw [List.map_cons, List.nodup_cons] at nd
    rcases List.mem_cons.mp h with e | h2
    · cases e; exact .inl ⟨rfl, rfl⟩
    · refine .inr ⟨fun q => ?_, List.mem_cons_of_mem _ h2⟩
      exact nd.1 (List.mem_map.mpr ⟨_, h2, q⟩)
  | @there m m' x y' o' v q ih =>
    rw [List.map_cons, List.nodup_cons] at nd
    rcases List.mem_cons.mp h with e | h2
    · cases e
      refine .inr ⟨fun q2 => ?_, List.mem_cons_self⟩
      obtain ⟨o2, h3⟩ := q.has
      exact nd.1 (List.mem_map.mpr ⟨_, h3, q2.symm⟩)
    · rcases ih nd.2 h2 with r | ⟨r1, r2⟩
      · exact .inl r
      · exact .inr ⟨r1, List.mem_cons_of_mem _ r2⟩

section
variable {G : Gl} {k : Nat} {fl : Bool} {env : Env} {A : Around} {C C' : Cm} {Z : Zs} {m m' : Loc} {H : Hp} {s : Shared}

theorem Inv.store (X : Inv G k fl env A C Z m H s) {x : Str} {lv : LV} {v : Value} (p : Put m x lv m') (hv : VR C lv v) (hfl : fl = true ∨ env.kindOf x = some .local) {E : Value → Shared → Prop} {Q : Unit → Shared → Prop}
    (hQ : ∀ s', Inv G k fl env A C Z m' H s' → Q () s') : wpAny G.M A (storeName env x v) Q E s := by
  obtain ⟨o, ho⟩ := p.has
  have nd := X.fr.nd
  have hp : (env.scope.kind == .class || (env.scope.kind == .module && env.locals != env.globals)) = false := by rw [X.kind]; rfl
  by_cases hl : env.kindOf x = some .local
  · obtain ⟨mm, hn, hval⟩ := X.fr.ns
    refine wpAny_storeName_local hl hn (fun h' hn' hs => hQ _ ?_) hp
    have nt : ∀ o items n, s.heap.get? env.locals = some o → o.cls = .type "tuple" → o.data = .seq items n → False := fun o items n e1 _ e3 => by
      obtain ⟨o2, es, ep, e4, e5, _⟩ := hn
      rw [e4] at e1; cases e1; rw [e5] at e3; cases e3
    have kp : ∀ b o, b ≠ env.locals → s.heap.get? b = some o → h'.get? b = some o := fun b o q e => (hs.2 b q).trans e
    have st := X.st.step (C' := C) (H' := H) (tk := s.toks + 1) kp nt X.fr.ownL.1 X.fr.ownL.2.2 (fun _ _ _ e => e) (fun o e => by rw [X.fr.ownL.2.1] at e; cases e) (Cle.refl C) (fun _ _ _ e => e) (fun o e => by rw [X.fr.ownL.1] at e; cases e)
    have cellK : ∀ y c u, env.cells.lookup y = some c → s.heap.IsCell c u → h'.IsCell c u := fun y c u e ⟨o, e1, e2⟩ => ⟨o, kp c o (X.fr.ownC y c e).2.2.1 e1, e2⟩
    refine ⟨X.kind, X.glob, X.blt, X.room, X.frames, X.frame, X.hd, X.hno, st, ⟨⟨_, hn', fun y lv' hm hk => ?_⟩, fun y o' hm hk => ?_, fun y o' hm => ?_, by rw [p.keys]; exact nd, X.fr.apart, X.fr.ownL, fun y c e => ?_⟩⟩
    · rcases p.mem nd hm with ⟨rfl, e⟩ | ⟨hne, hm⟩
      · cases e; exact ⟨v, if_pos rfl, hv⟩
      · obtain ⟨u, u1, u2⟩ := hval y lv' hm hk
        exact ⟨u, by rw [if_neg hne]; exact u1, u2⟩
    · rcases p.mem nd hm with ⟨rfl, e⟩ | ⟨hne, hm⟩
      · exact absurd hl hk
      · obtain ⟨c, u, c1, c2, c3⟩ := X.fr.cell y o' hm hk
        exact ⟨c, u, c1, cellK y c u c1 c2, c3⟩
    · rcases p.mem nd hm with ⟨rfl, _⟩ | ⟨_, hm⟩
      · exact .inl hl
      · exact X.fr.kinds y o' hm
    · obtain ⟨x1, x2, x3, x4, u, x5⟩ := X.fr.ownC y c e
      exact ⟨x1, x2, x3, x4, u, cellK y c u e x5⟩
  · replace hfl := hfl.resolve_right hl
    obtain ⟨c, u, c1, c2, c3⟩ := X.fr.cell x o ho hl
    have hkc : env.kindOf x = some .cell ∨ env.kindOf x = some .free := by
      rcases X.fr.kinds x o ho with q | q
      · exact absurd q hl
      · exact q
    have go : ∀ h', h'.IsCell c (some v) → Heap.SameBut c s.heap h' → Q () { s with heap := h' } := fun h' hc' hs => by
      obtain ⟨y1, y2, y3, y4, u', oc, y5, y6⟩ := X.fr.ownC x c c1
      replace y1 := y1 hfl
      have kp : ∀ b o, b ≠ c → s.heap.get? b = some o → h'.get? b = some o := fun b o q e => (hs.2 b q).trans e
      have nt : ∀ o items n, s.heap.get? c = some o → o.cls = .type "tuple" → o.data = .seq items n → False := fun o items n e1 _ e3 => by
        rw [y5] at e1; cases e1; rw [y6] at e3; cases e3
      have st := X.st.step (C' := C) (H' := H) (tk := s.toks) kp nt y1 y4 (fun _ _ _ e => e) (fun o e => by rw [y2] at e; cases e) (Cle.refl C) (fun _ _ _ e => e) (fun o e => by rw [y1] at e; cases e)
      have cellK : ∀ y c' u, y ≠ x → env.cells.lookup y = some c' → s.heap.IsCell c' u → h'.IsCell c' u := fun y c' u hne e ⟨o, e1, e2⟩ => ⟨o, kp c' o (fun q => hne (X.fr.apart y x c (q ▸ e) c1)) e1, e2⟩
      refine hQ _ ⟨X.kind, X.glob, X.blt, X.room, X.frames, X.frame, X.hd, X.hno, st, ⟨?_, fun y o' hm hk => ?_, fun y o' hm => ?_, by rw [p.keys]; exact nd, X.fr.apart, X.fr.ownL, fun y c' e => ?_⟩⟩
      · obtain ⟨mm, hn, hval⟩ := X.fr.ns
        refine ⟨mm, hn.sameBut hs (Ne.symm y3), fun y lv' hm hk => ?_⟩
        rcases p.mem nd hm with ⟨rfl, e⟩ | ⟨hne, hm⟩
        · exact absurd hk hl
        · exact hval y lv' hm hk
      · rcases p.mem nd hm with ⟨rfl, e⟩ | ⟨hne, hm⟩
        · subst e
          exact ⟨c, _, c1, hc', fun lv' e => by cases e; exact ⟨v, rfl, hv⟩⟩
        · obtain ⟨c', u, d1, d2, d3⟩ := X.fr.cell y o' hm hk
          exact ⟨c', u, d1, cellK y c' u hne d1 d2, d3⟩
      · rcases p.mem nd hm with ⟨rfl, _⟩ | ⟨_, hm⟩
        · exact .inr hkc
        · exact X.fr.kinds y o' hm
      · obtain ⟨x1, x2, x3, x4, u, x5⟩ := X.fr.ownC y c' e
        by_cases hne : y = x
        · subst hne
          rw [c1] at e; cases e
          exact ⟨x1, x2, x3, x4, _, hc'⟩
        · exact ⟨x1, x2, x3, x4, u, cellK y c' u hne e x5⟩
    rcases hkc with hk | hk
    · exact wpAny_storeName_cell X.kind hk c1 c2 go
    · unfold storeName
      simp only [hk, X.kind]
      exact wpAny_bind (wpAny_cellOf c1 (wpAny_cellSet c2 go))

theorem Inv.load (X : Inv G k fl env A C Z m H s) {x : Str} {lv : LV} (hm : (x, some lv) ∈ m) {E : Value → Shared → Prop} {Q : Value → Shared → Prop}
    (hQ : ∀ v, VR C lv v → Q v s) (hn : (x == ("__classdict__" : Str)) = false := by decide +kernel) : wpAny G.M A (loadName env x) Q E s := by
  by_cases hl : env.kindOf x = some .local
  · obtain ⟨mm, hns, hval⟩ := X.fr.ns
    obtain ⟨v, v1, v2⟩ := hval x lv hm hl
    exact wpAny_loadName_local X.kind hl hns v1 (hQ v v2)
  · obtain ⟨c, u, c1, c2, c3⟩ := X.fr.cell x _ hm hl
    obtain ⟨v, rfl, hv⟩ := c3 lv rfl
    rcases X.fr.kinds x _ hm with q | q | q
    · exact absurd q hl
    · exact wpAny_loadName_cell X.kind q c1 c2 (hQ v hv)
    · exact wpAny_loadName_free X.kind q c1 c2 (hQ v hv) hn
end

/-- an exception's kind: its class, and whether it has no context -/
abbrev Xk := String × Bool

/-- an exception's object, with its first traceback entry -/
def Trc (C : Cm) (H : Hp) (h : Heap) (ea : Addr) (cls : Xk) (flv : Value) : Prop :=
  ∃ oe vs a0 T oT ts, h.get? ea = some oe ∧ oe.cls = .type cls.1 ∧ oe.data = .fields vs ∧ vs[0]? = some a0 ∧ vs[1]? = some (.ref T) ∧ (cls.2 = true → vs[2]? = some .none) ∧ T ≠ ea ∧ h.get? T = some oT ∧ oT.data = .fields ts ∧ ts[3]? = some flv ∧
    C ea = none ∧ H ea = none ∧ C T = none ∧ H T = none

/-- an exception's object, new -/
structure NewX (h h' : Heap) (ea : Addr) (cls : Xk) : Prop where
  keeps : ∀ b o, h.get? b = some o → h'.get? b = some o
  new : h.get? ea = none
  there : ∃ ob vs a0, h'.get? ea = some ob ∧ ob.cls = .type cls.1 ∧ ob.data = .fields vs ∧ vs[0]? = some a0 ∧ vs[1]? = some .none ∧ (cls.2 = true → vs[2]? = some .none)

theorem NewX.of {h h' : Heap} {ea : Addr} {cls : String} (x : Heap.NewExc h h' ea cls) (c : Bool) : NewX h h' ea (cls, c) := by
  obtain ⟨ob, t, e1, e2, e3⟩ := x.there
  exact ⟨x.keeps, x.new, ob, _, t, e1, e2, e3, rfl, rfl, fun _ => rfl⟩

def ExI (G : Gl) (k : Nat) (fl : Bool) (env : Env) (A : Around) (C : Cm) (Z : Zs) (m : Loc) (H : Hp) (cls : Xk) (e : Value) (s : Shared) : Prop :=
  ∃ ea, e = .ref ea ∧ ((∃ h₁, Inv G k fl env A C Z m H { s with heap := h₁ } ∧ NewX h₁ s.heap ea cls) ∨
    (Inv G k fl env A C Z m H s ∧ ∃ flv, Trc C H s.heap ea cls flv ∧ (flv = .none ∨ ∃ L, env.frame = some L ∧ flv = rawInt L)))

abbrev Qv := LV → Hp → Prop
abbrev Xc := Xk → Hp → Prop

section
variable (G : Gl) (k : Nat) (fl : Bool) (env : Env) (A : Around) (C : Cm) (Z : Zs) (m : Loc)

def Post (Q : Qv) : Value → Shared → Prop := fun v s' => ∃ C' lv H', Cle C C' ∧ Inv G k fl env A C' Z m H' s' ∧ VR C' lv v ∧ Q lv H'
def BPost (Q : Bool → Hp → Prop) : Bool → Shared → Prop := fun b s' => ∃ C' H', Cle C C' ∧ Inv G k fl env A C' Z m H' s' ∧ Q b H'
def XPost (X : Xc) : Value → Shared → Prop := fun e s' => ∃ C' cls H', Cle C C' ∧ ExI G k fl env A C' Z m H' cls e s' ∧ X cls H'
def XsPost (X : Xk → Loc → Hp → Prop) : Value → Shared → Prop := fun e s' => ∃ C' cls m' H', Cle C C' ∧ ExI G k fl env A C' Z m' H' cls e s' ∧ X cls m' H'
end

section
variable {G : Gl} {k : Nat} {fl : Bool} {env : Env} {A : Around} {C C' : Cm} {Z : Zs} {m : Loc}
theorem Post.up {Q : Qv} (c : Cle C C') {v : Value} {s : Shared} (h : Post G k fl env A C' Z m Q v s) : Post G k fl env A C Z m Q v s := by
  obtain ⟨C2, lv, H', a, r⟩ := h; exact ⟨C2, lv, H', c.trans a, r⟩
theorem BPost.up {Q : Bool → Hp → Prop} (c : Cle C C') {v : Bool} {s : Shared} (h : BPost G k fl env A C' Z m Q v s) : BPost G k fl env A C Z m Q v s := by
  obtain ⟨C2, H', a, r⟩ := h; exact ⟨C2, H', c.trans a, r⟩
theorem XPost.up {X : Xc} (c : Cle C C') {v : Value} {s : Shared} (h : XPost G k fl env A C' Z m X v s) : XPost G k fl env A C Z m X v s := by
  obtain ⟨C2, cls, H', a, r⟩ := h; exact ⟨C2, cls, H', c.trans a, r⟩
end

/-- an expression's value -/
def EV (G : Gl) (k : Nat) (fl : Bool) (sc : Scope) (e : PySem.Expr) (m : Loc) (H : Hp) (Q : Qv) (X : Xc) : Prop :=
  ∀ env A C Z s, env.scope = sc → Inv G k fl env A C Z m H s → wpAny G.M A (eval e env) (Post G k fl env A C Z m Q) (XPost G k fl env A C Z m X) s
/-- a test -/
def TS (G : Gl) (k : Nat) (fl : Bool) (sc : Scope) (e : PySem.Expr) (m : Loc) (H : Hp) (Q : Bool → Hp → Prop) (X : Xc) : Prop :=
  ∀ env A C Z s, env.scope = sc → Inv G k fl env A C Z m H s → wpAny G.M A (isTrue e env (eval e env)) (BPost G k fl env A C Z m Q) (XPost G k fl env A C Z m X) s

/-- an operation upon two values -/
def BO (G : Gl) (t : Value → Value → Sem Value) (a b : LV) (H : Hp) (Q : Qv) (X : Xc) : Prop :=
  ∀ k fl env A C Z m s va vb, Inv G k fl env A C Z m H s → VR C a va → VR C b vb → wpAny G.M A (t va vb) (Post G k fl env A C Z m Q) (XPost G k fl env A C Z m X) s

section
variable {G : Gl} {k : Nat} {fl : Bool} {sc : Scope} {m : Loc} {H : Hp} {Q Q' : Qv} {X : Xc}

theorem EV.mono {e : PySem.Expr} (h : EV G k fl sc e m H Q X) (hQ : ∀ lv H', Q lv H' → Q' lv H') : EV G k fl sc e m H Q' X :=
  fun env A C Z s hs I => wpAny_mono (h env A C Z s hs I) (fun _ _ ⟨C', lv, H', a, b, c, d⟩ => ⟨C', lv, H', a, b, c, hQ lv H' d⟩) fun _ _ x => x

theorem EV_Name {x : Str} {p : Pos} {lv : LV} (hm : (x, some lv) ∈ m) (hQ : Q lv H) (hn : (x == ("__classdict__" : Str)) = false := by decide +kernel) (hd : (x == ("__debug__" : Str)) = false := by decide +kernel) : EV G k fl sc (.Name x p) m H Q X :=
  fun env A C Z s hs I => wpAny_Name (I.load hm (fun v hv => ⟨C, lv, H, Cle.refl C, I, hv, hQ⟩) hn) hd

theorem EV_none {kd : Nat} {p : Pos} (hQ : Q .none H) : EV G k fl sc (.Constant .none kd p) m H Q X :=
  fun env A C Z s hs I => wpAny_pure ⟨C, .none, H, Cle.refl C, I, rfl, hQ⟩
theorem EV_bool {b : Bool} {kd : Nat} {p : Pos} (hQ : Q (.bool b) H) : EV G k fl sc (.Constant (.bool b) kd p) m H Q X :=
  fun env A C Z s hs I => wpAny_pure ⟨C, .bool b, H, Cle.refl C, I, rfl, hQ⟩
theorem EV_int {i : Int} {kd : Nat} {p : Pos} (hQ : Q (.int i) H) : EV G k fl sc (.Constant (.int i) kd p) m H Q X :=
  fun env A C Z s hs I => wpAny_mkInt ⟨C, .int i, H, Cle.refl C, I.toks, ⟨_, rfl⟩, hQ⟩
theorem EV_str {x : Str} {kd : Nat} {p : Pos} (hQ : Q (.str x) H) : EV G k fl sc (.Constant (.str x) kd p) m H Q X :=
  fun env A C Z s hs I => wpAny_mkText ⟨C, .str x, H, Cle.refl C, I.toks, ⟨_, rfl⟩, hQ⟩

theorem EV_BinOp {l r : PySem.Expr} {op : Operator} {p : Pos} (h : EV G k fl sc l m H (fun a H1 => EV G k fl sc r m H1 (fun b H2 => BO G (binaryOp op) a b H2 Q X) X) X) :
    EV G k fl sc (.BinOp l op r p) m H Q X :=
  fun env A C Z s hs I => wpAny_BinOp (wpAny_mono (h env A C Z s hs I) (fun va s1 ⟨C1, a, H1, c1, I1, v1, q1⟩ =>
    wpAny_mono (q1 env A C1 Z s1 hs I1) (fun vb s2 ⟨C2, b, H2, c2, I2, v2, q2⟩ =>
      wpAny_mono (q2 k fl env A C2 Z m s2 va vb I2 (v1.mono c2) v2) (fun _ _ x => (Post.up c2 x).up c1) fun _ _ x => (XPost.up c2 x).up c1) fun _ _ x => XPost.up c1 x) fun _ _ x => x)

theorem EV_Compare1 {l r : PySem.Expr} {op : CmpOp} {p : Pos} (h : EV G k fl sc l m H (fun a H1 => EV G k fl sc r m H1 (fun b H2 => BO G (compareOp op) a b H2 Q X) X) X)
    (hm : behindInMarks op r = false := by with_unfolding_all rfl) : EV G k fl sc (.Compare l [op] [r] p) m H Q X :=
  fun env A C Z s hs I => wpAny_Compare1 (wpAny_mono (h env A C Z s hs I) (fun va s1 ⟨C1, a, H1, c1, I1, v1, q1⟩ =>
    wpAny_mono (q1 env A C1 Z s1 hs I1) (fun vb s2 ⟨C2, b, H2, c2, I2, v2, q2⟩ =>
      wpAny_mono (q2 k fl env A C2 Z m s2 va vb I2 (v1.mono c2) v2) (fun _ _ x => (Post.up c2 x).up c1) fun _ _ x => (XPost.up c2 x).up c1) fun _ _ x => XPost.up c1 x) fun _ _ x => x) hm

theorem EV_IfExp {t b o : PySem.Expr} {p : Pos} (h : TS G k fl sc t m H (fun c H1 => if c then EV G k fl sc b m H1 Q X else EV G k fl sc o m H1 Q X) X) : EV G k fl sc (.IfExp t b o p) m H Q X :=
  fun env A C Z s hs I => wpAny_IfExp (wpAny_mono (h env A C Z s hs I) (fun c s1 ⟨C1, H1, c1, I1, q1⟩ => by
    cases c with
    | true => simp only [if_true] at q1 ⊢; exact wpAny_mono (q1 env A C1 Z s1 hs I1) (fun _ _ x => Post.up c1 x) fun _ _ x => XPost.up c1 x
    | false => simp only [Bool.false_eq_true, if_false] at q1 ⊢; exact wpAny_mono (q1 env A C1 Z s1 hs I1) (fun _ _ x => Post.up c1 x) fun _ _ x => XPost.up c1 x) fun _ _ x => x)
end

end Go

end
section
set_option autoImplicit false
set_option linter.unusedVariables false
set_option linter.unusedSimpArgs false
set_option Elab.async false
namespace Go
open PySem PySem.W PyProof.Rows

def seqOrPlain : Data → Bool
  | .seq .. | .plain => true
  | _ => false

mutual
theorem VR.restrict {C C' : Cm} (k : ∀ a o, C a = some o → seqOrPlain o.data = true → C' a = some o) : ∀ {l : LV} {v : Value}, VR C l v → VR C' l v
  | .none, _, h => h
  | .bool _, _, h => h
  | .int _, _, h => h
  | .str _, _, h => h
  | .tup _, _, ⟨a, vs, e, ⟨o, n, c, d1, d2⟩, r⟩ => ⟨a, vs, e, ⟨o, n, k _ _ c (by rw [d2]; rfl), d1, d2⟩, VRs.restrict k r⟩
  | .ref _, _, h => h
  | .inst _ _ _, _, ⟨e, c⟩ => ⟨e, k _ _ c rfl⟩
  | .ro _ _, _, ⟨e, o, n, vs, c, h1, h2, r⟩ => ⟨e, o, n, vs, k _ _ c (by rw [h2]; rfl), h1, h2, VRs.restrict k r⟩
theorem VRs.restrict {C C' : Cm} (k : ∀ a o, C a = some o → seqOrPlain o.data = true → C' a = some o) : ∀ {l : List LV} {v : List Value}, VRs C l v → VRs C' l v
  | [], _, h => h
  | _ :: _, _, ⟨v, r, e, h1, h2⟩ => ⟨v, r, e, VR.restrict k h1, VRs.restrict k h2⟩
end

theorem SEnt.restrict {G : Gl} {C C' : Cm} (k : ∀ a o, C a = some o → seqOrPlain o.data = true → C' a = some o) : ∀ {fs : List (Str × LV)} {es : List DictEntry}, SEnt G C fs es → SEnt G C' fs es
  | [], _, h => h
  | (_, _) :: _, _, ⟨e, r, q, h1, h2, h3, h4⟩ => ⟨e, r, q, h1, h2, VR.restrict k h3, SEnt.restrict k h4⟩
theorem PEnt.restrict {G : Gl} {C C' : Cm} (k : ∀ a o, C a = some o → seqOrPlain o.data = true → C' a = some o) : ∀ {fs : List ((Int × Int) × LV)} {es : List DictEntry}, PEnt G C fs es → PEnt G C' fs es
  | [], _, h => h
  | (_, _) :: _, _, ⟨e, r, q, h1, h2, h3, h4⟩ => ⟨e, r, q, h1, VR.restrict k h2, VR.restrict k h3, PEnt.restrict k h4⟩
theorem OR.restrict {G : Gl} {C C' : Cm} {h : Heap} {o : LO} {ob : Obj} (k : ∀ a o, C a = some o → seqOrPlain o.data = true → C' a = some o) (x : OR G C h o ob) : OR G C' h o ob := by
  cases o with
  | lst vs => obtain ⟨a, d, d', z, us, n, b, c⟩ := x; exact ⟨a, d, d', z, us, n, b, VRs.restrict k c⟩
  | pset ps => exact x
  | psetx a W ob' => exact x
  | sset ss => exact x
  | sdict fs => obtain ⟨a, b, c, d, es, n, e, f⟩ := x; exact ⟨a, b, c, d, es, n, e, f.restrict k⟩
  | pdict fs ep => obtain ⟨a, b, c, d, z, es, e, f⟩ := x; exact ⟨a, b, c, d, z, es, e, f.restrict k⟩
  | ns fs => obtain ⟨a, b, c, d, es, n, e, f⟩ := x; exact ⟨a, b, c, d, es, n, e, f.restrict k⟩

/-- the places of a frame that are no one else's: its dict and its cells -/
def OwnAt (env : Env) (a : Addr) : Prop := a = env.locals ∨ ∃ x, env.cells.lookup x = some a

section
variable {G : Gl} {k : Nat} {fl : Bool} {env : Env} {A : Around} {C C' : Cm} {Z : Zs} {m m' : Loc} {H H' : Hp} {s s' : Shared}

open Classical in
/-- the frame is laid aside: what it holds stays as it is -/
noncomputable def aside (fl : Bool) (env : Env) (C : Cm) (h : Heap) : Cm := fun b => if OwnAt env b ∧ ¬ (fl = true ∧ b = env.locals) then h.get? b else C b
open Classical in
noncomputable def unaside (C₀ : Cm) (env : Env) (C : Cm) : Cm := fun b => if OwnAt env b ∧ C₀ b = none then none else C b

def asideZ (fl : Bool) (env : Env) (d : Data) (Z : Zs) : Zs := if fl then (env, d) :: Z else Z

theorem Inv.ownNone (X : Inv G k fl env A C Z m H s) {a : Addr} (h : OwnAt env a) : ((fl = true ∨ a = env.locals) → C a = none) ∧ H a = none ∧ (∀ z, z ∈ Z → z.1.frame ≠ some a) ∧ ∃ o, s.heap.get? a = some o ∧ seqOrPlain o.data = false ∧ ∀ vs, o.data ≠ .fields vs := by
  rcases h with rfl | ⟨x, hx⟩
  · obtain ⟨mm, ⟨o, es, ep, e1, e2, _⟩, _⟩ := X.fr.ns
    exact ⟨fun _ => X.fr.ownL.1, X.fr.ownL.2.1, X.fr.ownL.2.2, o, e1, by rw [e2]; rfl, fun vs q => by rw [e2] at q; cases q⟩
  · obtain ⟨x1, x2, x3, x4, v, o, e1, e2⟩ := X.fr.ownC x a hx
    exact ⟨fun q => x1 (q.resolve_right x3), x2, x4, o, e1, by rw [e2]; rfl, fun vs q => by rw [e2] at q; cases q⟩

/-- the frame's dict, as data -/
theorem Inv.locData (X : Inv G k fl env A C Z m H s) : ∃ o es ep, s.heap.get? env.locals = some o ∧ o.data = .dict es ep := by
  obtain ⟨mm, ⟨o, es, ep, e1, e2, _⟩, _⟩ := X.fr.ns
  exact ⟨o, es, ep, e1, e2⟩

theorem aside_le (X : Inv G k fl env A C Z m H s) : Cle C (aside fl env C s.heap) := by
  intro a o e
  unfold aside
  split
  · exact X.st.con a o e
  · exact e

theorem St.aside (X : Inv G k fl env A C Z m H s) {o : Obj} (ho : s.heap.get? env.locals = some o) : St G (aside fl env C s.heap) (asideZ fl env o.data Z) H s := by
  have le := aside_le X
  have st := X.st
  have noH : ∀ a, OwnAt env a → H a = none := fun a q => (X.ownNone q).2.1
  refine ⟨fun a o' e => ?_, fun a o' e => ?_, fun a o' e => ?_, fun a o' e => le _ _ (st.base a o' e), st.gens, st.os, ?_⟩
  · unfold Go.aside at e
    split at e
    · exact e
    · exact st.con a o' e
  · obtain ⟨ob, e1, e2⟩ := st.hp a o' e
    exact ⟨ob, e1, e2.mono le (TK.of_keeps fun _ _ e => e)⟩
  · unfold Go.aside
    rw [if_neg (fun q => by rw [noH a q.1] at e; cases e)]
    exact st.dis a o' e
  · have old : ZOk (Go.aside fl env C s.heap) H s.heap Z := fun z hz => by
      obtain ⟨x1, x2, L, x3, x4, x5, ob, x6, x7, x8⟩ := st.zs z hz
      refine ⟨x1, x2, L, x3, ?_, x5, ob, x6, x7, x8⟩
      unfold Go.aside
      rw [if_neg (fun q => (X.ownNone q.1).2.2.1 z hz x3)]
      exact x4
    cases fl with
    | false => exact old
    | true =>
      intro z hz
      rcases List.mem_cons.mp hz with rfl | hz
      · obtain ⟨o2, es, ep, e1, e2⟩ := X.locData
        rw [ho] at e1; cases e1
        refine ⟨by rw [X.kind]; decide, (fun vs q => by rw [show o.data = Data.dict es ep from e2] at q; cases q), env.locals, X.frame rfl, ?_, X.fr.ownL.2.1, o, ho, rfl, es, ep, e2⟩
        unfold Go.aside
        rw [if_neg (fun q => q.2 ⟨rfl, rfl⟩)]
        exact X.fr.ownL.1
      · exact old z hz

/-- back in the frame that was laid aside -/
theorem Inv.back (X : Inv G k fl env A C Z m H s) {o : Obj} (ho : s.heap.get? env.locals = some o) (hC : Cle (aside fl env C s.heap) C') (st' : St G C' (asideZ fl env o.data Z) H' s') :
    Cle C (unaside C env C') ∧ Inv G k fl env A (unaside C env C') Z m H' s' ∧ ∀ {lv v}, VR C' lv v → VR (unaside C env C') lv v := by
  have le0 := aside_le X
  -- the own places hold what they held
  have hcell : ∀ x c, env.cells.lookup x = some c → s'.heap.get? c = s.heap.get? c ∧ C' c = s.heap.get? c := by
    intro x c hx
    have hn : c ≠ env.locals := (X.fr.ownC x c hx).2.2.1
    obtain ⟨_, _, _, ob, e1, _⟩ := X.ownNone (.inr ⟨x, hx⟩ : OwnAt env c)
    have : aside fl env C s.heap c = some ob := by unfold aside; rw [if_pos ⟨.inr ⟨x, hx⟩, fun q => hn q.2⟩]; exact e1
    have h2 := hC c ob this
    exact ⟨by rw [st'.con c ob h2, e1], by rw [h2, e1]⟩
  have hloc : ∃ o', s'.heap.get? env.locals = some o' ∧ o'.data = o.data ∧ (fl = true → C' env.locals = none) ∧ (fl = false → C' env.locals = some o) ∧ H' env.locals = none := by
    cases fl with
    | true =>
      obtain ⟨_, _, L, x3, x4, x5, ob, x6, x7, _⟩ := st'.zs (env, o.data) List.mem_cons_self
      rw [X.frame rfl] at x3; cases x3
      exact ⟨ob, x6, x7, fun _ => x4, (fun q => nomatch q), x5⟩
    | false =>
      have : aside false env C s.heap env.locals = some o := by unfold aside; rw [if_pos ⟨.inl rfl, fun q => by cases q.1⟩]; exact ho
      have h2 := hC _ _ this
      refine ⟨o, st'.con _ _ h2, rfl, (fun q => nomatch q), fun _ => h2, ?_⟩
      cases q : H' env.locals with
      | none => rfl
      | some ob => rw [st'.dis _ _ q] at h2; cases h2
  have res : ∀ a ob, C' a = some ob → seqOrPlain ob.data = true → unaside C env C' a = some ob := by
    intro a ob e hs
    unfold unaside
    rw [if_neg]
    · exact e
    · rintro ⟨q, _⟩
      obtain ⟨_, _, _, ob2, e1, e2, _⟩ := X.ownNone q
      rcases q with rfl | ⟨x, hx⟩
      · obtain ⟨o', q1, q2, q3, q4, _⟩ := hloc
        rw [ho] at e1; cases e1
        cases hfl : fl with
        | true => rw [q3 hfl] at e; cases e
        | false => rw [q4 hfl] at e; cases e; rw [e2] at hs; cases hs
      · rw [(hcell x a hx).2, e1] at e; cases e
        rw [e2] at hs; cases hs
  have le : Cle C (unaside C env C') := by
    intro a ob e
    unfold unaside
    rw [if_neg (fun q => by rw [q.2] at e; cases e)]
    exact hC _ _ (le0 _ _ e)
  have noH : ∀ a, OwnAt env a → H' a = none := by
    rintro a (rfl | ⟨x, hx⟩)
    · obtain ⟨_, _, _, _, _, q⟩ := hloc; exact q
    · obtain ⟨_, _, _, ob, e1, _⟩ := X.ownNone (.inr ⟨x, hx⟩ : OwnAt env a)
      cases q : H' a with
      | none => rfl
      | some ob2 =>
        have := st'.dis _ _ q
        rw [(hcell x a hx).2, e1] at this; cases this
  have sub : ∀ a ob, unaside C env C' a = some ob → C' a = some ob := fun a ob e => by
    unfold unaside at e; split at e
    · cases e
    · exact e
  have zs' : ZOk (unaside C env C') H' s'.heap Z := by
    intro z hz
    have hz' : z ∈ asideZ fl env o.data Z := by cases fl with | true => exact List.mem_cons_of_mem _ hz | false => exact hz
    obtain ⟨x1, x2, L, x3, x4, x5, ob, x6, x7, x8⟩ := st'.zs z hz'
    refine ⟨x1, x2, L, x3, ?_, x5, ob, x6, x7, x8⟩
    cases q : unaside C env C' L with
    | none => rfl
    | some ob => rw [sub _ _ q] at x4; cases x4
  have st2 : St G (unaside C env C') Z H' s' := by
    refine ⟨fun a ob e => st'.con a ob (sub a ob e), fun a ob e => ?_, fun a ob e => ?_, fun a ob e => le _ _ (X.st.base a ob e), st'.gens, st'.os, zs'⟩
    · obtain ⟨ob2, e1, e2⟩ := st'.hp a ob e
      exact ⟨ob2, e1, e2.restrict res⟩
    · cases q : unaside C env C' a with
      | none => rfl
      | some ob => have := sub _ _ q; rw [st'.dis a _ e] at this; cases this
  have cellK : ∀ x c v, env.cells.lookup x = some c → s.heap.IsCell c v → s'.heap.IsCell c v := fun x c v hx ⟨ob, e1, e2⟩ => ⟨ob, by rw [(hcell x c hx).1]; exact e1, e2⟩
  refine ⟨le, ⟨X.kind, X.glob, X.blt, X.room, X.frames, X.frame, X.hd.mono (fun a o _ e _ => le a o e), X.hno, st2, ⟨?_, fun x o' hm hk => ?_, X.fr.kinds, X.fr.nd, X.fr.apart, ⟨?_, noH _ (.inl rfl), X.fr.ownL.2.2⟩, fun x c hx => ?_⟩⟩, fun h => h.restrict res⟩
  · obtain ⟨mm, ⟨o2, es, ep, e1, e2, e3⟩, hv⟩ := X.fr.ns
    obtain ⟨o', q1, q2, _⟩ := hloc
    rw [ho] at e1; cases e1
    refine ⟨mm, ⟨o', es, ep, q1, q2.trans e2, e3⟩, fun x lv hm hk => ?_⟩
    obtain ⟨v, v1, v2⟩ := hv x lv hm hk
    exact ⟨v, v1, v2.mono le⟩
  · obtain ⟨c, v, c1, c2, c3⟩ := X.fr.cell x o' hm hk
    refine ⟨c, v, c1, cellK x c v c1 c2, fun lv e => ?_⟩
    obtain ⟨u, u1, u2⟩ := c3 lv e
    exact ⟨u, u1, u2.mono le⟩
  · unfold unaside; rw [if_pos ⟨.inl rfl, X.fr.ownL.1⟩]
  · obtain ⟨x1, x2, x3, x4, v, x5⟩ := X.fr.ownC x c hx
    refine ⟨fun q => ?_, noH c (.inr ⟨x, hx⟩), x3, x4, v, cellK x c v hx x5⟩
    unfold unaside; rw [if_pos ⟨.inr ⟨x, hx⟩, x1 q⟩]
end

end Go

end
section
set_option autoImplicit false
set_option linter.unusedVariables false
set_option linter.unusedSimpArgs false
set_option Elab.async false
namespace Go
open PySem PySem.W PyProof.Rows

section
variable {G : Gl} {k : Nat} {fl : Bool} {env : Env} {A : Around} {C C' : Cm} {Z : Zs} {m m' : Loc} {H H' : Hp} {s s' : Shared} {h' : Heap} {tk : Nat} {a : Addr}

/-- a record that is nobody's: an exception, a traceback entry -/
theorem Inv.notFields (X : Inv G k fl env A C Z m H s) {o : Obj} {vs : Array Value} (ho : s.heap.get? a = some o) (hd : o.data = .fields vs) :
    (∀ z, z ∈ Z → z.1.frame ≠ some a) ∧ a ≠ env.locals ∧ (∀ x c, env.cells.lookup x = some c → c ≠ a) := by
  refine ⟨fun z hz q => ?_, fun q => ?_, fun x c e q => ?_⟩
  · obtain ⟨_, x2, L, x3, _, _, ob, x6, x7, _⟩ := X.st.zs z hz
    rw [q] at x3; cases x3
    rw [ho] at x6; cases x6
    exact x2 vs (x7.symm.trans hd)
  · obtain ⟨mm, ⟨ob, es, ep, e1, e2, _⟩, _⟩ := X.fr.ns
    rw [← q, ho] at e1; cases e1; rw [hd] at e2; cases e2
  · obtain ⟨_, _, _, _, v, ob, e1, e2⟩ := X.fr.ownC x c e
    rw [q, ho] at e1; cases e1; rw [hd] at e2; cases e2

theorem Inv.alien (X : Inv G k fl env A C Z m H s) {o : Obj} {vs : Array Value} (ho : s.heap.get? a = some o) (hd : o.data = .fields vs) (hC : C a = none) (hH : H a = none) (hs : Heap.SameBut a s.heap h') :
    Inv G k fl env A C Z m H { s with heap := h', toks := tk } := by
  obtain ⟨y1, y2, y3⟩ := X.notFields ho hd
  refine X.step (a := a) (fun b ob q e => (hs.2 b q).trans e) (fun o' items n e1 _ e3 => ?_) hC y1 y2 y3 (fun _ _ _ e => e) (fun o' e => by rw [hH] at e; cases e) (Cle.refl C) (fun _ _ _ e => e) (fun o' e => by rw [hC] at e; cases e)
  rw [ho] at e1; cases e1; rw [hd] at e3; cases e3

theorem Inv.slots (X : Inv G k true env A C Z m H s) {l : List Addr} (hl : ∀ b, b ∈ l → b = env.locals ∨ ∃ z, z ∈ Z ∧ z.1.frame = some b) (hs : Heap.SlotsOnly l s.heap h') : Inv G k true env A C Z m H { s with heap := h' } := by
  have dat : ∀ b ob, s.heap.get? b = some ob → ∃ ob', h'.get? b = some ob' ∧ ob'.data = ob.data := fun b ob e => let ⟨sl, q⟩ := hs.2.2 b ob e; ⟨_, q, rfl⟩
  have kp : ∀ b ob, s.heap.get? b = some ob → b ∉ l → h'.get? b = some ob := fun b ob e q => (hs.2.1 b q).trans e
  have nl : ∀ b, b ≠ env.locals → (∀ z, z ∈ Z → z.1.frame ≠ some b) → b ∉ l := fun b h1 h2 hb => by
    rcases hl b hb with q | ⟨z, hz, q⟩
    · exact h1 q
    · exact h2 z hz q
  have isF : ∀ b, b ∈ l → C b = none ∧ H b = none ∧ ∃ ob es n, s.heap.get? b = some ob ∧ ob.data = .dict es n := fun b hb => by
    rcases hl b hb with rfl | ⟨z, hz, q⟩
    · obtain ⟨mm, ⟨ob, es, ep, e1, e2, _⟩, _⟩ := X.fr.ns
      exact ⟨X.fr.ownL.1, X.fr.ownL.2.1, ob, es, ep, e1, e2⟩
    · obtain ⟨_, _, L, x3, x4, x5, ob, x6, x7, es, n, x8⟩ := X.st.zs z hz
      rw [q] at x3; cases x3
      exact ⟨x4, x5, ob, es, n, x6, x8⟩
  have tk : TK s.heap h' := fun b ob items n e1 e2 e3 => kp b ob e1 fun q => by
    obtain ⟨_, _, ob2, es, n2, e4, e5⟩ := isF b q
    rw [e1] at e4; cases e4; rw [e3] at e5; cases e5
  refine ⟨X.kind, X.glob, X.blt, X.room, X.frames, X.frame, X.hd, X.hno, ⟨fun b ob e => ?_, fun b o e => ?_, X.st.dis, X.st.base, X.st.gens, X.st.os, fun z hz => ?_⟩, ⟨?_, fun x o hm hk => ?_, X.fr.kinds, X.fr.nd, X.fr.apart, X.fr.ownL, fun x c e => ?_⟩⟩
  · exact kp b ob (X.st.con b ob e) fun q => by rw [(isF b q).1] at e; cases e
  · obtain ⟨ob, e1, e2⟩ := X.st.hp b o e
    exact ⟨ob, kp b ob e1 fun q => (by rw [(isF b q).2.1] at e; cases e), e2.mono (Cle.refl C) tk⟩
  · obtain ⟨x1, x2, L, x3, x4, x5, ob, x6, x7, es, n, x8⟩ := X.st.zs z hz
    obtain ⟨ob', q1, q2⟩ := dat L ob x6
    exact ⟨x1, x2, L, x3, x4, x5, ob', q1, q2.trans x7, es, n, q2.trans x8⟩
  · obtain ⟨mm, ⟨ob, es, ep, e1, e2, e3⟩, hv⟩ := X.fr.ns
    obtain ⟨ob', q1, q2⟩ := dat _ ob e1
    exact ⟨mm, ⟨ob', es, ep, q1, q2.trans e2, e3⟩, hv⟩
  · obtain ⟨c, v, c1, ⟨ob, c2, c2'⟩, c3⟩ := X.fr.cell x o hm hk
    obtain ⟨ob', q1, q2⟩ := dat _ ob c2
    exact ⟨c, v, c1, ⟨ob', q1, q2.trans c2'⟩, c3⟩
  · obtain ⟨x1, x2, x3, x4, v, ob, x5, x6⟩ := X.fr.ownC x c e
    obtain ⟨ob', q1, q2⟩ := dat _ ob x5
    exact ⟨x1, x2, x3, x4, v, ob', q1, q2.trans x6⟩

theorem funFrames_of {h base : Heap} : ∀ {l : List Env}, (∀ e, e ∈ l → e.scope.kind ≠ .module ∧ ∃ L o es n, e.frame = some L ∧ base.get? L = none ∧ h.get? L = some o ∧ o.data = .dict es n) → h.FunFrames base l
  | [], _ => trivial
  | e :: l, hh => by
    obtain ⟨a, L, o, es, n, b, c, d, f⟩ := hh e List.mem_cons_self
    exact ⟨a, ⟨L, o, b, c, d, fun vs q => by rw [f] at q; cases q⟩, funFrames_of fun e' he => hh e' (List.mem_cons_of_mem _ he)⟩

/-- the frames' places -/
theorem Inv.frameList (X : Inv G k true env A C Z m H s) (b : Addr) (hb : b ∈ (env :: Z.map (·.1)).filterMap (·.frame)) : b = env.locals ∨ ∃ z, z ∈ Z ∧ z.1.frame = some b := by
  rw [List.filterMap_cons, X.frame rfl] at hb
  rcases List.mem_cons.mp hb with q | q
  · exact .inl q
  · obtain ⟨e, he, q2⟩ := List.mem_filterMap.mp q
    obtain ⟨z, hz, rfl⟩ := List.mem_map.mp he
    exact .inr ⟨z, hz, q2⟩

theorem Inv.funFrames (X : Inv G k true env A C Z m H s) : ∃ base : Heap, s.heap.FunFrames base (env :: Z.map (·.1)) := by
  refine ⟨hideAll s.heap ((env :: Z.map (·.1)).filterMap (·.frame)), funFrames_of fun e he => ?_⟩
  have hmem : ∀ L, e.frame = some L → L ∈ (env :: Z.map (·.1)).filterMap (·.frame) := fun L q => List.mem_filterMap.mpr ⟨e, he, q⟩
  rcases List.mem_cons.mp he with rfl | he
  · obtain ⟨mm, ⟨ob, es, ep, e1, e2, _⟩, _⟩ := X.fr.ns
    exact ⟨by rw [X.kind]; decide, _, ob, es, ep, X.frame rfl, hideAll_none _ (hmem _ (X.frame rfl)), e1, e2⟩
  · obtain ⟨z, hz, rfl⟩ := List.mem_map.mp he
    obtain ⟨x1, x2, L, x3, x4, x5, ob, x6, x7, es, n, x8⟩ := X.st.zs z hz
    exact ⟨x1, L, ob, es, n, x3, hideAll_none _ (hmem _ x3), x6, x8⟩

theorem Inv.entry (X : Inv G k true env A C Z m H s) {ea : Addr} {oe : Obj} {vs : Array Value} {a0 head : Value} {cls : Xk} {hadNext : Bool} {E : Value → Shared → Prop} {Q : Unit → Shared → Prop}
    (he : s.heap.get? ea = some oe) (hc : oe.cls = .type cls.1) (hd : oe.data = .fields vs) (hsz : 1 < vs.size) (h0 : vs[0]? = some a0) (h2 : cls.2 = true → vs[2]? = some .none) (hC : C ea = none) (hH : H ea = none)
    (hQ : ∀ s', Inv G k true env A C Z m H s' → Trc C H s'.heap ea cls (rawInt env.locals) → Q () s') :
    wpAny G.M A (do let a ← frameOf env; let pl ← entryPlaceOf env.locals hadNext; let b ← EntryCells.newEntry head a .none (rawInt env.locals) .none pl; setField (.ref ea) 1 b) Q E s := by
  obtain ⟨base, hff⟩ := X.funFrames
  refine wpAny_bind (wpAny_frameOf_fun X.frames hff (X.frame rfl) fun h₁ hs₁ => ?_)
  have X1 := X.slots X.frameList hs₁
  have hnf : ea ∉ (env :: Z.map (·.1)).filterMap (·.frame) := fun hb => by
    obtain ⟨y1, y2, _⟩ := X.notFields he hd
    rcases X.frameList _ hb with q | ⟨z, hz, q⟩
    · exact y2 q
    · exact y1 z hz q
  have he₁ : h₁.get? ea = some oe := (hs₁.2.1 ea hnf).trans he
  refine wpAny_bind (wpAny_entryPlaceOf fun pl hpl => ?_)
  unfold EntryCells.newEntry newFields
  refine wpAny_bind (wpAny_newObj_type ?_ (hpl.sizeOk5 _ _ _ _ _))
  have hn : h₁.get? h₁.objs.size = none := Heap.get?_none_of_le (Nat.le_refl _)
  have hfr := X1.fresh hn
  have he₂ := Heap.get?_push_of_some (h := h₁) { cls := .type "traceback", dict := none, data := .fields ([head, .ref env.locals, .none, rawInt env.locals, .none] ++ (if pl.isEmpty then List.replicate 6 Value.none else pl)).toArray } he₁
  refine wpAny_setField he₂ hd hsz ?_
  have hTe : h₁.objs.size ≠ ea := Nat.ne_of_gt (Heap.lt_size he₁)
  have hd₃ := Obj.data_mapFields hd (·.setIfInBounds 1 (Value.ref h₁.objs.size))
  have he₃ := Heap.get?_update_self (Obj.mapFields (·.setIfInBounds 1 (Value.ref h₁.objs.size))) he₂ (Obj.isFreed_of_fields hd₃)
  have hT₃ := (Heap.get?_update_other (h₁.push { cls := .type "traceback", dict := none, data := .fields ([head, .ref env.locals, .none, rawInt env.locals, .none] ++ (if pl.isEmpty then List.replicate 6 Value.none else pl)).toArray })
    (Obj.mapFields (·.setIfInBounds 1 (Value.ref h₁.objs.size))) (Ne.symm hTe)).trans (Heap.get?_push_size h₁ rfl)
  have X2 : Inv G k true env A C Z m H { s with heap := h₁.push { cls := .type "traceback", dict := none, data := .fields ([head, .ref env.locals, .none, rawInt env.locals, .none] ++ (if pl.isEmpty then List.replicate 6 Value.none else pl)).toArray } } :=
    X1.keeps (tk := s.toks) fun b o e => Heap.get?_push_of_some _ e
  have X3 := X2.alien (tk := s.toks) he₂ hd hC hH (Heap.SameBut.update (h₁.push { cls := .type "traceback", dict := none, data := .fields ([head, .ref env.locals, .none, rawInt env.locals, .none] ++ (if pl.isEmpty then List.replicate 6 Value.none else pl)).toArray }) ea (Obj.mapFields (·.setIfInBounds 1 (Value.ref h₁.objs.size))))
  refine hQ _ X3 ⟨_, _, a0, h₁.objs.size, _, _, he₃, (Obj.cls_mapFields _ _).trans hc, hd₃, ?_, by simp [hsz], (fun q => by rw [Array.getElem?_setIfInBounds_ne (by decide)]; exact h2 q), hTe, hT₃, rfl, ?_, hC, hH, hfr.1, hfr.2.1⟩
  · rw [Array.getElem?_setIfInBounds_ne (by decide)]; exact h0
  · first | (simp; done) | (rcases hpl with rfl | ⟨_, _, _, _, _, _, _, rfl⟩ <;> simp)

theorem Inv.setFl (X : Inv G k fl env A C Z m H s) {ea : Addr} {cls : Xk} {flv : Value} (t : Trc C H s.heap ea cls flv) (to : Option Addr) {E : Value → Shared → Prop} {Q : Unit → Shared → Prop}
    (hQ : ∀ s', Inv G k fl env A C Z m H s' → Trc C H s'.heap ea cls (to.elim .none fun f => rawInt f) → Q () s') : wpAny G.M A (setFlight (.ref ea) to) Q E s := by
  obtain ⟨oe, vs, a0, T, oT, ts, he, hc, hd, h0, h1, h2, hTe, hT, hdT, h3, c1, c2, c3, c4⟩ := t
  unfold setFlight
  refine wpAny_bind (wpAny_field he hd h1 ?_)
  rw [if_pos (show (Value.ref T != Value.none) = true from by simp)]
  have hsz := (Array.getElem?_eq_some_iff.mp h3).1
  refine wpAny_setField hT hdT hsz (hQ _ (X.alien (tk := s.toks) hT hdT c3 c4 (.update ..)) ?_)
  refine ⟨oe, vs, a0, T, _, _, (Heap.get?_update_other _ _ hTe).trans he, hc, hd, h0, h1, h2, hTe, Heap.get?_update_self _ hT (Obj.isFreed_of_fields (Obj.data_mapFields hdT _)), Obj.data_mapFields hdT _, ?_, c1, c2, c3, c4⟩
  simp [hsz]

/-- the frame is noted in the exception -/
theorem ExI.note {cls : Xk} {e : Value} (X : ExI G k true env A C Z m H cls e s) {E : Value → Shared → Prop} {Q : Unit → Shared → Prop}
    (hQ : ∀ ea s', e = .ref ea → Inv G k true env A C Z m H s' → Trc C H s'.heap ea cls (rawInt env.locals) → Q () s') : wpAny G.M A (noteFrame e env) Q E s := by
  obtain ⟨ea, rfl, ⟨h₁, I, hx⟩ | ⟨I, flv, t, hf⟩⟩ := X
  · obtain ⟨ob, vs, tp, he, hc, hd, h0, h1, h2⟩ := hx.there
    have hfr := I.fresh (a := ea) hx.new
    have I2 : Inv G k true env A C Z m H s := I.keeps (h' := s.heap) (tk := s.toks) hx.keeps
    unfold noteFrame
    simp only [I.frame rfl]
    refine wpAny_bind (wpAny_field he hd (x := Value.none) h1 ?_)
    rw [if_neg (show ¬ ((Value.none != Value.none) = true) from by decide)]
    exact I2.entry he hc hd (Array.getElem?_eq_some_iff.mp h1).1 h0 h2 hfr.1 hfr.2.1 (fun s' q1 q2 => hQ ea s' rfl q1 q2)
  · have t0 := t
    obtain ⟨oe, vs, a0, T, oT, ts, he, hc, hd, h0, h1, h2, hTe, hT, hdT, h3, c1, c2, c3, c4⟩ := t
    unfold noteFrame
    simp only [I.frame rfl]
    refine wpAny_bind (wpAny_field he hd h1 ?_)
    rw [if_pos (show (Value.ref T != Value.none) = true from by simp)]
    refine wpAny_bind (wpAny_field hT hdT h3 ?_)
    rcases hf with rfl | ⟨L, hL, rfl⟩
    · rw [if_neg (show ¬ ((Value.none == rawInt env.locals) = true) from by simp [rawInt])]
      have hsz := (Array.getElem?_eq_some_iff.mp h3).1
      refine wpAny_bind (wpAny_setField hT hdT hsz ?_)
      have I2 := I.alien (tk := s.toks) hT hdT c3 c4 (Heap.SameBut.update s.heap T (Obj.mapFields (·.setIfInBounds 3 Value.none)))
      have he2 := (Heap.get?_update_other s.heap (Obj.mapFields (·.setIfInBounds 3 Value.none)) hTe).trans he
      exact I2.entry he2 hc hd (Array.getElem?_eq_some_iff.mp h1).1 h0 h2 c1 c2 (fun s' q1 q2 => hQ ea s' rfl q1 q2)
    · rw [I.frame rfl] at hL; cases hL
      rw [if_pos (by simp)]
      exact wpAny_pure (hQ ea s rfl I t0)
end

end Go

end
section
set_option autoImplicit false
set_option linter.unusedVariables false
set_option linter.unusedSimpArgs false
set_option Elab.async false
namespace Go
open PySem PySem.W PyProof.Rows

structure PQ where
  n : Loc → Hp → Prop
  r : Qv
  b : Loc → Hp → Prop
  c : Loc → Hp → Prop
  x : Xk → Loc → Hp → Prop

def FPost (G : Gl) (k : Nat) (env : Env) (A : Around) (C : Cm) (Z : Zs) (P : PQ) : Flow → Shared → Prop := fun f s' => ∃ C' m' H', Cle C C' ∧ Inv G k true env A C' Z m' H' s' ∧
  match f with
  | .next => P.n m' H'
  | .brk => P.b m' H'
  | .cont => P.c m' H'
  | .ret v => ∃ lv, VR C' lv v ∧ P.r lv H'

theorem FPost.up {G : Gl} {k : Nat} {env : Env} {A : Around} {C C' : Cm} {Z : Zs} {P : PQ} (c : Cle C C') {f : Flow} {s : Shared} (h : FPost G k env A C' Z P f s) : FPost G k env A C Z P f s := by
  obtain ⟨C2, m', H', a, r⟩ := h; exact ⟨C2, m', H', c.trans a, r⟩
theorem XsPost.up {G : Gl} {k : Nat} {fl : Bool} {env : Env} {A : Around} {C C' : Cm} {Z : Zs} {X : Xk → Loc → Hp → Prop} (c : Cle C C') {v : Value} {s : Shared} (h : XsPost G k fl env A C' Z X v s) : XsPost G k fl env A C Z X v s := by
  obtain ⟨C2, cls, m', H', a, r⟩ := h; exact ⟨C2, cls, m', H', c.trans a, r⟩
theorem XPost.xs {G : Gl} {k : Nat} {fl : Bool} {env : Env} {A : Around} {C : Cm} {Z : Zs} {m : Loc} {X : Xc} {Y : Xk → Loc → Hp → Prop} (hXY : ∀ c H, X c H → Y c m H) {v : Value} {s : Shared} (h : XPost G k fl env A C Z m X v s) : XsPost G k fl env A C Z Y v s := by
  obtain ⟨C2, cls, H', a, b, c⟩ := h; exact ⟨C2, cls, m, H', a, b, hXY _ _ c⟩

/-- a statement -/
def EX (G : Gl) (k : Nat) (sc : Scope) (st : Stmt) (m : Loc) (H : Hp) (P : PQ) : Prop :=
  ∀ env A C Z s, env.scope = sc → Inv G k true env A C Z m H s → wpAny G.M A (exec st env) (FPost G k env A C Z P) (XsPost G k true env A C Z P.x) s
def EXS (G : Gl) (k : Nat) (sc : Scope) (st : List Stmt) (m : Loc) (H : Hp) (P : PQ) : Prop :=
  ∀ env A C Z s, env.scope = sc → Inv G k true env A C Z m H s → wpAny G.M A (execs st env) (FPost G k env A C Z P) (XsPost G k true env A C Z P.x) s

/-- a call of a value -/
def CALL (G : Gl) (k : Nat) (f : Value) (as : List LV) (H : Hp) (Q : Qv) (X : Xc) : Prop :=
  ∀ fl env A C Z m s vals, Inv G k fl env A C Z m H s → VRs C as vals → wpAny G.M A (call f vals []) (Post G k fl env A C Z m Q) (XPost G k fl env A C Z m X) s

def CODE (G : Gl) (k : Nat) (f : Value) (as : List LV) (H : Hp) (Q : Qv) (X : Xc) : Prop :=
  ∀ fl env A C Z m s vals, Inv G k fl env A C Z m H s → VRs C as vals → codeAny G.M A (.call f ⟨vals, []⟩)
    (fun r s' => match r with | .ok (.ret v) => Post G k fl env A C Z m Q v s' | .ok _ => False | .error e => XPost G k fl env A C Z m X e s') s
theorem CALL_of {G : Gl} {k : Nat} {f : Value} {as : List LV} {H : Hp} {Q : Qv} {X : Xc} (h : CODE G k f as H Q X) : CALL G k f as H Q X := fun fl env A C Z m s vals I hv => wpAny_call (h fl env A C Z m s vals I hv)

def frame0 : List (Str × NameKind) → List LV → Loc
  | [], _ => []
  | (n, _) :: r, v :: vs => (n, some v) :: frame0 r vs
  | (n, kd) :: r, [] => if kd == .local || kd == .cell then (n, none) :: frame0 r [] else frame0 r []

theorem frame0_mem : ∀ {names : List (Str × NameKind)} {as : List LV} {x : Str} {o : Option LV}, (x, o) ∈ frame0 names as →
    (∃ (i : Nat) (lv : LV) (kd : NameKind), names[i]? = some (x, kd) ∧ as[i]? = some lv ∧ o = some lv) ∨ (o = none ∧ ((x, NameKind.local) ∈ names ∨ (x, NameKind.cell) ∈ names))
  | [], _, _, _, h => nomatch h
  | (n, kd) :: r, v :: vs, x, o, h => by
    rw [frame0] at h
    rcases List.mem_cons.mp h with e | h2
    · cases e; exact .inl ⟨0, v, kd, rfl, rfl, rfl⟩
    · rcases frame0_mem h2 with ⟨i, lv, kd', h3, h4, h5⟩ | ⟨h3, h4⟩
      · exact .inl ⟨i + 1, lv, kd', h3, h4, h5⟩
      · exact .inr ⟨h3, h4.imp (List.mem_cons_of_mem _) (List.mem_cons_of_mem _)⟩
  | (n, kd) :: r, [], x, o, h => by
    rw [frame0] at h
    have tail : (x, o) ∈ frame0 r [] → (∃ (i : Nat) (lv : LV) (kd' : NameKind), ((n, kd) :: r)[i]? = some (x, kd') ∧ ([] : List LV)[i]? = some lv ∧ o = some lv) ∨ (o = none ∧ ((x, NameKind.local) ∈ (n, kd) :: r ∨ (x, NameKind.cell) ∈ (n, kd) :: r)) := fun h2 => by
      rcases frame0_mem h2 with ⟨i, lv, kd', h3, h4, h5⟩ | ⟨h3, h4⟩
      · simp at h4
      · exact .inr ⟨h3, h4.imp (List.mem_cons_of_mem _) (List.mem_cons_of_mem _)⟩
    by_cases hk : (kd == .local || kd == .cell) = true
    · rw [if_pos hk] at h
      rcases List.mem_cons.mp h with e | h2
      · cases e
        rw [Bool.or_eq_true, beq_iff_eq, beq_iff_eq] at hk
        rcases hk with rfl | rfl
        · exact .inr ⟨rfl, .inl List.mem_cons_self⟩
        · exact .inr ⟨rfl, .inr List.mem_cons_self⟩
      · exact tail h2
    · rw [if_neg hk] at h; exact tail h

theorem frame0_keys : ∀ {names : List (Str × NameKind)} {as : List LV}, ((frame0 names as).map (·.1)).Sublist (names.map (·.1))
  | [], _ => List.Sublist.refl _
  | (n, kd) :: r, v :: vs => by rw [frame0]; exact List.Sublist.cons_cons _ frame0_keys
  | (n, kd) :: r, [] => by
    rw [frame0]
    split
    · exact List.Sublist.cons_cons _ frame0_keys
    · exact List.Sublist.cons _ frame0_keys

theorem lookup_nodup {α : Type} : ∀ {l : List (Str × α)} {i : Nat} {x : Str} {y : α}, (l.map (·.1)).Nodup → l[i]? = some (x, y) → l.lookup x = some y
  | (a, b) :: l, 0, x, y, nd, h => by simp at h; obtain ⟨rfl, rfl⟩ := h; simp
  | (a, b) :: l, i + 1, x, y, nd, h => by
    rw [List.map_cons, List.nodup_cons] at nd
    have h' : l[i]? = some (x, y) := by simpa using h
    have hne : x ≠ a := fun q => nd.1 (List.mem_map.mpr ⟨(x, y), List.mem_of_getElem? h', q⟩)
    rw [List.lookup_cons]
    have : (x == a) = false := by simpa using hne
    rw [this]
    exact lookup_nodup nd.2 h'

theorem bindL_at {kindOf : Str → Option NameKind} : ∀ {binds : List (Str × Value)} {m : Str → Option Value} {x : Str}, kindOf x = some .local → (binds.map (·.1)).Nodup →
    bindL kindOf binds m x = (binds.lookup x).or (m x)
  | [], m, x, _, _ => by simp [bindL]
  | (n, v) :: r, m, x, hk, nd => by
    rw [List.map_cons, List.nodup_cons] at nd
    rw [bindL, bindL_at hk nd.2, List.lookup_cons]
    by_cases e : x = n
    · subst e
      have : r.lookup x = none := by
        cases q : r.lookup x with
        | none => rfl
        | some y => exact absurd (List.mem_map.mpr ⟨_, mem_of_lookup q, rfl⟩) nd.1
      rw [this, if_pos hk]; simp
    · have : (x == n) = false := by simpa using e
      rw [this]
      split <;> simp [e]
theorem bindC_at {kindOf : Str → Option NameKind} : ∀ {binds : List (Str × Value)} {m : Str → Option Value} {x : Str}, kindOf x ≠ some .local → (binds.map (·.1)).Nodup →
    bindC kindOf binds m x = (binds.lookup x).or (m x)
  | [], m, x, _, _ => by simp [bindC]
  | (n, v) :: r, m, x, hk, nd => by
    rw [List.map_cons, List.nodup_cons] at nd
    rw [bindC, bindC_at hk nd.2, List.lookup_cons]
    by_cases e : x = n
    · subst e
      have : r.lookup x = none := by
        cases q : r.lookup x with
        | none => rfl
        | some y => exact absurd (List.mem_map.mpr ⟨_, mem_of_lookup q, rfl⟩) nd.1
      rw [this, if_neg hk]; simp
    · have : (x == n) = false := by simpa using e
      rw [this]
      split <;> simp [e]

theorem cellsFrom_mem : ∀ {names : List (Str × NameKind)} {n : Nat} {acc : List (Str × Addr)} {x : Str}, (x, NameKind.cell) ∈ names ∨ (∃ c, (x, c) ∈ acc) → ∃ c, (x, c) ∈ cellsFrom n names acc
  | [], n, acc, x, h => by rcases h with h | h; · exact nomatch h
                           · exact h
  | (nm, kd) :: r, n, acc, x, h => by
    rw [cellsFrom]
    split
    · rename_i hk
      rw [beq_iff_eq] at hk; subst hk
      apply cellsFrom_mem
      rcases h with h | ⟨c, h⟩
      · rcases List.mem_cons.mp h with e | h
        · cases e; exact .inr ⟨n, List.mem_cons_self⟩
        · exact .inl h
      · exact .inr ⟨c, List.mem_cons_of_mem _ h⟩
    · rename_i hk
      apply cellsFrom_mem
      rcases h with h | h
      · rcases List.mem_cons.mp h with e | h
        · cases e; exact absurd rfl hk
        · exact .inl h
      · exact .inr h
theorem cellsFrom_of : ∀ {names : List (Str × NameKind)} {n : Nat} {acc : List (Str × Addr)} {x : Str} {c : Addr}, (x, c) ∈ cellsFrom n names acc → (x, NameKind.cell) ∈ names ∨ (x, c) ∈ acc
  | [], n, acc, x, c, h => .inr h
  | (nm, kd) :: r, n, acc, x, c, h => by
    rw [cellsFrom] at h
    split at h
    · rename_i hk
      rw [beq_iff_eq] at hk; subst hk
      rcases cellsFrom_of h with h | h
      · exact .inl (List.mem_cons_of_mem _ h)
      · rcases List.mem_cons.mp h with e | h
        · cases e; exact .inl List.mem_cons_self
        · exact .inr h
    · rcases cellsFrom_of h with h | h
      · exact .inl (List.mem_cons_of_mem _ h)
      · exact .inr h
theorem lookup_of_mem {α : Type} : ∀ {l : List (Str × α)} {x : Str} {c : α}, (x, c) ∈ l → ∃ d, l.lookup x = some d
  | (a, b) :: l, x, c, h => by
    rw [List.lookup_cons]
    by_cases e : x = a
    · subst e; exact ⟨b, by simp⟩
    · have : (x == a) = false := by simpa using e
      rw [this]
      rcases List.mem_cons.mp h with q | q
      · cases q; exact absurd rfl e
      · exact lookup_of_mem q

theorem St.keeps {G : Gl} {C : Cm} {Z : Zs} {H : Hp} {s : Shared} {h' : Heap} {tk : Nat} (X : St G C Z H s) (kp : ∀ b o, s.heap.get? b = some o → h'.get? b = some o) : St G C Z H { s with heap := h', toks := tk } := by
  have hn : s.heap.get? s.heap.objs.size = none := Heap.get?_none_of_le (Nat.le_refl _)
  have c1 : C s.heap.objs.size = none := by
    cases q : C s.heap.objs.size with
    | none => rfl
    | some o => rw [X.con _ o q] at hn; cases hn
  have c2 : H s.heap.objs.size = none := by
    cases q : H s.heap.objs.size with
    | none => rfl
    | some o => obtain ⟨ob, e, _⟩ := X.hp _ o q; rw [e] at hn; cases hn
  refine X.step (a := s.heap.objs.size) (fun b o _ e => kp b o e) (fun o _ _ e => by rw [hn] at e; cases e) c1 (fun z hz q => ?_) (fun _ _ _ e => e) (fun o e => by rw [c2] at e; cases e) (Cle.refl C) (fun _ _ _ e => e) (fun o e => by rw [c1] at e; cases e)
  obtain ⟨_, _, L, x3, _, _, o, x6, _⟩ := X.zs z hz
  rw [q] at x3; cases x3
  rw [x6] at hn; cases hn

theorem Room.deeper {k : Nat} {A : Around} {env : Env} (h : Room (k + 1) A) : Room k (A.deeper env) := by
  obtain ⟨a, b⟩ := h
  exact ⟨by show A.depth + 1 + 2 * k < 1000; omega, by show A.units + 3 + 20 * k < 9000; omega⟩

section
variable {G : Gl} {k : Nat}

/-- into a call's frame -/
theorem Inv.enter {fl : Bool} {env : Env} {A : Around} {C : Cm} {Z : Zs} {m : Loc} {H : Hp} {s s₁ : Shared} (X : Inv G (k + 1) fl env A C Z m H s) {o : Obj} (ho : s.heap.get? env.locals = some o)
    {fd : FuncData} {as : List LV} {vals : List Value} {ps : List Str} {a : Addr} (hv : VRs C as vals)
    (hps : (fd.scope.names.take as.length).map (·.1) = ps) (hpl : ps.length = as.length) (hkd : ((fd.scope.names.take as.length).all fun x => x.2 == .local || x.2 == .cell) = true) (hnd : (fd.scope.names.map (·.1)).Nodup)
    (hk : fd.scope.kind = .function) (hg : fd.globals = mainGlobals) (hb : fd.builtins = builtinsNs)
    (x : InCallC s (callEnvC fd s.heap.objs.size a).locals (bindL (callEnvC fd s.heap.objs.size a).kindOf (ps.zip vals) fun _ => none) (callEnvC fd s.heap.objs.size a).cells
        (bindC (callEnvC fd s.heap.objs.size a).kindOf (ps.zip vals) fun _ => none) s₁) :
    Inv G k true (callEnvC fd s.heap.objs.size a) (A.deeper (callEnvC fd s.heap.objs.size a)) (aside fl env C s.heap) (asideZ fl env o.data Z) (frame0 fd.scope.names as) H s₁ := by
  have st0 := St.aside X ho
  obtain ⟨h₁, tk, rfl, hkp⟩ := x.done
  have st1 := st0.keeps (tk := tk) hkp
  have vlen := hv.length
  have freshA : ∀ b, s.heap.objs.size ≤ b → aside fl env C s.heap b = none ∧ H b = none ∧ ∀ z, z ∈ asideZ fl env o.data Z → z.1.frame ≠ some b := by
    intro b hb
    have hn : s.heap.get? b = none := Heap.get?_none_of_le hb
    have f := X.fresh hn
    refine ⟨?_, f.2.1, fun z hz q => ?_⟩
    · cases q : aside fl env C s.heap b with
      | none => rfl
      | some ob => rw [st0.con b ob q] at hn; cases hn
    · obtain ⟨_, _, L, x3, _, _, ob, x6, _⟩ := st0.zs z hz
      rw [q] at x3; cases x3
      rw [x6] at hn; cases hn
  have le0 := aside_le X
  have hz : (ps.zip vals).map (·.1) = ps := List.map_fst_zip (by rw [vlen, hpl]; exact Nat.le_refl _)
  have hbn : ((ps.zip vals).map (·.1)).Nodup := by
    rw [hz, ← hps]
    exact hnd.sublist (List.Sublist.map _ (List.take_sublist _ _))
  have kindAt : ∀ {n : Str} {kd : NameKind}, (n, kd) ∈ fd.scope.names → (callEnvC fd s.heap.objs.size a).kindOf n = some kd := fun {n kd} hm => by
    obtain ⟨i, hi⟩ := List.getElem?_of_mem hm
    exact lookup_nodup hnd hi
  -- an argument's place
  have argAt : ∀ {i : Nat} {n : Str} {kd : NameKind} {lv : LV}, fd.scope.names[i]? = some (n, kd) → as[i]? = some lv → ∃ v, (ps.zip vals).lookup n = some v ∧ VR C lv v ∧ (kd = NameKind.local ∨ kd = NameKind.cell) := fun {i n kd lv} h1 h2 => by
    have hi : i < as.length := (List.getElem?_eq_some_iff.mp h2).1
    obtain ⟨v, hv1, hv2⟩ := hv.get h2
    have hp : ps[i]? = some n := by rw [← hps, List.getElem?_map, List.getElem?_take_of_lt hi, h1]; rfl
    refine ⟨v, lookup_nodup (i := i) hbn ?_, hv2, ?_⟩
    · rw [List.getElem?_zip_eq_some]; exact ⟨hp, hv1⟩
    · have := List.all_eq_true.mp hkd (n, kd) (List.mem_of_getElem? (by rw [List.getElem?_take_of_lt hi]; exact h1))
      simpa using this
  have cellsAt : ∀ n c, (n, c) ∈ (callEnvC fd s.heap.objs.size a).cells → s.heap.objs.size < c := x.above
  refine ⟨hk, hg, hb, X.room.deeper, ?_, fun _ => rfl, (show HOk _ A from X.hd.mono (fun a o _ e _ => le0 a o e)), X.hno, st1, ⟨?_, ?_, ?_, ?_, ?_, ?_, ?_⟩⟩
  · rw [Around.frames_deeper X.frames]
    cases fl <;> rfl
  · refine ⟨_, x.toInCall.ns, fun n lv hm hkl => ?_⟩
    rw [bindL_at hkl hbn]
    rcases frame0_mem hm with ⟨i, lv', kd, h1, h2, h3⟩ | ⟨h3, _⟩
    · cases h3
      obtain ⟨v, v1, v2, _⟩ := argAt h1 h2
      exact ⟨v, by rw [v1]; rfl, v2.mono le0⟩
    · cases h3
  · intro n o' hm hkl
    have isCell : (n, NameKind.cell) ∈ fd.scope.names := by
      rcases frame0_mem hm with ⟨i, lv', kd, h1, h2, h3⟩ | ⟨_, h3⟩
      · obtain ⟨_, _, _, q⟩ := argAt h1 h2
        rcases q with rfl | rfl
        · exact absurd (kindAt (List.mem_of_getElem? h1)) hkl
        · exact List.mem_of_getElem? h1
      · rcases h3 with h3 | h3
        · exact absurd (kindAt h3) hkl
        · exact h3
    obtain ⟨c, hc⟩ := cellsFrom_mem (n := s.heap.objs.size + 1) (acc := []) (.inl isCell)
    obtain ⟨d, hd⟩ := lookup_of_mem hc
    refine ⟨d, _, hd, x.cell n d hd, fun lv e => ?_⟩
    subst e
    rw [bindC_at hkl hbn]
    rcases frame0_mem hm with ⟨i, lv', kd, h1, h2, h3⟩ | ⟨h3, _⟩
    · cases h3
      obtain ⟨v, v1, v2, _⟩ := argAt h1 h2
      exact ⟨v, by rw [v1]; rfl, v2.mono le0⟩
    · cases h3
  · intro n o' hm
    rcases frame0_mem hm with ⟨i, lv', kd, h1, h2, h3⟩ | ⟨_, h3⟩
    · obtain ⟨_, _, _, q⟩ := argAt h1 h2
      rcases q with rfl | rfl
      · exact .inl (kindAt (List.mem_of_getElem? h1))
      · exact .inr (.inl (kindAt (List.mem_of_getElem? h1)))
    · rcases h3 with h3 | h3
      · exact .inl (kindAt h3)
      · exact .inr (.inl (kindAt h3))
  · exact hnd.sublist frame0_keys
  · intro y z c h1 h2
    exact name_of_addr x.apart (mem_of_lookup h1) (mem_of_lookup h2)
  · exact freshA _ (Nat.le_refl _)
  · intro y c h1
    have hgt := cellsAt y c (mem_of_lookup h1)
    obtain ⟨f1, f2, f3⟩ := freshA c (Nat.le_of_lt hgt)
    exact ⟨fun _ => f1, f2, Nat.ne_of_gt hgt, f3, _, x.cell y c h1⟩

theorem CODE_def {as : List LV} {H : Hp} {Q : Qv} {X : Xc} {a : Addr} {oc : Value} {od : Option Addr} {osl : Array (Option Value)} {name qual : Str} {params : Arguments} {body : List Stmt} {scope : Scope} {dV kV doc pm : Value} {an : Option Addr} {cdv ct : Value} {ps : List Str}
    (ho : G.K.lookup a = some ⟨oc, od, .func (fnOf name qual params body scope dV kV doc pm an cdv ct), osl⟩) (hcd : codeIn G.K cdv qual = true)
    (hbind : ∀ vals : List Value, vals.length = as.length → bindArgs (fnOf name qual params body scope dV kV doc pm an cdv ct) ⟨vals, []⟩ = pure (ps.zip vals))
    (hps : (scope.names.take as.length).map (·.1) = ps) (hpl : ps.length = as.length) (hkd : ((scope.names.take as.length).all fun x => x.2 == .local || x.2 == .cell) = true) (hnd : (scope.names.map (·.1)).Nodup)
    (hco : scope.isCoroutine = false) (hgen : scope.isGenerator = false) (hk : scope.kind = .function)
    (h : EXS G k scope body (frame0 scope.names as) H ⟨fun _ H => Q .none H, Q, fun _ _ => False, fun _ _ => False, fun c _ H => X c H⟩) : CODE G (k + 1) (.ref a) as H Q X := by
  intro fl env A C Z m s vals I hv
  obtain ⟨o, es, ep, hlo, hld⟩ := I.locData
  have hK : G.K.In s.heap := fun b ob e => I.st.con b ob (I.st.base b ob (G.kin b ob e))
  have hlim : s.heap.NoLimit := G.nolimit.keeps fun b ob e => I.st.con b ob (I.st.base b ob e)
  have vlen := hv.length
  refine (codeAny_call_cells (fd := fnOf name qual params body scope dV kV doc pm an cdv ct) (binds := ps.zip vals) (by have := I.room.1; unfold recursionLimit; omega) (hK _ _ ho) rfl hlim (codeRec_of hK hcd) rfl (hbind vals vlen) rfl ?_ (fun s₁ x => ?_) hco hgen hk)
  · rintro ⟨n, v⟩ hm
    have hz : (ps.zip vals).map (·.1) = ps := List.map_fst_zip (by rw [vlen, hpl]; exact Nat.le_refl _)
    have hn : n ∈ ps := by rw [← hz]; exact List.mem_map.mpr ⟨_, hm, rfl⟩
    rw [← hps] at hn
    obtain ⟨⟨n', kd⟩, hm2, rfl⟩ := List.mem_map.mp hn
    have hk2 : kd = .local ∨ kd = .cell := by simpa using List.all_eq_true.mp hkd _ hm2
    have hm3 := List.mem_of_mem_take hm2
    obtain ⟨i, hi⟩ := List.getElem?_of_mem hm3
    have hlk : scope.names.lookup n' = some kd := lookup_nodup hnd hi
    rcases hk2 with rfl | rfl
    · exact .inl hlk
    · refine .inr ⟨hlk, ?_⟩
      obtain ⟨c, hc⟩ := cellsFrom_mem (n := s.heap.objs.size + 1) (acc := []) (.inl hm3)
      obtain ⟨d, hd⟩ := lookup_of_mem hc
      exact Option.isSome_iff_exists.mpr ⟨d, hd⟩
  · have I1 := I.enter hlo (a := a) hv hps hpl hkd hnd hk rfl rfl x
    refine wpAny_mono (h _ _ _ _ s₁ rfl I1) (fun f s2 ⟨C2, m2, H2, c2, I2, q2⟩ => ?_) (fun e s2 ⟨C2, cls, m2, H2, c2, X2, q2⟩ => ?_)
    · obtain ⟨b1, b2, b3⟩ := I.back hlo c2 I2.st
      cases f with
      | next => exact ⟨_, .none, H2, b1, b2, rfl, q2⟩
      | brk => exact q2.elim
      | cont => exact q2.elim
      | ret v => obtain ⟨lv, v1, v2⟩ := q2; exact ⟨_, lv, H2, b1, b2, b3 v1, v2⟩
    · unfold leaving
      refine wpAny_bind (X2.note fun ea s3 he I3 t3 => ?_)
      subst he
      refine I3.setFl t3 none fun s4 I4 t4 => ?_
      obtain ⟨b1, b2, b3⟩ := I.back hlo c2 I4.st
      refine ⟨_, cls, H2, b1, ⟨ea, rfl, .inr ⟨b2, .none, ?_, .inl rfl⟩⟩, q2⟩
      obtain ⟨oe, vs, a0, T, oT, ts, e1, e2, e3, e4, e5, e5', e6, e7, e8, e9, d1, d2, d3, d4⟩ := t4
      refine ⟨oe, vs, a0, T, oT, ts, e1, e2, e3, e4, e5, e5', e6, e7, e8, e9, ?_, d2, ?_, d4⟩
      · unfold unaside; split <;> first | rfl | exact d1
      · unfold unaside; split <;> first | rfl | exact d3
end

end Go

end
section
set_option autoImplicit false
set_option linter.unusedVariables false
set_option linter.unusedSimpArgs false
set_option Elab.async false
namespace Go
open PySem PySem.W PyProof.Rows

def truthOf (H : Hp) : LV → Option Bool
  | .none => some false
  | .bool b => some b
  | .int i => some (i != 0)
  | .ref a => match H a with
    | some (.lst vs) => some (!vs.isEmpty)
    | some (.pset ps) => some (!ps.isEmpty)
    | _ => none
  | _ => none

section
variable {G : Gl} {k : Nat} {fl : Bool} {env : Env} {A : Around} {C : Cm} {Z : Zs} {m : Loc} {H : Hp} {s : Shared}

theorem Inv.list (X : Inv G k fl env A C Z m H s) {a : Addr} {vs : List LV} (h : H a = some (.lst vs)) : ∃ us, s.heap.IsList a (List.toArray us) ∧ VRs C vs us ∧ us.length = vs.length ∧ vs.length ≤ 4096 := by
  obtain ⟨ob, e1, e2, d, d', z, us, n, e3, e4⟩ := X.st.hp a _ h
  exact ⟨us, ⟨ob, e1, e2, n, e3⟩, e4, e4.length, z⟩
theorem Inv.lst (X : Inv G k fl env A C Z m H s) {a : Addr} {vs : List LV} (h : H a = some (.lst vs)) : ∃ us n, IsL s.heap a (List.toArray us) n ∧ VRs C vs us ∧ us.length = vs.length ∧ vs.length ≤ 4096 := by
  obtain ⟨ob, e1, e2, d, d', z, us, n, e3, e4⟩ := X.st.hp a _ h
  obtain ⟨oc, od, oda, osl⟩ := ob
  dsimp only at e2 d d' e3
  subst e2 d d' e3
  exact ⟨us, n, e1, e4, e4.length, z⟩
theorem Inv.pset (X : Inv G k fl env A C Z m H s) {a : Addr} {ps : List (Int × Int)} (h : H a = some (.pset ps)) :
    ∃ o es ep t, s.heap.get? a = some o ∧ o.ExactSet ∧ o.data = .set es ep t ∧ SetAt G.prog G.w s.heap ps es t ∧ ps.length ≤ 60 := by
  obtain ⟨ob, e1, e2, z, es, ep, t, e3, e4⟩ := X.st.hp a _ h
  exact ⟨ob, es, ep, t, e1, e2, e3, e4, z⟩

theorem Inv.units (X : Inv G k fl env A C Z m H s) : A.units < cLine := by have := X.room.2; unfold cLine; omega

theorem noBool_set : typeLookup (.type "set") "__bool__" = pure none := by rw [typeLookup_type, builtinLookup_eq_fast]; kernel_rfl

theorem truthy_set {a : Addr} {o : Obj} {es : Array (Int × Value)} {ep : Nat} {t : SetTable} {E : Value → Shared → Prop} {Q : Bool → Shared → Prop} (ho : s.heap.get? a = some o) (hex : o.ExactSet) (hd : o.data = .set es ep t) (hf : t.fits es.size = true) (hfit : (es.size : Int) < 2 ^ 63)
    (h : Q ((es.size : Int) != 0) { s with toks := s.toks + 1 + 1 }) : wpAny G.M A (truthy (.ref a)) Q E s := by
  have hT : s.TypeIs (.ref a) "set" := ⟨o, ho, hex.1⟩
  have key : wpAny (model G.prog G.w) A (runValue (.builtin "len" ⟨[.ref a], []⟩)) (fun r s' => r = .int es.size (s.toks + 1) ∧ Q ((es.size : Int) != 0) s') E s := by
    refine wpAny_runValue (codeAny_builtin entry_len ?_)
    rw [Around.under_plainId plain_len _]
    exact wpAny_mono (wpAny_len_body_set (Q := fun r s' => r = .int es.size (s.toks + 1) ∧ Q ((es.size : Int) != 0) s') ho hex hd hf hfit ⟨rfl, h⟩)
      (fun fin s' h' => by obtain ⟨r, rfl, hq⟩ := h'; exact hq) fun _ _ e => e
  unfold truthy
  first
    | refine wpAny_bind (wpAny_callSpecial?_none (name := Str.ofString "__bool__") hT noBool_set ?_)
    | refine wpAny_bind (wpAny_pure (wpAny_bind (wpAny_callSpecial?_none (name := Str.ofString "__bool__") hT noBool_set ?_)))
  first
    | refine wpAny_bind (wpAny_specialOf (name := Str.ofString "__len__") hT F.slot_set_len.lookup ?_)
    | refine wpAny_bind (wpAny_pure (wpAny_bind (wpAny_specialOf (name := Str.ofString "__len__") hT F.slot_set_len.lookup ?_)))
  first
    | exact wpAny_bind (wpAny_mono key (fun r s' h' => by obtain ⟨rfl, hq⟩ := h'; exact wpAny_pure hq) fun _ _ e => e)
    | exact wpAny_bind (wpAny_pure (wpAny_bind (wpAny_mono key (fun r s' h' => by obtain ⟨rfl, hq⟩ := h'; exact wpAny_pure hq) fun _ _ e => e)))

theorem Inv.truthy (X : Inv G k fl env A C Z m H s) {lv : LV} {v : Value} {b : Bool} (hv : VR C lv v) (hb : truthOf H lv = some b) {E : Value → Shared → Prop} {Q : Bool → Shared → Prop}
    (hQ : ∀ tk, Inv G k fl env A C Z m H { s with toks := tk } → Q b { s with toks := tk }) : wpAny G.M A (truthy v) Q E s := by
  cases lv with
  | none => cases hv; cases hb; exact truthy_none (hQ s.toks X)
  | bool c => cases hv; cases hb; exact wpAny_truthy_bool (hQ s.toks X)
  | int i => obtain ⟨t, rfl⟩ := hv; cases hb; exact truthy_int (hQ s.toks X)
  | str _ => cases hb
  | tup _ => cases hb
  | inst _ _ _ => cases hb
  | ro _ _ => cases hb
  | ref a =>
    cases hv
    cases hH : H a with
    | none => simp [truthOf, hH] at hb
    | some o =>
      cases o with
      | lst vs =>
        simp only [truthOf, hH, Option.some.injEq] at hb
        subst hb
        obtain ⟨us, h1, h2, h3, h4⟩ := X.list hH
        refine wpAny_truthy_list h1 (by rw [List.size_toArray, h3]; omega) ?_
        rw [show (us.toArray.isEmpty) = vs.isEmpty from by cases us <;> cases vs <;> simp_all]
        exact hQ _ X.toks
      | pset ps =>
        simp only [truthOf, hH, Option.some.injEq] at hb
        subst hb
        obtain ⟨o, es, ep, t, h1, h2, h3, h4, h5⟩ := X.pset hH
        refine truthy_set h1 h2 h3 h4.fits (by rw [h4.size]; omega) ?_
        rw [h4.size, show ((ps.length : Int) != 0) = !ps.isEmpty from by cases ps with
          | nil => rfl
          | cons a l => simp only [List.length_cons, List.isEmpty_cons, Bool.not_false, bne_iff_ne, ne_eq]; omega]
        exact hQ _ X.toks
      | _ => simp [truthOf, hH] at hb
end

section
variable {G : Gl} {k : Nat} {fl : Bool} {sc : Scope} {m : Loc} {H : Hp} {X : Xc}

theorem TS_val {e : PySem.Expr} {Q : Bool → Hp → Prop} (h : EV G k fl sc e m H (fun lv H1 => ∃ b, truthOf H1 lv = some b ∧ Q b H1) X)
    (he : ∀ env whole, isTrue e env whole = (do let v ← whole; standAt e.pos; holding [v] (truthy v)) := by intro _ _; with_unfolding_all rfl) : TS G k fl sc e m H Q X :=
  fun env A C Z s hs I => isTrue_plain (wpAny_mono (h env A C Z s hs I) (fun v s1 ⟨C1, lv, H1, c1, I1, v1, b, hb, q1⟩ =>
    I1.truthy v1 hb fun tk I2 => ⟨C1, H1, c1, I2, q1⟩) fun _ _ x => x) (he env _)

theorem TS_Not {e : PySem.Expr} {p : Pos} {Q : Bool → Hp → Prop} (h : TS G k fl sc e m H (fun b H1 => Q (!b) H1) X) : TS G k fl sc (.UnaryOp .Not e p) m H Q X :=
  fun env A C Z s hs I => wpAny_isTrue_Not (wpAny_mono (h env A C Z s hs I) (fun b s1 ⟨C1, H1, r⟩ => ⟨C1, H1, r⟩) fun _ _ x => x)

theorem TS_Compare1 {l r : PySem.Expr} {op : CmpOp} {p : Pos} {Q : Bool → Hp → Prop}
    (h : EV G k fl sc l m H (fun a H1 => EV G k fl sc r m H1 (fun b H2 => BO G (compareOp op) a b H2 (fun lv H3 => ∃ c, lv = .bool c ∧ Q c H3) X) X) X)
    (hm : behindInMarks op r = false := by with_unfolding_all rfl) : TS G k fl sc (.Compare l [op] [r] p) m H Q X :=
  fun env A C Z s hs I => wpAny_isTrue_Compare1 (wpAny_mono (h env A C Z s hs I) (fun va s1 ⟨C1, a, H1, c1, I1, v1, q1⟩ =>
    wpAny_mono (q1 env A C1 Z s1 hs I1) (fun vb s2 ⟨C2, b, H2, c2, I2, v2, q2⟩ =>
      wpAny_mono (q2 k fl env A C2 Z m s2 va vb I2 (v1.mono c2) v2) (fun v s3 ⟨C3, lv, H3, c3, I3, v3, c, e, q3⟩ => by
        subst e; cases v3
        exact wpAny_truthy_bool ⟨C3, H3, (c1.trans c2).trans c3, I3, q3⟩) fun _ _ x => (XPost.up c2 x).up c1) fun _ _ x => XPost.up c1 x) fun _ _ x => x) hm

theorem TS_Compare2 {l r1 r2 : PySem.Expr} {op1 op2 : CmpOp} {p : Pos} {Q : Bool → Hp → Prop}
    (h : EV G k fl sc l m H (fun a H1 => EV G k fl sc r1 m H1 (fun b H2 => BO G (compareOp op1) a b H2 (fun lv H3 => ∃ c, lv = .bool c ∧
      if c then EV G k fl sc r2 m H3 (fun d H4 => BO G (compareOp op2) b d H4 (fun lv' H5 => ∃ c', lv' = .bool c' ∧ Q c' H5) X) X else Q false H3) X) X) X)
    (hm : behindInMarks op2 r2 = false := by with_unfolding_all rfl) : TS G k fl sc (.Compare l [op1, op2] [r1, r2] p) m H Q X :=
  fun env A C Z s hs I => by
    have e : ∀ whole, isTrue (.Compare l [op1, op2] [r1, r2] p) env whole = (do let a ← eval l env; testChain p a [op1, op2] [eval r1 env, eval r2 env]) := fun whole => by
      show (do testChain p (← eval l env) [op1, op2] (markedEach [op1, op2] [r1, r2] [eval r1 env, eval r2 env])) = _
      have : markedEach [op1, op2] [r1, r2] [eval r1 env, eval r2 env] = [eval r1 env, eval r2 env] := by
        show eval r1 env :: [markedBehindIn op2 r2 (eval r2 env)] = _
        unfold markedBehindIn; rw [hm]
      rw [this]
    rw [e]
    refine wpAny_bind (wpAny_mono (h env A C Z s hs I) (fun va s1 ⟨C1, a, H1, c1, I1, v1, q1⟩ => ?_) fun _ _ x => x)
    refine test_link (wpAny_mono (q1 env A C1 Z s1 hs I1) (fun vb s2 ⟨C2, b, H2, c2, I2, v2, q2⟩ => ?_) fun _ _ x => XPost.up c1 x)
    refine wpAny_mono (q2 k fl env A C2 Z m s2 va vb I2 (v1.mono c2) v2) (fun v s3 ⟨C3, lv, H3, c3, I3, v3, c, e3, q3⟩ => ?_) fun _ _ x => (XPost.up c2 x).up c1
    subst e3; cases v3
    refine wpAny_truthy_bool ?_
    cases c with
    | false => exact ⟨C3, H3, (c1.trans c2).trans c3, I3, q3⟩
    | true =>
      simp only [if_true] at q3 ⊢
      refine test_last (wpAny_mono (q3 env A C3 Z s3 hs I3) (fun vd s4 ⟨C4, d, H4, c4, I4, v4, q4⟩ => ?_) fun _ _ x => ((XPost.up c3 x).up c2).up c1)
      refine wpAny_mono (q4 k fl env A C4 Z m s4 vb vd I4 (v2.mono (c3.trans c4)) v4) (fun v s5 ⟨C5, lv', H5, c5, I5, v5, c', e5, q5⟩ => ?_) fun _ _ x => (((XPost.up c4 x).up c3).up c2).up c1
      subst e5; cases v5
      exact wpAny_truthy_bool ⟨C5, H5, (((c1.trans c2).trans c3).trans c4).trans c5, I5, q5⟩

/-- a chain of and | or, as a test -/
def AT (G : Gl) (k : Nat) (fl : Bool) (sc : Scope) (op : BoolOp) (es : List PySem.Expr) (m : Loc) (H : Hp) (Q : Bool → Hp → Prop) (X : Xc) : Prop :=
  ∀ env A C Z s, env.scope = sc → Inv G k fl env A C Z m H s → wpAny G.M A (allTrue op es env) (BPost G k fl env A C Z m Q) (XPost G k fl env A C Z m X) s
theorem TS_Bool {op : BoolOp} {es : List PySem.Expr} {p : Pos} {Q : Bool → Hp → Prop} (h : AT G k fl sc op es m H Q X) : TS G k fl sc (.BoolOp op es p) m H Q X :=
  fun env A C Z s hs I => wpAny_isTrue_BoolOp (h env A C Z s hs I)
theorem AT_nil {op : BoolOp} {Q : Bool → Hp → Prop} (h : Q (op == .And) H) : AT G k fl sc op [] m H Q X := fun env A C Z s hs I => by
  unfold allTrue; exact wpAny_pure ⟨C, H, Cle.refl C, I, h⟩
theorem AT_and {e : PySem.Expr} {es : List PySem.Expr} {Q : Bool → Hp → Prop} (h : TS G k fl sc e m H (fun b H1 => if b then AT G k fl sc .And es m H1 Q X else Q false H1) X) : AT G k fl sc .And (e :: es) m H Q X := fun env A C Z s hs I => by
  rw [allTrue]
  refine wpAny_bind (wpAny_mono (h env A C Z s hs I) (fun b s1 ⟨C1, H1, c1, I1, q1⟩ => ?_) fun _ _ x => x)
  cases b with
  | false => exact wpAny_pure ⟨C1, H1, c1, I1, q1⟩
  | true =>
    simp only [if_true] at q1
    exact wpAny_mono (q1 env A C1 Z s1 hs I1) (fun _ _ x => BPost.up c1 x) fun _ _ x => XPost.up c1 x
theorem AT_or {e : PySem.Expr} {es : List PySem.Expr} {Q : Bool → Hp → Prop} (h : TS G k fl sc e m H (fun b H1 => if b then Q true H1 else AT G k fl sc .Or es m H1 Q X) X) : AT G k fl sc .Or (e :: es) m H Q X := fun env A C Z s hs I => by
  rw [allTrue]
  refine wpAny_bind (wpAny_mono (h env A C Z s hs I) (fun b s1 ⟨C1, H1, c1, I1, q1⟩ => ?_) fun _ _ x => x)
  cases b with
  | true => exact wpAny_pure ⟨C1, H1, c1, I1, q1⟩
  | false =>
    simp only [Bool.false_eq_true, if_false] at q1
    exact wpAny_mono (q1 env A C1 Z s1 hs I1) (fun _ _ x => BPost.up c1 x) fun _ _ x => XPost.up c1 x

theorem EV_Not {e : PySem.Expr} {p : Pos} {Q : Qv} (h : EV G k fl sc e m H (fun lv H1 => ∃ b, truthOf H1 lv = some b ∧ Q (.bool (!b)) H1) X) : EV G k fl sc (.UnaryOp .Not e p) m H Q X :=
  fun env A C Z s hs I => wpAny_UnaryOp (wpAny_mono (h env A C Z s hs I) (fun v s1 ⟨C1, lv, H1, c1, I1, v1, b, hb, q1⟩ =>
    not_of (I1.truthy v1 hb fun tk I2 => ⟨C1, .bool (!b), H1, c1, I2, rfl, q1⟩)) fun _ _ x => x)
theorem EV_and {e e2 : PySem.Expr} {es : List PySem.Expr} {p : Pos} {Q : Qv} (h : EV G k fl sc e m H (fun lv H1 => ∃ b, truthOf H1 lv = some b ∧ if b then EV G k fl sc (.BoolOp .And (e2 :: es) p) m H1 Q X else Q lv H1) X) :
    EV G k fl sc (.BoolOp .And (e :: e2 :: es) p) m H Q X :=
  fun env A C Z s hs I => BoolOp_and (wpAny_mono (h env A C Z s hs I) (fun v s1 ⟨C1, lv, H1, c1, I1, v1, b, hb, q1⟩ =>
    I1.truthy v1 hb fun tk I2 => by
      cases b with
      | false => exact ⟨C1, lv, H1, c1, I2, v1, q1⟩
      | true => simp only [if_true] at q1 ⊢; exact wpAny_mono (q1 env A C1 Z _ hs I2) (fun _ _ x => Post.up c1 x) fun _ _ x => XPost.up c1 x) fun _ _ x => x)
theorem EV_one {op : BoolOp} {e : PySem.Expr} {p : Pos} {Q : Qv} (h : EV G k fl sc e m H Q X) : EV G k fl sc (.BoolOp op [e] p) m H Q X :=
  fun env A C Z s hs I => h env A C Z s hs I
end

end Go

end
section
set_option autoImplicit false
set_option linter.unusedVariables false
set_option linter.unusedSimpArgs false
set_option Elab.async false
namespace Go
open PySem PySem.W PyProof.Rows

theorem Heap.keepsOf {h h' : Heap} (x : Heap.ExtBut h.objs.size h h') : ∀ b o, h.get? b = some o → h'.get? b = some o :=
  fun b o e => x b o (Nat.ne_of_lt (Heap.lt_size e)) e

section
variable {G : Gl} {k : Nat} {env : Env} {A : Around} {C : Cm} {Z : Zs} {m : Loc} {H : Hp} {s : Shared}

theorem fieldT {cls : Xk} {ea : Addr} {flv : Value} (t : Trc C H s.heap ea cls flv) {E : Value → Shared → Prop} {Q : Value → Shared → Prop} (h : ∀ T, Q (.ref T) s) : wpAny G.M A (field (.ref ea) 1) Q E s := by
  obtain ⟨oe, vs, a0, T, oT, ts, he, hc, hd, h0, h1, _⟩ := t
  exact wpAny_field he hd h1 (h T)

/-- out of a loop of one's own -/
theorem ExI.came {cls : Xk} {e : Value} (X : ExI G k true env A C Z m H cls e s) {R : Value → Shared → Prop} (hR : ∀ e s', ExI G k true env A C Z m H cls e s' → R e s') :
    notedBy G.M A env (fun e s' => cameBackBy G.M A env R e s') e s := by
  unfold notedBy
  refine X.note fun ea s' he I t => ?_
  subst he
  unfold cameBackBy
  refine wpAny_bind (fieldT t fun T => ?_)
  rw [if_neg (show ¬ ((Value.ref T == Value.none) = true) from Bool.false_ne_true)]
  rw [I.frame rfl]
  exact I.setFl t (some env.locals) fun s'' I2 t2 => hR _ _ ⟨ea, rfl, .inr ⟨I2, _, t2, .inr ⟨env.locals, I2.frame rfl, rfl⟩⟩⟩

theorem XsPost.came {X : Xk → Loc → Hp → Prop} {e : Value} (x : XsPost G k true env A C Z X e s) :
    notedBy G.M A env (fun e s' => cameBackBy G.M A env (XsPost G k true env A C Z X) e s') e s := by
  obtain ⟨C', cls, m', H', c, x, q⟩ := x
  exact x.came fun e s' y => ⟨C', cls, m', H', c, y, q⟩
end

section
variable {G : Gl} {k : Nat} {sc : Scope} {m : Loc} {H : Hp} {P : PQ}

theorem EXS_nil (h : P.n m H) : EXS G k sc [] m H P := fun env A C Z s hs I => wpAny_execs_nil ⟨C, m, H, Cle.refl C, I, h⟩
theorem EXS_cons {st : Stmt} {rest : List Stmt} (h : EX G k sc st m H ⟨fun m' H' => EXS G k sc rest m' H' P, P.r, P.b, P.c, P.x⟩) : EXS G k sc (st :: rest) m H P := fun env A C Z s hs I =>
  wpAny_execs_cons (wpAny_mono (h env A C Z s hs I) (fun f s1 ⟨C1, m1, H1, c1, I1, q1⟩ => by
    cases f with
    | next => exact wpAny_mono (q1 env A C1 Z s1 hs I1) (fun _ _ x => FPost.up c1 x) fun _ _ x => XsPost.up c1 x
    | brk => exact ⟨C1, m1, H1, c1, I1, q1⟩
    | cont => exact ⟨C1, m1, H1, c1, I1, q1⟩
    | ret v => exact ⟨C1, m1, H1, c1, I1, q1⟩) fun _ _ x => x)
theorem EX.mono {st : Stmt} {P' : PQ} (h : EX G k sc st m H P) (hn : ∀ m' H', P.n m' H' → P'.n m' H') (hr : P'.r = P.r) (hb : P'.b = P.b) (hc : P'.c = P.c) (hx : P'.x = P.x) : EX G k sc st m H P' := by
  intro env A C Z s hs I
  have := h env A C Z s hs I
  rw [hx]
  refine wpAny_mono this (fun f s1 ⟨C1, m1, H1, c1, I1, q1⟩ => ⟨C1, m1, H1, c1, I1, ?_⟩) fun _ _ x => x
  cases f with
  | next => exact hn _ _ q1
  | brk => show P'.b m1 H1; rw [hb]; exact q1
  | cont => show P'.c m1 H1; rw [hc]; exact q1
  | ret v => obtain ⟨lv, a, b⟩ := q1; exact ⟨lv, a, by rw [hr]; exact b⟩
theorem EXS_cut {st : Stmt} {rest : List Stmt} (N : Loc → Hp → Prop) (h : EX G k sc st m H ⟨N, P.r, P.b, P.c, P.x⟩) (h2 : ∀ m' H', N m' H' → EXS G k sc rest m' H' P) : EXS G k sc (st :: rest) m H P :=
  EXS_cons (h.mono h2 rfl rfl rfl rfl)

theorem EX_Pass {p : Pos} (h : P.n m H) : EX G k sc (.Pass p) m H P := fun env A C Z s hs I => wpAny_Pass ⟨C, m, H, Cle.refl C, I, h⟩
theorem EX_Break {p : Pos} (h : P.b m H) : EX G k sc (.Break p) m H P := fun env A C Z s hs I => wpAny_Break ⟨C, m, H, Cle.refl C, I, h⟩
theorem EX_Continue {p : Pos} (h : P.c m H) : EX G k sc (.Continue p) m H P := fun env A C Z s hs I => wpAny_Continue ⟨C, m, H, Cle.refl C, I, h⟩
theorem EX_Return {e : PySem.Expr} {p : Pos} (h : EV G k true sc e m H P.r (fun c H' => P.x c m H')) : EX G k sc (.Return (some e) p) m H P := fun env A C Z s hs I =>
  wpAny_Return_some (wpAny_mono (h env A C Z s hs I) (fun v s1 ⟨C1, lv, H1, c1, I1, v1, q1⟩ => ⟨C1, m, H1, c1, I1, lv, v1, q1⟩) fun _ _ x => x.xs fun _ _ q => q)
theorem EX_Expr {e : PySem.Expr} {p : Pos} (h : EV G k true sc e m H (fun _ H1 => P.n m H1) (fun c H' => P.x c m H')) (hk : sc.kind = .function) (hsw : ∀ env, swapsWith e none p.line env = pure false := by intro _; with_unfolding_all rfl) : EX G k sc (.Expr e p) m H P := fun env A C Z s hs I =>
  wpAny_Expr_any (wpAny_mono (h env A C Z s hs I) (fun v s1 ⟨C1, lv, H1, c1, I1, v1, q1⟩ => ⟨C1, m, H1, c1, I1, q1⟩) fun _ _ x => x.xs fun _ _ q => q) (by unfold interactive; rw [hs, hk]; rfl) (hsw env)
theorem EX_If {t : PySem.Expr} {b o : List Stmt} {p : Pos} (h : TS G k true sc t m H (fun c H1 => (c = true → EXS G k sc b m H1 P) ∧ (c = false → EXS G k sc o m H1 P)) (fun c H' => P.x c m H')) : EX G k sc (.If t b o p) m H P := fun env A C Z s hs I =>
  wpAny_If (wpAny_mono (h env A C Z s hs I) (fun c s1 ⟨C1, H1, c1, I1, q1⟩ => by
    cases c with
    | true => rw [if_pos rfl]; exact wpAny_mono (q1.1 rfl env A C1 Z s1 hs I1) (fun _ _ x => FPost.up c1 x) fun _ _ x => XsPost.up c1 x
    | false => rw [if_neg (by decide)]; exact wpAny_mono (q1.2 rfl env A C1 Z s1 hs I1) (fun _ _ x => FPost.up c1 x) fun _ _ x => XsPost.up c1 x) fun _ _ x => x.xs fun _ _ q => q)
theorem EX_Assign {x : Str} {xp p : Pos} {e : PySem.Expr} (h : EV G k true sc e m H (fun lv H1 => ∃ m', Put m x lv m' ∧ P.n m' H1) (fun c H' => P.x c m H')) (hsw : ∀ env, swapsWith e (some (.Name x xp)) p.line env = pure false := by intro _; with_unfolding_all rfl) :
    EX G k sc (.Assign [.Name x xp] e p) m H P := fun env A C Z s hs I =>
  wpAny_Assign_Name (wpAny_mono (h env A C Z s hs I) (fun v s1 ⟨C1, lv, H1, c1, I1, v1, m', q1, q2⟩ => I1.store q1 v1 (.inl rfl) fun s2 I2 => ⟨C1, m', H1, c1, I2, q2⟩) fun _ _ x => x.xs fun _ _ q => q) (hsw env)

theorem EX_AugName {x : Str} {xp p : Pos} {op : Operator} {e : PySem.Expr} {lv : LV} (hm : (x, some lv) ∈ m)
    (h : EV G k true sc e m H (fun lw H1 => BO G (inplaceOp op) lv lw H1 (fun r H2 => ∃ m', Put m x r m' ∧ P.n m' H2) (fun c H' => P.x c m H')) (fun c H' => P.x c m H')) (hn : (x == ("__classdict__" : Str)) = false := by decide +kernel) :
    EX G k sc (.AugAssign (.Name x xp) op e p) m H P := fun env A C Z s hs I =>
  wpAny_AugAssign_Name (I.load hm (fun v hv => wpAny_mono (h env A C Z s hs I) (fun w s1 ⟨C1, lw, H1, c1, I1, v1, q1⟩ =>
    wpAny_mono (q1 k true env A C1 Z m s1 v w I1 (hv.mono c1) v1) (fun r s2 ⟨C2, lr, H2, c2, I2, v2, m', q2, q3⟩ => I2.store q2 v2 (.inl rfl) fun s3 I3 => ⟨C2, m', H2, c1.trans c2, I3, q3⟩)
      fun _ _ x => XsPost.up c1 (x.xs fun _ _ q => q)) fun _ _ x => x.xs fun _ _ q => q) hn)

/-- a store into an object -/
def SO (G : Gl) (t : Value → Value → Value → Sem Unit) (a b c : LV) (H : Hp) (N : Hp → Prop) (X : Xc) : Prop :=
  ∀ k fl env A C Z m s va vb vc, Inv G k fl env A C Z m H s → VR C a va → VR C b vb → VR C c vc →
    wpAny G.M A (t va vb vc) (fun _ s' => ∃ C' H', Cle C C' ∧ Inv G k fl env A C' Z m H' s' ∧ N H') (XPost G k fl env A C Z m X) s
def SA (G : Gl) (x : Str) (a c : LV) (H : Hp) (N : Hp → Prop) (X : Xc) : Prop :=
  ∀ k fl env A C Z m s va vc, Inv G k fl env A C Z m H s → VR C a va → VR C c vc →
    wpAny G.M A (setAttr va x vc) (fun _ s' => ∃ C' H', Cle C C' ∧ Inv G k fl env A C' Z m H' s' ∧ N H') (XPost G k fl env A C Z m X) s

theorem EX_AssignSub {o i e : PySem.Expr} {tp p : Pos}
    (h : EV G k true sc e m H (fun v H1 => EV G k true sc o m H1 (fun a H2 => EV G k true sc i m H2 (fun b H3 => SO G setItem a b v H3 (fun H4 => P.n m H4) (fun c H' => P.x c m H')) (fun c H' => P.x c m H')) (fun c H' => P.x c m H')) (fun c H' => P.x c m H'))
    (hsw : ∀ env, swapsWith e (some (.Subscript o i tp)) p.line env = pure false := by intro _; with_unfolding_all rfl) : EX G k sc (.Assign [.Subscript o i tp] e p) m H P := fun env A C Z s hs I =>
  wpAny_Assign_Subscript (wpAny_mono (h env A C Z s hs I) (fun v s1 ⟨C1, lv, H1, c1, I1, v1, q1⟩ =>
    wpAny_mono (q1 env A C1 Z s1 hs I1) (fun a s2 ⟨C2, la, H2, c2, I2, v2, q2⟩ =>
      wpAny_mono (q2 env A C2 Z s2 hs I2) (fun b s3 ⟨C3, lb, H3, c3, I3, v3, q3⟩ =>
        wpAny_mono (q3 k true env A C3 Z m s3 a b v I3 (v2.mono c3) v3 (v1.mono (c2.trans c3))) (fun _ s4 ⟨C4, H4, c4, I4, q4⟩ => ⟨C4, m, H4, ((c1.trans c2).trans c3).trans c4, I4, q4⟩)
          fun _ _ x => XsPost.up ((c1.trans c2).trans c3) (x.xs fun _ _ q => q)) fun _ _ x => XsPost.up (c1.trans c2) (x.xs fun _ _ q => q)) fun _ _ x => XsPost.up c1 (x.xs fun _ _ q => q)) fun _ _ x => x.xs fun _ _ q => q) (hsw env)
theorem EX_AssignAttr {o e : PySem.Expr} {x : Str} {tp p : Pos}
    (h : EV G k true sc e m H (fun v H1 => EV G k true sc o m H1 (fun a H2 => SA G x a v H2 (fun H4 => P.n m H4) (fun c H' => P.x c m H')) (fun c H' => P.x c m H')) (fun c H' => P.x c m H'))
    (hsw : ∀ env, swapsWith e (some (.Attribute o x tp)) p.line env = pure false := by intro _; with_unfolding_all rfl) : EX G k sc (.Assign [.Attribute o x tp] e p) m H P := fun env A C Z s hs I =>
  plainObj_wpAny_Assign_Attribute (wpAny_mono (h env A C Z s hs I) (fun v s1 ⟨C1, lv, H1, c1, I1, v1, q1⟩ =>
    wpAny_mono (q1 env A C1 Z s1 hs I1) (fun a s2 ⟨C2, la, H2, c2, I2, v2, q2⟩ =>
        wpAny_mono (q2 k true env A C2 Z m s2 a v I2 v2 (v1.mono c2)) (fun _ s4 ⟨C4, H4, c4, I4, q4⟩ => ⟨C4, m, H4, (c1.trans c2).trans c4, I4, q4⟩)
          fun _ _ x => XsPost.up (c1.trans c2) (x.xs fun _ _ q => q)) fun _ _ x => XsPost.up c1 (x.xs fun _ _ q => q)) fun _ _ x => x.xs fun _ _ q => q) (hsw env)
theorem EX_AugSub {o i e : PySem.Expr} {tp p : Pos} {op : Operator}
    (h : EV G k true sc o m H (fun a H1 => EV G k true sc i m H1 (fun b H2 => BO G getItem a b H2 (fun old H3 => EV G k true sc e m H3 (fun v H4 => BO G (inplaceOp op) old v H4 (fun nw H5 => SO G setItem a b nw H5 (fun H6 => P.n m H6)
      (fun c H' => P.x c m H')) (fun c H' => P.x c m H')) (fun c H' => P.x c m H')) (fun c H' => P.x c m H')) (fun c H' => P.x c m H')) (fun c H' => P.x c m H'))
    (hi : ∀ ov iv new, augStore i ov iv new = (do holding [new, ov, iv] (setItem ov iv new); release [new, ov, iv] []; pure .next) := by intros; with_unfolding_all rfl) : EX G k sc (.AugAssign (.Subscript o i tp) op e p) m H P := fun env A C Z s hs I =>
  wpAny_AugAssign_SubscriptAny (wpAny_mono (h env A C Z s hs I) (fun a s1 ⟨C1, la, H1, c1, I1, v1, q1⟩ =>
    wpAny_mono (q1 env A C1 Z s1 hs I1) (fun b s2 ⟨C2, lb, H2, c2, I2, v2, q2⟩ =>
      wpAny_mono (q2 k true env A C2 Z m s2 a b I2 (v1.mono c2) v2) (fun old s3 ⟨C3, lo, H3, c3, I3, v3, q3⟩ =>
        wpAny_mono (q3 env A C3 Z s3 hs I3) (fun v s4 ⟨C4, lv, H4, c4, I4, v4, q4⟩ =>
          wpAny_mono (q4 k true env A C4 Z m s4 old v I4 (v3.mono c4) v4) (fun nw s5 ⟨C5, ln, H5, c5, I5, v5, q5⟩ =>
            wpAny_mono (q5 k true env A C5 Z m s5 a b nw I5 (v1.mono (((c2.trans c3).trans c4).trans c5)) (v2.mono ((c3.trans c4).trans c5)) v5) (fun _ s6 ⟨C6, H6, c6, I6, q6⟩ => ⟨C6, m, H6, ((((c1.trans c2).trans c3).trans c4).trans c5).trans c6, I6, q6⟩)
              fun _ _ x => XsPost.up ((((c1.trans c2).trans c3).trans c4).trans c5) (x.xs fun _ _ q => q))
            fun _ _ x => XsPost.up (((c1.trans c2).trans c3).trans c4) (x.xs fun _ _ q => q))
          fun _ _ x => XsPost.up ((c1.trans c2).trans c3) (x.xs fun _ _ q => q))
        fun _ _ x => XsPost.up (c1.trans c2) (x.xs fun _ _ q => q))
      fun _ _ x => XsPost.up c1 (x.xs fun _ _ q => q)) fun _ _ x => x.xs fun _ _ q => q) hi

/-- a store to a target -/
def AS (G : Gl) (k : Nat) (fl : Bool) (sc : Scope) (t : PySem.Expr) (lv : LV) (m : Loc) (H : Hp) (N : Loc → Hp → Prop) (X : Xk → Loc → Hp → Prop) : Prop :=
  ∀ env A C Z s v, env.scope = sc → Inv G k fl env A C Z m H s → VR C lv v → wpAny G.M A (assign t env v) (fun _ s' => ∃ C' m' H', Cle C C' ∧ Inv G k fl env A C' Z m' H' s' ∧ N m' H') (XsPost G k fl env A C Z X) s
def ASs (G : Gl) (k : Nat) (fl : Bool) (sc : Scope) (ts : List PySem.Expr) (lvs : List LV) (m : Loc) (H : Hp) (N : Loc → Hp → Prop) (X : Xk → Loc → Hp → Prop) : Prop :=
  (ts.length = lvs.length ∧ ∀ env, (assignEach ts env).length = ts.length ∧ (assignEach ts env).findIdx? (·.1) = none) ∧ ∀ env A C Z s vs, env.scope = sc → Inv G k fl env A C Z m H s → VRs C lvs vs →
    wpAny G.M A (assignInOrder ((assignEach ts env).map (·.2)) vs) (fun _ s' => ∃ C' m' H', Cle C C' ∧ Inv G k fl env A C' Z m' H' s' ∧ N m' H') (XsPost G k fl env A C Z X) s

section
variable {N : Loc → Hp → Prop} {X : Xk → Loc → Hp → Prop} {fl : Bool}
theorem AS_Name {x : Str} {p : Pos} {lv : LV} {m' : Loc} (hp : Put m x lv m') (h : N m' H) (hl : fl = true ∨ sc.names.lookup x = some .local := by exact .inl rfl) : AS G k fl sc (.Name x p) lv m H N X := fun env A C Z s v hs I hv =>
  wpAny_assign_Name (I.store hp hv (hl.imp id fun q => by subst hs; exact q) fun s2 I2 => ⟨C, m', H, Cle.refl C, I2, h⟩)
theorem ASs_nil (h : N m H) : ASs G k fl sc [] [] m H N X := ⟨⟨rfl, fun _ => ⟨rfl, rfl⟩⟩, fun env A C Z s vs hs I hv => by cases hv; exact wpAny_pure ⟨C, m, H, Cle.refl C, I, h⟩⟩
theorem ASs_cons {x : Str} {p : Pos} {lv : LV} {ts : List PySem.Expr} {lvs : List LV} {m' : Loc} (hp : Put m x lv m') (h : ASs G k fl sc ts lvs m' H N X) (hl : fl = true ∨ sc.names.lookup x = some .local := by exact .inl rfl) : ASs G k fl sc (.Name x p :: ts) (lv :: lvs) m H N X := by
  refine ⟨⟨by simp [h.1.1], fun env => ?_⟩, fun env A C Z s vs hs I hv => ?_⟩
  · obtain ⟨a, b⟩ := h.1.2 env
    refine ⟨by show (assignEach ts env).length + 1 = _; rw [a]; rfl, ?_⟩
    show List.findIdx? _ ((false, assign (.Name x p) env) :: assignEach ts env) = none
    rw [List.findIdx?_cons, b]; rfl
  · obtain ⟨v, r, rfl, v1, v2⟩ := hv
    show wpAny _ _ (do holding r (assign (.Name x p) env v); assignInOrder ((assignEach ts env).map (·.2)) r) _ _ _
    exact wpAny_bind (wpAny_holding (wpAny_assign_Name (I.store hp v1 (hl.imp id fun q => by subst hs; exact q) fun s2 I2 => h.2 env A C Z s2 r hs I2 v2)))

theorem AS_tuple {ts : List PySem.Expr} {kd : Nat} {p : Pos} {lvs : List LV} (h : ASs G k fl sc ts lvs m H N X) (hh : G.hn = true) : AS G k fl sc (.Tuple ts kd p) (.tup lvs) m H N X := fun env A C Z s v hs I hv => by
  obtain ⟨a, vs, rfl, hC, hvs⟩ := hv
  obtain ⟨o, n, hC, ho1, ho2⟩ := hC
  have ht : IsTup s.heap a (List.toArray vs) := ⟨_, I.st.con a _ hC, ho1, _, ho2⟩
  obtain ⟨s1, s2⟩ := h.1.2 env
  refine assign_Tuple_tuple (I.hno hh) ht (by rw [s1, h.1.1, List.size_toArray, hvs.length]) s2 fun h' hx => ?_
  exact h.2 env A C Z _ vs hs (I.keeps (tk := s.toks) (Heap.keepsOf hx)) hvs
theorem AS_list {ts : List PySem.Expr} {kd : Nat} {p : Pos} {a : Addr} {lvs : List LV} (hH : H a = some (.lst lvs)) (h : ASs G k fl sc ts lvs m H N X) (hh : G.hn = true) : AS G k fl sc (.Tuple ts kd p) (.ref a) m H N X := fun env A C Z s v hs I hv => by
  cases hv
  obtain ⟨us, h1, h2, h3, _⟩ := I.list hH
  obtain ⟨s1, s2⟩ := h.1.2 env
  rw [arm_assign_Tuple]
  refine wpAny_bind (wpAny_standAt ?_)
  unfold unpack
  rw [s2, show (assignEach ts env).length = (List.toArray us).size by rw [s1, h.1.1, List.size_toArray, h3]]
  exact wpAny_bind (wpAny_holding (kun_itemsOf (I.hno hh) h1 fun h' hx => h.2 env A C Z _ us hs (I.keeps (tk := s.toks) (Heap.keepsOf hx)) h2))
end

theorem EX_AssignTup {ts : List PySem.Expr} {kd : Nat} {tp p : Pos} {e : PySem.Expr} (h : EV G k true sc e m H (fun lv H1 => AS G k true sc (.Tuple ts kd tp) lv m H1 P.n P.x) (fun c H' => P.x c m H'))
    (hsw : ∀ env, swapsWithSole [.Tuple ts kd tp] e p.line env = pure false := by intro _; with_unfolding_all rfl) (hw : ∀ env, swappedStores [.Tuple ts kd tp] e env = pure none := by intro _; with_unfolding_all rfl) :
    EX G k sc (.Assign [.Tuple ts kd tp] e p) m H P := fun env A C Z s hs I =>
  wpAny_Assign_stores (wpAny_mono (h env A C Z s hs I) (fun v s1 ⟨C1, lv, H1, c1, I1, v1, q1⟩ => by
    refine wpAny_mono (q1 env A C1 Z s1 v hs I1 v1) (fun _ s2 ⟨C2, m2, H2, c2, I2, q2⟩ => ?_) fun _ _ x => XsPost.up c1 x
    exact ⟨C2, m2, H2, c1.trans c2, I2, q2⟩) fun _ _ x => x.xs fun _ _ q => q) (hsw env) (hw env)

theorem EX_While {t : PySem.Expr} {b o : List Stmt} {p : Pos} (J : Nat → Loc → Hp → Prop)
    (turn : ∀ n m H, J n m H → TS G k true sc t m H (fun c H1 => (c = true → EXS G k sc b m H1 ⟨fun m' H' => ∃ n', n' < n ∧ J n' m' H', P.r, P.n, fun m' H' => ∃ n', n' < n ∧ J n' m' H', P.x⟩) ∧ (c = false → EXS G k sc o m H1 P)) (fun c H' => P.x c m H'))
    (n : Nat) (h : J n m H) : EX G k sc (.While t b o p) m H P := fun env A C Z s hs I => by
  refine wpAny_While (codeAny_whileLoop (fun n s => ∃ C' m' H', Cle C C' ∧ Inv G k true env A C' Z m' H' s ∧ J n m' H') (fun n s ⟨C', m', H', c, I, j⟩ => ?_) n ⟨C, m, H, Cle.refl C, I, h⟩)
  have up : ∀ e s', XsPost G k true env A C' Z P.x e s' → notedBy G.M A env (fun e s' => cameBackBy G.M A env (XsPost G k true env A C Z P.x) e s') e s' := fun e s' x => (XsPost.up c x).came
  refine wpAny_mono (turn n m' H' j env A C' Z s hs I) (fun b' s1 ⟨C1, H1, c1, I1, q1⟩ => ?_) fun e s' x => up e s' (x.xs fun _ _ q => q)
  cases b' with
  | true =>
    rw [if_pos rfl]
    refine wpAny_mono (q1.1 rfl env A C1 Z s1 hs I1) (fun f s2 ⟨C2, m2, H2, c2, I2, q2⟩ => ?_) fun e s' x => up e s' (XsPost.up c1 x)
    cases f with
    | next => obtain ⟨n', l, j'⟩ := q2; exact ⟨n', l, C2, m2, H2, (c.trans c1).trans c2, I2, j'⟩
    | cont => obtain ⟨n', l, j'⟩ := q2; exact ⟨n', l, C2, m2, H2, (c.trans c1).trans c2, I2, j'⟩
    | brk => exact ⟨C2, m2, H2, (c.trans c1).trans c2, I2, q2⟩
    | ret v => exact ⟨C2, m2, H2, (c.trans c1).trans c2, I2, q2⟩
  | false =>
    rw [if_neg (by decide)]
    exact wpAny_mono (q1.2 rfl env A C1 Z s1 hs I1) (fun f s2 ⟨C2, m2, H2, c2, I2, q2⟩ => ⟨C2, m2, H2, (c.trans c1).trans c2, I2, q2⟩) fun e s' x => up e s' (XsPost.up c1 x)
end

end Go

end
section
set_option autoImplicit false
set_option linter.unusedVariables false
set_option linter.unusedSimpArgs false
set_option Elab.async false
namespace Go
open PySem PySem.W PyProof.Rows

theorem OR.noCell {G : Gl} {C : Cm} {h : Heap} {o : LO} {ob : Obj} (x : OR G C h o ob) : True := trivial

section
variable {G : Gl} {k : Nat} {fl : Bool} {env : Env} {A : Around} {C C' : Cm} {Z : Zs} {m : Loc} {H : Hp} {s : Shared} {it : Addr}

/-- a record (an iterator) is shown to the calculus: it stays as it is -/
theorem Inv.shown (X : Inv G k fl env A C Z m H s) {o : Obj} {vs : Array Value} (hg : s.heap.get? it = some o) (hd : o.data = .fields vs) (hC : C it = none) (hH : H it = none) :
    Cle C (cset C it o) ∧ Inv G k fl env A (cset C it o) Z m H s := by
  obtain ⟨y1, y2, y3⟩ := X.notFields hg hd
  refine ⟨Cle.set o hC, X.step (a := it) (h' := s.heap) (tk := s.toks) (fun b o _ e => e) (fun o' items n e1 _ e3 => ?_) hC y1 y2 y3 (fun _ _ _ e => e) (fun o' e => by rw [hH] at e; cases e) (Cle.set o hC) (fun b o' q e => by rwa [cset_ne C _ q] at e) (fun o' e => ?_)⟩
  · rw [hg] at e1; cases e1; rw [hd] at e3; cases e3
  · rw [cset_same] at e; cases e; exact hg

/-- and taken back -/
theorem Inv.hidden {C₀ : Cm} {H₀ : Hp} {m₀ : Loc} {Z₀ : Zs} {s₀ : Shared} (X₀ : Inv G k fl env A C₀ Z₀ m₀ H₀ s₀) (h₀ : C₀ it = none) (le : Cle C₀ C) (X : Inv G k fl env A C Z m H s) {o : Obj} (hC : C it = some o) (hd : seqOrPlain o.data = false) :
    Cle C₀ (cdel C it) ∧ Inv G k fl env A (cdel C it) Z m H s ∧ cdel C it it = none ∧ H it = none ∧ s.heap.get? it = some o ∧ (∀ a o, C a = some o → seqOrPlain o.data = true → cdel C it a = some o) ∧ ∀ {lv v}, VR C lv v → VR (cdel C it) lv v := by
  have le0 : Cle C₀ (cdel C it) := fun a ob e => by
    unfold cdel; split
    · rename_i q; rw [q, h₀] at e; cases e
    · exact le a ob e
  have res : ∀ a o', C a = some o' → seqOrPlain o'.data = true → cdel C it a = some o' := fun a o' e q => by
    unfold cdel; split
    · rename_i r; rw [r, hC] at e; cases e; rw [hd] at q; cases q
    · exact e
  have sub : ∀ a o', cdel C it a = some o' → C a = some o' := fun a o' e => by
    unfold cdel at e; split at e
    · cases e
    · exact e
  have none' : ∀ a, C a = none → cdel C it a = none := fun a e => by unfold cdel; split <;> first | rfl | exact e
  have hHn : H it = none := by
    cases q : H it with
    | none => rfl
    | some ob => have := X.st.dis _ _ q; rw [hC] at this; cases this
  have hdel : cdel C it it = none := by unfold cdel; rw [if_pos rfl]
  refine ⟨le0, ⟨X.kind, X.glob, X.blt, X.room, X.frames, X.frame, ?_, X.hno, ⟨fun a o' e => X.st.con a o' (sub a o' e), fun a o' e => ?_, fun a o' e => none' a (X.st.dis a o' e), fun a o' e => le0 a o' (X₀.st.base a o' e), X.st.gens, X.st.os, fun z hz => ?_⟩,
    ⟨?_, fun x o' hm hk => ?_, X.fr.kinds, X.fr.nd, X.fr.apart, ⟨none' _ X.fr.ownL.1, X.fr.ownL.2⟩, fun x c e => ?_⟩⟩, hdel, hHn, X.st.con _ _ hC, res, fun h => h.restrict res⟩
  · rcases X₀.hd with q | ⟨ha, ob, vs', q1, q2, q3, q4⟩
    · exact .inl q
    · exact .inr ⟨ha, ob, vs', q1, le0 _ _ q2, q3, q4⟩
  · obtain ⟨ob, e1, e2⟩ := X.st.hp a o' e
    exact ⟨ob, e1, e2.restrict res⟩
  · obtain ⟨x1, x2, L, x3, x4, r⟩ := X.st.zs z hz
    exact ⟨x1, x2, L, x3, none' _ x4, r⟩
  · obtain ⟨mm, hn, hv⟩ := X.fr.ns
    exact ⟨mm, hn, fun x lv hm hk => by obtain ⟨v, v1, v2⟩ := hv x lv hm hk; exact ⟨v, v1, v2.restrict res⟩⟩
  · obtain ⟨c, v, c1, c2, c3⟩ := X.fr.cell x o' hm hk
    exact ⟨c, v, c1, c2, fun lv e => by obtain ⟨u, u1, u2⟩ := c3 lv e; exact ⟨u, u1, u2.restrict res⟩⟩
  · obtain ⟨x1, r⟩ := X.fr.ownC x c e
    exact ⟨fun q => none' _ (x1 q), r⟩
end

/-- what the next of an iterator is -/
def NxPost (G : Gl) (k : Nat) (fl : Bool) (env : Env) (A : Around) (C : Cm) (Z : Zs) (m : Loc) (H : Hp) {κ : Type} (isIt : Cm → κ → Obj → Prop) (it : Addr) : Option (LV × κ) → Option Value → Shared → Prop
  | none, r, s' => r = none ∧ Inv G k fl env A C Z m H s'
  | some (lv, κ'), r, s' => ∃ v C' o', r = some v ∧ Cle C C' ∧ Inv G k fl env A C' Z m H s' ∧ VR C' lv v ∧ C' it = none ∧ s'.heap.get? it = some o' ∧ isIt C' κ' o'

structure Stp (G : Gl) where
  κ : Type
  isIt : Cm → κ → Obj → Prop
  nx : Hp → κ → Option (LV × κ) → Prop
  fields : ∀ {C x o}, isIt C x o → ∃ vs, o.data = .fields vs
  mono : ∀ {C C' x o}, (∀ a o, C a = some o → seqOrPlain o.data = true → C' a = some o) → isIt C x o → isIt C' x o
  next : ∀ {k fl env A C Z m H s it x o r} (E : Value → Shared → Prop), G.hn = true → Inv G k fl env A C Z m H s → s.heap.get? it = some o → isIt C x o → C it = none → H it = none → nx H x r →
    wpAny G.M A (pyNext (.ref it)) (NxPost G k fl env A C Z m H isIt it r) E s
  go : ∀ {k fl env A C Z m H s it x x' o lv v} (t : PySem.Expr) (E : Value → Shared → Prop), Inv G k fl env A C Z m H s → s.heap.get? it = some o → isIt C x' o → C it = none → H it = none → nx H x (some (lv, x')) → VR C lv v →
    wpAny G.M A (letOwnedTupleGo t (.ref it) v) (fun _ s' => Inv G k fl env A C Z m H s' ∧ ∃ o', s'.heap.get? it = some o' ∧ isIt C x' o') E s

  self : ∀ {A : Around} {C s it x o} {E Q : Value → Shared → Prop}, s.heap.get? it = some o → isIt C x o → Q (.ref it) s → wpAny G.M A (pyIter (.ref it)) Q E s

/-- an iterator of an expression -/
def ItPost (G : Gl) (k : Nat) (fl : Bool) (env : Env) (A : Around) (C : Cm) (Z : Zs) (m : Loc) (S : Stp G) (Q : S.κ → Hp → Prop) : Value → Shared → Prop := fun r s' => ∃ C' H' it x o, r = .ref it ∧ Cle C C' ∧ Inv G k fl env A C' Z m H' s' ∧ C' it = none ∧ H' it = none ∧ s'.heap.get? it = some o ∧ S.isIt C' x o ∧ Q x H'
def IT (G : Gl) (k : Nat) (fl : Bool) (sc : Scope) (S : Stp G) (e : PySem.Expr) (m : Loc) (H : Hp) (Q : S.κ → Hp → Prop) (X : Xc) : Prop :=
  ∀ env A C Z s, env.scope = sc → Inv G k fl env A C Z m H s → wpAny G.M A (eval e env) (fun x s1 => wpAny G.M A (pyIter x) (ItPost G k fl env A C Z m S Q) (XPost G k fl env A C Z m X) s1) (XPost G k fl env A C Z m X) s
/-- an iterator of a value -/
def IV (G : Gl) (S : Stp G) (lv : LV) (H : Hp) (Q : S.κ → Hp → Prop) (X : Xc) : Prop :=
  ∀ k fl env A C Z m s v, Inv G k fl env A C Z m H s → VR C lv v → wpAny G.M A (pyIter v) (ItPost G k fl env A C Z m S Q) (XPost G k fl env A C Z m X) s

section
variable {G : Gl} {k : Nat} {sc : Scope} {m : Loc} {H : Hp} {P : PQ}

theorem IT_val {fl : Bool} {S : Stp G} {e : PySem.Expr} {Q : S.κ → Hp → Prop} {X : Xc} (h : EV G k fl sc e m H (fun lv H1 => IV G S lv H1 Q X) X) : IT G k fl sc S e m H Q X := fun env A C Z s hs I =>
  wpAny_mono (h env A C Z s hs I) (fun v s1 ⟨C1, lv, H1, c1, I1, v1, q1⟩ =>
    wpAny_mono (q1 k fl env A C1 Z m s1 v I1 v1) (fun r s2 ⟨C2, H2, it, x, o, e, c2, q⟩ => ⟨C2, H2, it, x, o, e, c1.trans c2, q⟩) fun _ _ x => XPost.up c1 x) fun _ _ x => x

theorem EX_For {S : Stp G} {t it : PySem.Expr} {b o : List Stmt} {p : Pos} (hh : G.hn = true) (J : Nat → S.κ → Loc → Hp → Prop)
    (h : IT G k true sc S it m H (fun x H1 => ∃ n, J n x m H1) (fun c H' => P.x c m H'))
    (turn : ∀ n x m H, J n x m H → ∃ r, S.nx H x r ∧ (r = none → EXS G k sc o m H P) ∧ (∀ lv x', r = some (lv, x') → AS G k true sc t lv m H (fun m1 H1 => EXS G k sc b m1 H1 ⟨fun m' H' => ∃ n', n' < n ∧ J n' x' m' H', P.r, P.n, fun m' H' => ∃ n', n' < n ∧ J n' x' m' H', P.x⟩) P.x))
    (hf : ∀ env x, foldedSetIterable it env x = pure x := by intro _ _; with_unfolding_all rfl) : EX G k sc (.For t it b o p) m H P := fun env A C Z s hs I => by
  refine wpAny_For (wpAny_mono (h env A C Z s hs I) (fun v s1 h1 => wpAny_mono h1 (fun r s2 ⟨C0, H0, ia, x0, o0, e0, c0, I0, n0, n0', g0, i0, n, j0⟩ => ?_) fun _ _ x => x.xs fun _ _ q => q) fun _ _ x => x.xs fun _ _ q => q) (hf env)
  subst e0
  refine codeAny_forLoop_any (fun n s => ∃ C1 m1 H1 x o, Cle C0 C1 ∧ Inv G k true env A C1 Z m1 H1 s ∧ C1 ia = none ∧ H1 ia = none ∧ s.heap.get? ia = some o ∧ S.isIt C1 x o ∧ J n x m1 H1) (fun n s ⟨C1, m1, H1, x, ob, c1, I1, n1, n1', g1, i1, j1⟩ => ?_) n ⟨C0, m, H0, x0, o0, Cle.refl _, I0, n0, n0', g0, i0, j0⟩
  have up : ∀ {C'}, Cle C C' → ∀ e s', XsPost G k true env A C' Z P.x e s' → notedBy G.M A env (fun e s' => cameBackBy G.M A env (XsPost G k true env A C Z P.x) e s') e s' := fun c e s' x => (XsPost.up c x).came
  obtain ⟨r, hr, q1, q2⟩ := turn n x m1 H1 j1
  have cc := c0.trans c1
  refine wpAny_mono (S.next (r := r) _ hh I1 g1 i1 n1 n1' hr) (fun rv s3 h3 => ?_) fun e s' x => x
  cases r with
  | none =>
    obtain ⟨rfl, I3⟩ := h3
    exact wpAny_mono (q1 rfl env A C1 Z s3 hs I3) (fun f s4 h4 => FPost.up cc h4) fun e s' x => up cc e s' x
  | some pr =>
    obtain ⟨lv, x'⟩ := pr
    obtain ⟨v, C3, o3, rfl, c3, I3, v3, n3, g3, i3⟩ := h3
    refine wpAny_mono (S.go t _ I3 g3 i3 n3 n1' hr v3) (fun _ s4 ⟨I4, o4, g4, i4⟩ => ?_) fun e s' x => x
    obtain ⟨vs4, hd4⟩ := S.fields i4
    obtain ⟨c5, I5⟩ := I4.shown g4 hd4 n3 n1'
    refine wpAny_mono (q2 lv x' rfl env A _ Z s4 v hs I5 (v3.mono c5)) (fun _ s6 ⟨C6, m6, H6, c6, I6, q6⟩ => ?_) fun e s' x => up ((cc.trans c3).trans c5) e s' x
    refine wpAny_mono (q6 env A C6 Z s6 hs I6) (fun f s7 ⟨C7, m7, H7, c7, I7, q7⟩ => ?_) fun e s' x => up (((cc.trans c3).trans c5).trans c6) e s' x
    have hC7 : C7 ia = some o4 := c7 _ _ (c6 _ _ (cset_same C3 ia o4))
    have le : Cle C0 C7 := (((c1.trans c3).trans c5).trans c6).trans c7
    obtain ⟨y1, y2, y3, y4, y5, y6, y7⟩ := Inv.hidden I0 n0 le I7 hC7 (by rw [hd4]; rfl)
    have isIt7 : S.isIt (cdel C7 ia) x' o4 := S.mono (fun a oo e q => y6 a oo (c7 _ _ (c6 _ _ (c5 _ _ e))) q) i4
    cases f with
    | next => obtain ⟨n', l, j'⟩ := q7; exact ⟨n', l, _, m7, H7, x', o4, y1, y2, y3, y4, y5, isIt7, j'⟩
    | cont => obtain ⟨n', l, j'⟩ := q7; exact ⟨n', l, _, m7, H7, x', o4, y1, y2, y3, y4, y5, isIt7, j'⟩
    | brk => exact ⟨_, m7, H7, c0.trans y1, y2, q7⟩
    | ret v' => obtain ⟨lr, r1, r2⟩ := q7; exact ⟨_, m7, H7, c0.trans y1, y2, lr, y7 r1, r2⟩
end

end Go

end
section
set_option autoImplicit false
set_option linter.unusedVariables false
set_option linter.unusedSimpArgs false
set_option Elab.async false
namespace Go
open PySem PySem.W PyProof.Rows

section
variable {G : Gl} {k : Nat} {fl : Bool} {env : Env} {A : Around} {C C' : Cm} {Z : Zs} {m : Loc} {H : Hp} {s : Shared} {it : Addr} {h' : Heap} {tk : Nat}

theorem Inv.alienE (X : Inv G k fl env A C Z m H s) {o : Obj} {vs : Array Value} (ho : s.heap.get? it = some o) (hd : o.data = .fields vs) (hC : C it = none) (hH : H it = none) (hs : Heap.ExtBut it s.heap h') :
    Inv G k fl env A C Z m H { s with heap := h', toks := tk } := by
  obtain ⟨y1, y2, y3⟩ := X.notFields ho hd
  refine X.step (a := it) (fun b ob q e => hs b ob q e) (fun o' items n e1 _ e3 => ?_) hC y1 y2 y3 (fun _ _ _ e => e) (fun o' e => by rw [hH] at e; cases e) (Cle.refl C) (fun _ _ _ e => e) (fun o' e => by rw [hC] at e; cases e)
  rw [ho] at e1; cases e1; rw [hd] at e3; cases e3

theorem go_plain {o : Obj} {n : String} {t : PySem.Expr} {v : Value} {M : Model} {E : Value → Shared → Prop} {Q : Unit → Shared → Prop} (ho : s.heap.get? it = some o) (hc : o.cls = .type n)
    (hn : (["enumerate", "zip", "dict_itemiterator", "dict_reverseitemiterator", "odict_iterator", "itertools.zip_longest", "itertools.pairwise"].contains n) = false) (h : Q () s) : wpAny M A (letOwnedTupleGo t (.ref it) v) Q E s := by
  have key : ∀ a, wpAny M A (do
      let o ← load it
      match o.cls, o.data with
      | .type n, .fields vs =>
        if ["enumerate", "zip", "dict_itemiterator", "dict_reverseitemiterator", "odict_iterator", "itertools.zip_longest", "itertools.pairwise"].contains n && vs[0]? == some (rawInt a) then
          rule "for.unpacks-the-owned-tuple"
          updateField it 0 .none
      | _, _ => pure ()) Q E s := fun a => by
    refine wpAny_bind (wpAny_load ho ?_)
    rw [hc]
    cases o.data with
    | fields vs => simp only [hn, Bool.false_and, Bool.false_eq_true, if_false]; exact wpAny_pure h
    | _ => exact wpAny_pure h
  cases t with
  | Tuple es kd p => cases v with
    | ref a => exact key a
    | _ => exact wpAny_pure h
  | List es kd => cases v with
    | ref a => exact key a
    | _ => exact wpAny_pure h
  | _ => exact wpAny_pure h
end

def stpL (G : Gl) : Stp G where
  κ := Addr × Nat
  isIt := fun _ x o => o.cls = .type "list_iterator" ∧ o.data = .fields #[.ref x.1, .int x.2 0]
  nx := fun H x r => ∃ vs, H x.1 = some (.lst vs) ∧ r = (vs[x.2]?).map fun v => (v, (x.1, x.2 + 1))
  fields := fun h => ⟨_, h.2⟩
  mono := fun _ h => h
  next := by
    rintro k fl env A C Z m H s it ⟨a, i⟩ o r E hh I hg ⟨hc, hd⟩ hC hH ⟨vs, hH2, rfl⟩
    obtain ⟨us, h1, h2, h3, _⟩ := I.list hH2
    have hit : s.heap.IsListIter it a i := ⟨o, hg, hc, hd⟩
    cases hv : vs[i]? with
    | none =>
      refine wpAny_pyNext_list_end (I.hno hh) hit h1 (by rw [List.getElem?_toArray, List.getElem?_eq_none_iff, h3]; exact List.getElem?_eq_none_iff.mp hv) fun h' hx => ⟨rfl, I.alienE (tk := s.toks) hg hd hC hH hx⟩
    | some lv =>
      obtain ⟨v, v1, v2⟩ := h2.get hv
      refine wpAny_pyNext_list_item hit h1 (x := v) (by rw [List.getElem?_toArray]; exact v1) fun h' ⟨o', e1, e2, e3⟩ hx => ⟨v, C, o', rfl, Cle.refl C, I.alien (tk := s.toks) hg hd hC hH hx, v2, hC, e1, e2, e3⟩
  go := by
    rintro k fl env A C Z m H s it ⟨a, i⟩ ⟨a', i'⟩ o lv v t E I hg ⟨hc, hd⟩ hC hH hn hv
    exact go_plain hg hc (by decide) ⟨I, o, hg, hc, hd⟩
  self := by
    rintro A C s it ⟨a, i⟩ o E Q hg ⟨hc, hd⟩ hQ
    exact wpAny_pyIter_listiter (l := a) (i := i) ⟨o, hg, hc, hd⟩ hQ

def stpT (G : Gl) : Stp G where
  κ := List LV
  isIt := fun C l o => o.cls = .type "tuple_iterator" ∧ ∃ t i ls vs, o.data = .fields #[.ref t, .int (i : Nat) 0] ∧ (∃ ob n, C t = some ob ∧ ob.cls = .type "tuple" ∧ ob.data = .seq (List.toArray vs) n) ∧ VRs C ls vs ∧ l = ls.drop i
  nx := fun H l r => r = match l with | [] => none | v :: l' => some (v, l')
  fields := fun h => let ⟨_, _, _, _, _, e, _⟩ := h; ⟨_, e⟩
  mono := fun k ⟨h1, t, i, ls, vs, h2, ⟨ob, n, h3, h6, h7⟩, h4, h5⟩ => ⟨h1, t, i, ls, vs, h2, ⟨ob, n, k _ _ h3 (by rw [h7]; rfl), h6, h7⟩, h4.restrict k, h5⟩
  next := by
    rintro k fl env A C Z m H s it l o r E hh I hg ⟨hc, t, i, ls, vs, hd, hct, hvs, rfl⟩ hC hH rfl
    have ht : IsTup s.heap t (List.toArray vs) := by obtain ⟨ob, n, q1, q2, q3⟩ := hct; exact ⟨_, I.st.con t _ q1, q2, _, q3⟩
    have hit : IsTupIter s.heap it t i := ⟨o, hg, hc, hd⟩
    have hl := hvs.length
    cases hv : ls.drop i with
    | nil =>
      refine next_tuple_end (I.hno hh) hit ht (by rw [List.getElem?_toArray, List.getElem?_eq_none_iff, hl]; exact List.drop_eq_nil_iff.mp hv) fun h' hx => ⟨rfl, I.alienE (tk := s.toks) hg hd hC hH hx⟩
    | cons lv l' =>
      have hi : i < ls.length := by
        rcases Nat.lt_or_ge i ls.length with q | q
        · exact q
        · rw [List.drop_eq_nil_of_le q] at hv; cases hv
      rw [List.drop_eq_getElem_cons hi, List.cons.injEq] at hv
      obtain ⟨v, v1, v2⟩ := hvs.get (i := i) (l := lv) (by rw [List.getElem?_eq_getElem hi, hv.1])
      refine next_tuple_item hit ht (x := v) (by rw [List.getElem?_toArray]; exact v1) fun h' ⟨o', e1, e2, e3⟩ hx => ⟨v, C, o', rfl, Cle.refl C, I.alien (tk := s.toks) hg hd hC hH hx, v2, hC, e1, e2, t, i + 1, ls, vs, e3, hct, hvs, hv.2.symm⟩
  go := by
    rintro k fl env A C Z m H s it l l' o lv v t E I hg ⟨hc, r⟩ hC hH hn hv
    exact go_plain hg hc (by decide) ⟨I, o, hg, hc, r⟩
  self := by
    rintro A C s it l o E Q hg ⟨hc, t, i, ls, vs, hd, _⟩ hQ
    exact wpAny_pyIter_tupleiter (t := t) (i := i) ⟨o, hg, hc, hd⟩ hQ

/-- a list that nobody changes -/
def stpR (G : Gl) : Stp G where
  κ := List LV
  isIt := fun C l o => o.cls = .type "list_iterator" ∧ ∃ t i ls vs ob n, o.data = .fields #[.ref t, .int (i : Nat) 0] ∧ C t = some ob ∧ ob.cls = .type "list" ∧ ob.data = .seq (List.toArray vs) n ∧ VRs C ls vs ∧ l = ls.drop i
  nx := fun H l r => r = match l with | [] => none | v :: l' => some (v, l')
  fields := fun h => let ⟨_, _, _, _, _, _, _, e, _⟩ := h; ⟨_, e⟩
  mono := fun k ⟨h1, t, i, ls, vs, ob, n, h2, h3, h6, h7, h4, h5⟩ => ⟨h1, t, i, ls, vs, ob, n, h2, k _ _ h3 (by rw [h7]; rfl), h6, h7, h4.restrict k, h5⟩
  next := by
    rintro k fl env A C Z m H s it l o r E hh I hg ⟨hc, t, i, ls, vs, ob, n, hd, hct, hoc, hod, hvs, rfl⟩ hC hH rfl
    have ht : s.heap.IsList t (List.toArray vs) := ⟨_, I.st.con t _ hct, hoc, _, hod⟩
    have hit : s.heap.IsListIter it t i := ⟨o, hg, hc, hd⟩
    have hl := hvs.length
    cases hv : ls.drop i with
    | nil =>
      refine wpAny_pyNext_list_end (I.hno hh) hit ht (by rw [List.getElem?_toArray, List.getElem?_eq_none_iff, hl]; exact List.drop_eq_nil_iff.mp hv) fun h' hx => ⟨rfl, I.alienE (tk := s.toks) hg hd hC hH hx⟩
    | cons lv l' =>
      have hi : i < ls.length := by
        rcases Nat.lt_or_ge i ls.length with q | q
        · exact q
        · rw [List.drop_eq_nil_of_le q] at hv; cases hv
      rw [List.drop_eq_getElem_cons hi, List.cons.injEq] at hv
      obtain ⟨v, v1, v2⟩ := hvs.get (i := i) (l := lv) (by rw [List.getElem?_eq_getElem hi, hv.1])
      refine wpAny_pyNext_list_item hit ht (x := v) (by rw [List.getElem?_toArray]; exact v1) fun h' ⟨o', e1, e2, e3⟩ hx => ⟨v, C, o', rfl, Cle.refl C, I.alien (tk := s.toks) hg hd hC hH hx, v2, hC, e1, e2, t, i + 1, ls, vs, ob, n, e3, hct, hoc, hod, hvs, hv.2.symm⟩
  go := by
    rintro k fl env A C Z m H s it l l' o lv v t E I hg ⟨hc, r⟩ hC hH hn hv
    exact go_plain hg hc (by decide) ⟨I, o, hg, hc, r⟩
  self := by
    rintro A C s it l o E Q hg ⟨hc, t, i, ls, vs, ob, n, hd, _⟩ hQ
    exact wpAny_pyIter_listiter (l := t) (i := i) ⟨o, hg, hc, hd⟩ hQ

def stpN (G : Gl) : Stp G where
  κ := Int × Nat
  isIt := fun _ x o => o = { cls := .type "range_iterator", dict := none, data := .fields #[rawInt x.1, rawInt x.2, rawInt 1], slots := #[] }
  nx := fun H x r => r = match x.2 with | 0 => none | n + 1 => some (.int x.1, (x.1 + 1, n))
  fields := fun h => by subst h; exact ⟨_, rfl⟩
  mono := fun _ h => h
  next := by
    rintro k fl env A C Z m H s it ⟨a, n⟩ o r E hh I hg rfl hC hH rfl
    cases n with
    | zero => exact wpAny_pyNext_range_end (I.hno hh) hg (by simp) fun h' hx => ⟨rfl, I.alienE (tk := s.toks) hg rfl hC hH hx⟩
    | succ n =>
      refine wpAny_pyNext_range_item hg (by omega) fun h' e1 hx => ⟨_, C, _, rfl, Cle.refl C, I.alien hg rfl hC hH hx, ⟨_, rfl⟩, hC, e1, ?_⟩
      have : ((n + 1 : Nat) : Int) - 1 = (n : Int) := by omega
      simp only [this]
  go := by
    rintro k fl env A C Z m H s it l l' o lv v t E I hg hc hC hH hn hv
    exact go_plain hg (by rw [hc]) (by decide) ⟨I, o, hg, hc⟩
  self := by
    rintro A C s it ⟨a, n⟩ o E Q hg rfl hQ
    exact wpAny_pyIter_rangeiter (x := a) (left := n) (step := 1) hg hQ

def stpS (G : Gl) : Stp G where
  κ := Str × Nat
  isIt := fun _ x o => o.cls = .type "str_ascii_iterator" ∧ ∃ t, o.data = .fields #[.str x.1 t, .int x.2 0]
  nx := fun H x r => r = (x.1.cps[x.2]?).map fun c => (.str ⟨#[c]⟩, (x.1, x.2 + 1))
  fields := fun h => let ⟨_, _, e⟩ := h; ⟨_, e⟩
  mono := fun _ h => h
  next := by
    rintro k fl env A C Z m H s it ⟨x, i⟩ o r E hh I hg ⟨hc, t, hd⟩ hC hH rfl
    have hit : s.heap.IsStrIter it "str_ascii_iterator" x t i := ⟨o, hg, hc, hd⟩
    cases hv : x.cps[i]? with
    | none => exact wpAny_pyNext_ascii_end (I.hno hh) hit hv fun h' hx => ⟨rfl, I.alienE (tk := s.toks) hg hd hC hH hx⟩
    | some c => exact wpAny_pyNext_ascii_item hit hv fun h' ⟨o', e1, e2, e3⟩ hx => ⟨_, C, o', rfl, Cle.refl C, I.alien hg hd hC hH hx, ⟨_, rfl⟩, hC, e1, e2, t, e3⟩
  go := by
    rintro k fl env A C Z m H s it l l' o lv v t E I hg ⟨hc, r⟩ hC hH hn hv
    exact go_plain hg hc (by decide) ⟨I, o, hg, hc, r⟩
  self := by
    rintro A C s it ⟨x, i⟩ o E Q hg ⟨hc, t, hd⟩ hQ
    exact wpAny_pyIter_striter_ascii (x := x) (t := t) (i := i) ⟨o, hg, hc, hd⟩ hQ

section
variable {G : Gl} {k : Nat} {sc : Scope} {m : Loc} {H : Hp} {X : Xc}

theorem IV_list {a : Addr} {vs : List LV} {Q : (stpL G).κ → Hp → Prop} (hH : H a = some (.lst vs)) (h : Q (a, 0) H) : IV G (stpL G) (.ref a) H Q X := fun k fl env A C Z m s v I hv => by
  cases hv
  obtain ⟨us, h1, h2, h3, _⟩ := I.list hH
  refine wpAny_pyIter_list h1 ?_
  have hn : s.heap.get? s.heap.objs.size = none := Heap.get?_none_of_le (Nat.le_refl _)
  obtain ⟨f1, f2, _⟩ := I.fresh hn
  exact ⟨C, H, _, (a, 0), _, rfl, Cle.refl C, I.keeps (tk := s.toks) (fun b o e => Heap.get?_push_of_some _ e), f1, f2, Heap.get?_push_size _ rfl, ⟨rfl, rfl⟩, h⟩
theorem IV_tup {ls : List LV} {Q : (stpT G).κ → Hp → Prop} (h : Q ls H) : IV G (stpT G) (.tup ls) H Q X := fun k fl env A C Z m s v I hv => by
  obtain ⟨a, vs, rfl, hC, hvs⟩ := hv
  obtain ⟨ob, n, q1, q2, q3⟩ := hC
  refine iter_tuple (t := a) (items := List.toArray vs) ⟨_, I.st.con a _ q1, q2, _, q3⟩ ?_
  have hn : s.heap.get? s.heap.objs.size = none := Heap.get?_none_of_le (Nat.le_refl _)
  obtain ⟨f1, f2, _⟩ := I.fresh hn
  exact ⟨C, H, _, ls, _, rfl, Cle.refl C, I.keeps (tk := s.toks) (fun b o e => Heap.get?_push_of_some _ e), f1, f2, Heap.get?_push_size _ rfl, ⟨rfl, a, 0, ls, vs, rfl, ⟨ob, n, q1, q2, q3⟩, hvs, by simp⟩, h⟩
theorem IV_ro {a : Addr} {ls : List LV} {Q : (stpR G).κ → Hp → Prop} (h : Q ls H) : IV G (stpR G) (.ro a ls) H Q X := fun k fl env A C Z m s v I hv => by
  obtain ⟨rfl, o, n, vs, hC, ho1, ho2, hvs⟩ := hv
  refine wpAny_pyIter_list (items := List.toArray vs) ⟨_, I.st.con a _ hC, ho1, _, ho2⟩ ?_
  have hn : s.heap.get? s.heap.objs.size = none := Heap.get?_none_of_le (Nat.le_refl _)
  obtain ⟨f1, f2, _⟩ := I.fresh hn
  exact ⟨C, H, _, ls, _, rfl, Cle.refl C, I.keeps (tk := s.toks) (fun b o e => Heap.get?_push_of_some _ e), f1, f2, Heap.get?_push_size _ rfl, ⟨rfl, a, 0, ls, vs, o, n, rfl, hC, ho1, ho2, hvs, by simp⟩, h⟩
theorem IV_str {x : Str} {Q : (stpS G).κ → Hp → Prop} (h : Q (x, 0) H) (ha : x.cps.all (· < 128) = true) : IV G (stpS G) (.str x) H Q X := fun k fl env A C Z m s v I hv => by
  obtain ⟨t, rfl⟩ := hv
  refine wpAny_pyIter_ascii ha ?_
  have hn : s.heap.get? s.heap.objs.size = none := Heap.get?_none_of_le (Nat.le_refl _)
  obtain ⟨f1, f2, _⟩ := I.fresh hn
  exact ⟨C, H, _, (x, 0), _, rfl, Cle.refl C, I.keeps (tk := s.toks) (fun b o e => Heap.get?_push_of_some _ e), f1, f2, Heap.get?_push_size _ rfl, ⟨rfl, t, rfl⟩, h⟩
end

end Go

end
section
set_option autoImplicit false
set_option linter.unusedVariables false
set_option linter.unusedSimpArgs false
set_option Elab.async false
namespace Go
open PySem PySem.W PyProof.Rows PySem.Calls

def GNm (G : Gl) (x : Str) (v : Value) : Prop := G.mg x = some v ∨ (G.mg x = none ∧ G.mb x = some v)

section
variable {G : Gl} {k : Nat} {fl : Bool} {env : Env} {A : Around} {C C' : Cm} {Z : Zs} {m : Loc} {H : Hp} {s : Shared}

theorem Inv.keep (X : Inv G k fl env A C Z m H s) : ∀ b o, G.h₀.get? b = some o → s.heap.get? b = some o := fun b o e => X.st.con b o (X.st.base b o e)
theorem Inv.kin (X : Inv G k fl env A C Z m H s) : G.K.In s.heap := fun b o e => X.keep b o (G.kin b o e)
theorem Ns.keep {h h' : Heap} {a : Addr} {mm : Str → Option Value} (x : h.Ns a mm) (k : ∀ b o, h.get? b = some o → h'.get? b = some o) : h'.Ns a mm := by
  obtain ⟨o, es, ep, e1, r⟩ := x
  exact ⟨o, es, ep, k _ _ e1, r⟩
theorem Inv.name (X : Inv G k fl env A C Z m H s) {x : Str} {p : Pos} {v : Value} {E : Value → Shared → Prop} {Q : Value → Shared → Prop} (hx : env.kindOf x = some .globalImplicit) (hg : GNm G x v) (hd : (x == ("__debug__" : Str)) = false) (hQ : Q v s) :
    wpAny G.M A (eval (.Name x p) env) Q E s := by
  refine Name_function_global X.kind hx ?_ hd
  have n1 : s.heap.Ns env.globals G.mg := by rw [X.glob]; exact Ns.keep G.gns X.keep
  have n2 : s.heap.Ns env.builtins G.mb := by rw [X.blt]; exact Ns.keep G.bns X.keep
  rcases hg with h | ⟨h1, h2⟩
  · exact loadGlobal_global n1 h hQ
  · exact loadGlobal_builtin n1 h1 n2 h2 hQ
end

/-- the arguments of a call -/
def AR (G : Gl) (k : Nat) (fl : Bool) (sc : Scope) (es : List PySem.Expr) (m : Loc) (H : Hp) (Q : List LV → Hp → Prop) (X : Xc) : Prop :=
  (∀ pos env, (backTo pos (starEach es env)).any (·.1) = false) ∧ ∀ pos env A C Z s, env.scope = sc → Inv G k fl env A C Z m H s →
    wpAny G.M A (spliced (backTo pos (starEach es env))) (fun vs s' => ∃ C' lvs H', Cle C C' ∧ Inv G k fl env A C' Z m H' s' ∧ VRs C' lvs vs ∧ Q lvs H') (XPost G k fl env A C Z m X) s

theorem evalArgs_any {M : Model} {A : Around} {E : Value → Shared → Prop} {s : Shared} {f : Value} : ∀ {args : List (Bool × Sem Value)} {Q : Args → Shared → Prop}, args.any (·.1) = false → wpAny M A (spliced args) (fun vs s' => Q ⟨vs, []⟩ s') E s → wpAny M A (evalArgs f true args []) Q E s
  | [], Q, _, h => by
    unfold evalArgs
    show wpAny M A (spliced [] >>= _) Q E s
    refine wpAny_bind (wpAny_mono h (fun vs s' h' => ?_) fun _ _ x => x)
    refine wpAny_holding ?_
    exact wpAny_bind (wpAny_pure (wpAny_bind (wpAny_pure (wpAny_pure h'))))
  | (true, x) :: rest, Q, ha, _ => by simp at ha
  | (false, x) :: rest, Q, ha, h => evalArgs_plain h

section
variable {G : Gl} {k : Nat} {fl : Bool} {sc : Scope} {m : Loc} {H : Hp} {Q : Qv} {X : Xc}

theorem AR_nil {Q : List LV → Hp → Prop} (h : Q [] H) : AR G k fl sc [] m H Q X := ⟨fun _ _ => rfl, fun pos env A C Z s hs I => wpAny_pure ⟨C, [], H, Cle.refl C, I, rfl, h⟩⟩
theorem AR_cons {e : PySem.Expr} {es : List PySem.Expr} {Q : List LV → Hp → Prop} (h : EV G k fl sc e m H (fun lv H1 => AR G k fl sc es m H1 (fun lvs H2 => Q (lv :: lvs) H2) X) X)
    (hp : ∀ pos env, (backTo pos (starEach es env)).any (·.1) = false := by intro _ _; with_unfolding_all rfl) (he : ∀ env, starEach (e :: es) env = (false, eval e env) :: starEach es env := by intro _; with_unfolding_all rfl) : AR G k fl sc (e :: es) m H Q X := by
  refine ⟨fun pos env => ?_, fun pos env A C Z s hs I => ?_⟩
  · rw [he env]; show (false || (backTo pos (starEach es env)).any (·.1)) = false; rw [hp]; rfl
  · rw [he env]
    show wpAny _ _ (spliced ((false, eval e env) :: backTo pos (starEach es env))) _ _ _
    refine spliced_cons (wpAny_mono (h env A C Z s hs I) (fun v s1 ⟨C1, lv, H1, c1, I1, v1, q1⟩ => ?_) fun _ _ x => x)
    exact wpAny_mono (q1.2 pos env A C1 Z s1 hs I1) (fun vs s2 ⟨C2, lvs, H2, c2, I2, v2, q2⟩ => ⟨C2, lv :: lvs, H2, c1.trans c2, I2, ⟨v, vs, rfl, v1.mono c2, v2⟩, q2⟩) fun _ _ x => XPost.up c1 x

theorem callK {f : Value} {es : List PySem.Expr} {first : List Value} {lfirst : List LV} {pos : Pos} {env : Env} {A : Around} {C : Cm} {Z : Zs} {s : Shared} (hk : keepIn G.K f = true) (hs : env.scope = sc) (I : Inv G k fl env A C Z m H s) (hf : VRs C lfirst first)
    (h : AR G k fl sc es m H (fun lvs H1 => CALL G k f (lfirst ++ lvs) H1 Q X) X) : wpAny G.M A (callWith pos f first (backTo pos (starEach es env)) []) (Post G k fl env A C Z m Q) (XPost G k fl env A C Z m X) s := by
  have key := h.2 pos env A C Z s hs I
  have h2 : wpAny G.M A (spliced (backTo pos (starEach es env))) (fun vs s₁ => G.K.In s₁.heap ∧ wpAny G.M A (call f (first ++ vs)) (Post G k fl env A C Z m Q) (XPost G k fl env A C Z m X) s₁) (XPost G k fl env A C Z m X) s :=
    wpAny_mono key (fun vs s1 ⟨C1, lvs, H1, c1, I1, v1, q1⟩ => ⟨I1.kin, wpAny_mono (q1 fl env A C1 Z m s1 (first ++ vs) I1 ((hf.mono c1).append v1)) (fun _ _ x => Post.up c1 x) fun _ _ x => XPost.up c1 x⟩) fun _ _ x => x
  refine callWith_of (P := G.K.In) (by rw [h.1 pos env]; rfl) (keeps_K hk) (evalArgs_any (h.1 pos env) h2)
theorem callB {id : String} {es : List PySem.Expr} {first : List Value} {lfirst : List LV} {pos : Pos} {env : Env} {A : Around} {C : Cm} {Z : Zs} {s : Shared} (hs : env.scope = sc) (I : Inv G k fl env A C Z m H s) (hf : VRs C lfirst first)
    (h : AR G k fl sc es m H (fun lvs H1 => CALL G k (.builtin id) (lfirst ++ lvs) H1 Q X) X) : wpAny G.M A (callWith pos (.builtin id) first (backTo pos (starEach es env)) []) (Post G k fl env A C Z m Q) (XPost G k fl env A C Z m X) s :=
  callWith_builtin (h.1 pos env) (evalArgs_any (h.1 pos env) (wpAny_mono (h.2 pos env A C Z s hs I) (fun vs s1 ⟨C1, lvs, H1, c1, I1, v1, q1⟩ =>
    wpAny_mono (q1 fl env A C1 Z m s1 (first ++ vs) I1 ((hf.mono c1).append v1)) (fun _ _ x => Post.up c1 x) fun _ _ x => XPost.up c1 x) fun _ _ x => x))
theorem callT {T : String} {es : List PySem.Expr} {pos : Pos} {env : Env} {A : Around} {C : Cm} {Z : Zs} {s : Shared} (hs : env.scope = sc) (I : Inv G k fl env A C Z m H s)
    (h : AR G k fl sc es m H (fun lvs H1 => CALL G k (.type T) lvs H1 Q X) X) : wpAny G.M A (callWith pos (.type T) [] (backTo pos (starEach es env)) []) (Post G k fl env A C Z m Q) (XPost G k fl env A C Z m X) s :=
  PyProof.Rows.callWith_type (h.1 pos env) (evalArgs_any (h.1 pos env) (wpAny_mono (h.2 pos env A C Z s hs I) (fun vs s1 ⟨C1, lvs, H1, c1, I1, v1, q1⟩ =>
    wpAny_mono (q1 fl env A C1 Z m s1 vs I1 v1) (fun _ _ x => Post.up c1 x) fun _ _ x => XPost.up c1 x) fun _ _ x => x))

/-- calls by a global name -/
theorem EV_CallK {x : Str} {np pos : Pos} {f : Value} {es : List PySem.Expr} (hx : sc.names.lookup x = some .globalImplicit) (hg : GNm G x f) (hk : keepIn G.K f = true) (h : AR G k fl sc es m H (fun lvs H1 => CALL G k f lvs H1 Q X) X) (hd : (x == ("__debug__" : Str)) = false := by decide +kernel) :
    EV G k fl sc (.Call (.Name x np) es [] pos) m H Q X := fun env A C Z s hs I =>
  Call_Name rfl (I.name (by subst hs; exact hx) hg hd (callK hk hs I (lfirst := []) rfl h))
theorem EV_CallB {x : Str} {np pos : Pos} {id : String} {es : List PySem.Expr} (hx : sc.names.lookup x = some .globalImplicit) (hg : GNm G x (.builtin id)) (h : AR G k fl sc es m H (fun lvs H1 => CALL G k (.builtin id) lvs H1 Q X) X) (hd : (x == ("__debug__" : Str)) = false := by decide +kernel) :
    EV G k fl sc (.Call (.Name x np) es [] pos) m H Q X := fun env A C Z s hs I =>
  Call_Name rfl (I.name (by subst hs; exact hx) hg hd (callB hs I (lfirst := []) rfl h))
theorem EV_CallT {x : Str} {np pos : Pos} {T : String} {es : List PySem.Expr} (hx : sc.names.lookup x = some .globalImplicit) (hg : GNm G x (.type T)) (h : AR G k fl sc es m H (fun lvs H1 => CALL G k (.type T) lvs H1 Q X) X) (hd : (x == ("__debug__" : Str)) = false := by decide +kernel) :
    EV G k fl sc (.Call (.Name x np) es [] pos) m H Q X := fun env A C Z s hs I =>
  Call_Name rfl (I.name (by subst hs; exact hx) hg hd (callT hs I h))

/-- a value of the machine's own type -/
def OfT (H : Hp) (T : String) : LV → Prop
  | .ref a => match H a with
    | some (.lst _) => T = "list"
    | some (.pset _) => T = "set"
    | some (.sset _) => T = "set"
    | some (.sdict _) => T = "dict"
    | some (.pdict _ _) => T = "dict"
    | _ => False
  | .str _ => T = "str"
  | _ => False
theorem OfT.at {T : String} {env : Env} {A : Around} {C : Cm} {Z : Zs} {s : Shared} {lv : LV} {v : Value} (o : OfT H T lv) (I : Inv G k fl env A C Z m H s) (hv : VR C lv v) : s.TypeIs v T ∧ ∀ a, v = .ref a → ∃ ob, s.heap.get? a = some ob ∧ ob.dict = none := by
  cases lv with
  | str x => obtain ⟨t, rfl⟩ := hv; cases o; exact ⟨typeIs_str s x t, fun a q => nomatch q⟩
  | ref a =>
    cases hv
    unfold OfT at o
    cases hH : H a with
    | none => simp [hH] at o
    | some lo =>
      obtain ⟨ob, e1, e2⟩ := I.st.hp a _ hH
      simp only [hH] at o
      cases lo with
      | lst vs => subst o; exact ⟨⟨ob, e1, e2.1⟩, fun b q => by cases q; exact ⟨ob, e1, e2.2.1⟩⟩
      | pset vs => subst o; exact ⟨⟨ob, e1, e2.1.1⟩, fun b q => by cases q; exact ⟨ob, e1, e2.1.2.1⟩⟩
      | sset vs => subst o; exact ⟨⟨ob, e1, e2.1.1⟩, fun b q => by cases q; exact ⟨ob, e1, e2.1.2.1⟩⟩
      | sdict vs => subst o; exact ⟨⟨ob, e1, e2.1⟩, fun b q => by cases q; exact ⟨ob, e1, e2.2.1⟩⟩
      | pdict vs ep => subst o; exact ⟨⟨ob, e1, e2.1⟩, fun b q => by cases q; exact ⟨ob, e1, e2.2.1⟩⟩
      | psetx _ _ _ => exact o.elim
      | ns vs => exact o.elim
  | _ => exact o.elim

theorem EV_Meth {o : PySem.Expr} {name : Str} {apos pos : Pos} {es : List PySem.Expr} {T id : String} (pa : PlainAttrs T) (slot : Slot T name id) (hty : typeOf (.builtin id) = pure (.type "method_descriptor"))
    (h : EV G k fl sc o m H (fun lv H1 => OfT H1 T lv ∧ AR G k fl sc es m H1 (fun lvs H2 => CALL G k (.builtin id) (lv :: lvs) H2 Q X) X) X)
    (hbase : ∀ env, attributeBase o name env (eval o env) = eval o env := by intro _; with_unfolding_all rfl)
    (hfew : ∀ env, ((backTo pos (starEach es env)).all (fun x => !x.1) && (backToKw pos (keywordEach [] env)).all (fun x => x.1.isSome) && decide (es.length + ([] : List Keyword).length + (if ([] : List Keyword).isEmpty then 0 else 1) < 30)) = true := by intro _; with_unfolding_all rfl)
    (hline : (apos.endLine == pos.line) = true := by with_unfolding_all rfl) : EV G k fl sc (.Call (.Attribute o name apos) es [] pos) m H Q X := fun env A C Z s hs I =>
  wpAny_Call_method_late (hbase env) (hfew env) hline rfl (wpAny_mono (h env A C Z s hs I) (fun v s1 ⟨C1, lv, H1, c1, I1, v1, o1, q1⟩ => by
    obtain ⟨t1, t2⟩ := o1.at I1 v1
    refine ⟨T, id, pa, slot, hty, t1, t2, ?_⟩
    exact wpAny_mono (callB hs I1 (lfirst := [lv]) (first := [v]) (VRs.single v1) q1) (fun _ _ x => Post.up c1 x) fun _ _ x => XPost.up c1 x) fun _ _ x => x)
end

end Go

end
section
set_option autoImplicit false
set_option linter.unusedVariables false
set_option linter.unusedSimpArgs false
set_option Elab.async false
namespace Go
open PySem PySem.W PyProof.Rows PySem.Calls

/-- a name in an object's dict -/
def aput : List (Str × LV) → Str → LV → List (Str × LV)
  | [], x, v => [(x, v)]
  | (y, w) :: r, x, v => if y = x then (y, v) :: r else (y, w) :: aput r x v
theorem aput_length : ∀ {fs : List (Str × LV)} {x : Str} {v : LV}, (aput fs x v).length ≤ fs.length + 1
  | [], _, _ => Nat.le_refl _
  | (y, w) :: r, x, v => by
    rw [aput]; split
    · simp
    · simp only [List.length_cons]; exact Nat.succ_le_succ aput_length
theorem aput_get : ∀ {fs : List (Str × LV)} {x y : Str} {v : LV}, (aput fs x v).lookup y = if y = x then some v else fs.lookup y
  | [], x, y, v => by
    rw [aput, List.lookup_cons]
    by_cases q : y = x
    · subst q; simp
    · have : (y == x) = false := by simpa using q
      simp [this, q]
  | (z, w) :: r, x, y, v => by
    rw [aput]
    by_cases q : z = x
    · subst q
      rw [if_pos rfl, List.lookup_cons, List.lookup_cons]
      by_cases q2 : y = z
      · subst q2; simp
      · have : (y == z) = false := by simpa using q2
        simp [this, q2]
    · rw [if_neg q, List.lookup_cons, List.lookup_cons]
      by_cases q2 : y = z
      · subst q2; simp [q]
      · have : (y == z) = false := by simpa using q2
        rw [this]; exact aput_get

theorem isStr_str (x y : Str) (t : Tok) : (Value.str x t).isStr y = (x == y) := rfl

theorem SEnt.length {G : Gl} {C : Cm} : ∀ {fs : List (Str × LV)} {es : List DictEntry}, SEnt G C fs es → es.length = fs.length
  | [], _, h => by cases h; rfl
  | (_, _) :: _, _, ⟨e, r, q, _, _, _, h4⟩ => by subst q; simp [SEnt.length h4]
theorem SEnt.noRef {G : Gl} {C : Cm} : ∀ {fs : List (Str × LV)} {es : List DictEntry}, SEnt G C fs es → es.any (·.refKey) = false
  | [], _, h => by cases h; rfl
  | (_, _) :: _, _, ⟨e, r, q, _, ⟨t, h2⟩, _, h4⟩ => by subst q; rw [List.any_cons, SEnt.noRef h4]; unfold DictEntry.refKey; rw [h2]; rfl
theorem SEnt.find {G : Gl} {C : Cm} {name : Str} : ∀ {fs : List (Str × LV)} {es : List DictEntry}, SEnt G C fs es →
    match fs.lookup name with | some lv => ∃ e, es.find? (·.key.isStr name) = some e ∧ VR C lv e.val | none => es.find? (·.key.isStr name) = none
  | [], _, h => by cases h; rfl
  | (x, l) :: fs, _, ⟨e, r, q, _, ⟨t, h2⟩, h3, h4⟩ => by
    subst q
    rw [List.lookup_cons, List.find?_cons]
    have hk : e.key.isStr name = (x == name) := by rw [h2]; exact isStr_str x name t
    rw [hk]
    by_cases q : name = x
    · subst q; simp only [beq_self_eq_true]; exact ⟨e, rfl, h3⟩
    · have h1 : (name == x) = false := by simpa using q
      have h2 : (x == name) = false := by simpa using fun z => q (Eq.symm z)
      rw [h1, h2]; exact SEnt.find h4
theorem SEnt.put {G : Gl} {C : Cm} {name : Str} {t : Tok} {lv : LV} {v : Value} (hv : VR C lv v) : ∀ {fs : List (Str × LV)} {es : List DictEntry}, SEnt G C fs es →
    SEnt G C (aput fs name lv) (putIn (·.key.isStr name) (fun e => { e with val := v }) ⟨PyData.keyHash G.w.params name, .str name t, v⟩ es)
  | [], _, h => by cases h; exact ⟨_, [], rfl, rfl, ⟨t, rfl⟩, hv, rfl⟩
  | (x, l) :: fs, _, ⟨e, r, q, h1, ⟨u, h2⟩, h3, h4⟩ => by
    subst q
    rw [aput]
    have hk : e.key.isStr name = (x == name) := by rw [h2]; exact isStr_str x name u
    by_cases q : x = name
    · subst q
      rw [if_pos rfl, putIn_hit _ _ _ _ _ (by rw [hk]; simp)]
      exact ⟨_, r, rfl, h1, ⟨u, h2⟩, hv, h4⟩
    · rw [if_neg q, putIn_miss _ _ _ _ _ (by rw [hk]; simpa using q)]
      exact ⟨e, _, rfl, h1, ⟨u, h2⟩, h3, SEnt.put hv h4⟩

section
variable {G : Gl} {k : Nat} {fl : Bool} {env : Env} {A A' : Around} {C C' : Cm} {Z : Zs} {m m' : Loc} {H H' : Hp} {s s' : Shared}

/-- the object of a class -/
theorem Inv.inst (X : Inv G k fl env A C Z m H s) {c x d : Addr} {v : Value} {fs : List (Str × LV)} (hv : VR C (.inst c x d) v) (hd : H d = some (.ns fs)) :
    v = .ref x ∧ ∃ od es n, s.heap.get? d = some od ∧ od.data = .dict (List.toArray es) n ∧ SEnt G C fs es ∧ fs.length ≤ 900 ∧ InstAt s.heap x (instObj c d) c (some od) ∧ od.cls = .type "dict" ∧ od.dict = none ∧ od.slots = #[] := by
  obtain ⟨rfl, hC⟩ := hv
  obtain ⟨od, e1, a1, a2, a3, a4, es, n, e2, e3⟩ := X.st.hp d _ hd
  exact ⟨rfl, od, es, n, e1, e2, e3, a4, ⟨X.st.con x _ hC, rfl, rfl, e1⟩, a1, a2, a3⟩

theorem lookIn_of {G : Gl} {C : Cm} {fs : List (Str × LV)} {es : List DictEntry} {n : Nat} {od : Obj} {name : Str} (hd : od.data = .dict (List.toArray es) n) (h : SEnt G C fs es) :
    match fs.lookup name with | some lv => ∃ v, lookIn name od = some (some v) ∧ VR C lv v | none => lookIn name od = some none := by
  have f := h.find (name := name)
  unfold lookIn
  rw [hd]
  dsimp only
  cases q : fs.lookup name with
  | some lv => rw [q] at f; obtain ⟨e, e1, e2⟩ := f; exact ⟨e.val, by rw [e1], e2⟩
  | none => rw [q] at f; dsimp only at f ⊢; rw [f, h.noRef]; rfl

theorem VR.handed {lv : LV} {v : Value} (h : VR C lv v) : handedIn v = true := by
  cases lv with
  | none => cases h; rfl
  | bool _ => cases h; rfl
  | int _ => obtain ⟨t, rfl⟩ := h; rfl
  | str _ => obtain ⟨t, rfl⟩ := h; rfl
  | tup _ => obtain ⟨a, vs, rfl, _⟩ := h; rfl
  | ref _ => cases h; rfl
  | inst _ _ _ => obtain ⟨rfl, _⟩ := h; rfl
  | ro _ _ => obtain ⟨rfl, _⟩ := h; rfl

/-- what a class must be, to have its objects' attributes read and stored -/
def ObjCls (K : Frag) (c : Addr) : Bool :=
  (findIn K (.ref c) "__getattribute__" == some (some (.builtin "object.__getattribute__"))) && (findIn K (.ref c) "__getattr__" == some none) &&
  (findIn K (.ref c) "__setattr__" == some (some (.builtin "object.__setattr__"))) && plainOver K c && (clsIn K c).any (·.hasDict)
/-- a name that the class has not -/
def NoAttr (K : Frag) (c : Addr) (name : Str) : Bool := findIn K (.ref c) name == some none

theorem findObj_of {K : Frag} {c : Addr} {od : Obj} {name : Str} {v : Value} (hc : ObjCls K c = true) (hn : NoAttr K c name = true) (hl : lookIn name od = some (some v)) : findObj K c (some od) name = some (.value v) := by
  simp only [ObjCls, Bool.and_eq_true, beq_iff_eq] at hc
  obtain ⟨_, h⟩ := hc
  obtain ⟨cd, h1, h2⟩ := any_some h
  simp only [NoAttr, beq_iff_eq] at hn
  unfold findObj
  rw [h1, hn]
  simp only [Option.bind_some, PySem.W.ownOf, h2, if_true, hl]

theorem GA_inst (X : Inv G k fl env A C Z m H s) {c x d : Addr} {v : Value} {fs : List (Str × LV)} {name : Str} {lv : LV} {expr : Bool} (hv : VR C (.inst c x d) v) (hd : H d = some (.ns fs)) (hc : ObjCls G.K c = true) (hn : NoAttr G.K c name = true) (hl : fs.lookup name = some lv)
    {E : Value → Shared → Prop} {Q : Value → Shared → Prop} (h : ∀ v tk, VR C lv v → Inv G k fl env A C Z m H { s with toks := tk } → Q v { s with toks := tk }) : wpAny G.M A (getAttr v name expr) Q E s := by
  obtain ⟨rfl, od, es, n, e1, e2, e3, e4, I, _⟩ := X.inst hv hd
  have l := lookIn_of (name := name) e2 e3
  rw [hl] at l
  obtain ⟨u, l1, l2⟩ := l
  have hc' := hc
  simp only [ObjCls, Bool.and_eq_true, beq_iff_eq] at hc'
  exact get_value X.kin I hc'.1.1.1.1 (findObj_of hc hn l1) l2.handed (h u _ l2 X.toks)

theorem SA_inst (X : Inv G k fl env A C Z m H s) {c x d : Addr} {v u : Value} {fs : List (Str × LV)} {name : Str} {lv : LV} (hv : VR C (.inst c x d) v) (hd : H d = some (.ns fs)) (hc : ObjCls G.K c = true) (hn : NoAttr G.K c name = true) (hu : VR C lv u) (hz : fs.length < 900)
    {E : Value → Shared → Prop} {Q : Unit → Shared → Prop} (h : ∀ s', Inv G k fl env A C Z m (hset H d (.ns (aput fs name lv))) s' → Q () s') : wpAny G.M A (setAttr v name u) Q E s := by
  obtain ⟨rfl, od, es, n, e1, e2, e3, e4, I, a1, a2, a3⟩ := X.inst hv hd
  have hc' := hc
  simp only [ObjCls, Bool.and_eq_true, beq_iff_eq] at hc'
  obtain ⟨⟨⟨⟨_, _⟩, hs⟩, hp⟩, hh⟩ := hc'
  simp only [NoAttr, beq_iff_eq] at hn
  obtain ⟨cd, hcd, hdc⟩ := any_some hh
  refine set_plain X.kin I hs ?_
  have X1 : Inv G k fl env A C Z m H { s with toks := s.toks + 1 } := X.toks
  refine osa_open (s := { s with toks := s.toks + 1 }) X1.kin I hp (r := none) (by unfold takerIn; rw [hn]; rfl) fun b => ?_
  have len := e3.length
  obtain ⟨oc, odi, oda, osl⟩ := od
  dsimp only at a1 a2 a3 e2
  subst a1 a2 a3 e2
  have key : ∀ tk, Obj.putName name (PyData.keyHash G.w.params name) (.str name tk) u ⟨.type "dict", none, .dict (List.toArray es) n, #[]⟩ =
      ⟨.type "dict", none, .dict (List.toArray (putIn (·.key.isStr name) (fun e => { e with val := u }) ⟨PyData.keyHash G.w.params name, .str name tk, u⟩ es)) (if es.any (·.key.isStr name) then n else n + 1), #[]⟩ := fun tk => putName_eq ..
  have D := e1
  refine wpAny_bind (wpAny_pure (wpAny_bind (wpAny_bind (wpAny_loadPart I.at_ (wpAny_bind ((looks_clsIn X1.kin hcd).here ?_))))))
  rw [hdc]
  refine wpAny_pure (a := some d) (wpAny_bind (wpAny_pure (wpAny_bind ?_)))
  unfold nsSet
  refine wpAny_bind (wpAny_bind (wpAny_askSetting (wpAny_pure (wpAny_bind (wpAny_mkText (wpAny_bind (wpAny_loadPart D ?_)))))))
  dsimp only
  have c0 : (!(List.toArray es).any (·.key.isStr name) && (List.toArray es).any (·.refKey)) = false := by
    have := e3.noRef
    rw [List.any_toArray, List.any_toArray, this, Bool.and_false]
  rw [aRefKeyMayBeTheName_at, c0]
  refine wpAny_updatePart D ?_
  have sp := e3.put (name := name) (t := s.toks + 1) hu
  have D' : (s.heap.update d (Obj.putName name (PyData.keyHash G.w.params name) (.str name (s.toks + 1)) u)).get? d = _ := Heap.get?_update_self _ D (by rw [key]; rfl)
  rw [key] at D'
  refine wpAny_bind (wpAny_lookBehind D' (by exact pastItsLine_dict (by rw [List.size_toArray, sp.length, sizeLine_eq]; have := @aput_length fs name lv; omega)) ?_)
  refine wpAny_pure (h _ (X.upd (tk := s.toks + 1 + 1) hd (Heap.SameBut.update ..) D' ⟨rfl, rfl, rfl, ?_, _, _, rfl, sp⟩))
  have := @aput_length fs name lv
  omega
end

section
variable {G : Gl} {k : Nat} {fl : Bool} {sc : Scope} {m : Loc} {H : Hp} {Q : Qv} {X : Xc}

theorem EV_Attr {e : PySem.Expr} {name : Str} {pos : Pos} (h : EV G k fl sc e m H (fun lv H1 => ∃ c x d fs r, lv = .inst c x d ∧ H1 d = some (.ns fs) ∧ ObjCls G.K c = true ∧ NoAttr G.K c name = true ∧ fs.lookup name = some r ∧ Q r H1) X)
    (he : ∀ env, eval (.Attribute e name pos) env = (do
      let o ← eval e env
      standAt pos.atName
      let r ← holding [o] (getAttr o name true)
      letTemporaryGo e o r
      pure r) := by intro _; with_unfolding_all rfl) : EV G k fl sc (.Attribute e name pos) m H Q X := fun env A C Z s hs I =>
  Attribute_any_ (wpAny_mono (h env A C Z s hs I) (fun v s1 ⟨C1, lv, H1, c1, I1, v1, c, x, d, fs, r, e1, h1, h2, h3, h4, q1⟩ => by
    subst e1
    exact GA_inst I1 v1 h1 h2 h3 h4 fun u tk hu I2 => ⟨C1, r, H1, c1, I2, hu, q1⟩) fun _ _ x => x) (he env)
theorem SA_of {c x d : Addr} {fs : List (Str × LV)} {name : Str} {lv : LV} {N : Hp → Prop} (hd : H d = some (.ns fs)) (hc : ObjCls G.K c = true) (hn : NoAttr G.K c name = true) (hz : fs.length < 900) (h : N (hset H d (.ns (aput fs name lv)))) : SA G name (.inst c x d) lv H N X :=
  fun k fl env A C Z m s va vc I ha hc' => SA_inst I ha hd hc hn hc' hz fun s' I' => ⟨C, _, Cle.refl C, I', h⟩
end
end Go

end
section
set_option autoImplicit false
set_option linter.unusedVariables false
set_option linter.unusedSimpArgs false
set_option Elab.async false
namespace Go
open PySem PySem.W PyProof.Rows PySem.Calls

abbrev tcall (c : Addr) (vals : List Value) : Code := .builtin "type.__call__" ⟨.ref c :: vals, []⟩
theorem tcall_depth (A : Around) (c : Addr) (vals : List Value) : (A.under (tcall c vals)).depth = A.depth + 1 := rfl
theorem tcall_units (A : Around) (c : Addr) (vals : List Value) : (A.under (tcall c vals)).units = A.units + 1 := rfl
theorem tcall_frames (A : Around) (c : Addr) (vals : List Value) : (A.under (tcall c vals)).frames = A.frames := rfl
theorem tcall_handled (A : Around) (c : Addr) (vals : List Value) : (A.under (tcall c vals)).handled = A.handled := rfl

section
variable {G : Gl} {k k' : Nat} {fl : Bool} {env : Env} {A A' : Around} {C C' : Cm} {Z : Zs} {m m' : Loc} {H H' : Hp} {s s' : Shared}

theorem Inv.in1 (X : Inv G (k + 1) fl env A C Z m H s) (c : Addr) (vals : List Value) : Inv G k fl env (A.under (tcall c vals)) C Z m H s :=
  ⟨X.kind, X.glob, X.blt, ⟨by have := X.room.1; rw [tcall_depth]; omega, by have := X.room.2; rw [tcall_units]; omega⟩, (tcall_frames A c vals).trans X.frames, X.frame, by have := X.hd; unfold HOk at this ⊢; rwa [tcall_handled], fun q => (tcall_handled A c vals).trans (X.hno q), X.st, X.fr⟩
theorem Inv.out1 (X : Inv G (k + 1) fl env A C Z m H s) {c : Addr} {vals : List Value} (Y : Inv G k fl env (A.under (tcall c vals)) C' Z m' H' s') : Inv G (k + 1) fl env A C' Z m' H' s' :=
  ⟨X.kind, X.glob, X.blt, X.room, X.frames, X.frame, by have := Y.hd; unfold HOk at this ⊢; rwa [tcall_handled] at this, X.hno, Y.st, Y.fr⟩
theorem ExI.out1 (X : Inv G (k + 1) fl env A C Z m H s) {c : Addr} {vals : List Value} {cls : Xk} {e : Value} (Y : ExI G k fl env (A.under (tcall c vals)) C' Z m' H' cls e s') : ExI G (k + 1) fl env A C' Z m' H' cls e s' := by
  obtain ⟨ea, r, ⟨h, a, b⟩ | ⟨a, b⟩⟩ := Y
  · exact ⟨ea, r, .inl ⟨h, X.out1 a, b⟩⟩
  · exact ⟨ea, r, .inr ⟨X.out1 a, b⟩⟩
end

section
variable {G : Gl} {k : Nat} {fl : Bool} {sc : Scope} {m : Loc} {H : Hp} {Q : Qv} {X : Xc}

/-- a new object of a class -/
theorem CODE_cls {c fI : Addr} {as : List LV} (hm : makesIn G.K c = true) (hi : findIn G.K (.ref c) "__init__" = some (some (.ref fI))) (hf : typeIn G.K (.ref fI) = some (.type "function"))
    (h : ∀ x d, H d = none → CODE G k (.ref fI) (.inst c x d :: as) (hset H d (.ns [])) (fun lv H' => lv = .none ∧ Q (.inst c x d) H') X) : CODE G (k + 1) (.ref c) as H Q X := fun fl env A C Z m s vals I hv => by
  obtain ⟨hh, g, dd, t, os⟩ := s
  have I1 : Inv G k fl env (A.under (tcall c vals)) C Z m H ⟨hh, g, dd, t, os⟩ := I.in1 c vals
  refine make_core (makes_of I.kin hm) (looks_findIn I.kin hi) (fun self => bind_fn I.kin self hf) (.inl rfl) ?_
  have n0 : hh.get? hh.objs.size = none := Heap.get?_none_of_le (Nat.le_refl _)
  obtain ⟨f1, J1⟩ := I1.allocH (tk := t) (h' := hh.push emptyDict) n0 (fun b o e => Heap.get?_push_of_some _ e) (Heap.get?_push_size _ rfl) (o := .ns []) ⟨rfl, rfl, rfl, by simp, [], 0, rfl, rfl⟩
  have n1 : (hh.push emptyDict).get? (hh.objs.size + 1) = none := Heap.get?_none_of_le (by rw [Heap.size_push]; exact Nat.le_refl _)
  obtain ⟨le, J2⟩ := J1.allocC (tk := t) (h' := (hh.push emptyDict).push (instObj c hh.objs.size)) (a := hh.objs.size + 1) (ob := instObj c hh.objs.size) n1 (fun b o e => Heap.get?_push_of_some _ e) (by
    have := Heap.get?_push_size (hh.push emptyDict) (o := instObj c hh.objs.size) rfl; rwa [Heap.size_push] at this)
  have hself : VR (cset C (hh.objs.size + 1) (instObj c hh.objs.size)) (.inst c (hh.objs.size + 1) hh.objs.size) (.ref (hh.objs.size + 1)) := ⟨rfl, cset_same _ _ _⟩
  refine codeAny_mono (h (hh.objs.size + 1) hh.objs.size f1 fl env (A.under (tcall c vals)) _ Z m _ (.ref (hh.objs.size + 1) :: vals) J2 ⟨_, _, rfl, hself, hv.mono le⟩) fun r s' z => ?_
  rcases r with e | (v | _ | _ | _)
  · obtain ⟨C2, cls, H2, c2, x2, q2⟩ := z
    exact ⟨C2, cls, H2, le.trans c2, ExI.out1 I x2, q2⟩
  all_goals first | exact z.elim | skip
  obtain ⟨C2, lv, H2, c2, I2, v2, rfl, q2⟩ := z
  cases v2
  exact ⟨rfl, C2, _, H2, le.trans c2, I.out1 I2, hself.mono c2, q2⟩

theorem CODE_cls0 {c : Addr} (hm : makesIn G.K c = true) (hi : findIn G.K (.ref c) "__init__" = some (some (.builtin "object.__init__")))
    (h : ∀ x d, H d = none → Q (.inst c x d) (hset H d (.ns []))) : CODE G (k + 1) (.ref c) [] H Q X := fun fl env A C Z m s vals I hv => by
  cases hv
  obtain ⟨hh, g, dd, t, os⟩ := s
  refine make_core (makes_of I.kin hm) (looks_findIn I.kin hi) (fun self => Looks.of_pure (oi_bind self)) (.inr ⟨rfl, rfl⟩) ?_
  have n0 : hh.get? hh.objs.size = none := Heap.get?_none_of_le (Nat.le_refl _)
  obtain ⟨f1, J1⟩ := I.allocH (tk := t) (h' := hh.push emptyDict) n0 (fun b o e => Heap.get?_push_of_some _ e) (Heap.get?_push_size _ rfl) (o := .ns []) ⟨rfl, rfl, rfl, by simp, [], 0, rfl, rfl⟩
  have n1 : (hh.push emptyDict).get? (hh.objs.size + 1) = none := Heap.get?_none_of_le (by rw [Heap.size_push]; exact Nat.le_refl _)
  have g1 : ((hh.push emptyDict).push (instObj c hh.objs.size)).get? (hh.objs.size + 1) = some (instObj c hh.objs.size) := by
    have := Heap.get?_push_size (hh.push emptyDict) (o := instObj c hh.objs.size) rfl; rwa [Heap.size_push] at this
  obtain ⟨le, J2⟩ := J1.allocC (tk := t) (h' := (hh.push emptyDict).push (instObj c hh.objs.size)) (a := hh.objs.size + 1) (ob := instObj c hh.objs.size) n1 (fun b o e => Heap.get?_push_of_some _ e) g1
  have Y := makes_of (M := G.M) I.kin hm
  have t1 : Looks G.M ((hh.push emptyDict).push (instObj c hh.objs.size)) (typeOf (.ref (hh.objs.size + 1))) (.ref c) := (Looks.ld g1).andThen .now
  have t2 : Looks G.M ((hh.push emptyDict).push (instObj c hh.objs.size)) (isInstance (.ref (hh.objs.size + 1)) (.type "object")) true := t1.andThen (Y.top.keeps fun b o e => Heap.get?_push_of_some _ (Heap.get?_push_of_some _ e))
  refine codeAny_call_builtin oi_plain entry_oi (@check_slot G.M _ _ _ "object.__init__" "object" "__init__" (.ref (hh.objs.size + 1)) [] [] _ oi_kind oi_split t2 (oi_args (.ref (hh.objs.size + 1))) ?_)
  rw [oi_run]
  exact wpAny_pure (And.intro rfl ⟨_, .inst c (hh.objs.size + 1) hh.objs.size, _, le, J2, ⟨rfl, cset_same _ _ _⟩, h _ _ f1⟩)

/-- a method of an object -/
theorem EV_OMeth {o : PySem.Expr} {name : Str} {apos pos : Pos} {es : List PySem.Expr}
    (h : EV G k fl sc o m H (fun lv H1 => ∃ c x d fs f, lv = .inst c x d ∧ H1 d = some (.ns fs) ∧ ObjCls G.K c = true ∧ findIn G.K (.ref c) name = some (some (.ref f)) ∧ typeIn G.K (.ref f) = some (.type "function") ∧ keepIn G.K (.ref f) = true ∧ fs.lookup name = none ∧
      AR G k fl sc es m H1 (fun lvs H2 => CALL G k (.ref f) (.inst c x d :: lvs) H2 Q X) X) X)
    {pl : Env → Sem Bool} (he : ∀ env, eval (.Call (.Attribute o name apos) es [] pos) env = (do
      let ov ← eval o env
      standAt apos.atName
      let (f, first) ← holding [ov] (getMethod ov name (pl env))
      callWith pos f first (backTo pos (starEach es env)) []) := by intro _; with_unfolding_all rfl) : EV G k fl sc (.Call (.Attribute o name apos) es [] pos) m H Q X := fun env A C Z s hs I =>
  MethodCall_ (wpAny_mono (h env A C Z s hs I) (fun v s1 ⟨C1, lv, H1, c1, I1, v1, c, x, d, fs, f, e1, h1, h2, h3, h4, h5, h6, q1⟩ => by
    subst e1
    obtain ⟨rfl, od, esd, n, e1, e2, e3, e4, I', _⟩ := I1.inst v1 h1
    have l := lookIn_of (name := name) e2 e3
    rw [h6] at l
    have hc' := h2
    simp only [ObjCls, Bool.and_eq_true, beq_iff_eq] at hc'
    refine method_fn I1.kin I' hc'.1.1.1.1 hc'.1.1.1.2 h3 h4 (by unfold shadowIn; dsimp only; rw [l]; rfl) ?_
    exact wpAny_mono (callK h5 hs I1 (first := [.ref x]) (lfirst := [.inst c x d]) (VRs.single v1) q1) (fun _ _ x => Post.up c1 x) fun _ _ x => XPost.up c1 x) fun _ _ x => x) (he env)
end

end Go

end
section
set_option autoImplicit false
set_option linter.unusedVariables false
set_option linter.unusedSimpArgs false
set_option Elab.async false
namespace Go
open PySem PySem.W PyProof.Rows PySem.Calls

def lk (m : Loc) (x : Str) : Option LV := (m.lookup x).join
def comp0 : List (Str × NameKind) → Loc → Loc
  | [], _ => []
  | (n, .local) :: r, m => (n, none) :: comp0 r m
  | (n, .free) :: r, m => (n, lk m n) :: comp0 r m
  | (_, .cell) :: r, m => comp0 r m
  | (_, .globalImplicit) :: r, m => comp0 r m
  | (_, .globalExplicit) :: r, m => comp0 r m

theorem comp0_mem : ∀ {names : List (Str × NameKind)} {m : Loc} {x : Str} {o : Option LV}, (x, o) ∈ comp0 names m → ((x, NameKind.local) ∈ names ∧ o = none) ∨ ((x, NameKind.free) ∈ names ∧ o = lk m x)
  | (n, kd) :: r, m, x, o, h => by
    have tail : (x, o) ∈ comp0 r m → ((x, NameKind.local) ∈ (n, kd) :: r ∧ o = none) ∨ ((x, NameKind.free) ∈ (n, kd) :: r ∧ o = lk m x) := fun h2 =>
      (comp0_mem h2).imp (fun q => ⟨List.mem_cons_of_mem _ q.1, q.2⟩) fun q => ⟨List.mem_cons_of_mem _ q.1, q.2⟩
    cases kd with
    | «local» =>
      rcases List.mem_cons.mp h with e | h2
      · cases e; exact .inl ⟨List.mem_cons_self, rfl⟩
      · exact tail h2
    | free =>
      rcases List.mem_cons.mp h with e | h2
      · cases e; exact .inr ⟨List.mem_cons_self, rfl⟩
      · exact tail h2
    | cell => exact tail h
    | globalImplicit => exact tail h
    | globalExplicit => exact tail h
theorem comp0_keys : ∀ {names : List (Str × NameKind)} {m : Loc}, ((comp0 names m).map (·.1)).Sublist (names.map (·.1))
  | [], _ => List.Sublist.refl _
  | (n, kd) :: r, m => by
    cases kd with
    | «local» => exact List.Sublist.cons_cons _ comp0_keys
    | free => exact List.Sublist.cons_cons _ comp0_keys
    | cell => exact List.Sublist.cons _ (comp0_keys (names := r) (m := m))
    | globalImplicit => exact List.Sublist.cons _ (comp0_keys (names := r) (m := m))
    | globalExplicit => exact List.Sublist.cons _ (comp0_keys (names := r) (m := m))

theorem closure_aux {env : Env} : ∀ (names : List (Str × NameKind)) (acc : List (Str × Addr)), (∀ n, (n, NameKind.free) ∈ names → ∃ c, env.cells.lookup n = some c) →
    ∃ cl, (forIn names acc fun x (cs : List (Str × Addr)) => (if (x.2 == .free) = true then do let a ← cellOf env x.1; pure (ForInStep.yield ((x.1, a) :: cs)) else pure (ForInStep.yield cs) : Sem _)) = pure cl ∧
      (∀ n c, cl.lookup n = some c → env.cells.lookup n = some c ∨ acc.lookup n = some c) ∧ ∀ n, ((n, NameKind.free) ∈ names ∨ ∃ c, acc.lookup n = some c) → ∃ c, cl.lookup n = some c
  | [], acc, _ => ⟨acc, rfl, fun n c h => .inr h, fun n h => h.elim (fun q => nomatch q) id⟩
  | (x, kd) :: r, acc, h => by
    rw [List.forIn_cons]
    by_cases q : (kd == NameKind.free) = true
    · obtain ⟨c, hc⟩ := h x (by rw [beq_iff_eq] at q; subst q; exact List.mem_cons_self)
      obtain ⟨cl, h1, h2, h3⟩ := closure_aux r ((x, c) :: acc) fun n hn => h n (List.mem_cons_of_mem _ hn)
      refine ⟨cl, ?_, fun n c' e => ?_, fun n e => ?_⟩
      · simp only [q, if_true]
        have : cellOf env x = pure c := by unfold cellOf; rw [hc]
        rw [this]; exact h1
      · rcases h2 n c' e with e | e
        · exact .inl e
        · rw [List.lookup_cons] at e
          split at e
          · rename_i z; rw [beq_iff_eq] at z; subst z; cases e; exact .inl hc
          · exact .inr e
      · refine h3 n ?_
        rcases e with e | ⟨c', e⟩
        · rcases List.mem_cons.mp e with z | z
          · cases z; exact .inr ⟨c, by simp⟩
          · exact .inl z
        · by_cases z : n = x
          · subst z; exact .inr ⟨c, by simp⟩
          · exact .inr ⟨c', by rw [List.lookup_cons, show (n == x) = false by simpa using z]; exact e⟩
    · obtain ⟨cl, h1, h2, h3⟩ := closure_aux r acc fun n hn => h n (List.mem_cons_of_mem _ hn)
      refine ⟨cl, ?_, h2, fun n e => h3 n ?_⟩
      · simp only [q, if_false]; exact h1
      · rcases e with e | e
        · rcases List.mem_cons.mp e with z | z
          · cases z; exact absurd rfl q
          · exact .inl z
        · exact .inr e
theorem closure_of {env : Env} {scope : Scope} (h : ∀ n, (n, NameKind.free) ∈ scope.names → ∃ c, env.cells.lookup n = some c) :
    ∃ cl, closureFor scope env = pure cl ∧ (∀ n c, cl.lookup n = some c → env.cells.lookup n = some c) ∧ ∀ n, (n, NameKind.free) ∈ scope.names → ∃ c, cl.lookup n = some c := by
  obtain ⟨cl, h1, h2, h3⟩ := closure_aux (env := env) scope.names [] h
  refine ⟨cl, ?_, fun n c e => (h2 n c e).resolve_right (fun q => nomatch q), fun n e => h3 n (.inl e)⟩
  unfold closureFor
  exact congrArg (fun t : Sem (List (Str × Addr)) => t >>= fun r => pure r) h1

theorem relabel_lookup {env : Env} {scope : Scope} {x : Str} {kd : NameKind} (nd : (scope.names.map (·.1)).Nodup) (h : (x, kd) ∈ scope.names) :
    (relabel scope env).names.lookup x = some (if (kd == .free && env.scope.kind == .function && env.kindOf x == some .cell) then .cell else kd) := by
  obtain ⟨i, hi⟩ := List.getElem?_of_mem h
  refine lookup_nodup (i := i) ?_ ?_
  · unfold relabel
    rw [List.map_map]
    have : ((fun x : Str × NameKind => x.1) ∘ fun x : Str × NameKind => match x with | (n, k) => if (k == NameKind.free && env.scope.kind == .function && env.kindOf n == some .cell) = true then (n, NameKind.cell) else (n, k)) = fun x => x.1 := by
      funext ⟨n, k⟩; dsimp only [Function.comp]; split <;> rfl
    rw [this]; exact nd
  · show (List.map _ scope.names)[i]? = _
    rw [List.getElem?_map, hi]
    dsimp only [Option.map]
    split <;> rfl

section
variable {G : Gl} {k : Nat} {fl : Bool} {env : Env} {A : Around} {C C' : Cm} {Z : Zs} {m m' : Loc} {H H' : Hp} {s s' : Shared} {h' : Heap} {tk : Nat} {L : Addr}

theorem mem_lk (nd : (m.map (·.1)).Nodup) {x : Str} {o : Option LV} (h : (x, o) ∈ m) : lk m x = o := by
  obtain ⟨i, hi⟩ := List.getElem?_of_mem h
  unfold lk
  rw [lookup_nodup nd hi]; rfl

/-- into a comprehension's block -/
theorem Inv.comp (X : Inv G k fl env A C Z m H s) {o : Obj} (ho : s.heap.get? env.locals = some o) {scope : Scope} (hkind : scope.kind = .function) (hnd : (scope.names.map (·.1)).Nodup) {cl : List (Str × Addr)}
    (hcl1 : ∀ n c, cl.lookup n = some c → env.cells.lookup n = some c) (hcl2 : ∀ n, (n, NameKind.free) ∈ scope.names → ∃ c, cl.lookup n = some c)
    (hfm : ∀ n, (n, NameKind.free) ∈ scope.names → (∃ o, (n, o) ∈ m) ∧ env.kindOf n ≠ some .local) (hL : s.heap.get? L = none) (kp : ∀ b o, s.heap.get? b = some o → h'.get? b = some o) (hns : h'.Ns L fun _ => none) :
    Inv G k false (compEnvC scope cl L env) A (aside fl env C s.heap) (asideZ fl env o.data Z) (comp0 scope.names m) H { s with heap := h', toks := tk } := by
  have st0 := St.aside X ho
  have st1 := st0.keeps (tk := tk) kp
  have le0 := aside_le X
  have fr := X.fresh hL
  have kinds : ∀ x kd, (x, kd) ∈ scope.names → (compEnvC scope cl L env).kindOf x = some (if (kd == .free && env.scope.kind == .function && env.kindOf x == some .cell) then .cell else kd) := fun x kd h => relabel_lookup hnd h
  have Lz : ∀ z, z ∈ asideZ fl env o.data Z → z.1.frame ≠ some L := fun z hz q => by
    obtain ⟨_, _, L', x3, _, _, ob, x6, _⟩ := st0.zs z hz
    rw [q] at x3; cases x3
    rw [x6] at hL; cases hL
  refine ⟨hkind, X.glob, X.blt, X.room, ?_, (fun q => nomatch q), X.hd.mono (fun a o _ e _ => le0 a o e), X.hno, st1, ⟨⟨_, hns, fun x lv hm hk => ?_⟩, fun x o' hm hk => ?_, fun x o' hm => ?_, ?_, fun x y c h1 h2 => ?_, ⟨?_, fr.2.1, Lz⟩, fun x c h1 => ?_⟩⟩
  · rw [X.frames]; cases fl <;> rfl
  · rcases comp0_mem hm with ⟨_, q⟩ | ⟨q, _⟩
    · cases q
    · rw [kinds x _ q] at hk; split at hk <;> cases hk
  · rcases comp0_mem hm with ⟨q, _⟩ | ⟨q, rfl⟩
    · rw [kinds x _ q] at hk; exact absurd rfl hk
    · obtain ⟨c, hc⟩ := hcl2 x q
      obtain ⟨⟨o2, hm2⟩, hk2⟩ := hfm x q
      obtain ⟨c', v, c1, c2, c3⟩ := X.fr.cell x o2 hm2 hk2
      rw [hcl1 x c hc] at c1; cases c1
      obtain ⟨ob, b1, b2⟩ := c2
      refine ⟨c, v, hc, ⟨ob, kp _ _ b1, b2⟩, fun lv e => ?_⟩
      rw [mem_lk X.fr.nd hm2] at e
      obtain ⟨u, u1, u2⟩ := c3 lv e
      exact ⟨u, u1, u2.mono le0⟩
  · rcases comp0_mem hm with ⟨q, _⟩ | ⟨q, _⟩
    · left; rw [kinds x _ q]; rfl
    · right; rw [kinds x _ q]; split
      · exact .inl rfl
      · exact .inr rfl
  · exact hnd.sublist comp0_keys
  · exact X.fr.apart x y c (hcl1 x c h1) (hcl1 y c h2)
  · cases q : aside fl env C s.heap L with
    | none => exact q
    | some ob => rw [st0.con L ob q] at hL; cases hL
  · obtain ⟨x1, x2, x3, x4, v, ob, b1, b2⟩ := X.fr.ownC x c (hcl1 x c h1)
    refine ⟨(fun q => nomatch q), x2, (show c ≠ L from fun q => by rw [← q, b1] at hL; cases hL), fun z hz q => ?_, v, ob, kp _ _ b1, b2⟩
    cases fl with
    | false => exact x4 z hz q
    | true =>
      rcases List.mem_cons.mp hz with rfl | hz
      · have q : env.frame = some c := q
        rw [X.frame rfl] at q; cases q; exact x3 rfl
      · exact x4 z hz q

/-- out of it -/
theorem Inv.uncomp (X : Inv G k fl env A C Z m H s) {o : Obj} (ho : s.heap.get? env.locals = some o) {env' : Env} (Y : Inv G k false env' A C' (asideZ fl env o.data Z) m' H' s') (hC : Cle (aside fl env C s.heap) C') (hs : Heap.SameBut env'.locals s'.heap h') :
    Cle C (unaside C env C') ∧ Inv G k fl env A (unaside C env C') Z m H' { s' with heap := h' } ∧ ∀ {lv v}, VR C' lv v → VR (unaside C env C') lv v := by
  refine X.back ho hC ?_
  obtain ⟨mm, ⟨ol, es, ep, e1, e2, _⟩, _⟩ := Y.fr.ns
  refine Y.st.step (a := env'.locals) (tk := s'.toks) (fun b o q e => (hs.2 b q).trans e) (fun ob items n q1 _ q3 => ?_) Y.fr.ownL.1 Y.fr.ownL.2.2 (fun _ _ _ e => e) (fun o' e => by rw [Y.fr.ownL.2.1] at e; cases e) (Cle.refl _) (fun _ _ _ e => e) (fun o' e => by rw [Y.fr.ownL.1] at e; cases e)
  rw [e1] at q1; cases q1; rw [e2] at q3; cases q3
end

end Go

end
section
set_option autoImplicit false
set_option linter.unusedVariables false
set_option linter.unusedSimpArgs false
set_option Elab.async false
namespace Go
open PySem PySem.W PyProof.Rows PySem.Calls

def relS (scope sc : Scope) : Scope := { scope with names := scope.names.map fun (n, k) => if (k == .free && sc.kind == .function && sc.names.lookup n == some .cell) then (n, .cell) else (n, k) }
theorem relS_eq (scope : Scope) (env : Env) : relabel scope env = relS scope env.scope := rfl

def noX : Xc := fun _ _ => False
theorem noXE {G : Gl} {k : Nat} {fl : Bool} {env : Env} {A : Around} {C : Cm} {Z : Zs} {m : Loc} {e : Value} {s : Shared} (h : XPost G k fl env A C Z m noX e s) : False := by
  obtain ⟨_, _, _, _, _, q⟩ := h; exact q
theorem noXsE {G : Gl} {k : Nat} {fl : Bool} {env : Env} {A : Around} {C : Cm} {Z : Zs} {e : Value} {s : Shared} (h : XsPost G k fl env A C Z (fun _ _ _ => False) e s) : False := by
  obtain ⟨_, _, _, _, _, _, q⟩ := h; exact q

section
variable (G : Gl) (k : Nat) (sc : Scope)
/-- the tests of a comprehension -/
def TSs (ifs : List PySem.Expr) (m : Loc) (H : Hp) (Q : Bool → Hp → Prop) : Prop :=
  ∀ env A C Z s, env.scope = sc → Inv G k false env A C Z m H s → wpAny G.M A (forIn ifs true fun c r => if r = true then do let ok ← isTrue c env (eval c env); pure (ForInStep.yield ok) else pure (ForInStep.yield r)) (BPost G k false env A C Z m Q) (fun _ _ => False) s
/-- what is done at a turn -/
def INN (act : Env → Value → Sem Unit) (D : Addr) (m : Loc) (H : Hp) (N : Loc → Hp → Prop) : Prop :=
  ∀ env A C Z s, env.scope = sc → Inv G k false env A C Z m H s → wpAny G.M A (act env (.ref D)) (fun _ s' => ∃ C' m' H', Cle C C' ∧ Inv G k false env A C' Z m' H' s' ∧ N m' H') (fun _ _ => False) s
/-- the start of a level -/
def CS (S : Stp G) (e : PySem.Expr) (d : Nat) (D : Addr) (x : S.κ) (m : Loc) (H : Hp) (N : Loc → Hp → Prop) : Prop :=
  ∀ env A C Z s it o, env.scope = sc → Inv G k false env A C Z m H s → C it = none → H it = none → s.heap.get? it = some o → S.isIt C x o →
    codeAny G.M A (.compStart e d (.ref it) (.ref D) env) (fun r s' => (∃ f, r = .ok f) ∧ ∃ C' m' H', Cle C C' ∧ Inv G k false env A C' Z m' H' s' ∧ N m' H') s
end

section
variable {G : Gl} {k : Nat} {sc : Scope} {m : Loc} {H : Hp}

theorem TSs_nil {Q : Bool → Hp → Prop} (h : Q true H) : TSs G k sc [] m H Q := fun env A C Z s hs I => wpAny_pure ⟨C, H, Cle.refl C, I, h⟩
theorem TSs_one {c : PySem.Expr} {Q : Bool → Hp → Prop} (h : TS G k false sc c m H Q noX) : TSs G k sc [c] m H Q := fun env A C Z s hs I => by
  simp only [List.forIn_cons, List.forIn_nil, if_true]
  exact wpAny_bind (wpAny_bind (wpAny_mono (h env A C Z s hs I) (fun b s' hb => wpAny_pure (wpAny_pure hb)) fun _ _ x => noXE x))

theorem list_push {A : Around} {C : Cm} {Z : Zs} {fl : Bool} {env : Env} {s : Shared} (I : Inv G k fl env A C Z m H s) {D : Addr} {vs : List LV} {lv : LV} {v : Value} (hD : H D = some (.lst vs)) (hz : vs.length < 4096) (hv : VR C lv v) {E : Value → Shared → Prop} {Q : Value → Shared → Prop}
    (hQ : ∀ s', Inv G k fl env A C Z m (hset H D (.lst (vs ++ [lv]))) s' → Q .none s') : wpAny G.M A (call (.builtin "list.append") [.ref D, v]) Q E s := by
  obtain ⟨us, n, e1, e5, hlen, z⟩ := I.lst hD
  refine wpAny_call_entry slot_list_append e1.isList.typeIs entry_list_append ?_ (args_list_append _ _)
  show wpAny _ _ (updateSeq D (·.push v) >>= fun _ => ret .none) _ _ s
  refine wpAny_bind ?_
  refine wpAny_updateSeq e1 rfl (wpAny_pure ⟨.none, rfl, hQ _ ?_⟩) (by rw [List.size_toArray]; unfold sizeLine; omega)
  obtain ⟨n', hd'⟩ := Obj.data_mapSeq (o := ⟨.type "list", none, .seq (List.toArray us) n, #[]⟩) rfl (·.push v)
  exact I.upd (tk := s.toks) hD (Heap.SameBut.update ..) (Heap.get?_update_self _ e1 rfl) ⟨rfl, rfl, rfl, by simp; omega, us ++ [v], n', hd'.trans (by simp), e5.append (VRs.single hv)⟩

theorem INN_append {elt : PySem.Expr} {D : Addr} {N : Loc → Hp → Prop} (h : EV G k false sc elt m H (fun lv H1 => ∃ vs, H1 D = some (.lst vs) ∧ vs.length < 4096 ∧ N m (hset H1 D (.lst (vs ++ [lv])))) noX) :
    INN G k sc (fun env acc => do let _ ← call (.builtin "list.append") [acc, ← eval elt env]) D m H N := fun env A C Z s hs I => by
  refine wpAny_bind (wpAny_mono (h env A C Z s hs I) (fun v s1 ⟨C1, lv, H1, c1, I1, v1, vs, q1, q2, q3⟩ => ?_) fun _ _ x => noXE x)
  exact wpAny_bind (list_push I1 q1 q2 v1 fun s' I' => wpAny_pure ⟨C1, m, _, c1, I', q3⟩)

theorem INN_comp {S : Stp G} {iter e : PySem.Expr} {d : Nat} {p : Pos} {D : Addr} {N : Loc → Hp → Prop} (h : IT G k false sc S iter m H (fun x H1 => CS G k sc S e d D x m H1 N) noX)
    (hf : ∀ env x, foldedSetIterable iter env x = pure x := by intro _ _; with_unfolding_all rfl) :
    INN G k sc (fun env acc => do
      let x ← eval iter env
      standAt p
      let x ← foldedSetIterable iter env x
      let _ ← runOwn (.compStart e d (← holding [x] (pyIter x)) acc env) env) D m H N := fun env A C Z s hs I => by
  refine wpAny_bind (wpAny_mono (h env A C Z s hs I) (fun v s1 h1 => ?_) fun _ _ x => noXE x)
  refine wpAny_bind (wpAny_standAt (wpAny_bind (wpAny_of_eq (hf env v) ?_)))
  refine wpAny_bind (wpAny_holding (wpAny_mono h1 (fun r s2 ⟨C2, H2, it, x, o, e, c2, I2, n2, n3, g2, i2, q2⟩ => ?_) fun _ _ x => noXE x))
  subst e
  refine wpAny_bind (wpAny_runOwn (codeAny_mono (q2 env A C2 Z s2 it o hs I2 n2 n3 g2 i2) fun r s3 h3 => ?_))
  obtain ⟨⟨f, rfl⟩, C3, m3, H3, c3, I3, q3⟩ := h3
  exact wpAny_pure ⟨C3, m3, H3, c2.trans c3, I3, q3⟩

/-- a level's loop -/
theorem CS_loop {S : Stp G} {e target : PySem.Expr} {ifs : List PySem.Expr} {d : Nat} {D : Addr} {act : Env → Value → Sem Unit} {p : Pos} {N : Loc → Hp → Prop} (hh : G.hn = true) (J : Nat → S.κ → Loc → Hp → Prop) {n : Nat} {x : S.κ} (h0 : J n x m H)
    (turn : ∀ n x m H, J n x m H → ∃ r, S.nx H x r ∧ (r = none → N m H) ∧ ∀ lv x', r = some (lv, x') → AS G k false sc target lv m H (fun m1 H1 => TSs G k sc ifs m1 H1 (fun ok H2 =>
      (ok = true → INN G k sc act D m1 H2 (fun m3 H3 => ∃ n', n' < n ∧ J n' x' m3 H3)) ∧ (ok = false → ∃ n', n' < n ∧ J n' x' m1 H2))) (fun _ _ _ => False))
    (hturn : ∀ it acc env, compTurn e d it acc env = (do
      standAt p
      match ← pyNext it with
      | none => pure (.done .next)
      | some v =>
        letOwnedTupleGo target it v
        assign target env v
        let mut ok := true
        for c in ifs do
          if ok then ok ← isTrue c env (eval c env)
        if ok then act env acc
        again (.compLoop e d it acc env)) := by intro _ _ _; with_unfolding_all rfl)
    (hfr : ∀ it acc env, (Code.compStart e d it acc env).isFrame = false ∧ (Code.compLoop e d it acc env).isFrame = false := by intro _ _ _; exact ⟨rfl, rfl⟩)
    (has : ((clausesOf e)[d]?).elim false (·.is_async != 0) = false := by with_unfolding_all rfl)
    (hu : ∀ (A : Around) it acc env, A.under (.compStart e d it acc env) = A ∧ A.under (.compLoop e d it acc env) = A := by intro _ _ _ _; exact ⟨Around.under_of_weight rfl, Around.under_of_weight rfl⟩)
    (hqt : ∀ it acc env, (Code.compLoop e d it acc env).quiet = true := by intro _ _ _; with_unfolding_all rfl) :
    CS G k sc S e d D x m H N := fun env A C Z s it o hs I n1 n2 g1 i1 => by
  have loop : ∀ s, Inv G k false env A C Z m H s → s.heap.get? it = some o → codeAny G.M A (.compLoop e d (.ref it) (.ref D) env) (fun r s' => (∃ f, r = .ok f) ∧ ∃ C' m' H', Cle C C' ∧ Inv G k false env A C' Z m' H' s' ∧ N m' H') s := by
    intro s I g1
    refine codeAny_loop (hqt _ _ _) (fun n s => ∃ C1 m1 H1 x o, Cle C C1 ∧ Inv G k false env A C1 Z m1 H1 s ∧ C1 it = none ∧ H1 it = none ∧ s.heap.get? it = some o ∧ S.isIt C1 x o ∧ J n x m1 H1) (fun n s ⟨C1, m1, H1, x, ob, c1, I1, z1, z2, g1, i1, j1⟩ => ?_) n ⟨C, m, H, x, o, Cle.refl _, I, n1, n2, g1, i1, h0⟩
    rw [(hu A _ _ _).2]
    show wpAny _ A (if (Code.compLoop e d (.ref it) (.ref D) env).isFrame then (compTurn e d (.ref it) (.ref D) env).onRaise (leaving env) else (compTurn e d (.ref it) (.ref D) env).onRaise (fun x => do noteFrame x env; theTreesLotGoes x)) _ _ s
    rw [(hfr _ _ _).2, if_neg (by decide)]
    refine wpAny_onRaise ?_
    rw [hturn]
    obtain ⟨r, hr, q1, q2⟩ := turn n x m1 H1 j1
    refine wpAny_bind (wpAny_standAt (wpAny_bind (wpAny_mono (S.next (r := r) (fun _ _ => False) hh I1 g1 i1 z1 z2 hr) (fun rv s3 h3 => ?_) fun _ _ x => x.elim)))
    cases r with
    | none =>
      obtain ⟨rfl, I3⟩ := h3
      exact wpAny_pure ⟨⟨_, rfl⟩, C1, m1, H1, c1, I3, q1 rfl⟩
    | some pr =>
      obtain ⟨lv, x'⟩ := pr
      obtain ⟨v, C3, o3, rfl, c3, I3, v3, n3, g3, i3⟩ := h3
      refine wpAny_bind (wpAny_mono (S.go target (fun _ _ => False) I3 g3 i3 n3 z2 hr v3) (fun _ s4 ⟨I4, o4, g4, i4⟩ => ?_) fun _ _ x => x.elim)
      obtain ⟨vs4, hd4⟩ := S.fields i4
      obtain ⟨c5, I5⟩ := I4.shown g4 hd4 n3 z2
      refine wpAny_bind (wpAny_mono (q2 lv x' rfl env A _ Z s4 v hs I5 (v3.mono c5)) (fun _ s6 ⟨C6, m6, H6, c6, I6, q6⟩ => ?_) fun _ _ x => (noXsE x).elim)
      have back : ∀ {C7 m7 H7 s7}, Cle (cset C3 it o4) C7 → Inv G k false env A C7 Z m7 H7 s7 → (∃ n', n' < n ∧ J n' x' m7 H7) → ∃ n', n' < n ∧ ∃ C1 m1 H1 x o, Cle C C1 ∧ Inv G k false env A C1 Z m1 H1 s7 ∧ C1 it = none ∧ H1 it = none ∧ s7.heap.get? it = some o ∧ S.isIt C1 x o ∧ J n' x m1 H1 := by
        intro C7 m7 H7 s7 le7 I7 ⟨n', l, j'⟩
        have hC7 : C7 it = some o4 := le7 _ _ (cset_same C3 it o4)
        obtain ⟨y1, y2, y3, y4, y5, y6, y7⟩ := Inv.hidden I n1 (((c1.trans c3).trans c5).trans le7) I7 hC7 (by rw [hd4]; rfl)
        exact ⟨n', l, _, m7, H7, x', o4, y1, y2, y3, y4, y5, S.mono (fun a oo e q => y6 a oo (le7 _ _ (c5 _ _ e)) q) i4, j'⟩
      refine wpAny_bind (wpAny_mono (q6 env A C6 Z s6 hs I6) (fun ok s7 ⟨C7, H7, c7, I7, q7⟩ => ?_) fun _ _ x => x.elim)
      cases ok with
      | false =>
        obtain ⟨n', l, r'⟩ := back (c6.trans c7) I7 (q7.2 rfl)
        exact wpAny_pure ⟨rfl, n', l, r'⟩
      | true =>
        refine wpAny_bind (wpAny_mono (q7.1 rfl env A C7 Z s7 hs I7) (fun _ s8 ⟨C8, m8, H8, c8, I8, q8⟩ => ?_) fun _ _ x => x.elim)
        obtain ⟨n', l, r'⟩ := back ((c6.trans c7).trans c8) I8 q8
        exact wpAny_pure ⟨rfl, n', l, r'⟩
  refine codeAny_of_tree ?_
  rw [(hu A _ _ _).1]
  show wpAny _ A (if (Code.compStart e d (.ref it) (.ref D) env).isFrame then (compStart e d (.ref it) (.ref D) env).onRaise (leaving env) else (compStart e d (.ref it) (.ref D) env).onRaise (fun x => do noteFrame x env; standAt theWindowsPlace)) _ _ s
  rw [(hfr _ _ _).1, if_neg (by decide)]
  refine wpAny_onRaise ?_
  unfold compStart
  rw [has]
  simp only [Bool.false_eq_true, if_false]
  refine wpAny_bind (wpAny_askSetting (wpAny_ite ?_))
  split
  · exact wpAny_bind (wpAny_pure (wpAny_pure (And.intro (hqt _ _ _) (loop s I g1))))
  · refine wpAny_bind (wpAny_rule ?_)
    cases (clausesOf e)[d]? with
    | none => exact wpAny_bind (S.self g1 i1 (wpAny_pure (And.intro (hqt _ _ _) (loop s I g1))))
    | some g => exact wpAny_bind (wpAny_standAt (wpAny_bind (S.self g1 i1 (wpAny_pure (And.intro (hqt _ _ _) (loop s I g1))))))
end

end Go

end
section
set_option autoImplicit false
set_option linter.unusedVariables false
set_option linter.unusedSimpArgs false
set_option Elab.async false
namespace Go
open PySem PySem.W PyProof.Rows PySem.Calls

/-- what a comprehension's scope must be -/
def compOk (scope sc : Scope) (m : Loc) : Bool :=
  scope.kind == .function && (scope.names.map (·.1)).Nodup && scope.names.all (fun x => x.2 != .cell) && scope.names.all (fun x => x.2 != .free || ((m.map (·.1)).contains x.1 && sc.names.lookup x.1 != some .local))

section
variable {G : Gl} {k : Nat} {fl : Bool} {sc : Scope} {m : Loc} {H : Hp} {X : Xc}

theorem comp_make {scope : Scope} {m : Loc} {sc : Scope} (hok : compOk scope sc m = true) {env : Env} {A : Around} {C : Cm} {Z : Zs} {s : Shared} (hs : env.scope = sc) (I : Inv G k fl env A C Z m H s) {S : Stp G} {e : PySem.Expr} {it : Addr} {ob : Obj} {x : S.κ} {N : Addr → Loc → Hp → Prop} {cl : List (Str × Addr)}
    (hcl1 : ∀ n c, cl.lookup n = some c → env.cells.lookup n = some c) (hcl2 : ∀ n, (n, NameKind.free) ∈ scope.names → ∃ c, cl.lookup n = some c) {RR : Value → Addr → Result → Shared → Prop}
    (n1 : C it = none) (n2 : H it = none) (g1 : s.heap.get? it = some ob) (i1 : S.isIt C x ob)
    (h : ∀ D, H D = none → CS G k (relS scope sc) S e 0 D x (comp0 scope.names m) (hset H D (.lst [])) (N D))
    (hR : ∀ D L f (o : Obj) C' m' H' s' env', env'.locals = L → s.heap.get? L = none → s.heap.get? env.locals = some o → Inv G k false env' A C' (asideZ fl env o.data Z) m' H' s' → Cle (aside fl env C s.heap) C' → N D m' H' → RR (.ref D) L (.ok f) s') :
    wpAny G.M A (newList []) (fun acc s₃ => wpAny G.M A (newFunctionEnv scope env.globals cl [] env.qual none .none (some env)) (fun cenv s₄ =>
      codeAny G.M A (.compStart e 0 (.ref it) acc { cenv with scope := relabel scope env }) (RR acc cenv.locals) s₄) (fun _ _ => False) s₃) (fun _ _ => False) s := by
  unfold compOk at hok
  simp only [Bool.and_eq_true, beq_iff_eq, decide_eq_true_eq, List.all_eq_true, bne_iff_ne, ne_eq, Bool.or_eq_true, List.contains_iff_mem] at hok
  obtain ⟨⟨⟨k1, k2⟩, k3⟩, k4⟩ := hok
  obtain ⟨ol, esl, epl, ho, _⟩ := I.locData
  have n0 : s.heap.get? s.heap.objs.size = none := Heap.get?_none_of_le (Nat.le_refl _)
  refine wpAny_newObj_type (wpAny_newFunctionEnv (fun y hy => k3 y hy) (by intro y hy; simp at hy) (fun h₁ hns₁ hsb₁ => ?_) k1)
  dsimp only at hns₁ hsb₁ ⊢
  generalize hH2 : s.heap.push { cls := .type "list", dict := none, data := .seq ([] : List Value).toArray } = H2 at hns₁ hsb₁ ⊢
  have hsz : H2.objs.size = s.heap.objs.size + 1 := by rw [← hH2, Heap.size_push]
  have n9 : s.heap.get? H2.objs.size = none := Heap.get?_none_of_le (by rw [hsz]; exact Nat.le_succ _)
  have old : ∀ b o, s.heap.get? b = some o → h₁.get? b = some o := fun b o e => hsb₁.extBut b o (by rw [hsz]; exact Nat.ne_of_lt (Nat.lt_succ_of_lt (Heap.lt_size e))) (Heap.get?_push_of_some _ (hH2 ▸ Heap.get?_push_of_some _ e))
  have hD : h₁.get? s.heap.objs.size = some { cls := .type "list", dict := none, data := .seq ([] : List Value).toArray } :=
    hsb₁.extBut _ _ (by rw [hsz]; exact Nat.ne_of_lt (Nat.lt_succ_self _)) (Heap.get?_push_of_some _ (hH2 ▸ Heap.get?_push_size _ rfl))
  have hfm : ∀ n, (n, NameKind.free) ∈ scope.names → (∃ o, (n, o) ∈ m) ∧ env.kindOf n ≠ some .local := fun n hn => by
    rcases k4 _ hn with q | ⟨q1, q2⟩
    · exact absurd rfl q
    · obtain ⟨⟨n', o⟩, hm, rfl⟩ := List.mem_map.mp q1
      exact ⟨⟨o, hm⟩, by show env.scope.names.lookup _ ≠ _; rw [hs]; exact q2⟩
  have Ic := I.comp (tk := s.toks) ho k1 k2 hcl1 hcl2 hfm n9 old hns₁
  -- the list, in the comprehension's heap
  have fD := I.fresh n0
  have cD : aside fl env C s.heap s.heap.objs.size = none := by
    cases q : aside fl env C s.heap s.heap.objs.size with
    | none => rfl
    | some o => have := (St.aside I ho).con _ _ q; rw [n0] at this; cases this
  have zD : ∀ z, z ∈ asideZ fl env ol.data Z → z.1.frame ≠ some s.heap.objs.size := fun z hz q => by
    obtain ⟨_, _, L', x3, _, _, ob, x6, _⟩ := (St.aside I ho).zs z hz
    rw [q] at x3; cases x3
    rw [x6] at n0; cases n0
  have lD : s.heap.objs.size ≠ (compEnvC scope cl H2.objs.size env).locals := by show _ ≠ H2.objs.size; rw [hsz]; exact Nat.ne_of_lt (Nat.lt_succ_self _)
  have Id : Inv G k false (compEnvC scope cl H2.objs.size env) A (aside fl env C s.heap) (asideZ fl env ol.data Z) (comp0 scope.names m) (hset H s.heap.objs.size (.lst [])) { s with heap := h₁, toks := s.toks } :=
    Ic.step (s := { s with heap := h₁, toks := s.toks }) (a := s.heap.objs.size) (h' := h₁) (tk := s.toks) (fun b o _ e => e) (fun o items n e1 e2 e3 => by rw [hD] at e1; cases e1; simp at e2) cD zD lD (fun y c e q => fD.2.2.2.2 y c (hcl1 y c e) q)
      (fun b o q e => by rwa [hset_ne H _ q] at e) (fun o e => by rw [hset_same] at e; cases e; exact ⟨cD, _, hD, rfl, rfl, rfl, by simp, [], 0, rfl, rfl⟩) (Cle.refl _) (fun _ _ _ e => e) (fun o e => by rw [cD] at e; cases e)
  have itC : aside fl env C s.heap it = none := by
    obtain ⟨vs, hd⟩ := S.fields i1
    unfold aside
    rw [if_neg]
    · exact n1
    · rintro ⟨q, _⟩
      obtain ⟨_, _, _, o2, e1, _, e3⟩ := I.ownNone q
      rw [g1] at e1; cases e1
      exact e3 vs hd
  have itD : it ≠ s.heap.objs.size := Nat.ne_of_lt (Heap.lt_size g1)
  have i2 : S.isIt (aside fl env C s.heap) x ob := S.mono (fun a o e _ => aside_le I a o e) i1
  refine codeAny_mono (h s.heap.objs.size fD.2.1 _ A _ _ { s with heap := h₁, toks := s.toks } it ob (by show relabel scope env = _; rw [relS_eq, hs]) Id itC (by rw [hset_ne _ _ itD]; exact n2) (old _ _ g1) i2) fun r s' z => ?_
  obtain ⟨⟨f, rfl⟩, C', m', H', c', I', q'⟩ := z
  exact hR _ _ f ol C' m' H' s' (compEnvC scope cl H2.objs.size env) rfl n9 ho I' c' q'

theorem EV_ListComp {S : Stp G} {elt target iter : PySem.Expr} {ifs : List PySem.Expr} {rest : List Comprehension} {scope : Scope} {pos : Pos} {Q : Qv}
    (h : IT G k fl sc S iter m H (fun x H1 => ∀ D, H1 D = none → CS G k (relS scope sc) S (.ListComp elt (⟨target, iter, ifs, 0⟩ :: rest) scope pos) 0 D x (comp0 scope.names m) (hset H1 D (.lst [])) (fun _ H2 => Q (.ref D) H2)) X)
    (hok : compOk scope sc m = true) (hf : ∀ env x, foldedSetIterable iter env x = pure x := by intro _ _; with_unfolding_all rfl) : EV G k fl sc (.ListComp elt (⟨target, iter, ifs, 0⟩ :: rest) scope pos) m H Q X := fun env A C Z s hs I => by
  have hok' := hok
  unfold compOk at hok'
  simp only [Bool.and_eq_true, beq_iff_eq, decide_eq_true_eq, List.all_eq_true, bne_iff_ne, ne_eq, Bool.or_eq_true, List.contains_iff_mem] at hok'
  obtain ⟨⟨⟨k1, k2⟩, k3⟩, k4⟩ := hok'
  obtain ⟨cl, h1, h2, h3⟩ := closure_of (env := env) (scope := scope) fun n hn => by
    rcases k4 _ hn with q | ⟨q1, q2⟩
    · exact absurd rfl q
    · obtain ⟨⟨n', o⟩, hm, rfl⟩ := List.mem_map.mp q1
      obtain ⟨c, v, c1, _⟩ := I.fr.cell n' o hm (by show env.scope.names.lookup _ ≠ _; rw [hs]; exact q2)
      exact ⟨c, c1⟩
  rw [eval_ListComp]
  refine wpAny_comprehension_free (use := none) rfl (hf env) h1 k1 (fun y hy hl => ?_) (wpAny_mono (h env A C Z s hs I) (fun v s1 g1 => wpAny_mono g1 (fun r s2 ⟨C2, H2, it, x, ob, e2, c2, I2, n1, n2, g2, i2, q2⟩ => ?_) fun _ _ x => x) fun _ _ x => x)
  · obtain ⟨n, kd⟩ := y
    obtain ⟨i, hi⟩ := List.getElem?_of_mem hy
    dsimp only at hl; subst hl
    exact lookup_nodup k2 hi
  · subst e2
    refine wpAny_mono (comp_make (RR := fun acc L => compPost G.M A (XPost G k fl env A C Z m X) none (Post G k fl env A C Z m Q) acc L) hok hs I2 h2 h3 n1 n2 g2 i2 q2 fun D L f o C' m' H' s' env' e1 nL ho Y c' q' => ?_) (fun _ _ z => wpAny_mono z (fun _ _ z => z) fun _ _ z => z.elim) fun _ _ z => z.elim
    subst e1
    obtain ⟨mm, hns, _⟩ := Y.fr.ns
    refine ⟨mm, hns, fun h' hs' => ?_⟩
    obtain ⟨b1, b2, b3⟩ := I2.uncomp ho Y c' hs'
    exact ⟨_, .ref D, H', c2.trans b1, b2, rfl, q'⟩

theorem EX_AssignComp {S : Stp G} {elt target iter : PySem.Expr} {ifs : List PySem.Expr} {rest : List Comprehension} {scope : Scope} {pos xp spos : Pos} {x : Str} {P : PQ}
    (h : IT G k true sc S iter m H (fun y H1 => ∀ D, H1 D = none → CS G k (relS scope sc) S (.ListComp elt (⟨target, iter, ifs, 0⟩ :: rest) scope pos) 0 D y (comp0 scope.names m) (hset H1 D (.lst [])) (fun _ H2 => ∃ m', Put m x (.ref D) m' ∧ P.n m' H2)) (fun c H' => P.x c m H'))
    (hok : compOk scope sc m = true) (hk : sc.kind = .function) (hx : sc.names.lookup x = some .local) (hl : (xp.line == pos.line) = true := by with_unfolding_all rfl) (hv : (scope.names.any fun (n, k) => n == x && (k == .local || k == .cell)) = false := by with_unfolding_all rfl) (hf : ∀ env x, foldedSetIterable iter env x = pure x := by intro _ _; with_unfolding_all rfl) :
    EX G k sc (.Assign [.Name x xp] (.ListComp elt (⟨target, iter, ifs, 0⟩ :: rest) scope pos) spos) m H P := fun env A C Z s hs I => by
  have hok' := hok
  unfold compOk at hok'
  simp only [Bool.and_eq_true, beq_iff_eq, decide_eq_true_eq, List.all_eq_true, bne_iff_ne, ne_eq, Bool.or_eq_true, List.contains_iff_mem] at hok'
  obtain ⟨⟨⟨k1, k2⟩, k3⟩, k4⟩ := hok'
  obtain ⟨cl, h1, h2, h3⟩ := closure_of (env := env) (scope := scope) fun n hn => by
    rcases k4 _ hn with q | ⟨q1, q2⟩
    · exact absurd rfl q
    · obtain ⟨⟨n', o⟩, hm, rfl⟩ := List.mem_map.mp q1
      obtain ⟨c, v, c1, _⟩ := I.fr.cell n' o hm (by show env.scope.names.lookup _ ≠ _; rw [hs]; exact q2)
      exact ⟨c, c1⟩
  have hsw : swapsWith (.ListComp elt (⟨target, iter, ifs, 0⟩ :: rest) scope pos) (some (.Name x xp)) spos.line env = pure true := by
    have e1 : env.blockKind = .function := by unfold Env.blockKind; rw [hs, hk]; rfl
    have e2 : env.kindOf x = some .local := by show env.scope.names.lookup x = _; rw [hs]; exact hx
    unfold swapsWith
    simp only [e1, e2, PySem.Expr.pos, hl, hv]
    rfl
  rw [exec_Assign_Name_used _ _ _ _ hsw]
  refine wpAny_bind (wpAny_standAt (wpAny_bind ?_))
  show wpAny _ A (do let _ ← comprehension (.ListComp elt (⟨target, iter, ifs, 0⟩ :: rest) scope pos) scope env _ (newList []) false (eval iter env) (some (assign (.Name x xp) env))) _ _ s
  refine wpAny_bind (wpAny_mono (wpAny_comprehension_free (use := some (assign (.Name x xp) env)) (E := XsPost G k true env A C Z P.x) (Q := fun _ s' => FPost G k env A C Z P .next s') rfl (hf env) h1 k1 (fun y hy hl => ?_)
    (wpAny_mono (h env A C Z s hs I) (fun v s1 g1 => wpAny_mono g1 (fun r s2 ⟨C2, H2, it, y, ob, e2, c2, I2, n1, n2, g2, i2, q2⟩ => ?_) fun _ _ x => x.xs fun _ _ q => q) fun _ _ x => x.xs fun _ _ q => q)) (fun _ s' hq => wpAny_pure (wpAny_pure hq)) fun _ _ e => e)
  · obtain ⟨n, kd⟩ := y
    obtain ⟨i, hi⟩ := List.getElem?_of_mem hy
    dsimp only at hl; subst hl
    exact lookup_nodup k2 hi
  · subst e2
    refine wpAny_mono (comp_make (RR := fun acc L => compPost G.M A (XsPost G k true env A C Z P.x) (some (assign (.Name x xp) env)) (fun _ s' => FPost G k env A C Z P .next s') acc L) hok hs I2 h2 h3 n1 n2 g2 i2 q2 fun D L f o C' m' H' s' env' e1 nL ho Y c' q' => ?_) (fun _ _ z => wpAny_mono z (fun _ _ z => z) fun _ _ z => z.elim) fun _ _ z => z.elim
    subst e1
    obtain ⟨m2, p2, q2'⟩ := q'
    obtain ⟨mm, ⟨ol, es, ep, o1, o2, o3⟩, _⟩ := Y.fr.ns
    obtain ⟨b1, b2, b3⟩ := I2.uncomp ho Y c' (Heap.SameBut.refl _ _)
    -- the block's dict, kept as it is during the store
    have yL := Y.fr.ownL
    have fr := I2.fresh nL
    have hCL : unaside C2 env C' env'.locals = none := by unfold unaside; split <;> first | rfl | exact yL.1
    have hz : ∀ z, z ∈ Z → z.1.frame ≠ some env'.locals := fr.2.2.1
    have J1 : Inv G k true env A (cset (unaside C2 env C') env'.locals ol) Z m H' s' := b2.step (s := s') (a := env'.locals) (h' := s'.heap) (tk := s'.toks) (fun b o _ e => e)
      (fun ob items n q1 _ q3 => by rw [o1] at q1; cases q1; rw [o2] at q3; cases q3) hCL hz fr.2.2.2.1 fr.2.2.2.2 (fun _ _ _ e => e) (fun o' e => by rw [yL.2.1] at e; cases e) (Cle.set ol hCL) (fun b o' q e => by rwa [cset_ne _ _ q] at e) (fun o' e => by rw [cset_same] at e; cases e; exact o1)
    show wpAny _ A (assign (.Name x xp) env (.ref D)) _ _ _
    refine wpAny_assign_Name (J1.store p2 (lv := .ref D) rfl (.inl rfl) fun s3 J3 => ?_)
    have g3 : s3.heap.get? env'.locals = some ol := J3.st.con _ _ (cset_same _ _ _)
    refine ⟨mm, ⟨ol, es, ep, g3, o2, o3⟩, fun h' hs' => ?_⟩
    have hsp : seqOrPlain ol.data = false := by rw [o2]; rfl
    obtain ⟨y1, y2, y3, y4, y5, y6, y7⟩ := Inv.hidden b2 hCL (Cle.set ol hCL) J3 (cset_same _ _ _) hsp
    have J4 := y2.step (a := env'.locals) (h' := h') (tk := s3.toks) (fun b o q e => (hs'.2 b q).trans e) (fun ob items n q1 _ q3 => by rw [g3] at q1; cases q1; rw [o2] at q3; cases q3) y3 hz fr.2.2.2.1 fr.2.2.2.2 (fun _ _ _ e => e) (fun o' e => by rw [y4] at e; cases e) (Cle.refl _) (fun _ _ _ e => e) (fun o' e => by rw [y3] at e; cases e)
    exact ⟨_, m2, H', (c2.trans b1).trans y1, J4, q2'⟩
end
end Go

end
section
set_option autoImplicit false
set_option linter.unusedVariables false
set_option linter.unusedSimpArgs false
set_option Elab.async false
namespace Go
open PySem PySem.W PyProof.Rows PySem.Calls

mutual
/-- a value that is plain data -/
inductive IsD (H : Hp) : LV → PyData → Prop
  | none : IsD H .none .none
  | bool (b : Bool) : IsD H (.bool b) (.bool b)
  | int (i : Int) : IsD H (.int i) (.int i)
  | str {x : Str} (h : PyData.canLay0 (.str x) = true) : IsD H (.str x) (.str x)
  | tup {ls : List LV} {ds : List PyData} (h : IsDs H ls ds) : IsD H (.tup ls) (.tuple ds)
  | ref {a : Addr} {ls : List LV} {ds : List PyData} (hH : H a = some (.lst ls)) (h : IsDs H ls ds) : IsD H (.ref a) (.list ds)
inductive IsDs (H : Hp) : List LV → List PyData → Prop
  | nil : IsDs H [] []
  | cons {l : LV} {d : PyData} {ls : List LV} {ds : List PyData} (h : IsD H l d) (t : IsDs H ls ds) : IsDs H (l :: ls) (d :: ds)
end

section
variable {G : Gl} {k : Nat} {fl : Bool} {env : Env} {A : Around} {C : Cm} {Z : Zs} {m : Loc} {H : Hp} {s : Shared}
mutual
theorem IsD.reads (I : Inv G k fl env A C Z m H s) : ∀ {l : LV} {d : PyData}, IsD H l d → ∀ {v : Value}, VR C l v → (∃ as, Reads s.heap v d as) ∧ d.canLay0 = true
  | _, _, .none, _, h => by cases h; exact ⟨⟨_, .none⟩, rfl⟩
  | _, _, .bool b, _, h => by cases h; exact ⟨⟨_, .bool b⟩, rfl⟩
  | _, _, .int i, _, h => by obtain ⟨t, rfl⟩ := h; exact ⟨⟨_, .int i t⟩, rfl⟩
  | _, _, .str hx, _, h => by obtain ⟨t, rfl⟩ := h; exact ⟨⟨_, .str _ t⟩, hx⟩
  | _, _, .tup hs, _, h => by
    obtain ⟨a, vs, rfl, ⟨o, n, hC, q1, q2⟩, hvs⟩ := h
    obtain ⟨⟨as, r⟩, c⟩ := IsDs.reads I hs hvs
    exact ⟨⟨_, .tuple (I.st.con a _ hC) q1 q2 r⟩, c⟩
  | _, _, .ref hH hs, _, h => by
    cases h
    obtain ⟨us, ⟨o, e1, e2, n, e3⟩, h2, _⟩ := I.list hH
    obtain ⟨⟨as, r⟩, c⟩ := IsDs.reads I hs h2
    exact ⟨⟨_, .list e1 e2 e3 r⟩, c⟩
theorem IsDs.reads (I : Inv G k fl env A C Z m H s) : ∀ {l : List LV} {d : List PyData}, IsDs H l d → ∀ {v : List Value}, VRs C l v → (∃ as, ReadsAll s.heap v d as) ∧ PyData.canLayAll0 d = true
  | _, _, .nil, _, h => by cases h; exact ⟨⟨_, .nil⟩, rfl⟩
  | _, _, .cons h1 h2, _, h => by
    obtain ⟨v, r, rfl, q1, q2⟩ := h
    obtain ⟨⟨as, r1⟩, c1⟩ := IsD.reads I h1 q1
    obtain ⟨⟨bs, r2⟩, c2⟩ := IsDs.reads I h2 q2
    refine ⟨⟨_, .cons r1 r2⟩, ?_⟩
    unfold PyData.canLayAll0
    rw [c1, c2]; rfl
end
end

section
variable {G : Gl} {k : Nat} {fl : Bool} {sc : Scope} {m : Loc} {H : Hp} {Q : Qv} {X : Xc}

theorem BO_eq {a b : LV} {da db : PyData} (ha : IsD H a da) (hb : IsD H b db) (h : Q (.bool (PyData.eqv da db)) H) (hd : min da.depth db.depth < 100 := by decide) : BO G (compareOp .Eq) a b H Q X := fun k fl env A C Z m s va vb I h1 h2 => by
  obtain ⟨⟨as, r1⟩, c1⟩ := ha.reads I h1
  obtain ⟨⟨bs, r2⟩, c2⟩ := hb.reads I h2
  exact SeqAt.compareEq_reads r1 r2 c1 c2 (by have := I.room.2; unfold cLine; omega) ⟨C, .bool _, H, Cle.refl C, I, rfl, h⟩
theorem BO_ne {a b : LV} {da db : PyData} (ha : IsD H a da) (hb : IsD H b db) (h : Q (.bool (!PyData.eqv da db)) H) (hd : min da.depth db.depth < 100 := by decide) : BO G (compareOp .NotEq) a b H Q X := fun k fl env A C Z m s va vb I h1 h2 => by
  obtain ⟨⟨as, r1⟩, c1⟩ := ha.reads I h1
  obtain ⟨⟨bs, r2⟩, c2⟩ := hb.reads I h2
  exact SeqAt.compareNe_reads r1 r2 c1 c2 (by have := I.room.2; unfold cLine; omega) ⟨C, .bool _, H, Cle.refl C, I, rfl, h⟩
theorem BO_in {a b : LV} {da : PyData} {ds : List PyData} (ha : IsD H a da) (hb : IsD H b (.list ds)) (h : Q (.bool (ds.any fun y => PyData.eqv y da)) H) (hd : min (PyData.depthAll ds) da.depth < 100) : BO G (compareOp .In) a b H Q X := fun k fl env A C Z m s va vb I h1 h2 => by
  obtain ⟨⟨as, r1⟩, c1⟩ := ha.reads I h1
  obtain ⟨⟨bs, r2⟩, c2⟩ := hb.reads I h2
  exact SeqAt.in_list_reads r2 r1 c2 c1 (by have := I.room.2; unfold cLine; omega) ⟨C, .bool _, H, Cle.refl C, I, rfl, h⟩
theorem BO_notin {a b : LV} {da : PyData} {ds : List PyData} (ha : IsD H a da) (hb : IsD H b (.list ds)) (h : Q (.bool (!ds.any fun y => PyData.eqv y da)) H) (hd : min (PyData.depthAll ds) da.depth < 100) : BO G (compareOp .NotIn) a b H Q X := fun k fl env A C Z m s va vb I h1 h2 => by
  obtain ⟨⟨as, r1⟩, c1⟩ := ha.reads I h1
  obtain ⟨⟨bs, r2⟩, c2⟩ := hb.reads I h2
  exact SeqAt.notIn_list_reads r2 r1 c2 c1 (by have := I.room.2; unfold cLine; omega) ⟨C, .bool _, H, Cle.refl C, I, rfl, h⟩

variable {a b : Int}
theorem BO_eqi (h : Q (.bool (a == b)) H) : BO G (compareOp .Eq) (.int a) (.int b) H Q X := fun k fl env A C Z m s va vb I ⟨t, e⟩ ⟨u, e'⟩ => by subst e e'; exact P.eq_int ⟨C, .bool _, H, Cle.refl C, I, rfl, h⟩
theorem BO_nei (h : Q (.bool (a != b)) H) : BO G (compareOp .NotEq) (.int a) (.int b) H Q X := fun k fl env A C Z m s va vb I ⟨t, e⟩ ⟨u, e'⟩ => by subst e e'; exact P.ne_int ⟨C, .bool _, H, Cle.refl C, I, rfl, h⟩
theorem BO_lt (h : Q (.bool (decide (a < b))) H) : BO G (compareOp .Lt) (.int a) (.int b) H Q X := fun k fl env A C Z m s va vb I ⟨t, e⟩ ⟨u, e'⟩ => by subst e e'; exact P.lt_int ⟨C, .bool _, H, Cle.refl C, I, rfl, h⟩
theorem BO_le (h : Q (.bool (decide (a ≤ b))) H) : BO G (compareOp .LtE) (.int a) (.int b) H Q X := fun k fl env A C Z m s va vb I ⟨t, e⟩ ⟨u, e'⟩ => by subst e e'; exact P.le_int ⟨C, .bool _, H, Cle.refl C, I, rfl, h⟩
theorem BO_gt (h : Q (.bool (decide (a > b))) H) : BO G (compareOp .Gt) (.int a) (.int b) H Q X := fun k fl env A C Z m s va vb I ⟨t, e⟩ ⟨u, e'⟩ => by subst e e'; exact P.gt_int ⟨C, .bool _, H, Cle.refl C, I, rfl, h⟩
theorem BO_ge (h : Q (.bool (decide (a ≥ b))) H) : BO G (compareOp .GtE) (.int a) (.int b) H Q X := fun k fl env A C Z m s va vb I ⟨t, e⟩ ⟨u, e'⟩ => by subst e e'; exact P.ge_int ⟨C, .bool _, H, Cle.refl C, I, rfl, h⟩
theorem BO_add (h : Q (.int (a + b)) H) : BO G (binaryOp .Add) (.int a) (.int b) H Q X := fun k fl env A C Z m s va vb I ⟨t, e⟩ ⟨u, e'⟩ => by subst e e'; exact P.add_int ⟨C, .int _, H, Cle.refl C, I.toks, ⟨_, rfl⟩, h⟩
theorem BO_sub (h : Q (.int (a - b)) H) : BO G (binaryOp .Sub) (.int a) (.int b) H Q X := fun k fl env A C Z m s va vb I ⟨t, e⟩ ⟨u, e'⟩ => by subst e e'; exact P.sub_int ⟨C, .int _, H, Cle.refl C, I.toks, ⟨_, rfl⟩, h⟩
theorem BO_mul (h : Q (.int (a * b)) H) (hm : IntMulOk a b) : BO G (binaryOp .Mult) (.int a) (.int b) H Q X := fun k fl env A C Z m s va vb I ⟨t, e⟩ ⟨u, e'⟩ => by subst e e'; exact P.mul_int ⟨C, .int _, H, Cle.refl C, I.toks, ⟨_, rfl⟩, h⟩ hm
theorem BO_mod (hb : b ≠ 0) (h : Q (.int (a.fmod b)) H) : BO G (binaryOp .Mod) (.int a) (.int b) H Q X := fun k fl env A C Z m s va vb I ⟨t, e⟩ ⟨u, e'⟩ => by subst e e'; exact mod_int' hb ⟨C, .int _, H, Cle.refl C, I.toks, ⟨_, rfl⟩, h⟩
theorem BO_div (hb : b ≠ 0) (h : Q (.int (a.fdiv b)) H) (hp : Builtin.divisionGoesByPylong a b = false) : BO G (binaryOp .FloorDiv) (.int a) (.int b) H Q X := fun k fl env A C Z m s va vb I ⟨t, e⟩ ⟨u, e'⟩ => by subst e e'; exact floordiv_int hb ⟨C, .int _, H, Cle.refl C, I.toks, ⟨_, rfl⟩, h⟩ (.inl hp)
theorem BO_iadd (h : Q (.int (a + b)) H) : BO G (inplaceOp .Add) (.int a) (.int b) H Q X := fun k fl env A C Z m s va vb I ⟨t, e⟩ ⟨u, e'⟩ => by subst e e'; exact P.iadd_int ⟨C, .int _, H, Cle.refl C, I.toks, ⟨_, rfl⟩, h⟩

/-- is -/
theorem VR.plainEq {C : Cm} {lv : LV} {v : Value} (h : VR C lv v) : plainIs v .none = true ∧ ((v == .none) = match lv with | .none => true | _ => false) := by
  cases lv with
  | none => cases h; exact ⟨rfl, rfl⟩
  | bool _ => cases h; exact ⟨rfl, rfl⟩
  | int _ => obtain ⟨t, rfl⟩ := h; exact ⟨rfl, rfl⟩
  | str _ => obtain ⟨t, rfl⟩ := h; exact ⟨rfl, rfl⟩
  | tup _ => obtain ⟨a, vs, rfl, _⟩ := h; exact ⟨rfl, rfl⟩
  | ref _ => cases h; exact ⟨rfl, rfl⟩
  | inst _ _ _ => obtain ⟨rfl, _⟩ := h; exact ⟨rfl, rfl⟩
  | ro _ _ => obtain ⟨rfl, _⟩ := h; exact ⟨rfl, rfl⟩
def isNone : LV → Bool | .none => true | _ => false
theorem BO_isNone {x : LV} (h : Q (.bool (isNone x)) H) : BO G (compareOp .Is) x .none H Q X := fun k fl env A C Z m s va vb I h1 h2 => by
  cases h2
  obtain ⟨p1, p2⟩ := h1.plainEq
  refine wpAny_is_plain p1 ?_
  rw [p2]
  exact ⟨C, .bool _, H, Cle.refl C, I, rfl, by cases x <;> exact h⟩
theorem BO_notNone {x : LV} (h : Q (.bool (!isNone x)) H) : BO G (compareOp .IsNot) x .none H Q X := fun k fl env A C Z m s va vb I h1 h2 => by
  cases h2
  obtain ⟨p1, p2⟩ := h1.plainEq
  refine wpAny_isNot_plain p1 ?_
  rw [p2]
  exact ⟨C, .bool _, H, Cle.refl C, I, rfl, by cases x <;> exact h⟩
theorem BO_isBool {x y : Bool} (h : Q (.bool (x == y)) H) : BO G (compareOp .Is) (.bool x) (.bool y) H Q X := fun k fl env A C Z m s va vb I h1 h2 => by
  cases h1; cases h2
  refine wpAny_is_plain rfl ?_
  exact ⟨C, .bool _, H, Cle.refl C, I, rfl, by cases x <;> cases y <;> exact h⟩
theorem BO_isNotBool {x y : Bool} (h : Q (.bool (!(x == y))) H) : BO G (compareOp .IsNot) (.bool x) (.bool y) H Q X := fun k fl env A C Z m s va vb I h1 h2 => by
  cases h1; cases h2
  refine wpAny_isNot_plain rfl ?_
  exact ⟨C, .bool _, H, Cle.refl C, I, rfl, by cases x <;> cases y <;> exact h⟩
end

end Go

end
section
set_option autoImplicit false
set_option linter.unusedVariables false
set_option linter.unusedSimpArgs false
set_option Elab.async false
namespace Go
open PySem PySem.W PyProof.Rows PySem.Calls

section
variable {G : Gl} {k : Nat} {fl : Bool} {env : Env} {A : Around} {C : Cm} {Z : Zs} {m : Loc} {H : Hp} {s : Shared}

/-- a new list -/
theorem Inv.newList (I : Inv G k fl env A C Z m H s) {vs : List LV} {us : List Value} (hv : VRs C vs us) (hz : vs.length ≤ 4096) {tk : Nat} :
    H s.heap.objs.size = none ∧ Inv G k fl env A C Z m (hset H s.heap.objs.size (.lst vs)) { s with heap := s.heap.push { cls := .type "list", data := .seq us.toArray }, toks := tk } :=
  I.allocH (Heap.get?_none_of_le (Nat.le_refl _)) (fun b o e => Heap.get?_push_of_some _ e) (Heap.get?_push_size _ rfl) ⟨rfl, rfl, rfl, hz, us, 0, rfl, hv⟩
theorem Inv.newTup (I : Inv G k fl env A C Z m H s) {vs : List LV} {us : List Value} (hv : VRs C vs us) {tk : Nat} :
    Cle C (cset C s.heap.objs.size { cls := .type "tuple", data := .seq us.toArray }) ∧ Inv G k fl env A (cset C s.heap.objs.size { cls := .type "tuple", data := .seq us.toArray }) Z m H { s with heap := s.heap.push { cls := .type "tuple", data := .seq us.toArray }, toks := tk } ∧
      VR (cset C s.heap.objs.size { cls := .type "tuple", data := .seq us.toArray }) (.tup vs) (.ref s.heap.objs.size) := by
  obtain ⟨a, b⟩ := I.allocC (tk := tk) (h' := s.heap.push { cls := .type "tuple", data := .seq us.toArray }) (ob := { cls := .type "tuple", data := .seq us.toArray }) (Heap.get?_none_of_le (Nat.le_refl s.heap.objs.size)) (fun b o e => Heap.get?_push_of_some _ e) (Heap.get?_push_size _ rfl)
  exact ⟨a, b, _, us, rfl, ⟨_, _, cset_same _ _ _, rfl, rfl⟩, hv.mono a⟩
end

section
variable {G : Gl} {k : Nat} {fl : Bool} {sc : Scope} {m : Loc} {H : Hp} {Q : Qv} {X : Xc}

theorem EV_Tuple {es : List PySem.Expr} {kd : Nat} {pos : Pos} (h : AR G k fl sc es m H (fun lvs H1 => lvs.length ≤ 4096 ∧ Q (.tup lvs) H1) X) : EV G k fl sc (.Tuple es kd pos) m H Q X := fun env A C Z s hs I =>
  wpAny_Tuple (wpAny_mono (h.2 pos env A C Z s hs I) (fun vs s1 ⟨C1, lvs, H1, c1, I1, v1, z, q1⟩ => by
    obtain ⟨a, b, c⟩ := I1.newTup (tk := s1.toks) v1
    exact ⟨by rw [v1.length]; unfold sizeLine; omega, _, _, _, c1.trans a, b, c, q1⟩) fun _ _ x => x)
theorem EV_List {es : List PySem.Expr} {pos : Pos} (h : AR G k fl sc es m H (fun lvs H1 => lvs.length ≤ 4096 ∧ ∀ a, H1 a = none → Q (.ref a) (hset H1 a (.lst lvs))) X) : EV G k fl sc (.List es pos) m H Q X := fun env A C Z s hs I =>
  wpAny_List (wpAny_mono (h.2 pos env A C Z s hs I) (fun vs s1 ⟨C1, lvs, H1, c1, I1, v1, z, q1⟩ => by
    obtain ⟨a, b⟩ := I1.newList (tk := s1.toks) v1 z
    exact ⟨by rw [v1.length]; unfold sizeLine; omega, C1, .ref _, _, c1, b, rfl, q1 _ a⟩) fun _ _ x => x)

/-- what can be subscripted -/
def SubT (H : Hp) : LV → Prop
  | .tup _ => True
  | .ro _ _ => True
  | .str _ => True
  | .ref a => match H a with
    | some (.lst _) => True
    | some (.sdict _) => True
    | some (.pdict _ _) => True
    | _ => False
  | _ => False
theorem SubT.at {lv : LV} {v : Value} {env : Env} {A : Around} {C : Cm} {Z : Zs} {s : Shared} (h : SubT H lv) (I : Inv G k fl env A C Z m H s) (hv : VR C lv v) : ∃ T id, s.TypeIs v T ∧ typeLookup (.type T) "__getitem__" = pure (some (.builtin id)) := by
  cases lv with
  | tup l => obtain ⟨a, vs, rfl, ⟨o, n, hC, q1, _⟩, _⟩ := hv; exact ⟨_, _, ⟨_, I.st.con a _ hC, q1⟩, slot_tuple_getitem.lookup⟩
  | ro a l => obtain ⟨rfl, o, n, vs, hC, h1, _⟩ := hv; exact ⟨_, _, ⟨_, I.st.con a _ hC, h1⟩, slot_list_getitem.lookup⟩
  | str x => obtain ⟨t, rfl⟩ := hv; exact ⟨_, _, typeIs_str s x t, F.slot_str_getitem.lookup⟩
  | ref a =>
    cases hv
    unfold SubT at h
    cases hH : H a with
    | none => simp [hH] at h
    | some lo =>
      obtain ⟨ob, e1, e2⟩ := I.st.hp a _ hH
      simp only [hH] at h
      cases lo with
      | lst vs => exact ⟨_, _, ⟨ob, e1, e2.1⟩, slot_list_getitem.lookup⟩
      | sdict vs => exact ⟨_, _, ⟨ob, e1, e2.1⟩, F.slot_dict_getitem.lookup⟩
      | pdict vs ep => exact ⟨_, _, ⟨ob, e1, e2.1⟩, F.slot_dict_getitem.lookup⟩
      | _ => exact h.elim
  | _ => exact h.elim

theorem EV_Sub {v i : PySem.Expr} {pos : Pos} (h : EV G k fl sc v m H (fun a H1 => EV G k fl sc i m H1 (fun b H2 => SubT H2 a ∧ BO G getItem a b H2 Q X) X) X)
    (hs' : ∀ o i', subscripted i false o i' = operate [o, i'] (getItem o i') := by intro _ _; with_unfolding_all rfl) : EV G k fl sc (.Subscript v i pos) m H Q X := fun env A C Z s hs I =>
  Subscript_ (wpAny_mono (h env A C Z s hs I) (fun va s1 ⟨C1, a, H1, c1, I1, v1, q1⟩ =>
    wpAny_mono (q1 env A C1 Z s1 hs I1) (fun vb s2 ⟨C2, b, H2, c2, I2, v2, t2, q2⟩ => by
      obtain ⟨T, id, hT, hl⟩ := t2.at I2 (v1.mono c2)
      exact tail_any hT hl (wpAny_mono (q2 k fl env A C2 Z m s2 va vb I2 (v1.mono c2) v2) (fun _ _ x => (Post.up c2 x).up c1) fun _ _ x => (XPost.up c2 x).up c1) (hs' va vb)) fun _ _ x => XPost.up c1 x) fun _ _ x => x)

theorem BO_item_list {a : Addr} {vs : List LV} {i : Int} {lv : LV} (hH : H a = some (.lst vs)) (h0 : 0 ≤ i) (hi : vs[i.toNat]? = some lv) (h : Q lv H) : BO G getItem (.ref a) (.int i) H Q X := fun k fl env A C Z m s va vb I h1 ⟨t, h2⟩ => by
  subst h2; cases h1
  obtain ⟨us, l1, l2, l3, l4⟩ := I.list hH
  obtain ⟨v, v1, v2⟩ := l2.get hi
  have hlt := (List.getElem?_eq_some_iff.mp hi).1
  exact wpAny_getItem_list l1 h0 (by omega) (x := v) (by rw [List.getElem?_toArray]; exact v1) ⟨C, lv, H, Cle.refl C, I, v2, h⟩
theorem BO_item_ro {a : Addr} {vs : List LV} {i : Int} {lv : LV} (h0 : 0 ≤ i) (hi : vs[i.toNat]? = some lv) (hz : vs.length < 4096) (h : Q lv H) : BO G getItem (.ro a vs) (.int i) H Q X := fun k fl env A C Z m s va vb I h1 ⟨t, h2⟩ => by
  subst h2
  obtain ⟨rfl, o, n, us, hC, ho1, ho2, hvs⟩ := h1
  obtain ⟨v, v1, v2⟩ := hvs.get hi
  have hlt := (List.getElem?_eq_some_iff.mp hi).1
  exact wpAny_getItem_list (items := us.toArray) ⟨_, I.st.con a _ hC, ho1, _, ho2⟩ h0 (by omega) (x := v) (by rw [List.getElem?_toArray]; exact v1) ⟨C, lv, H, Cle.refl C, I, v2, h⟩
theorem BO_item_tup {vs : List LV} {i : Int} {lv : LV} (h0 : 0 ≤ i) (hz : vs.length < 4096) (hi : vs[i.toNat]? = some lv) (h : Q lv H) : BO G getItem (.tup vs) (.int i) H Q X := fun k fl env A C Z m s va vb I h1 ⟨t, h2⟩ => by
  subst h2
  obtain ⟨a, us, rfl, ⟨o, n, hC, q1, q2⟩, hvs⟩ := h1
  obtain ⟨v, v1, v2⟩ := hvs.get hi
  have hlt := (List.getElem?_eq_some_iff.mp hi).1
  exact getItem_tuple (items := us.toArray) (j := i.toNat) ⟨_, I.st.con a _ hC, q1, _, q2⟩ (by omega) (by omega) (seqIndex_of h0 (by rw [List.size_toArray, hvs.length]; omega)) (x := v) (by rw [List.getElem?_toArray]; exact v1) ⟨C, lv, H, Cle.refl C, I, v2, h⟩
theorem BO_item_str {x : Str} {i : Int} {c : Nat} (h0 : 0 ≤ i) (hz : i < 4096) (hi : x.cps[i.toNat]? = some c) (h : Q (.str ⟨#[c]⟩) H) : BO G getItem (.str x) (.int i) H Q X := fun k fl env A C Z m s va vb I ⟨u, h1⟩ ⟨t, h2⟩ => by
  subst h1 h2
  have hlt : i.toNat < x.cps.size := (Array.getElem?_eq_some_iff.mp hi).1
  exact PyProof.Rows.getItem_str (by simp; omega) (by rw [seqIndex_of h0 (show i < (x.length : Int) by show i < (x.cps.size : Int); omega)]; exact hi) ⟨C, .str ⟨#[c]⟩, H, Cle.refl C, I.toks, ⟨_, rfl⟩, h⟩
/-- behind its end -/
theorem BO_item_out {a : Addr} {vs : List LV} {i : Int} (hH : H a = some (.lst vs)) (hh : G.hn = true) (hi : i < -(vs.length : Int) ∨ (vs.length : Int) ≤ i) (hlo : -(2 ^ 63) ≤ i) (hhi : i < 2 ^ 63) (h : X ("IndexError", true) H) : BO G getItem (.ref a) (.int i) H Q X := fun k fl env A C Z m s va vb I h1 ⟨t, h2⟩ => by
  subst h2; cases h1
  obtain ⟨us, l1, l2, l3, l4⟩ := I.list hH
  refine wpAny_getItem_list_out (I.hno hh) l1 (by rw [List.size_toArray, l3]; exact hi) hlo hhi fun h' tk e hx => ?_
  exact ⟨C, _, H, Cle.refl C, ⟨e, rfl, .inl ⟨s.heap, I.toks, NewX.of hx true⟩⟩, h⟩

/-- the end of two lists -/
def LstOf (H : Hp) : LV → List LV → Prop
  | .ref a, vs => H a = some (.lst vs)
  | .ro _ us, vs => us = vs
  | _, _ => False
theorem LstOf.at {lv : LV} {vs : List LV} {v : Value} {env : Env} {A : Around} {C : Cm} {Z : Zs} {s : Shared} (h : LstOf H lv vs) (I : Inv G k fl env A C Z m H s) (hv : VR C lv v) : ∃ a us, v = .ref a ∧ s.heap.IsList a (List.toArray us) ∧ VRs C vs us := by
  cases lv with
  | ref a => cases hv; obtain ⟨us, l1, l2, _⟩ := I.list h; exact ⟨a, us, rfl, l1, l2⟩
  | ro a l => cases h; obtain ⟨rfl, o, n, us, hC, ho1, ho2, hvs⟩ := hv; exact ⟨a, us, rfl, ⟨_, I.st.con a _ hC, ho1, _, ho2⟩, hvs⟩
  | _ => exact h.elim
theorem BO_addl {x y : LV} {vs ws : List LV} (hx : LstOf H x vs) (hy : LstOf H y ws) (hz : vs.length + ws.length ≤ 4096) (h : ∀ a, H a = none → Q (.ref a) (hset H a (.lst (vs ++ ws)))) : BO G (binaryOp .Add) x y H Q X := fun k fl env A C Z m s va vb I h1 h2 => by
  obtain ⟨l, us, rfl, l1, l2⟩ := hx.at I h1
  obtain ⟨b, us', rfl, b1, b2⟩ := hy.at I h2
  obtain ⟨⟨cls, dd, data, sl⟩, ho, hc, n, hd⟩ := id l1
  obtain ⟨⟨cls2, dd2, data2, sl2⟩, ho2, hc2, n2, hd2⟩ := id b1
  simp only at hc hd hc2 hd2
  subst hc hd hc2 hd2
  refine concat_meets ⟨_, ho, rfl⟩ ⟨_, ho2, rfl⟩ noFill_list_add seq_list_add PySem.F.slot_list_add PySem.F.entry_list_add (PySem.F.args_list_add_2 _ _) (list_addW l b us.toArray us'.toArray n n2 dd dd2 sl sl2 (by rw [List.size_toArray, List.size_toArray, l2.length, b2.length]; unfold sizeLine; omega)) ⟨ho, ho2, ?_⟩
  rw [show us.toArray ++ us'.toArray = (us ++ us').toArray by simp]
  obtain ⟨f1, J⟩ := I.newList (tk := s.toks) (l2.append b2) (by simpa using hz)
  exact ⟨C, .ref _, _, Cle.refl C, J, rfl, h _ f1⟩

/-- a list of one value, again and again -/
theorem BO_mull {a : Addr} {lv : LV} {n : Int} (hH : H a = some (.lst [lv])) (h0 : 0 ≤ n) (hz : n ≤ 4096) (h : ∀ b, H b = none → Q (.ref b) (hset H b (.lst (List.replicate n.toNat lv)))) : BO G (binaryOp .Mult) (.ref a) (.int n) H Q X := fun k fl env A C Z m s va vb I h1 ⟨u, h2⟩ => by
  subst h2; cases h1
  obtain ⟨us, nn, l1, l2, l3, _⟩ := I.lst hH
  obtain ⟨v, r, rfl, v1, v2⟩ := l2
  cases v2
  refine wpAny_binaryOp_repeat_ref (T := "list") (U := "int") (by decide) ⟨_, l1, rfl⟩ (fun s' => typeIs_int s' n u) noFill_list_mul F.fills_int_mul F.slot_int_rmul PySem.repeat_list F.slot_int_index.lookup
    (call_meets F.slot_int_rmul (typeIs_int s n u) F.entry_int_rmul (F.args_int_rmul_2 _ _) (int___rmul___int_list n u a _ nn)
      ⟨l1, rfl, ⟨_, l1, rfl⟩, call_meets F.slot_list_mul ⟨_, l1, rfl⟩ F.entry_list_mul (F.args_list_mul_2 _ _)
        (AutoListH.list___mul___list_int_3 a _ nn n u (by simp [Builtin.List.listFitsIndex]; omega) (by rw [List.size_toArray, show [v].length = 1 from rfl, Nat.one_mul]; omega) (by simp [Builtin.List.listTooLong, sizeLine]; omega))
        ⟨l1, ?_⟩⟩)
  have e : (List.foldl (fun x1 x2 => x1 ++ x2) #[] (List.replicate (if (List.toArray [v]).isEmpty = true then 0 else n.toNat) (List.toArray [v]))) = (List.replicate n.toNat v).toArray := by
    have : ∀ (j : Nat) (acc : Array Value), List.foldl (fun x1 x2 => x1 ++ x2) acc (List.replicate j (List.toArray [v])) = acc ++ (List.replicate j v).toArray := by
      intro j
      induction j with
      | zero => intro acc; simp
      | succ j ih => intro acc; rw [List.replicate_succ, List.foldl_cons, ih, List.replicate_succ]; apply Array.ext'; simp
    rw [this]; simp
  rw [e]
  have hv : VRs C (List.replicate n.toNat lv) (List.replicate n.toNat v) := by
    generalize n.toNat = j
    induction j with
    | zero => rfl
    | succ j ih => exact ⟨v, _, rfl, v1, ih⟩
  obtain ⟨f1, J⟩ := I.newList (tk := s.toks) hv (by rw [List.length_replicate]; omega)
  exact ⟨C, .ref _, _, Cle.refl C, J, rfl, h _ f1⟩
end

end Go

end
section
set_option autoImplicit false
set_option linter.unusedVariables false
set_option linter.unusedSimpArgs false
set_option Elab.async false
namespace Go
open PySem PySem.W PyProof.Rows PySem.Calls

section
variable {G : Gl} {k : Nat} {fl : Bool} {env : Env} {A : Around} {C : Cm} {Z : Zs} {m : Loc} {H : Hp} {s : Shared}

theorem Inv.pkey (I : Inv G k fl env A C Z m H s) {p : Int × Int} {v : Value} (h : VR C (pv p) v) : PKey G.prog G.w s.heap p v := by
  obtain ⟨a, vs, rfl, ⟨o, n, hC, q1, q2⟩, hvs⟩ := h
  obtain ⟨v1, r1, rfl, ⟨t, rfl⟩, h2⟩ := hvs
  obtain ⟨v2, r2, rfl, ⟨u, rfl⟩, h3⟩ := h2
  cases h3
  exact ⟨a, rfl, o, _, n, I.st.con a _ hC, q1, q2, .cons (by simp [intKind, Value.isInt]) (.cons (by simp [intKind, Value.isInt]) .nil)⟩

/-- a point that stands in the heap is known -/
theorem Inv.know (I : Inv G k fl env A C Z m H s) {p : Int × Int} {v : Value} (h : PKey G.prog G.w s.heap p v) : ∃ C', Cle C C' ∧ Inv G k fl env A C' Z m H s ∧ VR C' (pv p) v ∧ ∀ b o, C' b = some o → C b = some o ∨ o.cls = .type "tuple" := by
  obtain ⟨a, rfl, o, items, n, e1, e2, e3, e4⟩ := h
  have hv : ∀ C' : Cm, C' a = some o → VR C' (pv p) (.ref a) := fun C' hC => by
    obtain ⟨i0, i1, rfl⟩ : ∃ i0 i1, items = #[i0, i1] := by
      have := e4.length
      simp at this
      obtain ⟨l⟩ := items
      match l, this with
      | [x, y], _ => exact ⟨x, y, rfl⟩
    cases e4 with
    | cons h1 h2 =>
      cases h2 with
      | cons h2 h3 =>
        obtain ⟨t, rfl⟩ := Value.isInt_shape h1
        obtain ⟨u, rfl⟩ := Value.isInt_shape h2
        exact ⟨a, _, rfl, ⟨o, n, hC, e2, e3⟩, ⟨_, _, rfl, ⟨t, rfl⟩, ⟨_, _, rfl, ⟨u, rfl⟩, rfl⟩⟩⟩
  cases q : C a with
  | some ob =>
    have := I.st.con a ob q
    rw [e1] at this; cases this
    exact ⟨C, Cle.refl C, I, hv C q, fun b o e => .inl e⟩
  | none =>
    have hz : ∀ z, z ∈ Z → z.1.frame ≠ some a := fun z hz e => by
      obtain ⟨_, _, L, x3, _, _, ob, x6, x7, es, en, x8⟩ := I.st.zs z hz
      rw [e] at x3; cases x3
      rw [e1] at x6; cases x6; rw [e3] at x8; cases x8
    have hL : a ≠ env.locals := fun e => by
      obtain ⟨mm, ⟨ob, es, en, x1, x2, _⟩, _⟩ := I.fr.ns
      rw [← e, e1] at x1; cases x1; rw [e3] at x2; cases x2
    have hc : ∀ x c, env.cells.lookup x = some c → c ≠ a := fun x c e q => by
      obtain ⟨_, _, _, _, v, ob, x1, x2⟩ := I.fr.ownC x c e
      rw [q, e1] at x1; cases x1; rw [e3] at x2; cases x2
    have hH : H a = none := by
      cases q2 : H a with
      | none => rfl
      | some lo => obtain ⟨ob, x1, x2⟩ := I.st.hp a _ q2; rw [e1] at x1; cases x1; exact absurd e2 x2.noTup
    have I' : Inv G k fl env A (cset C a o) Z m H s := by
      refine ⟨I.kind, I.glob, I.blt, I.room, I.frames, I.frame, I.hd.mono (fun b ob _ e _ => Cle.set o q b ob e), I.hno, ⟨fun b ob e => ?_, fun b lo e => ?_, fun b lo e => ?_, fun b ob e => Cle.set o q b ob (I.st.base b ob e), I.st.gens, I.st.os, fun z hz' => ?_⟩,
        ⟨?_, fun x o' hm hk => ?_, I.fr.kinds, I.fr.nd, I.fr.apart, ⟨?_, I.fr.ownL.2⟩, fun x c e => ?_⟩⟩
      · by_cases z : b = a
        · subst z; rw [cset_same] at e; cases e; exact e1
        · rw [cset_ne C o z] at e; exact I.st.con b ob e
      · obtain ⟨ob, x1, x2⟩ := I.st.hp b lo e
        exact ⟨ob, x1, x2.mono (Cle.set o q) (TK.of_keeps fun _ _ e => e)⟩
      · rw [cset_ne C o (fun z => by rw [z, hH] at e; cases e)]; exact I.st.dis b lo e
      · obtain ⟨x1, x2, L, x3, x4, r⟩ := I.st.zs z hz'
        exact ⟨x1, x2, L, x3, by rw [cset_ne C o (fun y => hz z hz' (by rw [← y]; exact x3))]; exact x4, r⟩
      · obtain ⟨mm, x1, x2⟩ := I.fr.ns
        exact ⟨mm, x1, fun x lv h1 h2 => by obtain ⟨u, u1, u2⟩ := x2 x lv h1 h2; exact ⟨u, u1, u2.mono (Cle.set o q)⟩⟩
      · obtain ⟨c, u, c1, c2, c3⟩ := I.fr.cell x o' hm hk
        exact ⟨c, u, c1, c2, fun lv e => by obtain ⟨u', u1, u2⟩ := c3 lv e; exact ⟨u', u1, u2.mono (Cle.set o q)⟩⟩
      · rw [cset_ne C o (Ne.symm hL)]; exact I.fr.ownL.1
      · obtain ⟨x1, r⟩ := I.fr.ownC x c e
        exact ⟨fun z => by rw [cset_ne C o (hc x c e)]; exact x1 z, r⟩
    refine ⟨_, Cle.set o q, I', hv _ (cset_same _ _ _), fun b ob e => ?_⟩
    by_cases z : b = a
    · subst z; rw [cset_same] at e; cases e; exact .inr e2
    · rw [cset_ne C o z] at e; exact .inl e

theorem Inv.drawn (I : Inv G k fl env A C Z m H s) {d : Drawn} : Inv G k fl env A C Z m H { s with drawn := d } :=
  ⟨I.kind, I.glob, I.blt, I.room, I.frames, I.frame, I.hd, I.hno, ⟨I.st.con, I.st.hp, I.st.dis, I.st.base, I.st.gens, I.st.os, I.st.zs⟩, I.fr⟩
end

section
variable {G : Gl} {k : Nat} {fl : Bool} {sc : Scope} {m : Loc} {H : Hp} {Q : Qv} {X : Xc}

theorem BO_inset {a : Addr} {ps : List (Int × Int)} {p : Int × Int} (hH : H a = some (.pset ps)) (h : Q (.bool (decide (p ∈ ps))) H) : BO G (compareOp .In) (pv p) (.ref a) H Q X := fun k fl env A C Z m s va vb I h1 h2 => by
  cases h2
  obtain ⟨o, es, ep, t, e1, e2, e3, S, sz⟩ := I.pset hH
  have hT : s.TypeIs (.ref a) "set" := ⟨o, e1, e2.1⟩
  show wpAny _ _ (do return Value.bool (← contains (.ref a) va)) _ _ s
  refine wpAny_bind ?_
  unfold contains
  try with_reducible refine wpAny_holding ?_
  refine wpAny_bind (wpAny_specialOf hT F.slot_set_contains.lookup ?_)
  show wpAny _ _ (if (some (Value.builtin "set.__contains__") == some Value.none) = true then _ else _) _ _ s
  rw [if_neg (by rw [beq_builtin_none]; exact Bool.false_ne_true)]
  refine wpAny_bind (wpAny_callSpecialUnlessNone?_slot (name := Str.ofString "__contains__") hT F.slot_set_contains
    (wpAny_call_entry F.slot_set_contains hT PySem.entry_set_contains ?_ (F.args_set_contains_2 _ _)))
  unfold Builtin.«frozenset.__contains__» Builtin.Frozenset.oneOther
  simp only [List.isEmpty_nil, bind_assoc]
  unfold Builtin.Frozenset.addrOf Builtin.Frozenset.withSetAsKey
  refine wpAny_bind (wpAny_pure ?_)
  try dsimp only
  refine wpAny_bind (wpAny_pure ?_)
  try dsimp only
  refine wpAny_bind (wpAny_tryCatch ?_)
  refine set_contains (by have := I.units; show A.units + 1 < cLine; unfold cLine at *; have := I.room.2; omega) e1 e3 S (I.pkey h1) ?_
  show wpAny _ _ (ret (Value.bool (decide (p ∈ ps)))) _ _ _
  exact wpAny_pure ⟨_, rfl, wpAny_truthy_bool (wpAny_pure ⟨C, .bool _, H, Cle.refl C, I.toks, rfl, h⟩)⟩
theorem BO_notinset {a : Addr} {ps : List (Int × Int)} {p : Int × Int} (hH : H a = some (.pset ps)) (h : Q (.bool (!decide (p ∈ ps))) H) : BO G (compareOp .NotIn) (pv p) (.ref a) H Q X := fun k fl env A C Z m s va vb I h1 h2 => by
  cases h2
  obtain ⟨o, es, ep, t, e1, e2, e3, S, sz⟩ := I.pset hH
  have hT : s.TypeIs (.ref a) "set" := ⟨o, e1, e2.1⟩
  show wpAny _ _ (do return Value.bool (!(← contains (.ref a) va))) _ _ s
  refine wpAny_bind ?_
  unfold contains
  try with_reducible refine wpAny_holding ?_
  refine wpAny_bind (wpAny_specialOf hT F.slot_set_contains.lookup ?_)
  show wpAny _ _ (if (some (Value.builtin "set.__contains__") == some Value.none) = true then _ else _) _ _ s
  rw [if_neg (by rw [beq_builtin_none]; exact Bool.false_ne_true)]
  refine wpAny_bind (wpAny_callSpecialUnlessNone?_slot (name := Str.ofString "__contains__") hT F.slot_set_contains
    (wpAny_call_entry F.slot_set_contains hT PySem.entry_set_contains ?_ (F.args_set_contains_2 _ _)))
  unfold Builtin.«frozenset.__contains__» Builtin.Frozenset.oneOther
  simp only [List.isEmpty_nil, bind_assoc]
  unfold Builtin.Frozenset.addrOf Builtin.Frozenset.withSetAsKey
  refine wpAny_bind (wpAny_pure ?_)
  try dsimp only
  refine wpAny_bind (wpAny_pure ?_)
  try dsimp only
  refine wpAny_bind (wpAny_tryCatch ?_)
  refine set_contains (by have := I.units; show A.units + 1 < cLine; unfold cLine at *; have := I.room.2; omega) e1 e3 S (I.pkey h1) ?_
  show wpAny _ _ (ret (Value.bool (decide (p ∈ ps)))) _ _ _
  exact wpAny_pure ⟨_, rfl, wpAny_truthy_bool (wpAny_pure ⟨C, .bool _, H, Cle.refl C, I.toks, rfl, h⟩)⟩
end
end Go

end
section
set_option autoImplicit false
set_option linter.unusedVariables false
set_option linter.unusedSimpArgs false
set_option Elab.async false
namespace Go
open PySem PySem.W PyProof.Rows PySem.Calls

section
variable {prog : Program} {w : World} {A : Around} {E : Value → Shared → Prop} {s : Shared}
set_option maxRecDepth 1000000

theorem newCode_set {Q₁ : Value → Shared → Prop}
    (h : Q₁ (.ref s.heap.objs.size) { s with heap := s.heap.push { cls := .type "set", dict := none, data := .set #[] 0 (.fresh 0 0 (!w.params.followText "set-order")) } }) :
    codeAny (model prog w) A (.call (.builtin "set.__new__") ⟨[.type "set"], []⟩) (wants Q₁ E) s := by
  refine codeAny_of_tree ?_
  show wpAny _ A.in1 (do checkBuiltinCall "set.__new__" ⟨[.type "set"], []⟩; again (.builtin "set.__new__" ⟨[.type "set"], []⟩)) _ _ s
  refine wpAny_bind (wpAny_of_eq F.newCall_set_0 (wpAny_pure ⟨plainId_quiet F.plain_set_new _, codeAny_builtin F.entry_set_new ?_⟩))
  rw [Around.under_plainId F.plain_set_new _]
  unfold Builtin.«set.__new__» Builtin.Frozenset.newClass
  have hsub := PySem.sub_set_self
  obtain ⟨hp, g, d, tk, os⟩ := s
  dsimp only
  wp_walk
  refine wpAny_askSetting (wpAny_pure ?_)
  dsimp only
  simp only [newObj]
  refine wpAny_bind (wpAny_alloc (wpAny_pure ?_))
  exact wpAny_pure h

set_option maxHeartbeats 1000000 in
theorem callNew_set {Q : Value → Shared → Prop}
    (h : Q (.ref s.heap.objs.size) { s with heap := s.heap.push { cls := .type "set", dict := none, data := .set #[] 0 (.fresh 0 0 (!w.params.followText "set-order")) } }) :
    wpAny (model prog w) A (call (.type "set") []) Q E s := by
  obtain ⟨c, tl, hmro⟩ := F.called_set.mro
  have hmade := F.called_set.made
  have hsub := F.called_set.sub
  refine wpAny_call (codeAny_of_tree ?_)
  show wpAny _ _ (callAny (.type "set") _) _ _ _
  refine wpAny_pure ⟨Code.quiet_builtin _ (by decide +kernel), codeAny_builtin F.entry_type_call ?_⟩
  rw [Around.under_plain (weight_type_call_type "set" [] []) rfl]
  have h1 := F.called_set.notType
  have h2 := F.called_set.canCreate
  have hct := F.typeCall_set_0
  repeat (any_goals (first | assumption | wp_step))
  refine codeAny_mono (newCode_set (E := E) (Q₁ := fun obj s₁ => obj = .ref s.heap.objs.size ∧ s₁ = { s with heap := s.heap.push { cls := .type "set", dict := none, data := .set #[] 0 (.fresh 0 0 (!w.params.followText "set-order")) } }) ⟨rfl, rfl⟩) fun r s₁ hr => ?_
  cases r with
  | error e => exact hr
  | ok fl =>
    cases fl with
    | ret obj =>
      obtain ⟨rfl, rfl⟩ := hr
      have hS : (s.heap.push { cls := .type "set", dict := none, data := .set #[] 0 (.fresh 0 0 (!w.params.followText "set-order")) }).get? s.heap.objs.size = some { cls := .type "set", dict := none, data := .set #[] 0 (.fresh 0 0 (!w.params.followText "set-order")) } := Heap.get?_push_size _ rfl
      have hT : Shared.TypeIs { s with heap := s.heap.push { cls := .type "set", dict := none, data := .set #[] 0 (.fresh 0 0 (!w.params.followText "set-order")) } } (.ref s.heap.objs.size) "set" := ⟨_, hS, rfl⟩
      have hli := F.called_set.init.lookup
      have hbi := F.called_set.init.bind (.ref s.heap.objs.size)
      repeat (any_goals (first | assumption | wp_step))
      refine codeAny_mono (codeAny_call_builtin (R := wants (fun r s₂ => r = .none ∧ Q (.ref s.heap.objs.size) s₂) E) F.called_set.init.plain F.entry_set_init (check_set_init hT ?_)) fun r₂ s₂ hr₂ => ?_
      · unfold Builtin.«set.__init__» noKeywords
        wp_walk
        exact ⟨rfl, h⟩
      · cases r₂ with
        | error e => exact hr₂
        | ok fl₂ =>
          cases fl₂ with
          | ret r =>
            obtain ⟨rfl, hq⟩ := hr₂
            repeat (any_goals (first | assumption | wp_step))
          | _ => exact hr₂.elim
    | _ => exact hr.elim
end

section
variable {G : Gl} {k : Nat} {fl : Bool} {sc : Scope} {m : Loc} {H : Hp} {Q : Qv} {X : Xc}

theorem CALL_set (h : ∀ a, H a = none → Q (.ref a) (hset H a (.pset []))) : CALL G k (.type "set") [] H Q X := fun fl env A C Z m s vals I hv => by
  cases hv
  refine callNew_set ?_
  obtain ⟨f1, J⟩ := I.allocH (tk := s.toks) (h' := s.heap.push { cls := .type "set", dict := none, data := .set #[] 0 (.fresh 0 0 (!G.w.params.followText "set-order")) }) (Heap.get?_none_of_le (Nat.le_refl _)) (fun b o e => Heap.get?_push_of_some _ e) (Heap.get?_push_size _ rfl)
    (o := .pset []) ⟨⟨rfl, rfl, rfl⟩, by simp, #[], 0, _, rfl, setAt_fresh _⟩
  exact ⟨C, .ref _, _, Cle.refl C, J, rfl, h _ f1⟩

theorem CALL_set_add {a : Addr} {ps : List (Int × Int)} {p : Int × Int} (hH : H a = some (.pset ps)) (sz : ps.length < 60) (h : Q .none (hset H a (.pset (if p ∈ ps then ps else p :: ps)))) : CALL G k (.builtin "set.add") [.ref a, pv p] H Q X := fun fl env A C Z m s vals I hv => by
  obtain ⟨va, r, rfl, e1, h2⟩ := hv
  obtain ⟨vb, r2, rfl, e2, h3⟩ := h2
  cases h3; cases e1
  obtain ⟨o, es, ep, t, g1, g2, g3, S, _⟩ := I.pset hH
  have hT : s.TypeIs (.ref a) "set" := ⟨o, g1, g2.1⟩
  refine wpAny_call_entry F.slot_set_add hT F.entry_set_add ?_ (F.args_set_add_2 _ _)
  unfold Builtin.«set.add» Builtin.Frozenset.oneOther
  simp only [List.isEmpty_nil, bind_assoc]
  unfold Builtin.Frozenset.addrOf
  refine wpAny_bind (wpAny_pure ?_)
  try dsimp only
  refine wpAny_bind (wpAny_pure ?_)
  try dsimp only
  refine wpAny_bind (set_add (by have := I.room.2; show A.units + 1 < cLine; unfold cLine; omega) g1 g2.1 g3 S (I.pkey e2) (by omega) fun h' es' ep' t' tk q1 q2 q3 => ?_)
  show wpAny _ _ (ret Value.none) _ _ _
  have hz : (if p ∈ ps then ps else p :: ps).length ≤ 60 := by
    split
    · omega
    · rw [List.length_cons]; omega
  exact wpAny_pure ⟨_, rfl, C, .none, _, Cle.refl C, I.upd (tk := tk) hH q1 q2 (o' := .pset (if p ∈ ps then ps else p :: ps)) ⟨⟨g2.1, g2.2⟩, hz, es', ep', t', rfl, q3⟩, rfl, h⟩

theorem CALL_set_pop {a : Addr} {ps : List (Int × Int)} (hH : H a = some (.pset ps)) (hne : ps ≠ []) (h : ∀ q, q ∈ ps → Q (pv q) (hset H a (.pset (ps.erase q)))) : CALL G k (.builtin "set.pop") [.ref a] H Q X := fun fl env A C Z m s vals I hv => by
  obtain ⟨va, r, rfl, e1, h2⟩ := hv
  cases h2; cases e1
  obtain ⟨o, es, ep, t, g1, g2, g3, S, sz⟩ := I.pset hH
  have hT : s.TypeIs (.ref a) "set" := ⟨o, g1, g2.1⟩
  refine wpAny_call_entry F.slot_set_pop hT F.entry_set_pop ?_ (F.args_set_pop_1 _)
  unfold Builtin.«set.pop» Builtin.Frozenset.noArgs
  simp only [List.isEmpty_nil, bind_assoc]
  unfold Builtin.Frozenset.addrOf
  refine wpAny_bind (wpAny_pure ?_)
  try dsimp only
  refine wpAny_bind (set_pop g1 g2.1 g3 S hne sz fun h' es' ep' t' q x d hq hx q1 q2 q3 => ?_)
  dsimp only
  have J := I.upd (tk := s.toks) hH q1 q2 (o' := .pset (ps.erase q)) ⟨⟨g2.1, g2.2⟩, by rw [List.length_erase]; split <;> omega, es', ep', t', rfl, q3⟩
  have J2 := J.drawn (d := d)
  obtain ⟨C', c', J3, hv, _⟩ := J2.know (v := x) hx
  exact wpAny_pure ⟨_, rfl, C', _, _, c', J3, hv, h q hq⟩
end
end Go

end
section
set_option autoImplicit false
set_option linter.unusedVariables false
set_option linter.unusedSimpArgs false
set_option Elab.async false
set_option maxRecDepth 100000
namespace Go
open PySem PySem.W PyProof.Rows PySem.Calls

def stpP (G : Gl) : Stp G where
  κ := Addr × Obj × Nat
  isIt := fun _ x o => o.cls = .type "set_iterator" ∧ ∃ (slot : Nat) (es : Array (Int × Value)) (ep : Nat) (t : SetTable), x.2.1.data = .set es ep t ∧ o.data = .fields #[.int slot 0, .int x.2.2 0, .ref x.1, .int es.size 0, .int ep 0] ∧ (G.w.params.followText "set-order" = false → SetTable.below t.place slot = x.2.2)
  nx := fun H x r => ∃ W, H x.1 = some (.psetx x.1 W x.2.1) ∧ r = (W[x.2.2]?).map fun p => (pv p, (x.1, x.2.1, x.2.2 + 1))
  fields := fun ⟨_, _, _, _, _, _, h, _⟩ => ⟨_, h⟩
  mono := fun _ h => h
  next := by
    rintro k fl env A C Z m H s it ⟨a, ob, i⟩ o r E hh I hg ⟨hc, slot, es, ep, t, hd, hf, hs⟩ hC hH ⟨W, hW, rfl⟩
    obtain ⟨ob', e1, rfl, e2, sz, es', ep', t', e3, S, hl, hw⟩ := I.st.hp a _ hW
    rw [hd] at e3; cases e3
    cases hv : W[i]? with
    | none =>
      refine pyNext_set_end (I.hno hh) ⟨o, hg, hc, hf⟩ e1 hd S hs ?_ fun h' hx => ⟨rfl, I.alienE (tk := s.toks) hg hf hC hH hx⟩
      rw [List.getElem?_eq_none_iff, ← hl]; exact List.getElem?_eq_none_iff.mp hv
    | some p =>
      have hi : i < (walkOf G.w a es ep).length := by rw [← hl]; exact (List.getElem?_eq_some_iff.mp hv).1
      have he := List.getElem?_eq_getElem hi
      refine pyNext_set ⟨o, hg, hc, hf⟩ e1 hd S hs he fun h' slot' q1 ⟨o', g1, g2, g3⟩ q3 => ?_
      have J := I.alien (tk := s.toks) hg hf hC hH q3
      have hk := (hw i _ p he hv).keeps (fun b ob z n z1 z2 z3 => (q3.2 b (fun q => by rw [q, hg] at z1; cases z1; rw [hf] at z3; cases z3)).trans z1 : TK s.heap h')
      obtain ⟨C', c', J2, hv2, hn⟩ := J.know hk
      refine ⟨_, C', o', rfl, c', J2, hv2, ?_, g1, g2, slot', es, ep, t, hd, g3, q1⟩
      cases q : C' it with
      | none => rfl
      | some ox =>
        rcases hn it ox q with z | z
        · rw [hC] at z; cases z
        · have := J2.st.con it ox q
          have g1' : h'.get? it = some o' := g1
          rw [show ({ s with heap := h', toks := s.toks } : Shared).heap.get? it = some o' from g1'] at this
          cases this; rw [g2] at z; simp at z
  go := by
    rintro k fl env A C Z m H s it l l' o lv v t E I hg ⟨hc, r⟩ hC hH hn hv
    exact go_plain hg hc (by decide) ⟨I, o, hg, hc, r⟩
  self := by
    rintro A C s it ⟨a, ob, i⟩ o E Q hg ⟨hc, _⟩ hQ
    exact pyIter_setiter ⟨o, hg, hc⟩ hQ

section
variable {G : Gl} {k : Nat} {fl : Bool} {sc : Scope} {m : Loc} {H : Hp} {Q : Qv} {X : Xc}

theorem IV_set {a : Addr} {W : List (Int × Int)} {ob : Obj} {Q : (stpP G).κ → Hp → Prop} (hH : H a = some (.psetx a W ob)) (h : Q (a, ob, 0) H) : IV G (stpP G) (.ref a) H Q X := fun k fl env A C Z m s v I hv => by
  cases hv
  obtain ⟨ob', e1, rfl, e2, sz, es, ep, t, e3, S, hl, hw⟩ := I.st.hp a _ hH
  refine pyIter_set e1 e2.1 e3 S ?_
  have hn : s.heap.get? s.heap.objs.size = none := Heap.get?_none_of_le (Nat.le_refl _)
  obtain ⟨f1, f2, _⟩ := I.fresh hn
  refine ⟨C, H, _, (a, _, 0), _, rfl, Cle.refl C, I.keeps (tk := s.toks) (fun b o e => Heap.get?_push_of_some _ e), f1, f2, Heap.get?_push_size _ rfl, ⟨rfl, 0, es, ep, t, e3, rfl, fun _ => ?_⟩, h⟩
  obtain ⟨b1, b2, b3⟩ := below_spec S.tok.rp 0
  rcases Nat.eq_zero_or_pos (SetTable.below t.place 0) with q | q
  · exact q
  · have := b2 0 t.place[0] q (Array.getElem?_eq_getElem (by omega)); omega

theorem hset_hset (H : Hp) (a : Addr) (x y : LO) : hset (hset H a x) a y = hset H a y := by funext b; unfold hset; split <;> rfl
theorem hset_id {H : Hp} {a : Addr} {x : LO} (h : H a = some x) : hset H a x = H := by
  funext b; unfold hset; split
  · rename_i q; rw [q, h]
  · rfl

theorem Inv.freeze {env : Env} {A : Around} {C : Cm} {Z : Zs} {s : Shared} (I : Inv G k fl env A C Z m H s) {a : Addr} {ps : List (Int × Int)} (hH : H a = some (.pset ps)) : ∃ W ob, W.Perm ps ∧ Inv G k fl env A C Z m (hset H a (.psetx a W ob)) s := by
  obtain ⟨o, es, ep, t, e1, e2, e3, S, sz⟩ := I.pset hH
  have hwp := walk_perm G.w a es ep
  have X1 := S.ents.of_perm hwp
  refine ⟨(walkOf G.w a es ep).map fun e => ptOf G.prog G.w s.heap e.2, o, X1.perm, ?_⟩
  have hS : SetAt G.prog G.w s.heap ((walkOf G.w a es ep).map fun e => ptOf G.prog G.w s.heap e.2) es t := ⟨X1.perm.symm.nodup S.nd, S.tok, S.plain, S.led, S.perm.trans X1.perm.symm, S.ent⟩
  have := I.upd (tk := s.toks) (h' := s.heap) hH (Heap.SameBut.refl _ _) e1 (o' := .psetx a ((walkOf G.w a es ep).map fun e => ptOf G.prog G.w s.heap e.2) o) ⟨rfl, e2, by rw [X1.perm.length_eq]; exact sz, es, ep, t, e3, hS, by rw [List.length_map], fun i e p h1 h2 => ?_⟩
  · exact this
  · rw [List.getElem?_map, h1] at h2
    cases h2
    obtain ⟨p, hp, _⟩ := X1.ent e (List.mem_of_getElem? h1)
    show PKey _ _ _ (ptOf G.prog G.w s.heap e.2) e.2
    rw [hp.pt]; exact hp
theorem Inv.thaw {env : Env} {A : Around} {C : Cm} {Z : Zs} {s : Shared} (I : Inv G k fl env A C Z m H s) {a : Addr} {W ps : List (Int × Int)} {ob : Obj} (hH : H a = some (.psetx a W ob)) (hp : W.Perm ps) : Inv G k fl env A C Z m (hset H a (.pset ps)) s := by
  obtain ⟨ob', e1, rfl, e2, sz, es, ep, t, e3, S, hl, hw⟩ := I.st.hp a _ hH
  exact I.upd (tk := s.toks) (h' := s.heap) hH (Heap.SameBut.refl _ _) e1 (o' := .pset ps) ⟨e2, by rw [← hp.length_eq]; exact sz, es, ep, t, e3, ⟨hp.nodup S.nd, S.tok, S.plain, S.led, S.perm.trans hp, S.ent⟩⟩

def PQ.back (P : PQ) (a : Addr) (W : List (Int × Int)) (ob : Obj) (ps : List (Int × Int)) : PQ :=
  ⟨fun m H => H a = some (.psetx a W ob) ∧ P.n m (hset H a (.pset ps)), fun lv H => H a = some (.psetx a W ob) ∧ P.r lv (hset H a (.pset ps)), fun m H => H a = some (.psetx a W ob) ∧ P.b m (hset H a (.pset ps)),
    fun m H => H a = some (.psetx a W ob) ∧ P.c m (hset H a (.pset ps)), fun _ _ _ => False⟩

/-- a set that is walked: known as it stands -/
theorem EX_freeze {st : Stmt} {P : PQ} {a : Addr} {ps : List (Int × Int)} (hH : H a = some (.pset ps)) (h : ∀ W ob, W.Perm ps → EX G k sc st m (hset H a (.psetx a W ob)) (P.back a W ob ps)) : EX G k sc st m H P := fun env A C Z s hs I => by
  obtain ⟨W, ob, hp, J⟩ := I.freeze hH
  refine wpAny_mono (h W ob hp env A C Z s hs J) (fun f s1 ⟨C1, m1, H1, c1, I1, q1⟩ => ?_) fun e s1 x => by obtain ⟨_, _, _, _, _, _, q⟩ := x; exact q.elim
  cases f with
  | next => exact ⟨C1, m1, _, c1, I1.thaw q1.1 hp, q1.2⟩
  | brk => exact ⟨C1, m1, _, c1, I1.thaw q1.1 hp, q1.2⟩
  | cont => exact ⟨C1, m1, _, c1, I1.thaw q1.1 hp, q1.2⟩
  | ret v => obtain ⟨lv, v1, q2, q3⟩ := q1; exact ⟨C1, m1, _, c1, I1.thaw q2 hp, lv, v1, q3⟩

theorem CALL_len_list {a : Addr} {vs : List LV} (hH : H a = some (.lst vs)) (h : Q (.int vs.length) H) : CALL G k (.builtin "len") [.ref a] H Q X := fun fl env A C Z m s vals I hv => by
  obtain ⟨va, r, rfl, e1, h2⟩ := hv
  cases h2; cases e1
  obtain ⟨us, l1, l2, l3, l4⟩ := I.list hH
  refine PyProof.Rows.len_list l1 (by rw [List.size_toArray]; omega) ?_
  rw [List.size_toArray, l3]
  exact ⟨C, .int _, H, Cle.refl C, I.toks, ⟨_, rfl⟩, h⟩
theorem CALL_len_set {a : Addr} {ps : List (Int × Int)} (hH : H a = some (.pset ps)) (h : Q (.int ps.length) H) : CALL G k (.builtin "len") [.ref a] H Q X := fun fl env A C Z m s vals I hv => by
  obtain ⟨va, r, rfl, e1, h2⟩ := hv
  cases h2; cases e1
  obtain ⟨o, es, ep, t, g1, g2, g3, S, sz⟩ := I.pset hH
  refine PySem.call_len_set g1 g2 g3 S.fits (by rw [S.size]; omega) ?_
  rw [S.size]
  exact ⟨C, .int _, H, Cle.refl C, I.toks, ⟨_, rfl⟩, h⟩
theorem CALL_list {lv : LV} {vs : List LV} (hl : LstOf H lv vs) (hz : vs.length ≤ 4096) (h : ∀ a, H a = none → Q (.ref a) (hset H a (.lst vs))) : CALL G k (.type "list") [lv] H Q X := fun fl env A C Z m s vals I hv => by
  obtain ⟨va, r, rfl, e1, h2⟩ := hv
  cases h2
  obtain ⟨l, us, rfl, ⟨o, l1, l2, n, l3⟩, v2⟩ := hl.at I e1
  refine call_list_seq l (.inl rfl) l1 l2 l3 (fun h' c' q1 q2 => ?_) (by rw [List.size_toArray, v2.length]; unfold sizeLine; omega)
  obtain ⟨f1, J⟩ := I.allocH (tk := s.toks) (o := .lst vs) (Heap.get?_none_of_le (Nat.le_refl _)) q1 q2 ⟨rfl, rfl, rfl, hz, us, c', rfl, v2⟩
  exact ⟨C, .ref _, _, Cle.refl C, J, rfl, h _ f1⟩
theorem CALL_append {a : Addr} {vs : List LV} {lv : LV} (hH : H a = some (.lst vs)) (hz : vs.length < 4096) (h : Q .none (hset H a (.lst (vs ++ [lv])))) : CALL G k (.builtin "list.append") [.ref a, lv] H Q X := fun fl env A C Z m s vals I hv => by
  obtain ⟨va, r, rfl, e1, h2⟩ := hv
  obtain ⟨vb, r2, rfl, e2, h3⟩ := h2
  cases h3; cases e1
  exact list_push I hH hz e2 fun s' I' => ⟨C, .none, _, Cle.refl C, I', rfl, h⟩

/-- a place of a list -/
theorem SO_list {a : Addr} {vs : List LV} {i : Int} {lv : LV} {N : Hp → Prop} (hH : H a = some (.lst vs)) (h0 : 0 ≤ i) (hi : i < vs.length) (h : N (hset H a (.lst (vs.set i.toNat lv)))) : SO G setItem (.ref a) (.int i) lv H N X := fun k fl env A C Z m s va vb vc I h1 ⟨t, h2⟩ h3 => by
  subst h2; cases h1
  obtain ⟨us, n, l1, l2, l3, l4⟩ := I.lst hH
  have hT := l1.isList.typeIs
  unfold setItem
  try with_reducible refine wpAny_holding ?_
  first | refine wpAny_bind (wpAny_pure ?_) | skip
  refine wpAny_bind (wpAny_sequenceKey hT (by decide) ?_)
  refine wpAny_bind (wpAny_callSpecial?_slot (name := Str.ofString "__setitem__") hT slot_list_setitem
    (wpAny_call_entry slot_list_setitem hT entry_list_setitem ?_ (args_list_setitem _ _ _)))
  have hfit : i < 2 ^ 63 := by omega
  show wpAny _ _ (Builtin.List.listSubscript? (.int i t) >>= _) _ _ s
  refine wpAny_bind (wpAny_listSubscript_int (fitsIndex_of h0 hfit) ?_)
  clear hfit
  obtain ⟨j, rfl⟩ := Int.eq_ofNat_of_zero_le h0
  have hj : j < us.length := by omega
  show wpAny _ _ ((seqItemAt a j >>= fun r => pure (r.map (j, ·))) >>= _) _ _ s
  refine wpAny_bind (wpAny_bind (wpAny_seqItemAt l1 rfl (wpAny_pure ?_)))
  rw [List.getElem?_toArray, List.getElem?_eq_getElem hj]
  show wpAny _ _ (setSeqItemAt a j vc >>= _) _ _ s
  obtain ⟨n', hd'⟩ := Obj.data_mapSeq (o := ⟨.type "list", none, .seq (List.toArray us) n, #[]⟩) rfl (·.setIfInBounds j vc)
  have hset : VRs C (vs.set j lv) (us.set j vc) := by
    have : ∀ {ls : List LV} {ws : List Value} (j : Nat), VRs C ls ws → VRs C (ls.set j lv) (ws.set j vc) := by
      intro ls
      induction ls with
      | nil => intro ws j h; cases h; simp [VRs]
      | cons l ls ih =>
        rintro ws j ⟨v, r, rfl, q1, q2⟩
        cases j with
        | zero => exact ⟨vc, r, rfl, h3, q2⟩
        | succ j => exact ⟨v, r.set j vc, rfl, q1, ih j q2⟩
    exact this j l2
  have J := I.upd (tk := s.toks) hH (Heap.SameBut.update ..) (Heap.get?_update_self _ l1 rfl) (o' := .lst (vs.set j lv)) ⟨rfl, rfl, rfl, by rw [List.length_set]; exact l4, us.set j vc, n', hd'.trans (by simp), hset⟩
  refine wpAny_bind (wpAny_setSeqItemAt l1 rfl ?_)
  first
    | exact wpAny_bind (wpAny_pure (wpAny_pure ⟨.none, rfl, wpAny_pure ⟨C, _, Cle.refl C, J, h⟩⟩))
    | exact wpAny_pure ⟨.none, rfl, wpAny_pure ⟨C, _, Cle.refl C, J, h⟩⟩
end
end Go

end
section
set_option autoImplicit false
set_option Elab.async false
namespace Go
open PySem

section
variable {prog : Program} {w : World} {A : Around} {E : Value → Shared → Prop} {s : Shared} {a b : Addr} {o ob : Obj} {es eb : Array (Int × Value)} {ep epb : Nat} {t tb : SetTable} {vs qs : List (Int × Int)}

/-- what a set is behind a change of it alone -/
structure Chg (prog : Program) (w : World) (a : Addr) (o : Obj) (h h' : Heap) (vs : List (Int × Int)) : Prop where
  but : Heap.SameBut a h h'
  at_ : ∃ es ep t, h'.get? a = some { o with data := .set es ep t } ∧ SetAt prog w h' vs es t

theorem addAll (hu : A.units < cLine) (hab : a ≠ b) (hc : o.cls = .type "set") (hcb : ob.cls = .type "set") (hdb : ob.data = .set eb epb tb) (each : Sem Unit) (hb : s.heap.get? b = some ob)
    (hEach : ∀ (h' : Heap) (tk : Tok) (Q : Unit → Shared → Prop), h'.get? b = some ob → Q () { s with heap := h', toks := tk } → wpAny (model prog w) A each Q E { s with heap := h', toks := tk })
    (Sb : SetAt prog w s.heap qs eb tb) {Q : Unit → Shared → Prop} : ∀ (l : List (Int × Value)) (h : Heap) (tk : Tok) (rs : List (Int × Int)), (∀ e, e ∈ l → ∃ p, p ∈ qs ∧ PKey prog w s.heap p e.2 ∧ e.1 = phash prog w p) → rs.length + l.length ≤ 60 → Chg prog w a o s.heap h rs → s.heap.get? a = some o →
      (∀ h' tk' rs', Chg prog w a o s.heap h' rs' → (∀ x, x ∈ rs' ↔ x ∈ rs ∨ ∃ e, e ∈ l ∧ PKey prog w s.heap x e.2) → Q () { s with heap := h', toks := tk' }) →
      wpAny (model prog w) A (forIn l PUnit.unit fun x (_ : PUnit) => (do
        let _ ← holding [x.2] (setAddHashed a x.2 x.1)
        each
        if (← setState b).2.1 != epb then unsupported "set.changed-during-merge"
        pure (ForInStep.yield PUnit.unit) : Sem (ForInStep PUnit))) (fun _ => Q ()) E { s with heap := h, toks := tk }
  | [], h, tk, rs, _, _, hch, _, hQ => by
    rw [List.forIn_nil]
    exact wpAny_pure (hQ h tk rs hch fun x => ⟨.inl, fun z => z.elim id fun ⟨_, q, _⟩ => nomatch q⟩)
  | e :: l, h, tk, rs, hl, hz, hch, hoa, hQ => by
    obtain ⟨p, hp, hk, he⟩ := hl e List.mem_cons_self
    obtain ⟨es1, ep1, t1, g1, S1⟩ := hch.at_
    have tk1 : TK s.heap h := tup_keeps hoa hc hch.but
    rw [List.forIn_cons]
    refine wpAny_bind (wpAny_bind (wpAny_holding ?_))
    rw [he]
    rw [List.length_cons] at hz
    refine set_addH (s := { s with heap := h, toks := tk }) hu g1 hc rfl S1 (hk.keeps tk1) (by omega) fun h' es' ep' t' tk' q1 q2 q3 => ?_
    have hb' : h'.get? b = some ob := (q1.2 b (Ne.symm hab)).trans ((hch.but.2 b (Ne.symm hab)).trans hb)
    refine wpAny_bind (hEach h' tk' _ hb' ?_)
    refine wpAny_bind (wpAny_setState_of (s := { s with heap := h', toks := tk' }) hb' hdb Sb.fits ?_)
    dsimp only
    rw [if_neg (by simp)]
    refine wpAny_pure ?_
    dsimp only
    refine addAll hu hab hc hcb hdb each hb hEach Sb l h' tk' (if p ∈ rs then rs else p :: rs) (fun e' h' => hl e' (List.mem_cons_of_mem _ h')) (by
      split
      · omega
      · rw [List.length_cons]; omega) ⟨hch.but.trans q1, es', ep', t', q2, q3⟩ hoa fun h2 tk2 rs' c2 m2 => hQ h2 tk2 rs' c2 fun x => ?_
    rw [m2 x]
    constructor
    · rintro (z | ⟨e', z1, z2⟩)
      · split at z
        · exact .inl z
        · rcases List.mem_cons.mp z with rfl | z
          · exact .inr ⟨e, List.mem_cons_self, hk⟩
          · exact .inl z
      · exact .inr ⟨e', List.mem_cons_of_mem _ z1, z2⟩
    · rintro (z | ⟨e', z1, z2⟩)
      · left; split
        · exact z
        · exact List.mem_cons_of_mem _ z
      · rcases List.mem_cons.mp z1 with rfl | z1
        · have := z2.inj hk; subst this
          left; split
          · assumption
          · exact List.mem_cons_self
        · exact .inr ⟨e', z1, z2⟩

theorem set_merge (hu : A.units < cLine) (hab : a ≠ b) (ho : s.heap.get? a = some o) (hc : o.cls = .type "set") (hd : o.data = .set es ep t) (S : SetAt prog w s.heap vs es t) (hb : s.heap.get? b = some ob) (hcb : ob.cls = .type "set") (hdb : ob.data = .set eb epb tb) (Sb : SetAt prog w s.heap qs eb tb)
    (sz : vs.length + qs.length ≤ 60) (each : Sem Unit)
    (hEach : ∀ (h' : Heap) (tk : Tok) (Q : Unit → Shared → Prop), h'.get? b = some ob → Q () { s with heap := h', toks := tk } → wpAny (model prog w) A each Q E { s with heap := h', toks := tk }) {Q : Unit → Shared → Prop}
    (h : ∀ h' tk rs, Chg prog w a o s.heap h' rs → (∀ x, x ∈ rs ↔ x ∈ vs ∨ x ∈ qs) → Q () { s with heap := h', toks := tk }) : wpAny (model prog w) A (setMerge a b each) Q E s := by
  unfold setMerge
  rw [if_neg (by simpa using hab)]
  refine wpAny_bind (wpAny_setState_of hb hdb Sb.fits ?_)
  dsimp only
  have C0 : Chg prog w a o s.heap s.heap vs := ⟨.refl .., es, ep, t, by rw [obj_self hd]; exact ho, S⟩
  by_cases hemp : eb.isEmpty = true
  · rw [if_pos hemp]
    refine wpAny_pure (h s.heap s.toks vs C0 fun x => ⟨.inl, fun z => z.elim id fun z => ?_⟩)
    have : qs = [] := List.length_eq_zero_iff.mp (by rw [← Sb.size]; rw [Array.isEmpty_iff_size_eq_zero] at hemp; exact hemp)
    rw [this] at z; cases z
  · rw [if_neg hemp]
    have hsz : eb.size = qs.length := Sb.size
    have hsz1 : es.size = vs.length := S.size
    unfold setRoomFor
    -- behind the room that was made
    have rest : ∀ (h1 : Heap) (es1 : Array (Int × Value)) (ep1 : Nat) (t1 : SetTable), Heap.SameBut a s.heap h1 → h1.get? a = some { o with data := .set es1 ep1 t1 } → SetAt prog w h1 vs es1 t1 → (t1.fill + eb.size) * 5 < t1.mask * 3 ∨ (vs.length + eb.size) * 2 ≤ t1.mask →
        wpAny (model prog w) A (do
          let (_, _, ts) ← setState a
          match ts.road tb with
          | .slotForSlot => storeSet a eb { tb with finger := ts.finger, led := ts.led && tb.led, moves := ts.moves, plain := ts.plain && tb.plain }
          | .clean =>
            let (es, t) ← (do
              let some (t, order) := (SetTable.laid ts.mask ts.finger ts.moves (led := ts.led && tb.led) (plain := ts.plain && tb.plain) (eb.map (·.1))) | unsupported "internal:set-table-without-room"
              let es' := order.filterMap (eb[·]?)
              if es'.size != eb.size then unsupported "internal:set-table-lost-an-element"
              pure (es', t) : Sem (Array (Int × Value) × SetTable))
            storeSet a es t
          | .oneByOne =>
            for (h, x) in ← setWalkUnseen b [a] (some a) do
              let _ ← holding [x] (setAddHashed a x h)
              each
              if (← setState b).2.1 != epb then unsupported "set.changed-during-merge") Q E { s with heap := h1 } := by
      intro h1 es1 ep1 t1 sb1 g1 S1 room
      have kb : h1.get? b = some ob := (sb1.2 b (Ne.symm hab)).trans hb
      have tk1 : TK s.heap h1 := tup_keeps ho hc sb1
      have Sb1 := Sb.keeps tk1
      refine wpAny_bind (wpAny_setState_of (s := { s with heap := h1 }) g1 rfl S1.fits ?_)
      dsimp only
      have hk1 : ∀ {es' : Array (Int × Value)} {t' : SetTable}, TK h1 (h1.update a (Obj.putSet es' t')) := tup_keeps g1 hc (.update ..)
      unfold SetTable.road
      by_cases hf : (t1.fill != 0) = true
      · rw [if_pos hf]
        dsimp only
        have hwalk : ∀ {Q' : Array (Int × Value) → Shared → Prop}, Q' (walkOf w b eb epb).toArray { s with heap := h1 } → wpAny (model prog w) A (setWalkUnseen b [a] (some a)) Q' E { s with heap := h1 } := by
          intro Q' hq
          unfold setWalkUnseen setsByText
          refine wpAny_bind (wpAny_setState_of (s := { s with heap := h1 }) kb hdb Sb1.fits (wpAny_bind (wpAny_bind (wpAny_askSetting (wpAny_pure ?_)))))
          dsimp only
          have hcond : ((model prog w).w.params.followText "set-order" || (tb.led && tb.plain) || decide (eb.size ≤ 1)) = true := by
            show (w.params.followText "set-order" || (tb.led && tb.plain) || decide (eb.size ≤ 1)) = true
            cases q : w.params.followText "set-order" with
            | true => rfl
            | false => rw [Sb.led q, Sb.plain]; rfl
          rw [if_pos hcond]
          unfold setWalk setsByText
          refine wpAny_bind (wpAny_setState_of (s := { s with heap := h1 }) kb hdb Sb1.fits (wpAny_bind (wpAny_bind (wpAny_askSetting (wpAny_pure ?_)))))
          dsimp only
          cases q : w.params.followText "set-order" with
          | true =>
            rw [show (model prog w).w.params.followText "set-order" = true from q, if_pos rfl]
            refine wpAny_bind (wpAny_askSetting (wpAny_pure ?_))
            have e : (walkOf w b eb epb).toArray = pickOrder (w.params.setOrder b epb) eb := by unfold walkOf; rw [if_pos q]
            rw [e] at hq; exact hq
          | false =>
            rw [show (model prog w).w.params.followText "set-order" = false from q, if_neg (by decide)]
            have hdr : (!tb.plain && decide (eb.size > 1)) = false := by rw [Sb.plain]; rfl
            show wpAny _ _ (if (!tb.plain && decide (eb.size > 1)) = true then _ else _) _ _ _
            rw [hdr, if_neg (by decide)]
            show wpAny _ _ (do (if (!tb.led && decide (eb.size > 1)) = true then unsupported "set:maker-not-led" else pure ()); pure eb) _ _ _
            rw [Sb.led q, if_neg (by simp)]
            have e : (walkOf w b eb epb).toArray = eb := by unfold walkOf; rw [if_neg (by rw [q]; decide)]
            rw [e] at hq
            exact wpAny_bind (wpAny_pure (wpAny_pure hq))
        refine wpAny_bind (hwalk ?_)
        rw [← Array.forIn_toList, show (walkOf w b eb epb).toArray.toList = walkOf w b eb epb by simp]
        have hwp := walk_perm w b eb epb
        have hwl : (walkOf w b eb epb).length = qs.length := by rw [hwp.length_eq, Array.length_toList, hsz]
        refine wpAny_bind (wpAny_mono (addAll (Q := Q) hu hab hc hcb hdb each hb hEach Sb (walkOf w b eb epb) h1 s.toks vs (fun e he => ?_) (by rw [hwl]; exact sz) ⟨sb1, es1, ep1, t1, g1, S1⟩ ho fun h' tk' rs' c' m' => h h' tk' rs' c' fun x => ?_) (fun _ _ q => wpAny_pure q) fun _ _ x => x)
        · obtain ⟨p, hp, hp2⟩ := Sb.ent e (hwp.mem_iff.mp he)
          refine ⟨p, ?_, hp, hp2⟩
          exact Sb.perm.mem_iff.mp (List.mem_map.mpr ⟨e, hwp.mem_iff.mp he, hp.pt⟩)
        · rw [m' x]
          refine or_congr Iff.rfl ⟨fun ⟨e, z1, z2⟩ => ?_, fun z => ?_⟩
          · exact Sb.perm.mem_iff.mp (List.mem_map.mpr ⟨e, hwp.mem_iff.mp z1, z2.pt⟩)
          · obtain ⟨i, e, z1, z2, _⟩ := Sb.has z
            exact ⟨e, hwp.mem_iff.mpr (List.mem_of_getElem? z1), z2⟩
      · have hf0 : t1.fill = 0 := by simpa using hf
        have hvs : vs = [] := by
          have h1' : t1.place.size = 0 := by unfold SetTable.fill at hf0; omega
          have h2' := S1.tok.len
          have h3' := S1.size
          rw [Array.length_toList] at h2'
          exact List.length_eq_zero_iff.mp (by omega)
        rw [if_neg hf]
        have hplain : (t1.plain && tb.plain) = true := by rw [S1.plain, Sb.plain]; rfl
        have hled : w.params.followText "set-order" = false → (t1.led && tb.led) = true := fun q => by rw [S1.led q, Sb.led q]; rfl
        have fin : ∀ (es' : Array (Int × Value)) (t' : SetTable), TOk t' es'.toList → t'.plain = (t1.plain && tb.plain) → t'.led = (t1.led && tb.led) → es'.toList.Perm eb.toList → wpAny (model prog w) A (storeSet a es' t') Q E { s with heap := h1 } := by
          intro es' t' k1 k2 k3 k4
          have hz : es'.size = eb.size := by rw [← Array.length_toList, k4.length_eq, Array.length_toList]
          have X := ((Sb1.ents).of_perm k4).keeps (hk1 (es' := es') (t' := t'))
          refine wpAny_storeSet_of (s := { s with heap := h1 }) g1 rfl ?_ (by rw [hz, sizeLine_eq]; omega)
          refine h _ s.toks qs ⟨sb1.trans (.update ..), es', _, t', upd_set g1 rfl es' t', ⟨Sb.nd, k1, k2.trans hplain, fun q => k3.trans (hled q), X.perm, X.ent⟩⟩ fun x => ?_
          rw [hvs]; simp
        by_cases hm : (t1.mask == tb.mask && tb.dummies.isEmpty) = true
        · rw [if_pos hm]
          exact fin eb _ ⟨Sb.tok.len, Sb.tok.mask, Sb.tok.rp, Sb.tok.rd, Sb.tok.disj, Sb.tok.lep, Sb.tok.led, Sb.tok.fill, Sb.tok.reach⟩ rfl rfl (.refl _)
        · rw [if_neg hm]
          dsimp only
          have hroom : eb.size * 5 < t1.mask * 3 := by
            rcases room with q | q
            · omega
            · rw [hvs] at q
              have hpos : 0 < eb.size := by
                rcases Nat.eq_zero_or_pos eb.size with z | z
                · exact absurd (by rw [Array.isEmpty_iff_size_eq_zero]; exact z) hemp
                · exact z
              simp at q; omega
          obtain ⟨t', order, e1, e2, e3, e4, e5, e6⟩ := laid_ok S1.tok.mask t1.finger t1.moves (t1.led && tb.led) (t1.plain && tb.plain) eb hroom
          rw [e1]
          dsimp only
          have hz : (order.filterMap (eb[·]?)).size = eb.size := by rw [← Array.length_toList, e5.length_eq, Array.length_toList]
          rw [if_neg (by rw [hz]; simp)]
          refine wpAny_bind (wpAny_pure ?_)
          exact fin _ t' e6 e3 e4 e5
    refine wpAny_bind (wpAny_bind (wpAny_setState_of ho hd S.fits ?_))
    dsimp only
    cases hr : t.roomFor eb.size with
    | none =>
      refine wpAny_pure (rest s.heap es ep t (.refl ..) (by rw [obj_self hd]; exact ho) S (.inl ?_))
      unfold SetTable.roomFor at hr
      split at hr
      · cases hr
      · omega
    | some wanted =>
      unfold SetTable.roomFor at hr
      split at hr
      · cases hr
        have hps : t.place.size = es.size := by rw [S.tok.len, Array.length_toList]
        refine set_relay ho hd S.fits (by rw [hps]; omega) (by rw [hps]; omega) fun es' t' k1 k2 k3 k4 k5 => ?_
        have hs1 : Heap.SameBut a s.heap (s.heap.update a (Obj.putSet es' t')) := .update ..
        have hk := tup_keeps ho hc hs1
        have X := ((S.ents).of_perm k1).keeps hk
        refine rest _ es' _ t' hs1 (upd_set ho hd es' t') ⟨S.nd, k2, k3.trans S.plain, fun z => k4.trans (S.led z), X.perm, X.ent⟩ (.inr ?_)
        rw [← hsz1, ← hps]; exact k5
      · cases hr
end
end Go

end
section
set_option autoImplicit false
set_option linter.unusedVariables false
set_option linter.unusedSimpArgs false
set_option Elab.async false
set_option maxRecDepth 100000
namespace Go
open PySem PySem.W PyProof.Rows PySem.Calls

theorem nodup_le {α : Type} [DecidableEq α] : ∀ (l l' : List α), l.Nodup → (∀ x, x ∈ l → x ∈ l') → l.length ≤ l'.length
  | [], _, _, _ => Nat.zero_le _
  | a :: l, l', nd, h => by
    rw [List.nodup_cons] at nd
    have ha := h a List.mem_cons_self
    have := nodup_le l (l'.erase a) nd.2 fun x hx => (List.mem_erase_of_ne (fun e => nd.1 (by rw [← e]; exact hx))).mpr (h x (List.mem_cons_of_mem _ hx))
    rw [List.length_erase_of_mem ha] at this
    have hp := List.length_pos_of_mem ha
    simp only [List.length_cons]; omega

section
variable {G : Gl} {k : Nat} {fl : Bool} {sc : Scope} {m : Loc} {H : Hp} {Q : Qv} {X : Xc}

theorem CALL_update {a b : Addr} {ps qs : List (Int × Int)} (hab : a ≠ b) (hH : H a = some (.pset ps)) (hB : H b = some (.pset qs)) (sz : ps.length + qs.length ≤ 60)
    (h : ∀ rs, rs.Nodup → (∀ x, x ∈ rs ↔ x ∈ ps ∨ x ∈ qs) → Q .none (hset H a (.pset rs))) : CALL G k (.builtin "set.update") [.ref a, .ref b] H Q X := fun fl env A C Z m s vals I hv => by
  obtain ⟨va, r, rfl, e1, h2⟩ := hv
  obtain ⟨vb, r2, rfl, e2, h3⟩ := h2
  cases h3; cases e1; cases e2
  obtain ⟨o, es, ep, t, g1, g2, g3, S, _⟩ := I.pset hH
  obtain ⟨ob, eb, epb, tb, k1, k2, k3, Sb, _⟩ := I.pset hB
  have hT : s.TypeIs (.ref a) "set" := ⟨o, g1, g2.1⟩
  have hTb : s.TypeIs (.ref b) "set" := ⟨ob, k1, k2.1⟩
  refine wpAny_call_entry F.slot_set_update hT F.entry_set_update ?_ (F.args_set_update_2 _ _)
  unfold Builtin.«set.update» Builtin.Frozenset.manyOthers
  simp only [List.isEmpty_nil, Bool.not_true, Bool.false_eq_true, if_false, bind_assoc]
  unfold Builtin.Frozenset.addrOf
  refine wpAny_bind (wpAny_pure ?_)
  try dsimp only
  refine wpAny_bind (wpAny_pure ?_)
  try dsimp only
  rw [List.forIn_cons]
  refine wpAny_bind (wpAny_bind ?_)
  unfold Builtin.Frozenset.updateFrom Builtin.Frozenset.isAnySet
  refine wpAny_bind ?_
  refine wpAny_bind ?_
  refine wpAny_bind (m := isInstance (.ref b) (.type "set")) (wpAny_isInstance (T := "set") (b := true) hTb PySem.sub_set_self ?_)
  show wpAny _ _ (pure true) _ _ s
  refine wpAny_pure ?_
  rw [if_pos rfl]
  unfold Builtin.Frozenset.addrOf
  refine wpAny_bind (wpAny_pure ?_)
  unfold Builtin.Frozenset.merge
  unfold setEpoch
  refine wpAny_bind (wpAny_bind (wpAny_setState_of k1 k3 Sb.fits (wpAny_pure ?_)))
  refine set_merge (by have := I.room.2; show A.units + 1 < cLine; unfold cLine; omega) hab g1 g2.1 g3 S k1 k2.1 k3 Sb sz _ (fun h' tk Q' hb' hq => ?_) fun h' tk rs c m' => ?_
  · unfold Builtin.Frozenset.unchanged setEpoch
    refine wpAny_bind (wpAny_bind (wpAny_setState_of (s := { s with heap := h', toks := tk }) hb' k3 Sb.fits (wpAny_pure ?_)))
    rw [if_neg (by simp)]
    exact wpAny_pure hq
  · refine wpAny_pure ?_
    obtain ⟨es', ep', t', q1, q2⟩ := c.at_
    have hz : rs.length ≤ 60 := Nat.le_trans (nodup_le rs (ps ++ qs) q2.nd fun x hx => List.mem_append.mpr ((m' x).mp hx)) (by rw [List.length_append]; exact sz)
    have J := I.upd (tk := tk) hH c.but q1 (o' := .pset rs) ⟨⟨g2.1, g2.2⟩, hz, es', ep', t', rfl, q2⟩
    dsimp only
    rw [List.forIn_nil]
    refine wpAny_pure ?_
    show wpAny _ _ (ret Value.none) _ _ _
    exact wpAny_pure ⟨_, rfl, C, .none, _, Cle.refl C, J, rfl, h rs q2.nd m'⟩
end
end Go

end
section
set_option autoImplicit false
set_option linter.unusedVariables false
set_option linter.unusedSimpArgs false
set_option Elab.async false
set_option maxRecDepth 100000
namespace Go
open PySem PySem.W PyProof.Rows PySem.Calls

/-- while an exception is handled -/
abbrev Gl.h (G : Gl) : Gl := { G with hn := false }

section
variable {G : Gl} {k : Nat} {fl : Bool} {env : Env} {A : Around} {C C' : Cm} {Z : Zs} {m m' : Loc} {H H' : Hp} {s s' : Shared}

theorem OR.h {o : LO} {ob : Obj} {h : Heap} : OR G.h C h o ob ↔ OR G C h o ob := by
  have hs : ∀ (fs : List (Str × LV)) (es : List DictEntry), SEnt G.h C fs es ↔ SEnt G C fs es := by
    intro fs
    induction fs with
    | nil => intro es; exact Iff.rfl
    | cons f fs ih => intro es; obtain ⟨x, l⟩ := f; unfold SEnt; simp only [ih]
  have hp : ∀ (fs : List ((Int × Int) × LV)) (es : List DictEntry), PEnt G.h C fs es ↔ PEnt G C fs es := by
    intro fs
    induction fs with
    | nil => intro es; exact Iff.rfl
    | cons f fs ih => intro es; obtain ⟨x, l⟩ := f; unfold PEnt; simp only [ih]
  cases o with
  | sdict fs => unfold OR; simp only [hs]
  | pdict fs ep => unfold OR; simp only [hp]
  | ns fs => unfold OR; simp only [hs]
  | _ => exact Iff.rfl
theorem St.h : St G.h C Z H s ↔ St G C Z H s :=
  ⟨fun X => ⟨X.con, fun a o e => let ⟨ob, x, y⟩ := X.hp a o e; ⟨ob, x, OR.h.mp y⟩, X.dis, X.base, X.gens, X.os, X.zs⟩, fun X => ⟨X.con, fun a o e => let ⟨ob, x, y⟩ := X.hp a o e; ⟨ob, x, OR.h.mpr y⟩, X.dis, X.base, X.gens, X.os, X.zs⟩⟩

/-- the exception's entry is marked, while it stays -/
theorem setFlC (X : Inv G k fl env A C Z m H s) {ea T : Addr} {oe oT : Obj} {vs ts : Array Value} (he : s.heap.get? ea = some oe) (hd : oe.data = .fields vs) (h1 : vs[1]? = some (.ref T)) (hT : s.heap.get? T = some oT) (hdT : oT.data = .fields ts) (h3 : 3 < ts.size) (c3 : C T = none) (c4 : H T = none)
    {E : Value → Shared → Prop} {Q : Unit → Shared → Prop} (hQ : ∀ s', Inv G k fl env A C Z m H s' → Q () s') : wpAny G.M A (setFlight (.ref ea) none) Q E s := by
  unfold setFlight
  refine wpAny_bind (wpAny_field he hd h1 ?_)
  rw [if_pos (show (Value.ref T != Value.none) = true from by simp)]
  exact wpAny_setField hT hdT h3 (hQ _ (X.alien (tk := s.toks) hT hdT c3 c4 (.update ..)))
end

section
variable {G : Gl} {k : Nat} {sc : Scope} {m : Loc} {H : Hp} {P : PQ}

theorem EX_Raise {x : Str} {np pos : Pos} {X N I : String} (hh : G.hn = true) (hc : ExcClass X N I) (hself : isSubtype (.type X) (.type X) = pure true) (hx : sc.names.lookup x = some .globalImplicit) (hg : GNm G x (.type X)) (h : P.x (X, true) m H) (hd : (x == ("__debug__" : Str)) = false := by decide +kernel) :
    EX G k sc (.Raise (some (.Name x np)) none pos) m H P := fun env A C Z s hs J => by
  refine Raise_classB (J.hno hh) hc hself (J.name (by subst hs; exact hx) hg hd ⟨rfl, rfl⟩) fun h' e hn => ?_
  exact ⟨C, _, m, H, Cle.refl C, ⟨e, rfl, .inl ⟨s.heap, J, NewX.of hn true⟩⟩, h⟩

theorem EX_Try {body hb orelse : List Stmt} {b0 : Stmt} {tn : Str} {np hpos pos : Pos} {T : String} (hx : sc.names.lookup tn = some .globalImplicit) (hg : GNm G tn (.type T)) (hd : (tn == ("__debug__" : Str)) = false)
    (hexc : isSubtype (.type T) (.type "BaseException") = pure true) (hnt : isSubtype (.type ((Manifest.find? T).elim "type" fun x => x.metatype)) (.type "tuple") = pure false)
    (h : EXS G k sc body m H ⟨fun m' H' => EXS G k sc orelse m' H' P, P.r, P.b, P.c, fun c m' H' => c.2 = true ∧ isSubtype (.type c.1) (.type T) = pure true ∧ EXS G.h k sc (b0 :: hb) m' H' ⟨P.n, P.r, P.b, P.c, fun _ _ _ => False⟩⟩) :
    EX G k sc (.Try body [.ExceptHandler (some (.Name tn np)) none (b0 :: hb) hpos] orelse [] pos) m H P := fun env A C Z s hs I => by
  refine wpAny_Try_except (wpAny_mono (h env A C Z s hs I) (fun f s1 ⟨C1, m1, H1, c1, I1, q1⟩ => ?_) fun e s1 ⟨C1, cls, m1, H1, c1, x1, q1, q2, q3⟩ => ?_)
  · cases f with
    | next => exact wpAny_mono (q1 env A C1 Z s1 hs I1) (fun _ _ x => FPost.up c1 x) fun _ _ x => XsPost.up c1 x
    | brk => exact ⟨C1, m1, H1, c1, I1, q1⟩
    | cont => exact ⟨C1, m1, H1, c1, I1, q1⟩
    | ret v => exact ⟨C1, m1, H1, c1, I1, q1⟩
  · refine x1.note fun ea s2 he I2 t2 => ?_
    subst he
    refine I2.setFl t2 none fun s3 I3 t3 => ?_
    obtain ⟨oe, vs, a0, T', oT, ts, e1, e2, e3, e4, e5, e5', e6, e7, e8, e9, d1, d2, d3, d4⟩ := t3
    obtain ⟨c4, I4⟩ := I3.shown e1 e3 d1 d2
    have hT3 : 3 < ts.size := (Array.getElem?_eq_some_iff.mp e9).1
    have J : Inv G.h k true env (A.mark (some (.ref ea))) (cset C1 ea oe) Z m1 H1 s3 :=
      ⟨I4.kind, I4.glob, I4.blt, I4.room, I4.frames, I4.frame, .inr ⟨ea, oe, vs, rfl, cset_same _ _ _, e3, e5' q1⟩, (fun q => nomatch q), St.h.mpr I4.st, I4.fr⟩
    have back : ∀ {C5 m5 H5 s5}, Cle (cset C1 ea oe) C5 → Inv G.h k true env (A.mark (some (.ref ea))) C5 Z m5 H5 s5 → Inv G k true env A C5 Z m5 H5 s5 := fun {C5 m5 H5 s5} c5 Y =>
      ⟨Y.kind, Y.glob, Y.blt, I.room, I.frames, I.frame, I.hd.mono fun a o _ q _ => c5 _ _ (c4 _ _ (c1 _ _ q)), I.hno, St.h.mp Y.st, Y.fr⟩
    refine wpAny_handleBy_cons (codeAny_handlers_test ?_) (by intro x; cases x)
    refine J.name (G := G.h) (by subst hs; exact hx) hg hd ?_
    refine wpAny_excMatches_type (X := cls.1) (b := true) ⟨oe, e1, e2⟩ hexc hnt q2 ?_
    dsimp only [if_true]
    refine codeAny_handlers_suite ?_
    have hC' : cset C1 ea oe T' = none := by rw [cset_ne C1 oe e6]; exact d3
    refine setFlC J e1 e3 e5 e7 e8 hT3 hC' d4 fun s4 J4 => ?_
    refine wpAny_mono (q3 env _ _ Z s4 hs J4) (fun f s5 ⟨C5, m5, H5, c5, I5, q5⟩ => ?_) fun e s5 x => by obtain ⟨_, _, _, _, _, _, q⟩ := x; exact q.elim
    have I6 := back c5 I5
    have le := (c1.trans c4).trans c5
    cases f with
    | next => exact ⟨C5, m5, H5, le, I6, q5⟩
    | brk => exact ⟨C5, m5, H5, le, I6, q5⟩
    | cont => exact ⟨C5, m5, H5, le, I6, q5⟩
    | ret v => exact ⟨C5, m5, H5, le, I6, q5⟩
end
end Go

end
section
set_option autoImplicit false
set_option linter.unusedVariables false
set_option linter.unusedSimpArgs false
set_option Elab.async false
set_option maxRecDepth 100000
namespace Go
open PySem PySem.W PyProof.Rows PySem.Calls

def pput : List ((Int × Int) × LV) → (Int × Int) → LV → List ((Int × Int) × LV)
  | [], p, v => [(p, v)]
  | (q, w) :: r, p, v => if q = p then (q, v) :: r else (q, w) :: pput r p v
def kk (p : Int × Int) : List Int := [p.1, p.2]
theorem kk_inj {p q : Int × Int} : kk p = kk q ↔ p = q := by
  constructor
  · intro h; unfold kk at h; injection h with h1 h2; injection h2 with h2 _; exact Prod.ext h1 h2
  · rintro rfl; rfl

def XsR (C : Cm) : List ((Int × Int) × LV) → List (List Int × Addr × Value) → Prop
  | [], xs => xs = []
  | (p, l) :: fs, xs => ∃ a v r, xs = (kk p, a, v) :: r ∧ VR C (pv p) (.ref a) ∧ VR C l v ∧ XsR C fs r

theorem XsR.of {G : Gl} {C : Cm} : ∀ {fs : List ((Int × Int) × LV)} {es : List DictEntry}, PEnt G C fs es → ∃ xs, es = xs.map (entryOfKey (tupleKind (intKind G.prog G.w))) ∧ XsR C fs xs
  | [], _, h => by cases h; exact ⟨[], rfl, rfl⟩
  | (p, l) :: fs, _, ⟨e, r, q, h1, h2, h3, h4⟩ => by
    subst q
    obtain ⟨xs, x1, x2⟩ := XsR.of h4
    obtain ⟨a, vs, e2, r2⟩ := h2
    obtain ⟨eh, ek, ev⟩ := e
    dsimp only at h1 e2 h3
    subst h1 e2
    exact ⟨(kk p, a, ev) :: xs, by rw [List.map_cons, x1]; rfl, a, ev, xs, rfl, ⟨a, vs, rfl, r2⟩, h3, x2⟩
theorem XsR.to {G : Gl} {C : Cm} : ∀ {fs : List ((Int × Int) × LV)} {xs : List (List Int × Addr × Value)}, XsR C fs xs → PEnt G C fs (xs.map (entryOfKey (tupleKind (intKind G.prog G.w))))
  | [], _, h => by cases h; rfl
  | (p, l) :: fs, _, ⟨a, v, r, q, h1, h2, h3⟩ => by subst q; exact ⟨_, _, rfl, rfl, h1, h2, XsR.to h3⟩
theorem XsR.keys {C : Cm} : ∀ {fs : List ((Int × Int) × LV)} {xs : List (List Int × Addr × Value)}, XsR C fs xs → xs.map (·.1) = fs.map fun x => kk x.1
  | [], _, h => by cases h; rfl
  | (p, l) :: fs, _, ⟨a, v, r, q, h1, h2, h3⟩ => by subst q; rw [List.map_cons, List.map_cons, XsR.keys h3]
theorem XsR.length {C : Cm} {fs : List ((Int × Int) × LV)} {xs : List (List Int × Addr × Value)} (h : XsR C fs xs) : xs.length = fs.length := by
  have := congrArg List.length h.keys; simpa using this
theorem XsR.is {G : Gl} {C : Cm} {k : Nat} {fl : Bool} {env : Env} {A : Around} {Z : Zs} {m : Loc} {H : Hp} {s : Shared} (I : Inv G k fl env A C Z m H s) : ∀ {fs : List ((Int × Int) × LV)} {xs : List (List Int × Addr × Value)}, XsR C fs xs → ∀ x, x ∈ xs → (tupleKind (intKind G.prog G.w)).is s.heap x.1 x.2.1
  | [], _, h => by cases h; intro x hx; cases hx
  | (p, l) :: fs, _, ⟨a, v, r, q, h1, h2, h3⟩ => by
    subst q
    intro x hx
    rcases List.mem_cons.mp hx with rfl | hx
    · obtain ⟨b, e, h⟩ := I.pkey h1; cases e; exact h
    · exact XsR.is I h3 x hx
theorem XsR.get {C : Cm} {p : Int × Int} : ∀ {fs : List ((Int × Int) × LV)} {xs : List (List Int × Addr × Value)}, XsR C fs xs →
    match fs.lookup p with | some l => ∃ a v, atKey xs (kk p) = some (a, v) ∧ VR C l v | none => atKey xs (kk p) = none
  | [], _, h => by cases h; rfl
  | (q, l) :: fs, _, ⟨a, v, r, e, h1, h2, h3⟩ => by
    subst e
    rw [List.lookup_cons]
    by_cases z : p = q
    · subst z; simp only [beq_self_eq_true]; exact ⟨a, v, by simp [atKey], h2⟩
    · have z1 : (p == q) = false := by simpa using z
      rw [z1]
      have : atKey ((kk q, a, v) :: r) (kk p) = atKey r (kk p) := by
        unfold atKey; rw [List.find?_cons]
        have : decide (kk q = kk p) = false := by rw [decide_eq_false_iff_not, kk_inj]; exact fun y => z y.symm
        rw [this]
      rw [this]; exact XsR.get h3
theorem XsR.put {C : Cm} {p : Int × Int} {a : Addr} {l : LV} {v : Value} (ha : VR C (pv p) (.ref a)) (hv : VR C l v) : ∀ {fs : List ((Int × Int) × LV)} {xs : List (List Int × Addr × Value)}, XsR C fs xs → (xs.map (·.1)).Nodup → XsR C (pput fs p l) (storedH xs (kk p) a v)
  | [], _, h, _ => by cases h; exact ⟨a, v, [], rfl, ha, hv, rfl⟩
  | (q, l') :: fs, _, ⟨b, u, r, e, h1, h2, h3⟩, nd => by
    subst e
    rw [List.map_cons, List.nodup_cons] at nd
    rw [pput]
    by_cases z : q = p
    · subst z
      rw [if_pos rfl, storedH_old (p := (b, u)) (by simp [atKey]), List.map_cons, map_putAt_of_not_mem r (kk q) v nd.1]
      exact ⟨b, v, r, by simp [putAt], h1, hv, h3⟩
    · rw [if_neg z]
      have hk : ¬ kk q = kk p := fun y => z (kk_inj.mp y)
      have hat : atKey ((kk q, b, u) :: r) (kk p) = atKey r (kk p) := by unfold atKey; rw [List.find?_cons]; simp [hk]
      have := XsR.put ha hv h3 nd.2
      refine ⟨b, u, storedH r (kk p) a v, ?_, h1, h2, this⟩
      unfold storedH
      rw [hat]
      split
      · rw [List.map_cons, putAt, if_neg hk]
      · rfl
theorem pput_keys {fs : List ((Int × Int) × LV)} {p : Int × Int} {l : LV} : ∀ x, x ∈ (pput fs p l).map (·.1) → x = p ∨ x ∈ fs.map (·.1) := by
  induction fs with
  | nil => intro x hx; simp [pput] at hx; exact .inl hx
  | cons f fs ih =>
    obtain ⟨q, w⟩ := f
    intro x hx
    rw [pput] at hx
    split at hx
    · right; simpa using hx
    · rw [List.map_cons, List.mem_cons] at hx
      rcases hx with rfl | hx
      · right; simp
      · rcases ih x hx with h | h
        · exact .inl h
        · right; exact List.mem_cons_of_mem _ h
theorem pput_nodup {fs : List ((Int × Int) × LV)} {p : Int × Int} {l : LV} (h : (fs.map (·.1)).Nodup) : ((pput fs p l).map (·.1)).Nodup := by
  induction fs with
  | nil => simp [pput]
  | cons f fs ih =>
    obtain ⟨q, w⟩ := f
    rw [List.map_cons, List.nodup_cons] at h
    rw [pput]
    split
    · rw [List.map_cons, List.nodup_cons]; exact h
    · rename_i z
      rw [List.map_cons, List.nodup_cons]
      exact ⟨fun hx => (pput_keys _ hx).elim z h.1, ih h.2⟩
theorem pput_length {fs : List ((Int × Int) × LV)} {p : Int × Int} {l : LV} : (pput fs p l).length ≤ fs.length + 1 := by
  induction fs with
  | nil => simp [pput]
  | cons f fs ih =>
    obtain ⟨q, w⟩ := f
    rw [pput]; split <;> simp
    exact ih
end Go

end
section
set_option autoImplicit false
set_option linter.unusedVariables false
set_option linter.unusedSimpArgs false
set_option Elab.async false
set_option maxRecDepth 100000
namespace Go
open PySem PySem.W PyProof.Rows PySem.Calls

abbrev tk2 (G : Gl) : HeapKind G.prog G.w (List Int) := tupleKind (intKind G.prog G.w)

section
variable {G : Gl} {k : Nat} {fl : Bool} {env : Env} {A : Around} {C : Cm} {Z : Zs} {m : Loc} {H : Hp} {s : Shared}
theorem Inv.notSys (I : Inv G k fl env A C Z m H s) {d : Addr} {o : LO} (h : H d = some o) : (d == sysModules) = false := by
  obtain ⟨ob, e⟩ := G.sysm
  have h1 := I.st.base _ _ e
  have h2 := I.st.dis d o h
  have : d ≠ sysModules := fun q => by rw [q, h1] at h2; cases h2
  simpa using this
theorem Inv.pdict (I : Inv G k fl env A C Z m H s) {d : Addr} {fs : List ((Int × Int) × LV)} {ep : Nat} (h : H d = some (.pdict fs ep)) : ∃ xs, s.heap.DictOfH (tk2 G) d xs ∧ XsR C fs xs ∧ fs.length ≤ 100 ∧ (fs.map (·.1)).Nodup ∧
    ∃ o, s.heap.get? d = some o ∧ o.ExactDict ∧ o.data = .dict (List.toArray (xs.map (entryOfKey (tk2 G)))) ep := by
  obtain ⟨ob, e1, a1, a2, a3, nd, z, es, e2, pe⟩ := I.st.hp d _ h
  obtain ⟨xs, x1, x2⟩ := XsR.of pe
  have nd2 : (xs.map (·.1)).Nodup := by
    rw [x2.keys, show (fs.map fun x => kk x.1) = (fs.map (·.1)).map kk by rw [List.map_map]; rfl]
    exact List.Pairwise.map _ (fun a b h e => h (kk_inj.mp e)) nd
  subst x1
  exact ⟨xs, ⟨ob, _, ep, e1, ⟨a1, a2, a3⟩, e2, rfl, x2.is I, nd2⟩, x2, z, nd, ob, e1, ⟨a1, a2, a3⟩, e2⟩
theorem Inv.pdict_back (I : Inv G k fl env A C Z m H s) {d : Addr} {o : LO} {fs : List ((Int × Int) × LV)} {xs : List (List Int × Addr × Value)} {h' : Heap} {tk : Nat} (h : H d = some o) (hs : Heap.SameBut d s.heap h') (hx : h'.DictOfH (tk2 G) d xs) (x : XsR C fs xs) (nd : (fs.map (·.1)).Nodup) (z : fs.length ≤ 100) :
    ∃ ep, Inv G k fl env A C Z m (hset H d (.pdict fs ep)) { s with heap := h', toks := tk } := by
  obtain ⟨ob, es, ep, e1, ⟨a1, a2, a3⟩, e2, e3, _, _⟩ := hx
  have pe : PEnt G C fs es.toList := by rw [e3]; exact x.to
  exact ⟨ep, I.upd h hs e1 (o' := .pdict fs ep) ⟨a1, a2, a3, nd, z, es.toList, by rw [e2], pe⟩⟩
end

section
variable {G : Gl} {k : Nat} {fl : Bool} {sc : Scope} {m : Loc} {H : Hp} {Q : Qv} {X : Xc}

theorem room2 {env : Env} {A : Around} {C : Cm} {Z : Zs} {s : Shared} (I : Inv G k fl env A C Z m H s) : (tk2 G).room A.in1 := by
  show A.units + 1 < cLine
  have := I.room.2; unfold cLine; omega

theorem BO_inpd {d : Addr} {fs : List ((Int × Int) × LV)} {ep : Nat} {p : Int × Int} (hH : H d = some (.pdict fs ep)) (h : Q (.bool (fs.lookup p).isSome) H) : BO G (compareOp .In) (pv p) (.ref d) H Q X := fun k fl env A C Z m s va vb I h1 h2 => by
  cases h2
  obtain ⟨xs, D, x, z, nd, _⟩ := I.pdict hH
  obtain ⟨a, rfl, ht⟩ := I.pkey h1
  refine wpAny_in_heap (room2 I) (k := kk p) ht (I.notSys hH) D ?_
  have g := x.get (p := p)
  have e : (atKey xs (kk p)).isSome = (fs.lookup p).isSome := by
    cases q : fs.lookup p with
    | none => rw [q] at g; have g : atKey xs (kk p) = none := g; rw [g]; rfl
    | some l => rw [q] at g; obtain ⟨b, v, g, _⟩ := g; rw [g]; rfl
  rw [e]
  exact ⟨C, .bool _, H, Cle.refl C, I.toks, rfl, h⟩
theorem BO_itempd {d : Addr} {fs : List ((Int × Int) × LV)} {ep : Nat} {p : Int × Int} {lv : LV} (hH : H d = some (.pdict fs ep)) (hl : fs.lookup p = some lv) (h : Q lv H) : BO G getItem (.ref d) (pv p) H Q X := fun k fl env A C Z m s va vb I h1 h2 => by
  cases h1
  obtain ⟨xs, D, x, z, nd, _⟩ := I.pdict hH
  obtain ⟨a, rfl, ht⟩ := I.pkey h2
  have g := x.get (p := p)
  rw [hl] at g
  obtain ⟨b, v, g1, g2⟩ := g
  exact wpAny_getItem_heap (room2 I) (k := kk p) ht D g1 ⟨C, lv, H, Cle.refl C, I.toks, g2, h⟩
theorem SO_pd {d : Addr} {fs : List ((Int × Int) × LV)} {ep : Nat} {p : Int × Int} {lv : LV} {N : Hp → Prop} (hH : H d = some (.pdict fs ep)) (z : fs.length < 100) (h : ∀ ep', N (hset H d (.pdict (pput fs p lv) ep'))) : SO G setItem (.ref d) (pv p) lv H N X := fun k fl env A C Z m s va vb vc I h1 h2 h3 => by
  cases h1
  obtain ⟨xs, D, x, z', nd, _⟩ := I.pdict hH
  have h2' := h2
  obtain ⟨a, rfl, ht⟩ := I.pkey h2
  have D' := D
  obtain ⟨_, _, _, _, _, _, _, _, nd2⟩ := D'
  refine wpAny_setItem_heap (room2 I) (k := kk p) ht D (fun h' q1 q2 => ?_) (by rw [x.length]; unfold sizeLine; omega)
  obtain ⟨ep', J⟩ := I.pdict_back (tk := s.toks + (tk2 G).draws (kk p)) hH q2 q1 (x.put h2' h3 nd2) (pput_nodup nd) (by have := @pput_length fs p lv; omega)
  exact ⟨C, _, Cle.refl C, J, h ep'⟩

theorem BO_notinpd {d : Addr} {fs : List ((Int × Int) × LV)} {ep : Nat} {p : Int × Int} (hH : H d = some (.pdict fs ep)) (h : Q (.bool (!(fs.lookup p).isSome)) H) : BO G (compareOp .NotIn) (pv p) (.ref d) H Q X := fun k fl env A C Z m s va vb I h1 h2 => by
  cases h2
  obtain ⟨xs, D, x, z, nd, _⟩ := I.pdict hH
  obtain ⟨a, rfl, ht⟩ := I.pkey h1
  have g := x.get (p := p)
  have e : (atKey xs (kk p)).isSome = (fs.lookup p).isSome := by
    cases q : fs.lookup p with
    | none => rw [q] at g; have g : atKey xs (kk p) = none := g; rw [g]; rfl
    | some l => rw [q] at g; obtain ⟨b, v, g, _⟩ := g; rw [g]; rfl
  show wpAny _ _ (do return Value.bool (!(← contains (.ref d) (.ref a)))) _ _ s
  refine wpAny_bind ?_
  unfold contains
  try with_reducible refine wpAny_holding ?_
  refine wpAny_bind (wpAny_specialOf D.typeIs slot_dict_contains.lookup ?_)
  show wpAny _ _ (if (some (Value.builtin "dict.__contains__") == some Value.none) = true then _ else _) _ _ s
  rw [if_neg (by rw [beq_builtin_none]; exact Bool.false_ne_true)]
  refine wpAny_bind (wpAny_callSpecialUnlessNone?_slot (name := Str.ofString "__contains__") D.typeIs slot_dict_contains
    (wpAny_call_entry slot_dict_contains D.typeIs entry_dict_contains ?_ (args_dict_contains _ _)))
  show wpAny _ _ (dictGet d (.ref a) >>= _) _ _ s
  refine wpAny_bind (wpAny_dictGet_heap (knd := tk2 G) (k := kk p) (room2 I) ht D ?_)
  cases hf : atKey xs (kk p) with
  | some p' =>
    rw [hf] at e
    rw [← e] at h
    show wpAny _ _ (ret (.bool true)) _ _ _
    exact wpAny_pure ⟨_, rfl, wpAny_truthy_bool (wpAny_pure ⟨C, .bool _, H, Cle.refl C, I.toks, rfl, h⟩)⟩
  | none =>
    rw [hf] at e
    rw [← e] at h
    show wpAny _ _ (Builtin.Dict.pendingKey? d (.ref a) >>= _) _ _ _
    exact wpAny_bind (wpAny_pendingKey_other (I.notSys hH) (wpAny_pure ⟨_, rfl, wpAny_truthy_bool (wpAny_pure ⟨C, .bool _, H, Cle.refl C, I.toks, rfl, h⟩)⟩))
theorem CALL_get {d : Addr} {fs : List ((Int × Int) × LV)} {ep : Nat} {p : Int × Int} (hH : H d = some (.pdict fs ep)) (h : Q ((fs.lookup p).getD .none) H) : CALL G k (.builtin "dict.get") [.ref d, pv p] H Q X := fun fl env A C Z m s vals I hv => by
  obtain ⟨va, r, rfl, e1, h2⟩ := hv
  obtain ⟨vb, r2, rfl, e2, h3⟩ := h2
  cases h3; cases e1
  obtain ⟨xs, D, x, z, nd, _⟩ := I.pdict hH
  obtain ⟨a, rfl, ht⟩ := I.pkey e2
  refine call_meetsIn F.slot_dict_get D.typeIs F.entry_dict_get (F.args_dict_get_2 _ _) (meetsH_dict_get (tk2 G) d a (I.notSys hH)) ⟨room2 I, kk p, xs, ht, D, ?_⟩
  have g := x.get (p := p)
  cases q : fs.lookup p with
  | none =>
    rw [q] at g h
    have g : atKey xs (kk p) = none := g
    rw [g]
    exact ⟨C, .none, H, Cle.refl C, I.toks, rfl, h⟩
  | some l =>
    rw [q] at g h
    obtain ⟨b, v, g, g2⟩ := g
    rw [g]
    exact ⟨C, l, H, Cle.refl C, I.toks, g2, h⟩
theorem EV_Dict0 {pos : Pos} (h : ∀ d, H d = none → Q (.ref d) (hset H d (.pdict [] 0))) : EV G k fl sc (.Dict [] [] pos) m H Q X := fun env A C Z s hs I =>
  wpAny_Dict_empty (by
    obtain ⟨f1, J⟩ := I.allocH (tk := s.toks) (h' := s.heap.push { cls := .type "dict", data := .dict #[] }) (o := .pdict [] 0) (Heap.get?_none_of_le (Nat.le_refl _)) (fun b o e => Heap.get?_push_of_some _ e) (Heap.get?_push_size _ rfl) ⟨rfl, rfl, rfl, List.nodup_nil, by simp, [], rfl, rfl⟩
    exact ⟨C, .ref _, _, Cle.refl C, J, rfl, h _ f1⟩)
end
end Go

end
section
set_option autoImplicit false
set_option linter.unusedVariables false
set_option linter.unusedSimpArgs false
set_option Elab.async false
set_option maxRecDepth 100000
namespace Go
open PySem PySem.W PyProof.Rows PySem.Calls

section
variable {prog : Program} {w : World} {A : Around} {E : Value → Shared → Prop} {s : Shared} {it d : Addr} {i ep : Nat} {od : Obj} {es : Array DictEntry}

theorem keyNext (hit : s.heap.IsKeyIter it d i es.size ep) (hod : s.heap.get? d = some od) (hdd : od.data = .dict es ep) {e : DictEntry} (he : es[i]? = some e) {Q : Option Value → Shared → Prop}
    (hQ : ∀ h', h'.IsKeyIter it d (i + 1) es.size ep → Heap.SameBut it s.heap h' → Q (some e.key) { s with heap := h' }) : wpAny (model prog w) A (pyNext (.ref it)) Q E s := by
  obtain ⟨o, ho, hc, hd⟩ := id hit
  unfold pyNext
  refine wpAny_bind (wpAny_attempt (wpAny_callSpecial?_slot (name := Str.ofString "__next__") hit.typeIs F.slot_dict_keyiterator_next
    (wpAny_call_entry F.slot_dict_keyiterator_next hit.typeIs F.entry_dict_keyiterator_next ?_ (F.args_dict_keyiterator_next_1 _))))
  refine wpAny_bind (wpAny_pure ?_)
  refine wpAny_bind ?_
  refine wpAny_bind ?_
  first | refine wpAny_bind (wpAny_typeNameOfWhole_keyiter hit.typeIs (wpAny_pure ?_)) | refine wpAny_bind (wpAny_typeNameOf_keyiter hit.typeIs (wpAny_pure ?_))
  refine wpAny_bind (wpAny_fieldsOf ho hd ?_)
  have hown : Builtin.Dict_items.ownsTuple "dict_keyiterator" = false := by decide
  simp only [hown, Bool.false_eq_true, if_false]
  show wpAny _ _ (if (Value.ref d == Value.none) = true then _ else _) _ _ s
  rw [if_neg (show ¬ ((Value.ref d == Value.none) = true) from Bool.false_ne_true)]
  refine wpAny_bind (wpAny_pure ?_)
  refine wpAny_bind (wpAny_dictEntries hod hdd ?_)
  rw [if_neg (by simp)]
  refine wpAny_bind (wpAny_pure ?_)
  refine wpAny_bind (wpAny_dictEpoch hod hdd ?_)
  rw [if_neg (by simp)]
  refine wpAny_pure ?_
  simp only [show ¬ ((i : Int) < 0) from by omega, if_false, Int.toNat_natCast, he]
  refine wpAny_bind ?_
  first | refine wpAny_bind (wpAny_typeNameOfWhole_keyiter hit.typeIs (wpAny_pure ?_)) | refine wpAny_bind (wpAny_typeNameOf_keyiter hit.typeIs (wpAny_pure ?_))
  refine wpAny_bind (wpAny_isOneOf_keyiter hit.typeIs ?_)
  show wpAny _ _ (setField (.ref it) 1 (rawInt ((i : Int) + 1)) >>= _) _ _ s
  refine wpAny_bind (wpAny_setField ho hd (by simp) ?_)
  have hit' : (s.heap.update it (Obj.mapFields (·.setIfInBounds 1 (rawInt ((i : Int) + 1))))).IsKeyIter it d (i + 1) es.size ep :=
    ⟨_, Heap.get?_update_self _ ho (Obj.isFreed_of_fields (Obj.data_mapFields hd _)), (Obj.cls_mapFields ..).trans hc, by rw [Obj.data_mapFields hd]; simp [rawInt]⟩
  refine wpAny_bind (wpAny_holding ?_)
  refine wpAny_bind (wpAny_isOneOf_keyiter (s := { s with heap := s.heap.update it (Obj.mapFields (·.setIfInBounds 1 (rawInt ((i : Int) + 1)))) }) hit'.typeIs ?_)
  show wpAny _ _ (pure e.key) _ _ _
  exact wpAny_pure (wpAny_pure ⟨_, rfl, wpAny_pure (hQ _ hit' (Heap.SameBut.update ..))⟩)

theorem keyEnd (hh : A.handled = none) (hit : s.heap.IsKeyIter it d i es.size ep) (hod : s.heap.get? d = some od) (hdd : od.data = .dict es ep) (hge : es.size ≤ i) {Q : Option Value → Shared → Prop}
    (hQ : ∀ h', Heap.ExtBut it s.heap h' → Q none { s with heap := h' }) : wpAny (model prog w) A (pyNext (.ref it)) Q E s := by
  obtain ⟨o, ho, hc, hd⟩ := id hit
  unfold pyNext
  refine wpAny_bind (wpAny_attempt (wpAny_callSpecial?_slot (name := Str.ofString "__next__") hit.typeIs F.slot_dict_keyiterator_next
    (wpAny_call_entry F.slot_dict_keyiterator_next hit.typeIs F.entry_dict_keyiterator_next ?_ (F.args_dict_keyiterator_next_1 _))))
  refine wpAny_bind (wpAny_pure ?_)
  refine wpAny_bind ?_
  refine wpAny_bind ?_
  first | refine wpAny_bind (wpAny_typeNameOfWhole_keyiter hit.typeIs (wpAny_pure ?_)) | refine wpAny_bind (wpAny_typeNameOf_keyiter hit.typeIs (wpAny_pure ?_))
  refine wpAny_bind (wpAny_fieldsOf ho hd ?_)
  have hown : Builtin.Dict_items.ownsTuple "dict_keyiterator" = false := by decide
  simp only [hown, Bool.false_eq_true, if_false]
  show wpAny _ _ (if (Value.ref d == Value.none) = true then _ else _) _ _ s
  rw [if_neg (show ¬ ((Value.ref d == Value.none) = true) from Bool.false_ne_true)]
  refine wpAny_bind (wpAny_pure ?_)
  refine wpAny_bind (wpAny_dictEntries hod hdd ?_)
  rw [if_neg (by simp)]
  refine wpAny_bind (wpAny_pure ?_)
  refine wpAny_bind (wpAny_dictEpoch hod hdd ?_)
  rw [if_neg (by simp)]
  refine wpAny_pure ?_
  simp only [show ¬ ((i : Int) < 0) from by omega, if_false, Int.toNat_natCast, Array.getElem?_eq_none hge]
  refine wpAny_bind ?_
  first | refine wpAny_bind (wpAny_typeNameOfWhole_keyiter hit.typeIs (wpAny_pure ?_)) | refine wpAny_bind (wpAny_typeNameOf_keyiter hit.typeIs (wpAny_pure ?_))
  show wpAny _ _ (setField (.ref it) 0 .none >>= _) _ _ s
  refine wpAny_bind (wpAny_setField ho hd (by simp) ?_)
  show wpAny _ _ (newExc (.type "StopIteration") [] >>= _) _ _ _
  refine wpAny_bind ?_
  simp only [newExc, newTuple]
  refine wpAny_bind (wpAny_newObj_type ?_ (by size_fits))
  refine wpAny_bind (m := firstArgMember _ _) (wpAny_of_eq (a := Value.none) (by first | rfl | (simp only [firstArgMember]; rfl)) ?_)
  refine wpAny_newObj_type ?_ (by size_fits)
  simp only [raiseNew]
  refine wpAny_bind (wpAny_handled ?_)
  rw [show A.in1.handled = none from hh]
  refine wpAny_bind (wpAny_pure (wpAny_throw ?_))
  refine wpAny_bind (wpAny_isInstance (T := "StopIteration") (b := true) ⟨_, Heap.get?_push_size _ rfl, rfl⟩ isSubtype_stop ?_)
  exact wpAny_pure (hQ _ (((Heap.SameBut.update ..).extBut.push _).push _))

theorem keyIter {Q : Value → Shared → Prop} (hs : (d == sysModules) = false) (ho : s.heap.get? d = some od) (hc : od.ExactDict) (hdat : od.data = .dict es ep)
    (hQ : Q (.ref s.heap.objs.size) { s with heap := s.heap.push { cls := .type "dict_keyiterator", data := .fields #[.ref d, .int 0 0, .int es.size 0, .int ep 0] } }) :
    wpAny (model prog w) A (pyIter (.ref d)) Q E s := by
  have hT : s.TypeIs (.ref d) "dict" := ⟨od, ho, hc.1⟩
  refine wpAny_pyIter_slot hT F.slot_dict_iter (wpAny_call_entry F.slot_dict_iter hT F.entry_dict_iter ?_ (F.args_dict_iter_1 _))
  unfold Builtin.«dict.__iter__»
  refine wpAny_bind ?_
  unfold Builtin.Dict.dictSlotNone
  refine wpAny_bind (wpAny_notOrdered_dict hT ?_)
  show wpAny _ _ (pure (Value.ref d)) _ _ s
  refine wpAny_pure ?_
  show wpAny _ _ (Builtin.Dict.showsAll d >>= _) _ _ s
  unfold Builtin.Dict.showsAll
  rw [if_neg (by rw [hs]; exact Bool.false_ne_true)]
  refine wpAny_bind (wpAny_pure ?_)
  refine wpAny_bind (wpAny_dictEntries ho hdat ?_)
  refine wpAny_bind (wpAny_dictEpoch ho hdat ?_)
  refine wpAny_bind (wpAny_newObj_type (wpAny_pure ⟨_, rfl, "dict_keyiterator", _, ⟨_, Heap.get?_push_size _ rfl, rfl⟩, F.slot_dict_keyiterator_next.lookup, ?_⟩))
  simpa [rawInt] using hQ
end
end Go

end
section
set_option autoImplicit false
set_option linter.unusedVariables false
set_option linter.unusedSimpArgs false
set_option Elab.async false
set_option maxRecDepth 100000
namespace Go
open PySem PySem.W PyProof.Rows PySem.Calls

theorem XsR.at {C : Cm} : ∀ {fs : List ((Int × Int) × LV)} {xs : List (List Int × Addr × Value)} {i : Nat} {f : (Int × Int) × LV}, XsR C fs xs → fs[i]? = some f → ∃ a v, xs[i]? = some (kk f.1, a, v) ∧ VR C (pv f.1) (.ref a)
  | [], _, _, _, _, e => by simp at e
  | (p, l) :: fs, _, 0, f, ⟨a, v, r, q, h1, h2, h3⟩, e => by subst q; simp at e; subst e; exact ⟨a, v, rfl, h1⟩
  | (p, l) :: fs, _, i + 1, f, ⟨a, v, r, q, h1, h2, h3⟩, e => by subst q; simp at e; simpa using XsR.at h3 e

/-- the keys of a dict of points -/
def stpD (G : Gl) : Stp G where
  κ := Addr × Nat × Nat × Nat
  isIt := fun _ x o => o.cls = .type "dict_keyiterator" ∧ o.data = .fields #[.ref x.1, .int x.2.1 0, .int x.2.2.1 0, .int x.2.2.2 0]
  nx := fun H x r => ∃ fs, H x.1 = some (.pdict fs x.2.2.2) ∧ fs.length = x.2.2.1 ∧ r = (fs[x.2.1]?).map fun f => (pv f.1, (x.1, x.2.1 + 1, x.2.2.1, x.2.2.2))
  fields := fun h => ⟨_, h.2⟩
  mono := fun _ h => h
  next := by
    rintro k fl env A C Z m H s it ⟨d, i, n, ep⟩ o r E hh I hg ⟨hc, hd⟩ hC hH ⟨fs, hH2, rfl, rfl⟩
    obtain ⟨xs, D, x, z, nd, od, e1, e2, e3⟩ := I.pdict hH2
    have hsz : (List.toArray (xs.map (entryOfKey (tk2 G)))).size = fs.length := by rw [List.size_toArray, List.length_map, x.length]
    have hit : s.heap.IsKeyIter it d i (List.toArray (xs.map (entryOfKey (tk2 G)))).size ep := ⟨o, hg, hc, by rw [hsz]; exact hd⟩
    cases hv : fs[i]? with
    | none => exact keyEnd (I.hno hh) hit e1 e3 (by rw [hsz]; exact List.getElem?_eq_none_iff.mp hv) fun h' hx => ⟨rfl, I.alienE (tk := s.toks) hg hd hC hH hx⟩
    | some f =>
      obtain ⟨a, v, x1, x2⟩ := x.at hv
      refine keyNext hit e1 e3 (e := ⟨(tk2 G).hash (kk f.1), .ref a, v⟩) (by rw [List.getElem?_toArray, List.getElem?_map, x1]; rfl) fun h' ⟨o', g1, g2, g3⟩ hx => ?_
      rw [hsz] at g3
      exact ⟨_, C, o', rfl, Cle.refl C, I.alien (tk := s.toks) hg hd hC hH hx, x2, hC, g1, g2, g3⟩
  go := by
    rintro k fl env A C Z m H s it l l' o lv v t E I hg ⟨hc, r⟩ hC hH hn hv
    exact go_plain hg hc (by decide) ⟨I, o, hg, hc, r⟩
  self := by
    rintro A C s it ⟨d, i, n, ep⟩ o E Q hg ⟨hc, hd⟩ hQ
    have hT : s.TypeIs (.ref it) "dict_keyiterator" := ⟨o, hg, hc⟩
    refine wpAny_pyIter_slot hT F.slot_dict_keyiterator_iter (wpAny_call_entry F.slot_dict_keyiterator_iter hT F.entry_dict_keyiterator_iter ?_ (F.args_dict_keyiterator_iter_1 _))
    show wpAny _ _ (ret (.ref it)) _ _ s
    exact wpAny_pure ⟨_, rfl, "dict_keyiterator", _, hT, F.slot_dict_keyiterator_next.lookup, hQ⟩

section
variable {G : Gl} {k : Nat} {fl : Bool} {sc : Scope} {m : Loc} {H : Hp} {X : Xc}
theorem IV_dict {d : Addr} {fs : List ((Int × Int) × LV)} {ep : Nat} {Q : (stpD G).κ → Hp → Prop} (hH : H d = some (.pdict fs ep)) (h : Q (d, 0, fs.length, ep) H) : IV G (stpD G) (.ref d) H Q X := fun k fl env A C Z m s v I hv => by
  cases hv
  obtain ⟨xs, D, x, z, nd, od, e1, e2, e3⟩ := I.pdict hH
  have hsz : (List.toArray (xs.map (entryOfKey (tk2 G)))).size = fs.length := by rw [List.size_toArray, List.length_map, x.length]
  refine keyIter (I.notSys hH) e1 e2 e3 ?_
  have hn : s.heap.get? s.heap.objs.size = none := Heap.get?_none_of_le (Nat.le_refl _)
  obtain ⟨f1, f2, _⟩ := I.fresh hn
  refine ⟨C, H, _, (d, 0, fs.length, ep), _, rfl, Cle.refl C, I.keeps (tk := s.toks) (fun b o e => Heap.get?_push_of_some _ e), f1, f2, Heap.get?_push_size _ rfl, ⟨rfl, ?_⟩, h⟩
  show Data.fields _ = _
  rw [hsz]; rfl
end
end Go

end
section
set_option autoImplicit false
set_option linter.unusedVariables false
set_option linter.unusedSimpArgs false
set_option Elab.async false
set_option maxRecDepth 100000
namespace Go
open PySem PySem.W PyProof.Rows PySem.Calls

section
variable {G : Gl} {k : Nat} {fl : Bool} {sc : Scope} {m : Loc} {H : Hp} {Q : Qv} {X : Xc}

theorem IT_range {x : Str} {np pos : Pos} {e : PySem.Expr} {Q : (stpN G).κ → Hp → Prop} (hx : sc.names.lookup x = some .globalImplicit) (hg : GNm G x (.type "range")) (h : EV G k fl sc e m H (fun lv H1 => ∃ n : Int, lv = .int n ∧ 0 ≤ n ∧ n < 2 ^ 60 ∧ Q (0, n.toNat) H1) X)
    (hd : (x == ("__debug__" : Str)) = false := by decide +kernel) (hs' : ∀ env, starEach [e] env = [(false, eval e env)] := by intro _; with_unfolding_all rfl) : IT G k fl sc (stpN G) (.Call (.Name x np) [e] [] pos) m H Q X := fun env A C Z s hs I => by
  refine Call_Name (trees := [(false, eval e env)]) (by rw [hs']; rfl) (I.name (by subst hs; exact hx) hg hd ?_)
  refine PyProof.Rows.callWith_type rfl (evalArgs_any rfl (spliced_cons (wpAny_mono (h env A C Z s hs I) (fun v s1 ⟨C1, lv, H1, c1, I1, v1, n, e1, n0, n1, q1⟩ => spliced_nil ?_) fun _ _ x => x)))
  subst e1
  obtain ⟨t, rfl⟩ := v1
  refine call_range_1 ?_
  refine wpAny_pyIter_range (IsRange.new s1.heap 0 n 1 s1.toks t (s1.toks + 1)) (small_one (by omega) (by omega) (by omega) (by omega)) ?_
  have K1 := I1.keeps (h' := s1.heap.push { cls := .type "range", data := .fields #[.int 0 s1.toks, .int n t, .int 1 (s1.toks + 1)] }) (tk := s1.toks + 1 + 1) (fun b o e => Heap.get?_push_of_some _ e)
  have hn : (s1.heap.push { cls := .type "range", data := .fields #[.int 0 s1.toks, .int n t, .int 1 (s1.toks + 1)] }).get? (s1.heap.push { cls := .type "range", data := .fields #[.int 0 s1.toks, .int n t, .int 1 (s1.toks + 1)] }).objs.size = none := Heap.get?_none_of_le (Nat.le_refl _)
  obtain ⟨f1, f2, _⟩ := K1.fresh hn
  refine ⟨C1, H1, _, (0, n.toNat), _, rfl, c1, K1.keeps (tk := s1.toks + 1 + 1) (fun b o e => Heap.get?_push_of_some _ e), f1, f2, Heap.get?_push_size _ rfl, ?_, q1⟩
  show ({ cls := .type "range_iterator", data := .fields #[rawInt 0, rawInt (Builtin.Range.rangeSize 0 n 1), rawInt 1] } : Obj) = _
  rw [rangeSize_one]
  have : (if (0 : Int) < n then n - 0 else 0) = (n.toNat : Int) := by split <;> omega
  rw [this]

theorem EV_Neg {e : PySem.Expr} {p : Pos} (h : EV G k fl sc e m H (fun lv H1 => ∃ i : Int, lv = .int i ∧ Q (.int (-i)) H1) X) : EV G k fl sc (.UnaryOp .USub e p) m H Q X := fun env A C Z s hs I =>
  wpAny_UnaryOp (wpAny_mono (h env A C Z s hs I) (fun v s1 ⟨C1, lv, H1, c1, I1, v1, i, e1, q1⟩ => by
    subst e1
    obtain ⟨t, rfl⟩ := v1
    exact P.neg_int ⟨C1, .int (-i), H1, c1, I1.toks, ⟨_, rfl⟩, q1⟩) fun _ _ x => x)

/-- a part of a slice -/
def EP (G : Gl) (k : Nat) (fl : Bool) (sc : Scope) (p : Option PySem.Expr) (m : Loc) (H : Hp) (Q : Option Int → Hp → Prop) (X : Xc) : Prop :=
  ∀ env A C Z s, env.scope = sc → Inv G k fl env A C Z m H s → wpAny G.M A (evalPart p env) (fun v s' => ∃ C' H' o, Cle C C' ∧ Inv G k fl env A C' Z m H' s' ∧ IsPart v o ∧ Q o H') (XPost G k fl env A C Z m X) s
theorem EP_none {Q : Option Int → Hp → Prop} (h : Q none H) : EP G k fl sc none m H Q X := fun env A C Z s hs I => wpAny_pure ⟨C, H, none, Cle.refl C, I, .none, h⟩
theorem EP_some {e : PySem.Expr} {Q : Option Int → Hp → Prop} (h : EV G k fl sc e m H (fun lv H1 => ∃ i : Int, lv = .int i ∧ Q (some i) H1) X) : EP G k fl sc (some e) m H Q X := fun env A C Z s hs I =>
  wpAny_mono (h env A C Z s hs I) (fun v s1 ⟨C1, lv, H1, c1, I1, v1, i, e1, q1⟩ => by
    subst e1
    obtain ⟨t, rfl⟩ := v1
    exact ⟨C1, H1, some i, c1, I1, .int i t, q1⟩) fun _ _ x => x

def pickL (vs : List LV) (lo hi st : Option Int) : List LV := (sliceRange (sliceBounds lo hi st vs.length).1 (sliceBounds lo hi st vs.length).2.1 (sliceBounds lo hi st vs.length).2.2).filterMap (vs[·]?)
theorem pickL_ok {C : Cm} {vs : List LV} {us : List Value} (h : VRs C vs us) (lo hi st : Option Int) : VRs C (pickL vs lo hi st) (slicePick us.toArray lo hi st).toList := by
  unfold pickL slicePick
  rw [List.size_toArray, h.length]
  generalize sliceRange (sliceBounds lo hi st vs.length).1 (sliceBounds lo hi st vs.length).2.1 (sliceBounds lo hi st vs.length).2.2 = l
  induction l with
  | nil => rfl
  | cons i l ih =>
    rw [List.filterMap_cons, List.filterMap_cons]
    cases hv : vs[i]? with
    | none =>
      have : us.toArray[i]? = none := by rw [List.getElem?_toArray, List.getElem?_eq_none_iff, h.length]; exact List.getElem?_eq_none_iff.mp hv
      rw [this]; exact ih
    | some lv =>
      obtain ⟨v, v1, v2⟩ := h.get hv
      have : us.toArray[i]? = some v := by rw [List.getElem?_toArray]; exact v1
      rw [this]; exact ⟨v, _, rfl, v2, ih⟩

/-- a slice of a list -/
theorem EV_Slice {v : PySem.Expr} {lo hi st : Option PySem.Expr} {p pos : Pos}
    (h : EV G k fl sc v m H (fun a H1 => EP G k fl sc lo m H1 (fun l H2 => EP G k fl sc hi m H2 (fun u H3 => EP G k fl sc st m H3 (fun t H4 => ∃ vs, LstOf H4 a vs ∧ vs.length ≤ 4096 ∧ t ≠ some 0 ∧ (pickL vs l u t).length ≤ 4096 ∧ SubT H4 a ∧ ∀ b, H4 b = none → Q (.ref b) (hset H4 b (.lst (pickL vs l u t)))) X) X) X) X) :
    EV G k fl sc (.Subscript v (.Slice lo hi st p) pos) m H Q X := fun env A C Z s hs I =>
  Subscript_ (wpAny_mono (h env A C Z s hs I) (fun va s1 ⟨C1, a, H1, c1, I1, v1, q1⟩ =>
    wpAny_Slice (wpAny_mono (q1 env A C1 Z s1 hs I1) (fun vl s2 ⟨C2, H2, l, c2, I2, p2, q2⟩ =>
      wpAny_mono (q2 env A C2 Z s2 hs I2) (fun vu s3 ⟨C3, H3, u, c3, I3, p3, q3⟩ =>
        wpAny_mono (q3 env A C3 Z s3 hs I3) (fun vt s4 ⟨C4, H4, t, c4, I4, p4, vs, l1, z1, t0, z2, t1, q4⟩ => by
          have v4 := ((v1.mono c2).mono c3).mono c4
          have I5 := I4.keeps (h' := s4.heap.push { cls := .type "slice", data := .fields #[vl, vu, vt] }) (tk := s4.toks) (fun b o e => Heap.get?_push_of_some _ e)
          obtain ⟨T, id, hT, hl⟩ := t1.at I5 v4
          obtain ⟨b, us, rfl, b1, b2⟩ := l1.at I5 v4
          have hsl : subscripted (.Slice lo hi st p) false (.ref b) (.ref s4.heap.objs.size) = operate (if st.isNone then [.ref s4.heap.objs.size, .ref b] else [.ref b, .ref s4.heap.objs.size]) (getItem (.ref b) (.ref s4.heap.objs.size)) := by cases st <;> rfl
          refine tail_any hT hl (wpAny_getItem_list_slice b1 (Heap.IsSliceOf.new ..) p2 p3 p4 t0 ?_ (by rw [List.size_toArray, b2.length]; unfold sizeLine; omega)) hsl
          have pk := pickL_ok b2 l u t
          obtain ⟨f1, J⟩ := I5.newList (tk := s4.toks) pk z2
          rw [Array.toArray_toList] at J
          exact ⟨C4, .ref _, _, ((c1.trans c2).trans c3).trans c4, J, rfl, q4 _ f1⟩)
          fun _ _ x => ((XPost.up c3 x).up c2).up c1) fun _ _ x => (XPost.up c2 x).up c1) fun _ _ x => XPost.up c1 x)) fun _ _ x => x)
end
end Go

end
section
set_option autoImplicit false
set_option linter.unusedVariables false
set_option linter.unusedSimpArgs false
set_option Elab.async false
set_option maxRecDepth 100000
namespace Go
open PySem PySem.W PyProof.Rows PySem.Calls

abbrev sk (G : Gl) : KeyKind G.prog G.w Str := strKind G.prog G.w

section
variable {G : Gl} {k : Nat} {fl : Bool} {sc : Scope} {m : Loc} {H : Hp} {Q : Qv} {X : Xc}

theorem Inv.sset {env : Env} {A : Around} {C : Cm} {Z : Zs} {s : Shared} (I : Inv G k fl env A C Z m H s) {a : Addr} {ss : List Str} (h : H a = some (.sset ss)) (z : ss.length < 4096) : s.heap.SetOf (sk G) a (fun x => decide (x ∈ ss)) ss.length ∧ ss.Nodup := by
  obtain ⟨ob, e1, a1, es, ep, t, e2, e3, e4, e5, e6, e7⟩ := I.st.hp a _ h
  exact ⟨⟨ob, es, ep, t, e1, a1, e2, e3, fun x => by rw [decide_eq_true_iff]; exact e4 x, by unfold scanBound; omega, e7, e5⟩, e6⟩
theorem sset_of {C : Cm} {h : Heap} {a : Addr} {ss : List Str} {S : Str → Bool} {n : Nat} (x : h.SetOf (sk G) a S n) (hS : ∀ y, S y = true ↔ y ∈ ss) (hn : n = ss.length) (nd : ss.Nodup) : ∃ ob, h.get? a = some ob ∧ OR G C h (.sset ss) ob := by
  obtain ⟨ob, es, ep, t, e1, e2, e3, e4, e5, e6, e7, e8⟩ := x
  exact ⟨ob, e1, e2, es, ep, t, e3, e4, fun y => (hS y).symm.trans (e5 y), e8.trans hn, nd, e7⟩

theorem CALL_sets (h : ∀ a, H a = none → Q (.ref a) (hset H a (.sset []))) : CALL G k (.type "set") [] H Q X := fun fl env A C Z m s vals I hv => by
  cases hv
  refine callNew_set ?_
  obtain ⟨f1, J⟩ := I.allocH (tk := s.toks) (h' := s.heap.push { cls := .type "set", dict := none, data := .set #[] 0 (.fresh 0 0 (!G.w.params.followText "set-order")) }) (Heap.get?_none_of_le (Nat.le_refl _)) (fun b o e => Heap.get?_push_of_some _ e) (Heap.get?_push_size _ rfl)
    (o := .sset []) ⟨⟨rfl, rfl, rfl⟩, #[], 0, _, rfl, (fun e he => nomatch he), fun x => ⟨(fun q => nomatch q), fun ⟨e, q, _⟩ => nomatch q⟩, rfl, List.nodup_nil, rfl⟩
  exact ⟨C, .ref _, _, Cle.refl C, J, rfl, h _ f1⟩
theorem CALL_sadd {a : Addr} {ss : List Str} {x : Str} (hH : H a = some (.sset ss)) (z : ss.length < 60) (h : Q .none (hset H a (.sset (if x ∈ ss then ss else x :: ss)))) : CALL G k (.builtin "set.add") [.ref a, .str x] H Q X := fun fl env A C Z m s vals I hv => by
  obtain ⟨va, r, rfl, e1, h2⟩ := hv
  obtain ⟨vb, r2, rfl, ⟨t, rfl⟩, h3⟩ := h2
  cases h3; cases e1
  obtain ⟨S, nd⟩ := I.sset hH (by omega)
  refine PySem.call_set_add (knd := sk G) (k := x) (by unfold sk PySem.strKind; exact decide_eq_true rfl) rfl S (by unfold scanBound; omega) fun h' q1 q2 => ?_
  obtain ⟨ob, g1, g2⟩ := sset_of (C := C) (ss := if x ∈ ss then ss else x :: ss) q2 (fun y => by
    by_cases q : x ∈ ss
    · simp only [if_pos q, Bool.or_eq_true, decide_eq_true_eq]
      exact ⟨fun w => w.elim id (fun w => w ▸ q), .inl⟩
    · simp only [if_neg q, Bool.or_eq_true, decide_eq_true_eq, List.mem_cons]
      exact ⟨fun w => w.symm, fun w => w.symm⟩) (by split <;> simp_all) (by
    split
    · exact nd
    · rename_i q; exact List.nodup_cons.mpr ⟨q, nd⟩)
  exact ⟨C, .none, _, Cle.refl C, I.upd (tk := s.toks + 1) hH q1 g1 g2, rfl, h⟩
theorem BO_insset {a : Addr} {ss : List Str} {x : Str} (hH : H a = some (.sset ss)) (z : ss.length < 60) (h : Q (.bool (decide (x ∈ ss))) H) : BO G (compareOp .In) (.str x) (.ref a) H Q X := fun k fl env A C Z m s va vb I ⟨t, h1⟩ h2 => by
  subst h1; cases h2
  obtain ⟨S, nd⟩ := I.sset hH (by omega)
  exact wpAny_inSet_of (knd := sk G) (k := x) (by unfold sk PySem.strKind; exact decide_eq_true rfl) rfl S ⟨C, .bool _, H, Cle.refl C, I.toks, rfl, h⟩

theorem CALL_insert {a : Addr} {vs : List LV} {i : Int} {lv : LV} (hH : H a = some (.lst vs)) (h0 : 0 ≤ i) (hi : i ≤ vs.length) (hz : vs.length < 4096) (h : Q .none (hset H a (.lst (vs.take i.toNat ++ lv :: vs.drop i.toNat)))) : CALL G k (.builtin "list.insert") [.ref a, .int i, lv] H Q X := fun fl env A C Z m s vals I hv => by
  obtain ⟨va, r, rfl, e1, h2⟩ := hv
  obtain ⟨vb, r2, rfl, ⟨t, rfl⟩, h3⟩ := h2
  obtain ⟨vc, r3, rfl, e3, h4⟩ := h3
  cases h4; cases e1
  obtain ⟨us, n, l1, l2, l3, l4⟩ := I.lst hH
  refine call_meets F.slot_list_insert ⟨_, l1, rfl⟩ F.entry_list_insert (F.args_list_insert_3 _ _ _) (AutoListH.list_insert_list_int_val_1 a _ n i t vc (by simp [Builtin.List.listFitsIndex]; omega) (by rw [List.size_toArray]; unfold sizeLine; omega)) ⟨l1, ?_⟩
  have hk : (if i < 0 then (i + ((us.toArray.size : Nat) : Int)).toNat else min i.toNat us.toArray.size) = i.toNat := by
    rw [if_neg (by omega), List.size_toArray]; omega
  obtain ⟨n', hd'⟩ := Obj.data_mapSeq (o := ⟨.type "list", none, .seq (List.toArray us) n, #[]⟩) rfl (fun xs => have k := if i < 0 then (i + ((xs.size : Nat) : Int)).toNat else min i.toNat xs.size; (xs.extract 0 k).push vc ++ xs.extract k)
  have hv : VRs C (vs.take i.toNat ++ lv :: vs.drop i.toNat) (us.take i.toNat ++ vc :: us.drop i.toNat) := (l2.take _).append ⟨vc, _, rfl, e3, l2.drop _⟩
  refine ⟨C, .none, _, Cle.refl C, I.upd (tk := s.toks) hH (Heap.SameBut.update ..) (Heap.get?_update_self _ l1 rfl) (o' := .lst (vs.take i.toNat ++ lv :: vs.drop i.toNat)) ⟨rfl, rfl, rfl, by simp; omega, _, n', hd'.trans ?_, hv⟩, rfl, h⟩
  congr 1
  dsimp only
  rw [hk]
  apply Array.ext'
  simp
  exact List.take_of_length_le (by simp)
end
end Go

end
section
set_option autoImplicit false
set_option linter.unusedVariables false
set_option linter.unusedSimpArgs false
set_option Elab.async false
set_option maxRecDepth 100000
namespace Go
open PySem PySem.W PyProof.Rows PySem.Calls

def SV (C : Cm) : List (Str × LV) → List (Str × Value) → Prop
  | [], kvs => kvs = []
  | (x, l) :: fs, kvs => ∃ v r, kvs = (x, v) :: r ∧ VR C l v ∧ SV C fs r

theorem isStr_sk {G : Gl} (x : Str) (t : Tok) : (sk G).is x (.str x t) = true := by unfold sk PySem.strKind; exact decide_eq_true rfl

theorem SV.of {G : Gl} {C : Cm} : ∀ {fs : List (Str × LV)} {es : List DictEntry}, SEnt G C fs es → ∃ kvs, Pairs (sk G) es kvs ∧ SV C fs kvs ∧ ∀ e, e ∈ es → ∃ k, (sk G).is k e.key = true ∧ e.hash = (sk G).hash k
  | [], _, h => by cases h; exact ⟨[], .nil, rfl, fun e he => nomatch he⟩
  | (x, l) :: fs, _, ⟨e, r, q, h1, ⟨t, h2⟩, h3, h4⟩ => by
    subst q
    obtain ⟨kvs, p1, p2, p3⟩ := SV.of h4
    have hk : (sk G).is x e.key = true := by rw [h2]; exact isStr_sk x t
    refine ⟨(x, e.val) :: kvs, .cons hk rfl p1, ⟨e.val, kvs, rfl, h3, p2⟩, fun e' he => ?_⟩
    rcases List.mem_cons.mp he with rfl | he
    · exact ⟨x, hk, h1⟩
    · exact p3 e' he
theorem SV.to {G : Gl} {C : Cm} : ∀ {fs : List (Str × LV)} {kvs : List (Str × Value)} {es : List DictEntry}, SV C fs kvs → Pairs (sk G) es kvs → (∀ e, e ∈ es → ∃ k, (sk G).is k e.key = true ∧ e.hash = (sk G).hash k) → SEnt G C fs es
  | [], _, _, h, p, _ => by cases h; cases p; rfl
  | (x, l) :: fs, _, _, ⟨v, r, q, h1, h2⟩, p, hk => by
    subst q
    cases p with
    | cons a b c =>
      rename_i e es
      obtain ⟨k, k1, k2⟩ := hk e List.mem_cons_self
      have hx : k = x := (sk G).inj _ _ _ k1 a
      subst hx
      obtain ⟨t, ht⟩ : ∃ t, e.key = .str k t := by unfold sk PySem.strKind at k1; exact Value.isStrOf_shape k1
      exact ⟨e, es, rfl, k2, ⟨t, ht⟩, by rw [b]; exact h1, SV.to h2 c fun e' he => hk e' (List.mem_cons_of_mem _ he)⟩
theorem SV.keys {C : Cm} : ∀ {fs : List (Str × LV)} {kvs : List (Str × Value)}, SV C fs kvs → kvs.map (·.1) = fs.map (·.1)
  | [], _, h => by cases h; rfl
  | (x, l) :: fs, _, ⟨v, r, q, h1, h2⟩ => by subst q; rw [List.map_cons, List.map_cons, SV.keys h2]
theorem SV.val {C : Cm} {x : Str} {l : LV} : ∀ {fs : List (Str × LV)} {kvs : List (Str × Value)}, SV C fs kvs → fs.lookup x = some l → ∃ v, valueAt kvs x = some v ∧ VR C l v
  | [], _, h, e => by simp at e
  | (y, l') :: fs, _, ⟨v, r, q, h1, h2⟩, e => by
    subst q
    rw [List.lookup_cons] at e
    by_cases z : x = y
    · subst z; simp at e; subst e; exact ⟨v, by simp [valueAt], h1⟩
    · have : (x == y) = false := by simpa using z
      rw [this] at e
      obtain ⟨u, u1, u2⟩ := SV.val h2 e
      refine ⟨u, ?_, u2⟩
      unfold valueAt at u1 ⊢
      rw [List.find?_cons]
      have : decide (y = x) = false := decide_eq_false fun w => z w.symm
      simp only [this]; exact u1

theorem SV.put {C : Cm} {x : Str} {l : LV} {v : Value} (hv : VR C l v) : ∀ {fs : List (Str × LV)} {kvs : List (Str × Value)}, SV C fs kvs → (kvs.map (·.1)).Nodup → SV C (aput fs x l) (stored kvs x v)
  | [], _, h, _ => by cases h; exact ⟨v, [], rfl, hv, rfl⟩
  | (y, l') :: fs, _, ⟨u, r, q, h1, h2⟩, nd => by
    subst q
    rw [List.map_cons, List.nodup_cons] at nd
    rw [aput]
    by_cases z : y = x
    · subst z
      rw [if_pos rfl]
      refine ⟨v, r, ?_, hv, h2⟩
      unfold stored
      rw [if_pos (by simp), List.map_cons, if_pos rfl]
      congr 1
      have : ∀ (l : List (Str × Value)), y ∉ l.map (·.1) → l.map (fun kv => if kv.1 = y then (kv.1, v) else kv) = l := by
        intro l
        induction l with
        | nil => intro _; rfl
        | cons a l ih =>
          intro h
          rw [List.map_cons, List.mem_cons, not_or] at h
          rw [List.map_cons, if_neg (fun e => h.1 e.symm), ih h.2]
      exact this r nd.1
    · rw [if_neg z]
      refine ⟨u, stored r x v, ?_, h1, SV.put hv h2 nd.2⟩
      unfold stored
      rw [List.any_cons, show decide ((y, u).1 = x) = false from decide_eq_false z, Bool.false_or]
      split
      · rw [List.map_cons, if_neg z]
      · rfl
theorem aput_keys {fs : List (Str × LV)} {x : Str} {l : LV} (h : (fs.map (·.1)).Nodup) : ((aput fs x l).map (·.1)).Nodup ∧ ∀ y, y ∈ (aput fs x l).map (·.1) → y = x ∨ y ∈ fs.map (·.1) := by
  induction fs with
  | nil => exact ⟨by simp [aput], fun y hy => by simp [aput] at hy; exact .inl hy⟩
  | cons f fs ih =>
    obtain ⟨q, w⟩ := f
    rw [List.map_cons, List.nodup_cons] at h
    obtain ⟨i1, i2⟩ := ih h.2
    rw [aput]
    split
    · exact ⟨by rw [List.map_cons, List.nodup_cons]; exact h, fun y hy => .inr (by simpa using hy)⟩
    · rename_i z
      refine ⟨?_, fun y hy => ?_⟩
      · rw [List.map_cons, List.nodup_cons]; exact ⟨fun hx => (i2 _ hx).elim z h.1, i1⟩
      · rw [List.map_cons, List.mem_cons] at hy
        rcases hy with rfl | hy
        · right; simp
        · rcases i2 y hy with h | h
          · exact .inl h
          · right; exact List.mem_cons_of_mem _ h

section
variable {G : Gl} {k : Nat} {fl : Bool} {sc : Scope} {m : Loc} {H : Hp} {Q : Qv} {X : Xc}
theorem Inv.sdict {env : Env} {A : Around} {C : Cm} {Z : Zs} {s : Shared} (I : Inv G k fl env A C Z m H s) {d : Addr} {fs : List (Str × LV)} (h : H d = some (.sdict fs)) : ∃ kvs, s.heap.DictOf (sk G) d kvs ∧ SV C fs kvs ∧ (fs.map (·.1)).Nodup := by
  obtain ⟨ob, e1, a1, a2, a3, nd, es, n, e2, se⟩ := I.st.hp d _ h
  obtain ⟨kvs, p1, p2, p3⟩ := SV.of se
  exact ⟨kvs, ⟨ob, _, n, e1, ⟨a1, a2, a3⟩, e2, fun e he => p3 e (by simpa using he), p1, by rw [p2.keys]; exact nd⟩, p2, nd⟩
theorem sdict_of {C : Cm} {h : Heap} {d : Addr} {fs : List (Str × LV)} {kvs : List (Str × Value)} (x : h.DictOf (sk G) d kvs) (sv : SV C fs kvs) (nd : (fs.map (·.1)).Nodup) : ∃ ob, h.get? d = some ob ∧ OR G C h (.sdict fs) ob := by
  obtain ⟨ob, es, ep, e1, ⟨a1, a2, a3⟩, e2, e3, e4, _⟩ := x
  exact ⟨ob, e1, a1, a2, a3, nd, es.toList, ep, by rw [e2], SV.to sv e4 fun e he => e3 e (by simpa using he)⟩
theorem BO_itemsd {d : Addr} {fs : List (Str × LV)} {x : Str} {lv : LV} (hH : H d = some (.sdict fs)) (hl : fs.lookup x = some lv) (h : Q lv H) : BO G getItem (.ref d) (.str x) H Q X := fun k fl env A C Z m s va vb I h1 ⟨t, h2⟩ => by
  subst h2; cases h1
  obtain ⟨kvs, D, sv, nd⟩ := I.sdict hH
  obtain ⟨v, v1, v2⟩ := sv.val hl
  exact wpAny_getItem_of (knd := sk G) (k := x) (isStr_sk x t) D.mapOf v1 ⟨C, lv, H, Cle.refl C, I.toks, v2, h⟩
theorem SO_sd {d : Addr} {fs : List (Str × LV)} {x : Str} {lv : LV} {N : Hp → Prop} (hH : H d = some (.sdict fs)) (z : fs.length < 100) (h : N (hset H d (.sdict (aput fs x lv)))) : SO G setItem (.ref d) (.str x) lv H N X := fun k fl env A C Z m s va vb vc I h1 ⟨t, h2⟩ h3 => by
  subst h2; cases h1
  obtain ⟨kvs, D, sv, nd⟩ := I.sdict hH
  have nd2 : (kvs.map (·.1)).Nodup := by rw [sv.keys]; exact nd
  have hl : kvs.length = fs.length := by have := congrArg List.length sv.keys; simpa using this
  refine wpAny_setItem_pairs (knd := sk G) (k := x) (isStr_sk x t) D (fun h' q1 q2 => ?_) (by rw [hl]; unfold sizeLine; omega)
  obtain ⟨ob, g1, g2⟩ := sdict_of (C := C) q1 (sv.put h3 nd2) (aput_keys nd).1
  exact ⟨C, _, Cle.refl C, I.upd (tk := s.toks + 1) hH q2 g1 g2, h⟩
end
end Go

end
section
set_option autoImplicit false
set_option linter.unusedVariables false
set_option linter.unusedSimpArgs false
set_option Elab.async false
namespace Go
open PySem PySem.W PyProof.Rows

def nthS : List Stmt → Nat → Stmt
  | [], _ => .Pass ⟨0, 0, 0, 0⟩
  | x :: _, 0 => x
  | _ :: r, n + 1 => nthS r n
def fbody : Stmt → List Stmt
  | .FunctionDef _ _ b _ _ _ _ _ _ _ => b
  | .ClassDef _ _ _ b _ _ _ _ _ _ _ => b
  | _ => []
def fscope : Stmt → Scope
  | .FunctionDef _ _ _ _ _ _ s _ _ _ => s
  | .ClassDef _ _ _ _ _ _ s _ _ _ _ => s
  | _ => { kind := .module, names := [], isGenerator := false, isCoroutine := false }
def fname : Stmt → Str
  | .FunctionDef n _ _ _ _ _ _ _ _ _ => n
  | _ => Str.ofString ""
def fparams : Stmt → Arguments
  | .FunctionDef _ p _ _ _ _ _ _ _ _ => p
  | _ => { posonlyargs := [], args := [], vararg := none, kwonlyargs := [], kw_defaults := [], kwarg := none, defaults := [] }

theorem zip_lookup_some {ns : List Str} : ∀ {vals : List Value}, vals.length = ns.length → ∀ n, n ∈ ns → ((ns.zip vals).lookup n).isSome = true := by
  induction ns with
  | nil => intro vals _ n hn; simp at hn
  | cons x r ih =>
    intro vals hl n hn
    match vals, hl with
    | v :: vs, hl =>
      simp only [List.zip_cons_cons, List.lookup_cons]
      by_cases e : (n == x) = true
      · simp [e]
      · simp only [e]
        have : n ∈ r := by
          rcases List.mem_cons.mp hn with z | z
          · rw [z] at e; simp at e
          · exact z
        exact ih (by simpa using hl) n this
theorem zip_fm (L : List (Str × Value)) : ∀ {ns : List Str} {vals : List Value}, vals.length = ns.length → (∀ n v, (n, v) ∈ ns.zip vals → L.lookup n = some v) → ns.filterMap (fun n => (L.lookup n).map (n, ·)) = ns.zip vals
  | [], _, _, _ => by simp
  | x :: r, v :: vs, hl, h => by
    rw [List.zip_cons_cons, List.filterMap_cons, h x v (by simp)]
    simp only [Option.map_some, List.cons.injEq, true_and]
    exact zip_fm L (by simpa using hl) fun n w hm => h n w (by rw [List.zip_cons_cons]; exact List.mem_cons_of_mem _ hm)
theorem zip_filterMap {ns : List Str} (nd : ns.Nodup) {vals : List Value} (hl : vals.length = ns.length) : ns.filterMap (fun n => ((ns.zip vals).lookup n).map (n, ·)) = ns.zip vals := by
  refine zip_fm _ hl fun n v hm => ?_
  obtain ⟨i, hi⟩ := List.getElem?_of_mem hm
  exact lookup_nodup (by rw [List.map_fst_zip (by omega)]; exact nd) hi
theorem bind_plain {fd : FuncData} {vals : List Value} (h1 : fd.params.posonlyargs = []) (h2 : fd.params.vararg = none) (h3 : fd.params.kwonlyargs = []) (h4 : fd.params.kwarg = none) (h5 : fd.defaults = .none)
    (nd : (fd.params.args.map (·.arg)).Nodup) (hl : vals.length = fd.params.args.length) : bindArgs fd ⟨vals, []⟩ = pure ((fd.params.args.map (·.arg)).zip vals) := by
  have hl' : vals.length = (fd.params.args.map (·.arg)).length := by simpa using hl
  have e1 : (fd.params.args.map (·.arg)).filter (fun n => (((fd.params.args.map (·.arg)).zip vals).lookup n).isNone) = [] := by
    rw [List.filter_eq_nil_iff]; intro n hn
    have := zip_lookup_some hl' n hn
    rw [Option.isSome_iff_exists] at this; obtain ⟨v, q⟩ := this; simp [q]
  have e2 : seqItems? .none = pure none := rfl
  unfold bindArgs
  simp only [h1, h2, h3, h4, h5, List.map_nil, List.nil_append, e2, List.forIn_nil, pure_bind, Option.getD_none, List.length_map, hl, Nat.lt_irrefl, gt_iff_lt, decide_false, Bool.false_and, Bool.false_eq_true, if_false]
  simp only [List.drop_nil, List.length_nil, Nat.sub_zero, List.zip_nil_right, List.forIn_nil, pure_bind, List.append_nil]
  rw [List.take_of_length_le (by simp), e1, zip_filterMap nd hl']
  simp

/-- a function of the program lies at an address -/
def IsFn (G : Gl) (f : Addr) (st : Stmt) : Prop := ∃ oc od osl qual kV doc pm an cdv ct,
  G.K.lookup f = some ⟨oc, od, .func (fnOf (fname st) qual (fparams st) (fbody st) (fscope st) .none kV doc pm an cdv ct), osl⟩ ∧ codeIn G.K cdv qual = true
def Fn (G : Gl) (x : Str) (f : Addr) (st : Stmt) : Prop := GNm G x (.ref f) ∧ keepIn G.K (.ref f) = true ∧ IsFn G f st
def Meth (G : Gl) (c : Addr) (x : Str) (f : Addr) (st : Stmt) : Prop := findIn G.K (.ref c) x = some (some (.ref f)) ∧ typeIn G.K (.ref f) = some (.type "function") ∧ keepIn G.K (.ref f) = true ∧ IsFn G f st

/-- a plain def of N arguments -/
def FnOk (st : Stmt) (N : Nat) : Bool :=
  (fparams st).posonlyargs.isEmpty && (fparams st).vararg.isNone && (fparams st).kwonlyargs.isEmpty && (fparams st).kwarg.isNone && decide (((fparams st).args.map (·.arg)).Nodup) &&
  decide (((fscope st).names.take N).map (·.1) = (fparams st).args.map (·.arg)) && ((fparams st).args.length == N) && (((fscope st).names.take N).all fun x => x.2 == .local || x.2 == .cell) &&
  decide (((fscope st).names.map (·.1)).Nodup) && (!(fscope st).isCoroutine) && (!(fscope st).isGenerator) && ((fscope st).kind == .function)
theorem CODE_fn {G : Gl} {k : Nat} {f : Addr} {st : Stmt} {as : List LV} {H : Hp} {Q : Qv} {X : Xc} (F : IsFn G f st) (N : Nat) (hN : as.length = N) (hok : FnOk st N = true)
    (h : EXS G k (fscope st) (fbody st) (frame0 (fscope st).names as) H ⟨fun _ H => Q .none H, Q, fun _ _ => False, fun _ _ => False, fun c _ H => X c H⟩) : CODE G (k + 1) (.ref f) as H Q X := by
  obtain ⟨oc, od, osl, qual, kV, doc, pm, an, cdv, ct, h1, h2⟩ := F
  subst hN
  simp only [FnOk, Bool.and_eq_true, List.isEmpty_iff, Option.isNone_iff_eq_none, decide_eq_true_eq, beq_iff_eq, Bool.not_eq_true'] at hok
  obtain ⟨⟨⟨⟨⟨⟨⟨⟨⟨⟨⟨o1, o2⟩, o3⟩, o4⟩, o5⟩, o6⟩, o7⟩, o8⟩, o9⟩, o10⟩, o11⟩, o12⟩ := hok
  have hk : (fscope st).kind = .function := by revert o12; cases (fscope st).kind <;> simp <;> decide
  exact CODE_def h1 h2 (fun vals hv => bind_plain o1 o2 o3 o4 rfl o5 (hv.trans o7.symm)) o6 (by rw [List.length_map]; exact o7) o8 o9 o10 o11 hk h

theorem ne_of {H : Hp} {a b : Addr} {o : LO} (ha : H a = none) (hb : H b = some o) : b ≠ a := fun e => by subst e; rw [ha] at hb; cases hb

def Ext (H H' : Hp) : Prop := ∀ a o, H a = some o → H' a = some o
theorem Ext.refl (H : Hp) : Ext H H := fun _ _ e => e
theorem Ext.trans {H H' H'' : Hp} (x : Ext H H') (y : Ext H' H'') : Ext H H'' := fun a o e => y a o (x a o e)
theorem Ext.set {H H' : Hp} {a : Addr} {o : LO} (x : Ext H H') (h : H a = none) : Ext H (hset H' a o) := fun b p e => by
  rw [hset_ne _ _ (ne_of h e)]; exact x b p e
theorem Ext.none {H H' : Hp} (x : Ext H H') {a : Addr} (h : H' a = .none) : H a = .none := by
  cases q : H a with
  | none => rfl
  | some o => rw [x a o q] at h; cases h

end Go

end
section
set_option autoImplicit false
set_option linter.unusedVariables false
set_option linter.unusedSimpArgs false
set_option Elab.async false
namespace Go
open PySem PySem.W PyProof.Rows
section
variable {G : Gl} {k : Nat} {fl : Bool} {sc : Scope} {m : Loc} {H : Hp} {Q : Qv} {X : Xc}
theorem EV_sadd {o : PySem.Expr} {apos pos : Pos} {es : List PySem.Expr} (h : EV G k fl sc o m H (fun lv H1 => OfT H1 "set" lv ∧ AR G k fl sc es m H1 (fun lvs H2 => CALL G k (.builtin "set.add") (lv :: lvs) H2 Q X) X) X)
    (hbase : ∀ env, attributeBase o (Str.ofString "add") env (eval o env) = eval o env := by intro _; with_unfolding_all rfl)
    (hfew : ∀ env, ((backTo pos (starEach es env)).all (fun x => !x.1) && (backToKw pos (keywordEach [] env)).all (fun x => x.1.isSome) && decide (es.length + ([] : List Keyword).length + (if ([] : List Keyword).isEmpty then 0 else 1) < 30)) = true := by intro _; with_unfolding_all rfl)
    (hline : (apos.endLine == pos.line) = true := by with_unfolding_all rfl) : EV G k fl sc (.Call (.Attribute o (Str.ofString "add") apos) es [] pos) m H Q X :=
  EV_Meth PySem.F.plainAttrs_set PySem.F.slot_set_add PySem.F.type_set_add h hbase hfew hline
theorem EV_spop {o : PySem.Expr} {apos pos : Pos} {es : List PySem.Expr} (h : EV G k fl sc o m H (fun lv H1 => OfT H1 "set" lv ∧ AR G k fl sc es m H1 (fun lvs H2 => CALL G k (.builtin "set.pop") (lv :: lvs) H2 Q X) X) X)
    (hbase : ∀ env, attributeBase o (Str.ofString "pop") env (eval o env) = eval o env := by intro _; with_unfolding_all rfl)
    (hfew : ∀ env, ((backTo pos (starEach es env)).all (fun x => !x.1) && (backToKw pos (keywordEach [] env)).all (fun x => x.1.isSome) && decide (es.length + ([] : List Keyword).length + (if ([] : List Keyword).isEmpty then 0 else 1) < 30)) = true := by intro _; with_unfolding_all rfl)
    (hline : (apos.endLine == pos.line) = true := by with_unfolding_all rfl) : EV G k fl sc (.Call (.Attribute o (Str.ofString "pop") apos) es [] pos) m H Q X :=
  EV_Meth PySem.F.plainAttrs_set PySem.F.slot_set_pop PySem.F.type_set_pop h hbase hfew hline
theorem EV_supd {o : PySem.Expr} {apos pos : Pos} {es : List PySem.Expr} (h : EV G k fl sc o m H (fun lv H1 => OfT H1 "set" lv ∧ AR G k fl sc es m H1 (fun lvs H2 => CALL G k (.builtin "set.update") (lv :: lvs) H2 Q X) X) X)
    (hbase : ∀ env, attributeBase o (Str.ofString "update") env (eval o env) = eval o env := by intro _; with_unfolding_all rfl)
    (hfew : ∀ env, ((backTo pos (starEach es env)).all (fun x => !x.1) && (backToKw pos (keywordEach [] env)).all (fun x => x.1.isSome) && decide (es.length + ([] : List Keyword).length + (if ([] : List Keyword).isEmpty then 0 else 1) < 30)) = true := by intro _; with_unfolding_all rfl)
    (hline : (apos.endLine == pos.line) = true := by with_unfolding_all rfl) : EV G k fl sc (.Call (.Attribute o (Str.ofString "update") apos) es [] pos) m H Q X :=
  EV_Meth PySem.F.plainAttrs_set PySem.F.slot_set_update PySem.F.type_set_update h hbase hfew hline
theorem EV_lapp {o : PySem.Expr} {apos pos : Pos} {es : List PySem.Expr} (h : EV G k fl sc o m H (fun lv H1 => OfT H1 "list" lv ∧ AR G k fl sc es m H1 (fun lvs H2 => CALL G k (.builtin "list.append") (lv :: lvs) H2 Q X) X) X)
    (hbase : ∀ env, attributeBase o (Str.ofString "append") env (eval o env) = eval o env := by intro _; with_unfolding_all rfl)
    (hfew : ∀ env, ((backTo pos (starEach es env)).all (fun x => !x.1) && (backToKw pos (keywordEach [] env)).all (fun x => x.1.isSome) && decide (es.length + ([] : List Keyword).length + (if ([] : List Keyword).isEmpty then 0 else 1) < 30)) = true := by intro _; with_unfolding_all rfl)
    (hline : (apos.endLine == pos.line) = true := by with_unfolding_all rfl) : EV G k fl sc (.Call (.Attribute o (Str.ofString "append") apos) es [] pos) m H Q X :=
  EV_Meth PySem.F.plainAttrs_list PySem.F.slot_list_append PySem.F.type_list_append h hbase hfew hline
theorem EV_lins {o : PySem.Expr} {apos pos : Pos} {es : List PySem.Expr} (h : EV G k fl sc o m H (fun lv H1 => OfT H1 "list" lv ∧ AR G k fl sc es m H1 (fun lvs H2 => CALL G k (.builtin "list.insert") (lv :: lvs) H2 Q X) X) X)
    (hbase : ∀ env, attributeBase o (Str.ofString "insert") env (eval o env) = eval o env := by intro _; with_unfolding_all rfl)
    (hfew : ∀ env, ((backTo pos (starEach es env)).all (fun x => !x.1) && (backToKw pos (keywordEach [] env)).all (fun x => x.1.isSome) && decide (es.length + ([] : List Keyword).length + (if ([] : List Keyword).isEmpty then 0 else 1) < 30)) = true := by intro _; with_unfolding_all rfl)
    (hline : (apos.endLine == pos.line) = true := by with_unfolding_all rfl) : EV G k fl sc (.Call (.Attribute o (Str.ofString "insert") apos) es [] pos) m H Q X :=
  EV_Meth PySem.F.plainAttrs_list PySem.F.slot_list_insert PySem.F.type_list_insert h hbase hfew hline
theorem EV_dget {o : PySem.Expr} {apos pos : Pos} {es : List PySem.Expr} (h : EV G k fl sc o m H (fun lv H1 => OfT H1 "dict" lv ∧ AR G k fl sc es m H1 (fun lvs H2 => CALL G k (.builtin "dict.get") (lv :: lvs) H2 Q X) X) X)
    (hbase : ∀ env, attributeBase o (Str.ofString "get") env (eval o env) = eval o env := by intro _; with_unfolding_all rfl)
    (hfew : ∀ env, ((backTo pos (starEach es env)).all (fun x => !x.1) && (backToKw pos (keywordEach [] env)).all (fun x => x.1.isSome) && decide (es.length + ([] : List Keyword).length + (if ([] : List Keyword).isEmpty then 0 else 1) < 30)) = true := by intro _; with_unfolding_all rfl)
    (hline : (apos.endLine == pos.line) = true := by with_unfolding_all rfl) : EV G k fl sc (.Call (.Attribute o (Str.ofString "get") apos) es [] pos) m H Q X :=
  EV_Meth PySem.F.plainAttrs_dict PySem.F.slot_dict_get PySem.F.type_dict_get h hbase hfew hline
theorem EV_dpop {o : PySem.Expr} {apos pos : Pos} {es : List PySem.Expr} (h : EV G k fl sc o m H (fun lv H1 => OfT H1 "dict" lv ∧ AR G k fl sc es m H1 (fun lvs H2 => CALL G k (.builtin "dict.pop") (lv :: lvs) H2 Q X) X) X)
    (hbase : ∀ env, attributeBase o (Str.ofString "pop") env (eval o env) = eval o env := by intro _; with_unfolding_all rfl)
    (hfew : ∀ env, ((backTo pos (starEach es env)).all (fun x => !x.1) && (backToKw pos (keywordEach [] env)).all (fun x => x.1.isSome) && decide (es.length + ([] : List Keyword).length + (if ([] : List Keyword).isEmpty then 0 else 1) < 30)) = true := by intro _; with_unfolding_all rfl)
    (hline : (apos.endLine == pos.line) = true := by with_unfolding_all rfl) : EV G k fl sc (.Call (.Attribute o (Str.ofString "pop") apos) es [] pos) m H Q X :=
  EV_Meth PySem.F.plainAttrs_dict PySem.F.slot_dict_pop PySem.F.type_dict_pop h hbase hfew hline

theorem OfT_lst {a : Addr} {vs : List LV} (h : H a = some (.lst vs)) : OfT H "list" (.ref a) := by simp [OfT, h]
theorem OfT_pset {a : Addr} {vs : List (Int × Int)} (h : H a = some (.pset vs)) : OfT H "set" (.ref a) := by simp [OfT, h]
theorem OfT_sset {a : Addr} {vs : List Str} (h : H a = some (.sset vs)) : OfT H "set" (.ref a) := by simp [OfT, h]
theorem OfT_pd {a : Addr} {vs : List ((Int × Int) × LV)} {ep : Nat} (h : H a = some (.pdict vs ep)) : OfT H "dict" (.ref a) := by simp [OfT, h]
theorem OfT_sd {a : Addr} {vs : List (Str × LV)} (h : H a = some (.sdict vs)) : OfT H "dict" (.ref a) := by simp [OfT, h]
theorem SubT_lst {a : Addr} {vs : List LV} (h : H a = some (.lst vs)) : SubT H (.ref a) := by simp [SubT, h]
theorem SubT_pd {a : Addr} {vs : List ((Int × Int) × LV)} {ep : Nat} (h : H a = some (.pdict vs ep)) : SubT H (.ref a) := by simp [SubT, h]
theorem SubT_sd {a : Addr} {vs : List (Str × LV)} (h : H a = some (.sdict vs)) : SubT H (.ref a) := by simp [SubT, h]
theorem truth_lst {a : Addr} {vs : List LV} (h : H a = some (.lst vs)) : truthOf H (.ref a) = some (!vs.isEmpty) := by simp [truthOf, h]
theorem truth_pset {a : Addr} {vs : List (Int × Int)} (h : H a = some (.pset vs)) : truthOf H (.ref a) = some (!vs.isEmpty) := by simp [truthOf, h]

variable {a b : Int}
theorem BO_inset2 {d : Addr} {ps : List (Int × Int)} (hH : H d = some (.pset ps)) (h : Q (.bool (decide ((a, b) ∈ ps))) H) : BO G (compareOp .In) (.tup [.int a, .int b]) (.ref d) H Q X := BO_inset (p := (a, b)) hH h
theorem BO_notinset2 {d : Addr} {ps : List (Int × Int)} (hH : H d = some (.pset ps)) (h : Q (.bool (!decide ((a, b) ∈ ps))) H) : BO G (compareOp .NotIn) (.tup [.int a, .int b]) (.ref d) H Q X := BO_notinset (p := (a, b)) hH h
theorem CALL_add2 {d : Addr} {ps : List (Int × Int)} (hH : H d = some (.pset ps)) (sz : ps.length < 60) (h : Q .none (hset H d (.pset (if (a, b) ∈ ps then ps else (a, b) :: ps)))) : CALL G k (.builtin "set.add") [.ref d, .tup [.int a, .int b]] H Q X := CALL_set_add (p := (a, b)) hH sz h
theorem BO_inpd2 {d : Addr} {fs : List ((Int × Int) × LV)} {ep : Nat} (hH : H d = some (.pdict fs ep)) (h : Q (.bool (fs.lookup (a, b)).isSome) H) : BO G (compareOp .In) (.tup [.int a, .int b]) (.ref d) H Q X := BO_inpd (p := (a, b)) hH h
theorem BO_notinpd2 {d : Addr} {fs : List ((Int × Int) × LV)} {ep : Nat} (hH : H d = some (.pdict fs ep)) (h : Q (.bool (!(fs.lookup (a, b)).isSome)) H) : BO G (compareOp .NotIn) (.tup [.int a, .int b]) (.ref d) H Q X := BO_notinpd (p := (a, b)) hH h
theorem BO_itempd2 {d : Addr} {fs : List ((Int × Int) × LV)} {ep : Nat} {lv : LV} (hH : H d = some (.pdict fs ep)) (hl : fs.lookup (a, b) = some lv) (h : Q lv H) : BO G getItem (.ref d) (.tup [.int a, .int b]) H Q X := BO_itempd (p := (a, b)) hH hl h
theorem SO_pd2 {d : Addr} {fs : List ((Int × Int) × LV)} {ep : Nat} {lv : LV} {N : Hp → Prop} (hH : H d = some (.pdict fs ep)) (z : fs.length < 100) (h : ∀ ep', N (hset H d (.pdict (pput fs (a, b) lv) ep'))) : SO G setItem (.ref d) (.tup [.int a, .int b]) lv H N X := SO_pd (p := (a, b)) hH z h
theorem CALL_get2 {d : Addr} {fs : List ((Int × Int) × LV)} {ep : Nat} (hH : H d = some (.pdict fs ep)) (h : Q ((fs.lookup (a, b)).getD .none) H) : CALL G k (.builtin "dict.get") [.ref d, .tup [.int a, .int b]] H Q X := CALL_get (p := (a, b)) hH h
end
theorem EXS_at {G : Gl} {k : Nat} {sc : Scope} {b : List Stmt} {m m' : Loc} {H : Hp} {P : PQ} (e : m = m') (h : EXS G k sc b m' H P) : EXS G k sc b m H P := e ▸ h
end Go

end
section
set_option autoImplicit false
set_option linter.unusedVariables false
set_option linter.unusedSimpArgs false
set_option Elab.async false
namespace Go
open PySem PySem.W PyProof.Rows
section
variable {G : Gl} {k : Nat} {sc : Scope} {m : Loc} {H : Hp} {P : PQ}

theorem EXS_mono {b : List Stmt} {m : Loc} {H : Hp} {P P' : PQ} (h : EXS G k sc b m H P) (hn : ∀ m' H', P.n m' H' → P'.n m' H') (hr : ∀ v H', P.r v H' → P'.r v H') (hb : ∀ m' H', P.b m' H' → P'.b m' H') (hc : ∀ m' H', P.c m' H' → P'.c m' H') (hx : ∀ c m' H', P.x c m' H' → P'.x c m' H') : EXS G k sc b m H P' := by
  intro env A C Z s hs I
  refine wpAny_mono (h env A C Z s hs I) (fun f s' hf => ?_) (fun e s' he => ?_)
  · obtain ⟨C', m', H', h1, h2, h3⟩ := hf
    refine ⟨C', m', H', h1, h2, ?_⟩
    cases f with
    | next => exact hn _ _ h3
    | brk => exact hb _ _ h3
    | cont => exact hc _ _ h3
    | ret v => obtain ⟨lv, h4, h5⟩ := h3; exact ⟨lv, h4, hr _ _ h5⟩
  · obtain ⟨C', cls, m', H', h1, h2, h3⟩ := he
    exact ⟨C', cls, m', H', h1, h2, hx _ _ _ h3⟩
theorem AS.mono {fl : Bool} {t : PySem.Expr} {lv : LV} {N N' : Loc → Hp → Prop} {X : Xk → Loc → Hp → Prop} (h : AS G k fl sc t lv m H N X) (hn : ∀ m' H', N m' H' → N' m' H') : AS G k fl sc t lv m H N' X :=
  fun env A C Z s v hs I hv => wpAny_mono (h env A C Z s v hs I hv) (fun _ _ ⟨C', m', H', a, b, c⟩ => ⟨C', m', H', a, b, hn _ _ c⟩) fun _ _ x => x
theorem IT.mono {fl : Bool} {S : Stp G} {e : PySem.Expr} {Q Q' : S.κ → Hp → Prop} {X : Xc} (h : IT G k fl sc S e m H Q X) (hQ : ∀ x H', Q x H' → Q' x H') : IT G k fl sc S e m H Q' X := by
  intro env A C Z s hs I
  refine wpAny_mono (h env A C Z s hs I) (fun x s1 h1 => ?_) fun _ _ x => x
  refine wpAny_mono h1 (fun r s2 h2 => ?_) fun _ _ x => x
  obtain ⟨C', H', it, x, o, a, b, c, d, e, f, g, h⟩ := h2
  exact ⟨C', H', it, x, o, a, b, c, d, e, f, g, hQ _ _ h⟩
theorem IV.mono {S : Stp G} {lv : LV} {Q Q' : S.κ → Hp → Prop} {X : Xc} (h : IV G S lv H Q X) (hQ : ∀ x H', Q x H' → Q' x H') : IV G S lv H Q' X := by
  intro k fl env A C Z m s v I hv
  refine wpAny_mono (h k fl env A C Z m s v I hv) (fun r s2 h2 => ?_) fun _ _ x => x
  obtain ⟨C', H', it, x, o, a, b, c, d, e, f, g, h⟩ := h2
  exact ⟨C', H', it, x, o, a, b, c, d, e, f, g, hQ _ _ h⟩

/-- a stepper yields these, one by one, as long as K holds -/
def Ys {G : Gl} (S : Stp G) (K : Hp → Prop) : S.κ → List LV → Prop
  | x, [] => ∀ H, K H → S.nx H x none
  | x, v :: vs => ∃ x', (∀ H, K H → S.nx H x (some (v, x'))) ∧ Ys S K x' vs

theorem ys_list {a : Addr} {vs : List LV} : ∀ {ws : List LV} {i : Nat}, vs.drop i = ws → Ys (stpL G) (fun H => H a = some (.lst vs)) (a, i) ws
  | [], i, h => fun H hH => ⟨vs, hH, by rw [List.getElem?_eq_none (List.drop_eq_nil_iff.mp h)]; rfl⟩
  | w :: ws, i, h => by
    have e : vs[i]? = some w := by rw [show vs[i]? = (vs.drop i)[0]? by simp, h]; rfl
    refine ⟨(a, i + 1), fun H hH => ⟨vs, hH, by rw [e]; rfl⟩, ys_list ?_⟩
    rw [← List.drop_drop, h]; rfl
theorem ys_tup : ∀ {ws : List LV}, Ys (stpT G) (fun H => True) ws ws
  | [] => fun H hH => rfl
  | w :: ws => ⟨ws, fun H hH => rfl, ys_tup⟩
theorem ys_ro : ∀ {ws : List LV}, Ys (stpR G) (fun H => True) ws ws
  | [] => fun H hH => rfl
  | w :: ws => ⟨ws, fun H hH => rfl, ys_ro⟩
theorem ys_set {a : Addr} {W : List (Int × Int)} {ob : Obj} : ∀ {ws : List (Int × Int)} {i : Nat}, W.drop i = ws → Ys (stpP G) (fun H => H a = some (.psetx a W ob)) (a, ob, i) (ws.map pv)
  | [], i, h => fun H hH => ⟨W, hH, by rw [List.getElem?_eq_none (List.drop_eq_nil_iff.mp h)]; rfl⟩
  | w :: ws, i, h => by
    have e : W[i]? = some w := by rw [show W[i]? = (W.drop i)[0]? by simp, h]; rfl
    refine ⟨(a, ob, i + 1), fun H hH => ⟨W, hH, by rw [e]; rfl⟩, ys_set ?_⟩
    rw [← List.drop_drop, h]; rfl
theorem ys_dict {d : Addr} {fs : List ((Int × Int) × LV)} {ep : Nat} : ∀ {ws : List ((Int × Int) × LV)} {i : Nat}, fs.drop i = ws → Ys (stpD G) (fun H => H d = some (.pdict fs ep)) (d, i, fs.length, ep) (ws.map fun f => pv f.1)
  | [], i, h => fun H hH => ⟨fs, hH, rfl, by rw [List.getElem?_eq_none (List.drop_eq_nil_iff.mp h)]; rfl⟩
  | w :: ws, i, h => by
    have e : fs[i]? = some w := by rw [show fs[i]? = (fs.drop i)[0]? by simp, h]; rfl
    refine ⟨(d, i + 1, fs.length, ep), fun H hH => ⟨fs, hH, rfl, by rw [e]; rfl⟩, ys_dict ?_⟩
    rw [← List.drop_drop, h]; rfl
theorem ys_range : ∀ {n : Nat} {a : Int}, Ys (stpN G) (fun H => True) (a, n) ((List.range n).map fun (i : Nat) => LV.int (a + i))
  | 0, a => fun H hH => rfl
  | n + 1, a => by
    rw [List.range_succ_eq_map, List.map_cons, List.map_map]
    refine ⟨(a + 1, n), fun H hH => ?_, ?_⟩
    · show _ = some _; simp; rfl
    · have := ys_range (n := n) (a := a + 1)
      refine (congrArg (Ys (stpN G) (fun H => True) (a + 1, n)) ?_).mp this
      apply List.map_congr_left; intro i _; simp [Function.comp]; omega

/-- a loop over what stands still -/
structure LoopY (G : Gl) (k : Nat) (sc : Scope) (t : PySem.Expr) (b o : List Stmt) (P : PQ) (K : Hp → Prop) (vs : List LV) (I : Nat → Loc → Hp → Prop) : Prop where
  keep : ∀ i m H, I i m H → K H
  turn : ∀ i lv m H, vs[i]? = some lv → I i m H → AS G k true sc t lv m H (fun m1 H1 => EXS G k sc b m1 H1 ⟨I (i + 1), P.r, P.n, I (i + 1), P.x⟩) P.x
  done : ∀ m H, I vs.length m H → EXS G k sc o m H P

theorem EX_ForY {S : Stp G} {t it : PySem.Expr} {b o : List Stmt} {p : Pos} (hh : G.hn = true)
    (h : IT G k true sc S it m H (fun x H1 => ∃ K vs I, Ys S K x vs ∧ I 0 m H1 ∧ LoopY G k sc t b o P K vs I) (fun c H' => P.x c m H'))
    (hf : ∀ env x, foldedSetIterable it env x = pure x := by intro _ _; with_unfolding_all rfl) : EX G k sc (.For t it b o p) m H P := by
  refine EX_For (S := S) hh (fun n x m H => ∃ K vs I i, Ys S K x (vs.drop i) ∧ I i m H ∧ LoopY G k sc t b o P K vs I ∧ i ≤ vs.length ∧ n = vs.length - i) (h.mono fun x H1 ⟨K, vs, I, h1, h2, h3⟩ => ⟨vs.length, K, vs, I, 0, h1, h2, h3, by omega, by omega⟩) ?_ hf
  rintro n x m H ⟨K, vs, I, i, h1, h2, h3, h4, rfl⟩
  have hk := h3.keep i m H h2
  cases hd : vs.drop i with
  | nil =>
    rw [hd] at h1
    refine ⟨none, h1 H hk, fun _ => ?_, (fun lv x' q => by cases q)⟩
    have := List.drop_eq_nil_iff.mp hd
    have e : i = vs.length := by omega
    subst e; exact h3.done m H h2
  | cons v ws =>
    rw [hd] at h1
    obtain ⟨x', hx, hy⟩ := h1
    refine ⟨some (v, x'), hx H hk, (fun q => by cases q), ?_⟩
    rintro lv x'' q; cases q
    have e : vs[i]? = some v := by rw [show vs[i]? = (vs.drop i)[0]? by simp, hd]; rfl
    have hi : i < vs.length := (List.getElem?_eq_some_iff.mp e).1
    have hd' : vs.drop (i + 1) = ws := by rw [← List.drop_drop, hd]; rfl
    refine (h3.turn i v m H e h2).mono fun m1 H1 hb => EXS_mono hb ?_ (fun _ _ x => x) (fun _ _ x => x) ?_ (fun _ _ _ x => x)
    · intro m' H' q; exact ⟨vs.length - (i + 1), by omega, K, vs, I, i + 1, by rw [hd']; exact hy, q, h3, by omega, rfl⟩
    · intro m' H' q; exact ⟨vs.length - (i + 1), by omega, K, vs, I, i + 1, by rw [hd']; exact hy, q, h3, by omega, rfl⟩

theorem EX_ForL {t it : PySem.Expr} {b o : List Stmt} {p : Pos} (hh : G.hn = true)
    (h : EV G k true sc it m H (fun lv H1 => ∃ a vs, lv = .ref a ∧ H1 a = some (.lst vs) ∧ ∃ I, I 0 m H1 ∧ LoopY G k sc t b o P (fun H => H a = some (.lst vs)) vs I) (fun c H' => P.x c m H'))
    (hf : ∀ env x, foldedSetIterable it env x = pure x := by intro _ _; with_unfolding_all rfl) : EX G k sc (.For t it b o p) m H P := by
  refine EX_ForY (S := stpL G) hh (IT_val (h.mono ?_)) hf
  rintro lv H1 ⟨a, vs, rfl, hH, I, h1, h2⟩
  exact IV_list hH ⟨_, vs, I, ys_list rfl, h1, h2⟩
theorem EX_ForT {t it : PySem.Expr} {b o : List Stmt} {p : Pos} (hh : G.hn = true)
    (h : EV G k true sc it m H (fun lv H1 => ∃ vs, lv = .tup vs ∧ ∃ I, I 0 m H1 ∧ LoopY G k sc t b o P (fun H => True) vs I) (fun c H' => P.x c m H'))
    (hf : ∀ env x, foldedSetIterable it env x = pure x := by intro _ _; with_unfolding_all rfl) : EX G k sc (.For t it b o p) m H P := by
  refine EX_ForY (S := stpT G) hh (IT_val (h.mono ?_)) hf
  rintro lv H1 ⟨vs, rfl, I, h1, h2⟩
  exact IV_tup ⟨_, vs, I, ys_tup, h1, h2⟩
theorem EX_ForD {t it : PySem.Expr} {b o : List Stmt} {p : Pos} (hh : G.hn = true)
    (h : EV G k true sc it m H (fun lv H1 => ∃ d fs ep, lv = .ref d ∧ H1 d = some (.pdict fs ep) ∧ ∃ I, I 0 m H1 ∧ LoopY G k sc t b o P (fun H => H d = some (.pdict fs ep)) (fs.map fun f => pv f.1) I) (fun c H' => P.x c m H'))
    (hf : ∀ env x, foldedSetIterable it env x = pure x := by intro _ _; with_unfolding_all rfl) : EX G k sc (.For t it b o p) m H P := by
  refine EX_ForY (S := stpD G) hh (IT_val (h.mono ?_)) hf
  rintro lv H1 ⟨d, fs, ep, rfl, hH, I, h1, h2⟩
  exact IV_dict hH ⟨_, _, I, ys_dict (ws := fs) rfl, h1, h2⟩
theorem EX_ForP {t it : PySem.Expr} {b o : List Stmt} {p : Pos} (hh : G.hn = true)
    (h : EV G k true sc it m H (fun lv H1 => ∃ a W ob, lv = .ref a ∧ H1 a = some (.psetx a W ob) ∧ ∃ I, I 0 m H1 ∧ LoopY G k sc t b o P (fun H => H a = some (.psetx a W ob)) (W.map pv) I) (fun c H' => P.x c m H'))
    (hf : ∀ env x, foldedSetIterable it env x = pure x := by intro _ _; with_unfolding_all rfl) : EX G k sc (.For t it b o p) m H P := by
  refine EX_ForY (S := stpP G) hh (IT_val (h.mono ?_)) hf
  rintro lv H1 ⟨a, W, ob, rfl, hH, I, h1, h2⟩
  exact IV_set hH ⟨_, _, I, ys_set (ws := W) rfl, h1, h2⟩
theorem EX_ForN {x : Str} {np pos : Pos} {e t : PySem.Expr} {b o : List Stmt} {p : Pos} (hh : G.hn = true) (hx : sc.names.lookup x = some .globalImplicit) (hg : GNm G x (.type "range"))
    (h : EV G k true sc e m H (fun lv H1 => ∃ n : Nat, lv = .int n ∧ (n : Int) < 2 ^ 60 ∧ ∃ I, I 0 m H1 ∧ LoopY G k sc t b o P (fun H => True) ((List.range n).map fun (i : Nat) => .int i) I) (fun c H' => P.x c m H'))
    (hd : (x == ("__debug__" : Str)) = false := by decide +kernel) (hs' : ∀ env, starEach [e] env = [(false, eval e env)] := by intro _; with_unfolding_all rfl)
    (hf : ∀ env y, foldedSetIterable (.Call (.Name x np) [e] [] pos) env y = pure y := by intro _ _; with_unfolding_all rfl) : EX G k sc (.For t (.Call (.Name x np) [e] [] pos) b o p) m H P := by
  refine EX_ForY (S := stpN G) hh (IT_range hx hg (h.mono ?_) hd hs') hf
  rintro lv H1 ⟨n, rfl, hn, I, h1, h2⟩
  refine ⟨n, rfl, by omega, hn, _, _, I, ?_, h1, h2⟩
  have := ys_range (G := G) (n := n) (a := 0)
  simpa using this

/-- a loop over a list that may grow -/
def LoopG (G : Gl) (k : Nat) (sc : Scope) (t : PySem.Expr) (b o : List Stmt) (P : PQ) (a : Addr) (N : Nat) (I : Nat → Loc → Hp → Prop) : Prop :=
  ∀ i m H, I i m H → ∃ vs, H a = some (.lst vs) ∧ vs.length ≤ N ∧ (vs.length ≤ i → EXS G k sc o m H P) ∧
    ∀ lv, vs[i]? = some lv → AS G k true sc t lv m H (fun m1 H1 => EXS G k sc b m1 H1 ⟨I (i + 1), P.r, P.n, I (i + 1), P.x⟩) P.x
theorem EX_ForG {t it : PySem.Expr} {b o : List Stmt} {p : Pos} (hh : G.hn = true)
    (h : EV G k true sc it m H (fun lv H1 => ∃ a vs N I, lv = .ref a ∧ H1 a = some (.lst vs) ∧ I 0 m H1 ∧ LoopG G k sc t b o P a N I) (fun c H' => P.x c m H'))
    (hf : ∀ env x, foldedSetIterable it env x = pure x := by intro _ _; with_unfolding_all rfl) : EX G k sc (.For t it b o p) m H P := by
  refine EX_For (S := stpL G) hh (fun n x m H => ∃ N I, LoopG G k sc t b o P x.1 N I ∧ I x.2 m H ∧ n = N - x.2) (IT_val (h.mono ?_)) ?_ hf
  · rintro lv H1 ⟨a, vs, N, I, rfl, hH, h1, h2⟩
    exact IV_list hH ⟨_, N, I, h2, h1, rfl⟩
  · rintro n ⟨a, i⟩ m H ⟨N, I, h1, h2, rfl⟩
    obtain ⟨vs, v1, v2, v3, v4⟩ := h1 i m H h2
    refine ⟨_, ⟨vs, v1, rfl⟩, fun q => ?_, ?_⟩
    · refine v3 ?_
      cases e : vs[i]? with
      | none => exact List.getElem?_eq_none_iff.mp e
      | some w => rw [e] at q; cases q
    · rintro lv x' q
      cases e : vs[i]? with
      | none => rw [e] at q; cases q
      | some w =>
        rw [e] at q; cases q
        have hi : i < vs.length := (List.getElem?_eq_some_iff.mp e).1
        refine (v4 _ e).mono fun m1 H1 hb => EXS_mono hb ?_ (fun _ _ x => x) (fun _ _ x => x) ?_ (fun _ _ _ x => x)
        · intro m' H' q; exact ⟨N - (i + 1), by dsimp only; omega, N, I, h1, q, rfl⟩
        · intro m' H' q; exact ⟨N - (i + 1), by dsimp only; omega, N, I, h1, q, rfl⟩
end
end Go

end
section
set_option autoImplicit false
set_option linter.unusedVariables false
set_option linter.unusedSimpArgs false
set_option Elab.async false
namespace Go
open PySem PySem.W PyProof.Rows

/-- the same names, what was known is still so -/
def Sim : Loc → Loc → Prop
  | [], m => m = []
  | (x, none) :: r, m => ∃ o r', m = (x, o) :: r' ∧ Sim r r'
  | (x, some v) :: r, m => ∃ r', m = (x, some v) :: r' ∧ Sim r r'
theorem Sim.refl : ∀ (m : Loc), Sim m m
  | [] => rfl
  | (_, none) :: r => ⟨_, _, rfl, Sim.refl r⟩
  | (_, some _) :: r => ⟨_, rfl, Sim.refl r⟩

section
variable {G : Gl} {k : Nat} {fl : Bool} {sc : Scope} {m : Loc} {H : Hp} {X : Xc}
theorem TSs.mono {ifs : List PySem.Expr} {Q Q' : Bool → Hp → Prop} (h : TSs G k sc ifs m H Q) (hQ : ∀ b H', Q b H' → Q' b H') : TSs G k sc ifs m H Q' :=
  fun env A C Z s hs I => wpAny_mono (h env A C Z s hs I) (fun _ _ ⟨C', H', a, b, c⟩ => ⟨C', H', a, b, hQ _ _ c⟩) fun _ _ x => x

/-- one element of a comprehension: f tells what it lays, if anything -/
def Elem (G : Gl) (k : Nat) (sc : Scope) (t : PySem.Expr) (ifs : List PySem.Expr) (elt : PySem.Expr) (m0 : Loc) (H1 : Hp) (f : LV → Option LV) (lv : LV) : Prop :=
  ∀ m2 H2, Sim m0 m2 → Ext H1 H2 → AS G k false sc t lv m2 H2 (fun m3 H3 => Sim m0 m3 ∧ TSs G k sc ifs m3 H3 (fun ok H4 =>
    (ok = false → f lv = none ∧ Ext H2 H4) ∧ (ok = true → EV G k false sc elt m3 H4 (fun w H5 => f lv = some w ∧ Ext H2 H5) noX))) (fun _ _ _ => False)

theorem CS_fm {S : Stp G} {elt target iter : PySem.Expr} {ifs : List PySem.Expr} {scope : Scope} {pos : Pos} {D : Addr} {x : S.κ} {K : Hp → Prop} {vs : List LV} {f : LV → Option LV} {m0 : Loc} {H1 : Hp} {N : Loc → Hp → Prop} (hh : G.hn = true)
    (hy : Ys S K x vs) (hK : ∀ H', Ext H1 H' → K H') (hl : vs.length ≤ 4096) (hD : H1 D = none) (he : ∀ lv, lv ∈ vs → Elem G k sc target ifs elt m0 H1 f lv)
    (hN : ∀ m' H', Ext H1 H' → H' D = some (.lst (vs.filterMap f)) → N m' H') : CS G k sc S (.ListComp elt [⟨target, iter, ifs, 0⟩] scope pos) 0 D x m0 (hset H1 D (.lst [])) N := by
  refine CS_loop (S := S) (ifs := ifs) (target := target) (act := fun env acc => do let _ ← call (.builtin "list.append") [acc, ← eval elt env]) hh
    (fun n x m H => ∃ i, Ys S K x (vs.drop i) ∧ i ≤ vs.length ∧ n = vs.length - i ∧ Sim m0 m ∧ Ext H1 H ∧ H D = some (.lst ((vs.take i).filterMap f)))
    (n := vs.length) ⟨0, hy, by omega, by omega, Sim.refl _, (Ext.refl _).set hD, by simp⟩ ?_
  rintro n x m H ⟨i, h1, h2, rfl, h3, h4, h5⟩
  cases hd : vs.drop i with
  | nil =>
    rw [hd] at h1
    refine ⟨none, h1 H (hK _ h4), fun _ => ?_, (fun lv x' q => by cases q)⟩
    have := List.drop_eq_nil_iff.mp hd
    refine hN m H h4 ?_
    rw [h5, List.take_of_length_le this]
  | cons v ws =>
    rw [hd] at h1
    obtain ⟨x', hx, hy'⟩ := h1
    have e : vs[i]? = some v := by rw [show vs[i]? = (vs.drop i)[0]? by simp, hd]; rfl
    have hi : i < vs.length := (List.getElem?_eq_some_iff.mp e).1
    have hd' : vs.drop (i + 1) = ws := by rw [← List.drop_drop, hd]; rfl
    have ht : vs.take (i + 1) = vs.take i ++ [v] := by rw [List.take_add_one, e]; rfl
    refine ⟨some (v, x'), hx H (hK _ h4), (fun q => by cases q), ?_⟩
    rintro lv x'' q; cases q
    refine ((he v (List.mem_of_getElem? e)) m H h3 h4).mono fun m1 H2 ⟨hs, hb⟩ => hb.mono fun ok H3 ⟨hf, ht'⟩ => ⟨fun q => ?_, fun q => ?_⟩
    · refine INN_append ((ht' q).mono ?_)
      rintro w H5 ⟨q1, q2⟩
      refine ⟨_, q2 _ _ h5, ?_, vs.length - (i + 1), by omega, i + 1, by rw [hd']; exact hy', by omega, rfl, hs, ((Ext.trans h4 q2)).set hD, ?_⟩
      · have : ((vs.take i).filterMap f).length ≤ (vs.take i).length := List.length_filterMap_le _ _
        rw [List.length_take] at this; omega
      · simp [ht, q1]
    · obtain ⟨q1, q2⟩ := hf q
      refine ⟨vs.length - (i + 1), by omega, i + 1, by rw [hd']; exact hy', by omega, rfl, hs, Ext.trans h4 q2, ?_⟩
      rw [q2 _ _ h5, ht]; simp [q1]

theorem EV_LC {S : Stp G} {elt target iter : PySem.Expr} {ifs : List PySem.Expr} {scope : Scope} {pos : Pos} {Q : Qv} (hh : G.hn = true)
    (h : IT G k fl sc S iter m H (fun x H1 => ∃ K vs f, Ys S K x vs ∧ (∀ H', Ext H1 H' → K H') ∧ vs.length ≤ 4096 ∧ (∀ lv, lv ∈ vs → Elem G k (relS scope sc) target ifs elt (comp0 scope.names m) H1 f lv) ∧
      ∀ D H', H1 D = none → Ext H1 H' → H' D = some (.lst (vs.filterMap f)) → Q (.ref D) H') X)
    (hok : compOk scope sc m = true) (hf : ∀ env x, foldedSetIterable iter env x = pure x := by intro _ _; with_unfolding_all rfl) : EV G k fl sc (.ListComp elt [⟨target, iter, ifs, 0⟩] scope pos) m H Q X := by
  refine EV_ListComp (S := S) (h.mono ?_) hok hf
  rintro x H1 ⟨K, vs, f, h1, h2, h3, h4, h5⟩ D hD
  exact CS_fm hh h1 h2 h3 hD h4 fun m' H' q1 q2 => h5 D H' hD q1 q2
theorem EX_LC {S : Stp G} {elt target iter : PySem.Expr} {ifs : List PySem.Expr} {scope : Scope} {pos xp spos : Pos} {x : Str} {P : PQ} (hh : G.hn = true)
    (h : IT G k true sc S iter m H (fun y H1 => ∃ K vs f, Ys S K y vs ∧ (∀ H', Ext H1 H' → K H') ∧ vs.length ≤ 4096 ∧ (∀ lv, lv ∈ vs → Elem G k (relS scope sc) target ifs elt (comp0 scope.names m) H1 f lv) ∧
      ∀ D H', H1 D = none → Ext H1 H' → H' D = some (.lst (vs.filterMap f)) → ∃ m', Put m x (.ref D) m' ∧ P.n m' H') (fun c H' => P.x c m H'))
    (hok : compOk scope sc m = true) (hk : sc.kind = .function) (hx : sc.names.lookup x = some .local) (hl : (xp.line == pos.line) = true := by with_unfolding_all rfl) (hv : (scope.names.any fun (n, k) => n == x && (k == .local || k == .cell)) = false := by decide +kernel) (hf : ∀ env x, foldedSetIterable iter env x = pure x := by intro _ _; with_unfolding_all rfl) :
    EX G k sc (.Assign [.Name x xp] (.ListComp elt [⟨target, iter, ifs, 0⟩] scope pos) spos) m H P := by
  refine EX_AssignComp (S := S) (h.mono ?_) hok hk hx hl hv hf
  rintro y H1 ⟨K, vs, f, h1, h2, h3, h4, h5⟩ D hD
  exact CS_fm hh h1 h2 h3 hD h4 fun m' H' q1 q2 => h5 D H' hD q1 q2
theorem EV_LCl {elt target iter : PySem.Expr} {ifs : List PySem.Expr} {scope : Scope} {pos : Pos} {Q : Qv} (hh : G.hn = true)
    (h : EV G k fl sc iter m H (fun lv H1 => ∃ a vs, lv = .ref a ∧ H1 a = some (.lst vs) ∧ ∃ f : LV → Option LV, vs.length ≤ 4096 ∧ (∀ lv, lv ∈ vs → Elem G k (relS scope sc) target ifs elt (comp0 scope.names m) H1 f lv) ∧
      ∀ D H', H1 D = none → Ext H1 H' → H' D = some (.lst (vs.filterMap f)) → Q (.ref D) H') X)
    (hok : compOk scope sc m = true) (hf : ∀ env x, foldedSetIterable iter env x = pure x := by intro _ _; with_unfolding_all rfl) : EV G k fl sc (.ListComp elt [⟨target, iter, ifs, 0⟩] scope pos) m H Q X := by
  refine EV_LC (S := stpL G) hh (IT_val (h.mono ?_)) hok hf
  rintro lv H1 ⟨a, vs, rfl, hH, f, h3, h4, h5⟩
  exact IV_list hH ⟨_, vs, f, ys_list rfl, fun H' e => e _ _ hH, h3, h4, h5⟩
theorem EX_LCl {elt target iter : PySem.Expr} {ifs : List PySem.Expr} {scope : Scope} {pos xp spos : Pos} {x : Str} {P : PQ} (hh : G.hn = true)
    (h : EV G k true sc iter m H (fun lv H1 => ∃ a vs, lv = .ref a ∧ H1 a = some (.lst vs) ∧ ∃ f : LV → Option LV, vs.length ≤ 4096 ∧ (∀ lv, lv ∈ vs → Elem G k (relS scope sc) target ifs elt (comp0 scope.names m) H1 f lv) ∧
      ∀ D H', H1 D = none → Ext H1 H' → H' D = some (.lst (vs.filterMap f)) → ∃ m', Put m x (.ref D) m' ∧ P.n m' H') (fun c H' => P.x c m H'))
    (hok : compOk scope sc m = true) (hk : sc.kind = .function) (hx : sc.names.lookup x = some .local) (hl : (xp.line == pos.line) = true := by with_unfolding_all rfl) (hv : (scope.names.any fun (n, k) => n == x && (k == .local || k == .cell)) = false := by decide +kernel) (hf : ∀ env x, foldedSetIterable iter env x = pure x := by intro _ _; with_unfolding_all rfl) :
    EX G k sc (.Assign [.Name x xp] (.ListComp elt [⟨target, iter, ifs, 0⟩] scope pos) spos) m H P := by
  refine EX_LC (S := stpL G) hh (IT_val (h.mono ?_)) hok hk hx hl hv hf
  rintro lv H1 ⟨a, vs, rfl, hH, f, h3, h4, h5⟩
  exact IV_list hH ⟨_, vs, f, ys_list rfl, fun H' e => e _ _ hH, h3, h4, h5⟩
theorem EV_LCd {elt target iter : PySem.Expr} {ifs : List PySem.Expr} {scope : Scope} {pos : Pos} {Q : Qv} (hh : G.hn = true)
    (h : EV G k fl sc iter m H (fun lv H1 => ∃ d fs ep, lv = .ref d ∧ H1 d = some (.pdict fs ep) ∧ ∃ f : LV → Option LV, (fs.map fun f => pv f.1).length ≤ 4096 ∧ (∀ lv, lv ∈ (fs.map fun f => pv f.1) → Elem G k (relS scope sc) target ifs elt (comp0 scope.names m) H1 f lv) ∧
      ∀ D H', H1 D = none → Ext H1 H' → H' D = some (.lst ((fs.map fun f => pv f.1).filterMap f)) → Q (.ref D) H') X)
    (hok : compOk scope sc m = true) (hf : ∀ env x, foldedSetIterable iter env x = pure x := by intro _ _; with_unfolding_all rfl) : EV G k fl sc (.ListComp elt [⟨target, iter, ifs, 0⟩] scope pos) m H Q X := by
  refine EV_LC (S := stpD G) hh (IT_val (h.mono ?_)) hok hf
  rintro lv H1 ⟨d, fs, ep, rfl, hH, f, h3, h4, h5⟩
  exact IV_dict hH ⟨_, _, f, ys_dict (ws := fs) rfl, fun H' e => e _ _ hH, h3, h4, h5⟩
theorem EX_LCd {elt target iter : PySem.Expr} {ifs : List PySem.Expr} {scope : Scope} {pos xp spos : Pos} {x : Str} {P : PQ} (hh : G.hn = true)
    (h : EV G k true sc iter m H (fun lv H1 => ∃ d fs ep, lv = .ref d ∧ H1 d = some (.pdict fs ep) ∧ ∃ f : LV → Option LV, (fs.map fun f => pv f.1).length ≤ 4096 ∧ (∀ lv, lv ∈ (fs.map fun f => pv f.1) → Elem G k (relS scope sc) target ifs elt (comp0 scope.names m) H1 f lv) ∧
      ∀ D H', H1 D = none → Ext H1 H' → H' D = some (.lst ((fs.map fun f => pv f.1).filterMap f)) → ∃ m', Put m x (.ref D) m' ∧ P.n m' H') (fun c H' => P.x c m H'))
    (hok : compOk scope sc m = true) (hk : sc.kind = .function) (hx : sc.names.lookup x = some .local) (hl : (xp.line == pos.line) = true := by with_unfolding_all rfl) (hv : (scope.names.any fun (n, k) => n == x && (k == .local || k == .cell)) = false := by decide +kernel) (hf : ∀ env x, foldedSetIterable iter env x = pure x := by intro _ _; with_unfolding_all rfl) :
    EX G k sc (.Assign [.Name x xp] (.ListComp elt [⟨target, iter, ifs, 0⟩] scope pos) spos) m H P := by
  refine EX_LC (S := stpD G) hh (IT_val (h.mono ?_)) hok hk hx hl hv hf
  rintro lv H1 ⟨d, fs, ep, rfl, hH, f, h3, h4, h5⟩
  exact IV_dict hH ⟨_, _, f, ys_dict (ws := fs) rfl, fun H' e => e _ _ hH, h3, h4, h5⟩
theorem EV_LCt {elt target iter : PySem.Expr} {ifs : List PySem.Expr} {scope : Scope} {pos : Pos} {Q : Qv} (hh : G.hn = true)
    (h : EV G k fl sc iter m H (fun lv H1 => ∃ vs, lv = .tup vs ∧ ∃ f : LV → Option LV, vs.length ≤ 4096 ∧ (∀ lv, lv ∈ vs → Elem G k (relS scope sc) target ifs elt (comp0 scope.names m) H1 f lv) ∧
      ∀ D H', H1 D = none → Ext H1 H' → H' D = some (.lst (vs.filterMap f)) → Q (.ref D) H') X)
    (hok : compOk scope sc m = true) (hf : ∀ env x, foldedSetIterable iter env x = pure x := by intro _ _; with_unfolding_all rfl) : EV G k fl sc (.ListComp elt [⟨target, iter, ifs, 0⟩] scope pos) m H Q X := by
  refine EV_LC (S := stpT G) hh (IT_val (h.mono ?_)) hok hf
  rintro lv H1 ⟨vs, rfl, f, h3, h4, h5⟩
  exact IV_tup ⟨_, vs, f, ys_tup, fun _ _ => trivial, h3, h4, h5⟩
theorem EX_LCt {elt target iter : PySem.Expr} {ifs : List PySem.Expr} {scope : Scope} {pos xp spos : Pos} {x : Str} {P : PQ} (hh : G.hn = true)
    (h : EV G k true sc iter m H (fun lv H1 => ∃ vs, lv = .tup vs ∧ ∃ f : LV → Option LV, vs.length ≤ 4096 ∧ (∀ lv, lv ∈ vs → Elem G k (relS scope sc) target ifs elt (comp0 scope.names m) H1 f lv) ∧
      ∀ D H', H1 D = none → Ext H1 H' → H' D = some (.lst (vs.filterMap f)) → ∃ m', Put m x (.ref D) m' ∧ P.n m' H') (fun c H' => P.x c m H'))
    (hok : compOk scope sc m = true) (hk : sc.kind = .function) (hx : sc.names.lookup x = some .local) (hl : (xp.line == pos.line) = true := by with_unfolding_all rfl) (hv : (scope.names.any fun (n, k) => n == x && (k == .local || k == .cell)) = false := by decide +kernel) (hf : ∀ env x, foldedSetIterable iter env x = pure x := by intro _ _; with_unfolding_all rfl) :
    EX G k sc (.Assign [.Name x xp] (.ListComp elt [⟨target, iter, ifs, 0⟩] scope pos) spos) m H P := by
  refine EX_LC (S := stpT G) hh (IT_val (h.mono ?_)) hok hk hx hl hv hf
  rintro lv H1 ⟨vs, rfl, f, h3, h4, h5⟩
  exact IV_tup ⟨_, vs, f, ys_tup, fun _ _ => trivial, h3, h4, h5⟩
theorem EV_LCr {elt target iter : PySem.Expr} {ifs : List PySem.Expr} {scope : Scope} {pos : Pos} {Q : Qv} (hh : G.hn = true)
    (h : EV G k fl sc iter m H (fun lv H1 => ∃ a vs, lv = .ro a vs ∧ ∃ f : LV → Option LV, vs.length ≤ 4096 ∧ (∀ lv, lv ∈ vs → Elem G k (relS scope sc) target ifs elt (comp0 scope.names m) H1 f lv) ∧
      ∀ D H', H1 D = none → Ext H1 H' → H' D = some (.lst (vs.filterMap f)) → Q (.ref D) H') X)
    (hok : compOk scope sc m = true) (hf : ∀ env x, foldedSetIterable iter env x = pure x := by intro _ _; with_unfolding_all rfl) : EV G k fl sc (.ListComp elt [⟨target, iter, ifs, 0⟩] scope pos) m H Q X := by
  refine EV_LC (S := stpR G) hh (IT_val (h.mono ?_)) hok hf
  rintro lv H1 ⟨a, vs, rfl, f, h3, h4, h5⟩
  exact IV_ro ⟨_, vs, f, ys_ro, fun _ _ => trivial, h3, h4, h5⟩
theorem EX_LCr {elt target iter : PySem.Expr} {ifs : List PySem.Expr} {scope : Scope} {pos xp spos : Pos} {x : Str} {P : PQ} (hh : G.hn = true)
    (h : EV G k true sc iter m H (fun lv H1 => ∃ a vs, lv = .ro a vs ∧ ∃ f : LV → Option LV, vs.length ≤ 4096 ∧ (∀ lv, lv ∈ vs → Elem G k (relS scope sc) target ifs elt (comp0 scope.names m) H1 f lv) ∧
      ∀ D H', H1 D = none → Ext H1 H' → H' D = some (.lst (vs.filterMap f)) → ∃ m', Put m x (.ref D) m' ∧ P.n m' H') (fun c H' => P.x c m H'))
    (hok : compOk scope sc m = true) (hk : sc.kind = .function) (hx : sc.names.lookup x = some .local) (hl : (xp.line == pos.line) = true := by with_unfolding_all rfl) (hv : (scope.names.any fun (n, k) => n == x && (k == .local || k == .cell)) = false := by decide +kernel) (hf : ∀ env x, foldedSetIterable iter env x = pure x := by intro _ _; with_unfolding_all rfl) :
    EX G k sc (.Assign [.Name x xp] (.ListComp elt [⟨target, iter, ifs, 0⟩] scope pos) spos) m H P := by
  refine EX_LC (S := stpR G) hh (IT_val (h.mono ?_)) hok hk hx hl hv hf
  rintro lv H1 ⟨a, vs, rfl, f, h3, h4, h5⟩
  exact IV_ro ⟨_, vs, f, ys_ro, fun _ _ => trivial, h3, h4, h5⟩
end
end Go

end
section
set_option autoImplicit false
set_option linter.unusedVariables false
set_option linter.unusedSimpArgs false
set_option Elab.async false
namespace Go
open PySem

abbrev Pt := Int × Int
def On (n : Nat) (p : Pt) : Prop := 0 ≤ p.1 ∧ p.1 < n ∧ 0 ≤ p.2 ∧ p.2 < n
instance (n : Nat) (p : Pt) : Decidable (On n p) := by unfold On; infer_instance
def nb4 (p : Pt) : List Pt := [(p.1 - 1, p.2), (p.1 + 1, p.2), (p.1, p.2 - 1), (p.1, p.2 + 1)]
def nbs (n : Nat) (p : Pt) : List Pt := (nb4 p).filter fun q => decide (On n q)
abbrev Grd := Pt → Option Str

theorem mem_nb4 {p q : Pt} : q ∈ nb4 p ↔ (q.1 = p.1 - 1 ∧ q.2 = p.2) ∨ (q.1 = p.1 + 1 ∧ q.2 = p.2) ∨ (q.1 = p.1 ∧ q.2 = p.2 - 1) ∨ (q.1 = p.1 ∧ q.2 = p.2 + 1) := by
  obtain ⟨a, b⟩ := q
  simp [nb4, Prod.ext_iff]
theorem nb4_symm {p q : Pt} (h : q ∈ nb4 p) : p ∈ nb4 q := by
  rw [mem_nb4] at h ⊢; omega
theorem nb4_ne {p q : Pt} (h : q ∈ nb4 p) : q ≠ p := by
  rintro rfl; rw [mem_nb4] at h; omega
theorem mem_nbs {n : Nat} {p q : Pt} : q ∈ nbs n p ↔ q ∈ nb4 p ∧ On n q := by simp [nbs]
theorem nbs_symm {n : Nat} {p q : Pt} (hp : On n p) (h : q ∈ nbs n p) : p ∈ nbs n q := by
  rw [mem_nbs] at h ⊢; exact ⟨nb4_symm h.1, hp⟩

/-- the points of the board, row by row -/
def pts (n : Nat) : List Pt := (List.range n).flatMap fun (r : Nat) => (List.range n).map fun (c : Nat) => ((r : Int), (c : Int))
theorem mem_pts {n : Nat} {p : Pt} : p ∈ pts n ↔ On n p := by
  obtain ⟨a, b⟩ := p
  simp only [pts, List.mem_flatMap, List.mem_range, List.mem_map, Prod.mk.injEq, On]
  constructor
  · rintro ⟨r, hr, c, hc, rfl, rfl⟩; omega
  · rintro ⟨h1, h2, h3, h4⟩; exact ⟨a.toNat, by omega, b.toNat, by omega, by omega, by omega⟩
theorem pts_length {n : Nat} : (pts n).length = n * n := by
  have : ∀ m, ((List.range m).flatMap fun (r : Nat) => (List.range n).map fun (c : Nat) => ((r : Int), (c : Int))).length = m * n := by
    intro m
    induction m with
    | zero => simp
    | succ m ih => rw [List.range_succ, List.flatMap_append, List.length_append, ih]; simp [Nat.add_mul]
  exact this n
theorem pts_nodup {n : Nat} : (pts n).Nodup := by
  have : ∀ m, ((List.range m).flatMap fun (r : Nat) => (List.range n).map fun (c : Nat) => ((r : Int), (c : Int))).Nodup := by
    intro m
    induction m with
    | zero => simp
    | succ m ih =>
      rw [List.range_succ, List.flatMap_append]
      refine List.nodup_append.mpr ⟨ih, ?_, ?_⟩
      · simp only [List.flatMap_cons, List.flatMap_nil, List.append_nil]
        exact List.Pairwise.map _ (fun a b h e => h (by simp at e; omega)) List.nodup_range
      · rintro x hx y hy rfl
        simp at hx hy
        obtain ⟨r, hr, c, hc, rfl⟩ := hx
        obtain ⟨c', hc', h⟩ := hy
        simp at h; omega
  exact this n
theorem on_length {n : Nat} {l : List Pt} (nd : l.Nodup) (h : ∀ p, p ∈ l → On n p) : l.length ≤ n * n := by
  rw [← pts_length]; exact nodup_le l (pts n) nd fun x hx => mem_pts.mpr (h x hx)

inductive Conn (n : Nat) (g : Grd) (p : Pt) : Pt → Prop
  | refl : Conn n g p p
  | step {q r : Pt} : Conn n g p q → r ∈ nbs n q → g r = g p → Conn n g p r
theorem Conn.color {n : Nat} {g : Grd} {p q : Pt} (h : Conn n g p q) : g q = g p := by
  cases h with
  | refl => rfl
  | step _ _ h => exact h
theorem Conn.on {n : Nat} {g : Grd} {p q : Pt} (h : Conn n g p q) (hp : On n p) : On n q := by
  cases h with
  | refl => exact hp
  | step _ h _ => exact (mem_nbs.mp h).2
theorem Conn.trans {n : Nat} {g : Grd} {p q r : Pt} (h : Conn n g p q) (k : Conn n g q r) : Conn n g p r := by
  induction k with
  | refl => exact h
  | step a b c ih => exact .step ih b (c.trans h.color)
theorem Conn.symm {n : Nat} {g : Grd} {p q : Pt} (h : Conn n g p q) (hp : On n p) : Conn n g q p := by
  induction h with
  | refl => exact .refl
  | @step q r a b c ih =>
    have hq := a.on hp
    exact Conn.trans (.step .refl (nbs_symm hq b) (a.color.trans c.symm)) ih

/-- a way over stones of its colour leads to a free point -/
inductive Alive (n : Nat) (g : Grd) : Pt → Prop
  | lib {p q : Pt} : g p ≠ none → q ∈ nbs n p → g q = none → Alive n g p
  | step {p q : Pt} : g p ≠ none → q ∈ nbs n p → g q = g p → Alive n g q → Alive n g p
theorem Alive.some {n : Nat} {g : Grd} {p : Pt} (h : Alive n g p) : g p ≠ none := by cases h <;> assumption
theorem Alive.of_conn {n : Nat} {g : Grd} {p q r : Pt} (hg : g p ≠ none) (hp : On n p) (h : Conn n g p q) (hr : r ∈ nbs n q) (hn : g r = none) : Alive n g p := by
  have : ∀ {q}, Conn n g p q → Alive n g q → Alive n g p := by
    intro q h
    induction h with
    | refl => exact id
    | @step q r a b c ih => intro hr; exact ih (.step (by rw [a.color]; exact hg) b (c.trans a.color.symm) hr)
  exact this h (.lib (by rw [h.color]; exact hg) hr hn)
theorem Alive.conn {n : Nat} {g : Grd} {p : Pt} (h : Alive n g p) : ∃ q, Conn n g p q ∧ ∃ r, r ∈ nbs n q ∧ g r = none := by
  induction h with
  | @lib p q a b c => exact ⟨p, .refl, q, b, c⟩
  | @step p q a b c d ih =>
    obtain ⟨r, h1, h2⟩ := ih
    exact ⟨r, Conn.trans (.step .refl b c) h1, h2⟩
theorem alive_iff {n : Nat} {g : Grd} {p : Pt} (hg : g p ≠ none) (hp : On n p) : Alive n g p ↔ ∃ q, Conn n g p q ∧ ∃ r, r ∈ nbs n q ∧ g r = none :=
  ⟨Alive.conn, fun ⟨q, h, r, hr, hn⟩ => Alive.of_conn hg hp h hr hn⟩
theorem Alive.across {n : Nat} {g : Grd} {p q : Pt} (hp : On n p) (h : Conn n g p q) (ha : Alive n g q) : Alive n g p := by
  obtain ⟨r, h1, s, h2, h3⟩ := ha.conn
  exact Alive.of_conn (by rw [← h.color]; exact ha.some) hp (h.trans h1) h2 h3

/-- no stone without breath -/
def Legal (n : Nat) (g : Grd) : Prop := ∀ p, On n p → g p ≠ none → Alive n g p
end Go

end
section
set_option autoImplicit false
set_option linter.unusedVariables false
set_option linter.unusedSimpArgs false
set_option Elab.async false
namespace Go
open PySem

/-- there are not many stones -/
def Few (n : Nat) (g : Grd) : Prop := ∀ l : List Pt, l.Nodup → (∀ p, p ∈ l → On n p ∧ g p ≠ none) → l.length ≤ 49
theorem few_of {n : Nat} {g : Grd} (h : n ≤ 7) : Few n g := fun l nd hl => by
  have := on_length nd fun p hp => (hl p hp).1
  have : n * n ≤ 7 * 7 := Nat.mul_le_mul h h
  omega

/-- the search for a group: P done, T to do, the pairs of D looked at -/
structure MG (n : Nat) (g : Grd) (p0 : Pt) (P T : List Pt) (sur : Bool) (D : Pt → Pt → Prop) : Prop where
  ndP : P.Nodup
  ndT : T.Nodup
  dis : ∀ q, q ∈ T → q ∉ P
  cP : ∀ q, q ∈ P → Conn n g p0 q
  cT : ∀ q, q ∈ T → Conn n g p0 q
  st0 : p0 ∈ P ∨ p0 ∈ T
  cl : ∀ q, q ∈ P → ∀ r, D q r → r ∈ nbs n q → g r = g p0 → r ∈ P ∨ r ∈ T
  su : sur = true ↔ ∀ q, q ∈ P → ∀ r, D q r → r ∈ nbs n q → g r ≠ none

def tk (t : Pt) (i : Nat) (q r : Pt) : Prop := q = t → r ∈ (nb4 t).take i
theorem MG.init {n : Nat} {g : Grd} {p : Pt} : MG n g p [] [p] true (fun _ _ => True) :=
  ⟨List.nodup_nil, by simp, by simp, by simp, by simp; exact .refl, by simp, by simp, by simp⟩
theorem MG.lenP {n : Nat} {g : Grd} {p0 : Pt} {P T : List Pt} {sur : Bool} {D : Pt → Pt → Prop} (h : MG n g p0 P T sur D) (f : Few n g) (hp : On n p0) (hg : g p0 ≠ none) : P.length ≤ 49 :=
  f P h.ndP fun q hq => ⟨(h.cP q hq).on hp, by rw [(h.cP q hq).color]; exact hg⟩
theorem MG.lenT {n : Nat} {g : Grd} {p0 : Pt} {P T : List Pt} {sur : Bool} {D : Pt → Pt → Prop} (h : MG n g p0 P T sur D) (f : Few n g) (hp : On n p0) (hg : g p0 ≠ none) : T.length ≤ 49 :=
  f T h.ndT fun q hq => ⟨(h.cT q hq).on hp, by rw [(h.cT q hq).color]; exact hg⟩
theorem MG.pop {n : Nat} {g : Grd} {p0 t : Pt} {P T : List Pt} {sur : Bool} (h : MG n g p0 P T sur (fun _ _ => True)) (ht : t ∈ T) : MG n g p0 (t :: P) (T.erase t) sur (tk t 0) := by
  have htP := h.dis t ht
  refine ⟨List.nodup_cons.mpr ⟨htP, h.ndP⟩, h.ndT.erase _, fun q hq => ?_, fun q hq => ?_, fun q hq => h.cT q (List.mem_of_mem_erase hq), ?_, fun q hq r hD hr hc => ?_, ?_⟩
  · have := (h.ndT.mem_erase_iff).mp hq
    simp only [List.mem_cons, not_or]; exact ⟨this.1, h.dis q this.2⟩
  · rcases List.mem_cons.mp hq with rfl | hq
    · exact h.cT _ ht
    · exact h.cP q hq
  · rcases h.st0 with q | q
    · exact .inl (List.mem_cons_of_mem _ q)
    · by_cases e : p0 = t
      · exact .inl (by rw [e]; exact List.mem_cons_self)
      · exact .inr ((h.ndT.mem_erase_iff).mpr ⟨e, q⟩)
  · by_cases e : q = t
    · have := hD e; simp at this
    · have hq' : q ∈ P := by rcases List.mem_cons.mp hq with z | z; exact (e z).elim; exact z
      rcases h.cl q hq' r trivial hr hc with z | z
      · exact .inl (List.mem_cons_of_mem _ z)
      · by_cases e' : r = t
        · exact .inl (by rw [e']; exact List.mem_cons_self)
        · exact .inr ((h.ndT.mem_erase_iff).mpr ⟨e', z⟩)
  · rw [h.su]
    constructor
    · intro a q hq r hD hr
      by_cases e : q = t
      · have := hD e; simp at this
      · have hq' : q ∈ P := by rcases List.mem_cons.mp hq with z | z; exact (e z).elim; exact z
        exact a q hq' r trivial hr
    · intro a q hq r _ hr
      exact a q (List.mem_cons_of_mem _ hq) r (fun e => (htP (e ▸ hq)).elim) hr
theorem tk_succ {t r : Pt} {i : Nat} (hr : (nb4 t)[i]? = some r) {q s : Pt} : tk t (i + 1) q s ↔ (tk t i q s ∨ (q = t ∧ s = r)) := by
  unfold tk
  rw [List.take_add_one, hr]
  by_cases e : q = t <;> simp [e]
/-- one neighbour: beyond the board, or of another colour -/
theorem MG.skip {n : Nat} {g : Grd} {p0 t r : Pt} {i : Nat} {P T : List Pt} {sur : Bool} (h : MG n g p0 P T sur (tk t i)) (hr : (nb4 t)[i]? = some r) (hs : On n r → g r ≠ g p0 ∧ g r ≠ none) : MG n g p0 P T sur (tk t (i + 1)) := by
  refine ⟨h.ndP, h.ndT, h.dis, h.cP, h.cT, h.st0, fun q hq s hD hs' hc => ?_, h.su.trans ?_⟩
  · rcases (tk_succ hr).mp hD with z | ⟨rfl, rfl⟩
    · exact h.cl q hq s z hs' hc
    · exact ((hs (mem_nbs.mp hs').2).1 hc).elim
  · constructor
    · intro a q hq s hD hs'
      rcases (tk_succ hr).mp hD with z | ⟨rfl, rfl⟩
      · exact a q hq s z hs'
      · exact (hs (mem_nbs.mp hs').2).2
    · intro a q hq s hD hs'
      exact a q hq s ((tk_succ hr).mpr (.inl hD)) hs'
theorem MG.free {n : Nat} {g : Grd} {p0 t r : Pt} {i : Nat} {P T : List Pt} {sur : Bool} (h : MG n g p0 P T sur (tk t i)) (hr : (nb4 t)[i]? = some r) (ht : t ∈ P) (ho : On n r) (hg : g r = none) (h0 : g p0 ≠ none) : MG n g p0 P T false (tk t (i + 1)) := by
  refine ⟨h.ndP, h.ndT, h.dis, h.cP, h.cT, h.st0, fun q hq s hD hs' hc => ?_, ?_⟩
  · rcases (tk_succ hr).mp hD with z | ⟨rfl, rfl⟩
    · exact h.cl q hq s z hs' hc
    · rw [hg] at hc; exact (h0 hc.symm).elim
  · simp only [Bool.false_eq_true, false_iff]
    intro a
    exact a t ht r ((tk_succ hr).mpr (.inr ⟨rfl, rfl⟩)) (mem_nbs.mpr ⟨List.mem_of_getElem? hr, ho⟩) hg
theorem MG.seen {n : Nat} {g : Grd} {p0 t r : Pt} {i : Nat} {P T : List Pt} {sur : Bool} (h : MG n g p0 P T sur (tk t i)) (hr : (nb4 t)[i]? = some r) (hg : g r = g p0) (h0 : g p0 ≠ none) (hP : r ∈ P) : MG n g p0 P T sur (tk t (i + 1)) := by
  refine ⟨h.ndP, h.ndT, h.dis, h.cP, h.cT, h.st0, fun q hq s hD hs' hc => ?_, h.su.trans ?_⟩
  · rcases (tk_succ hr).mp hD with z | ⟨rfl, rfl⟩
    · exact h.cl q hq s z hs' hc
    · exact .inl hP
  · constructor
    · intro a q hq s hD hs'
      rcases (tk_succ hr).mp hD with z | ⟨rfl, rfl⟩
      · exact a q hq s z hs'
      · rw [hg]; exact h0
    · intro a q hq s hD hs'
      exact a q hq s ((tk_succ hr).mpr (.inl hD)) hs'
theorem MG.more {n : Nat} {g : Grd} {p0 t r : Pt} {i : Nat} {P T : List Pt} {sur : Bool} (h : MG n g p0 P T sur (tk t i)) (hr : (nb4 t)[i]? = some r) (ht : t ∈ P) (ho : On n r) (hg : g r = g p0) (h0 : g p0 ≠ none) (hP : r ∉ P) :
    MG n g p0 P (if r ∈ T then T else r :: T) sur (tk t (i + 1)) := by
  have hc : Conn n g p0 r := .step (h.cP t ht) (mem_nbs.mpr ⟨List.mem_of_getElem? hr, ho⟩) hg
  have hm : ∀ x, x ∈ (if r ∈ T then T else r :: T) ↔ x = r ∨ x ∈ T := by
    intro x; split
    · rename_i z; constructor
      · exact .inr
      · rintro (rfl | y); exact z; exact y
    · simp
  refine ⟨h.ndP, ?_, fun q hq => ?_, h.cP, fun q hq => ?_, h.st0.imp id fun z => (hm _).mpr (.inr z), fun q hq s hD hs' hc' => ?_, h.su.trans ?_⟩
  · split
    · exact h.ndT
    · rename_i z; exact List.nodup_cons.mpr ⟨z, h.ndT⟩
  · rcases (hm q).mp hq with rfl | z; exact hP; exact h.dis q z
  · rcases (hm q).mp hq with rfl | z; exact hc; exact h.cT q z
  · rcases (tk_succ hr).mp hD with z | ⟨rfl, rfl⟩
    · exact (h.cl q hq s z hs' hc').imp id fun z => (hm _).mpr (.inr z)
    · exact .inr ((hm _).mpr (.inl rfl))
  · constructor
    · intro a q hq s hD hs'
      rcases (tk_succ hr).mp hD with z | ⟨rfl, rfl⟩
      · exact a q hq s z hs'
      · rw [hg]; exact h0
    · intro a q hq s hD hs'
      exact a q hq s ((tk_succ hr).mpr (.inl hD)) hs'
theorem MG.all {n : Nat} {g : Grd} {p0 t : Pt} {P T : List Pt} {sur : Bool} (h : MG n g p0 P T sur (tk t 4)) : MG n g p0 P T sur (fun _ _ => True) := by
  have full : ∀ q r, r ∈ nbs n q → tk t 4 q r := fun q r hr e => by subst e; simpa [nb4] using (mem_nbs.mp hr).1
  exact ⟨h.ndP, h.ndT, h.dis, h.cP, h.cT, h.st0, fun q hq r _ hr hc => h.cl q hq r (full q r hr) hr hc, h.su.trans ⟨fun a q hq r _ hr => a q hq r (full q r hr) hr, fun a q hq r _ hr => a q hq r trivial hr⟩⟩
theorem MG.last {n : Nat} {g : Grd} {p0 : Pt} {P : List Pt} {sur : Bool} (h : MG n g p0 P [] sur (fun _ _ => True)) (hp : On n p0) (h0 : g p0 ≠ none) :
    P.Nodup ∧ (∀ q, q ∈ P ↔ Conn n g p0 q) ∧ (sur = true ↔ ¬ Alive n g p0) := by
  have hc : ∀ q, q ∈ P ↔ Conn n g p0 q := fun q => ⟨h.cP q, fun c => by
    induction c with
    | refl => rcases h.st0 with z | z; exact z; exact by simp at z
    | step a b c ih => rcases h.cl _ ih _ trivial b c with z | z; exact z; exact by simp at z⟩
  refine ⟨h.ndP, hc, h.su.trans ?_⟩
  rw [alive_iff h0 hp]
  constructor
  · rintro a ⟨q, h1, r, h2, h3⟩; exact a q ((hc q).mpr h1) r trivial h2 h3
  · intro a q hq r _ hr hn; exact a ⟨q, (hc q).mp hq, r, hr, hn⟩
end Go

end
section
set_option autoImplicit false
set_option linter.unusedVariables false
set_option linter.unusedSimpArgs false
set_option Elab.async false
namespace Go
open PySem

structure GI where
  x : Addr
  d : Addr
  a : Addr
  c : Str
  P : List Pt

/-- the groups found at the points of L -/
structure FG (n : Nat) (g : Grd) (L : List Pt) (hs : List Pt) (gs : List GI) : Prop where
  nd : hs.Nodup
  hs : ∀ q, q ∈ hs ↔ ∃ p, p ∈ L ∧ On n p ∧ g p ≠ none ∧ Conn n g p q
  g1 : ∀ gi, gi ∈ gs → gi.P.Nodup ∧ ∃ p, p ∈ L ∧ On n p ∧ g p = some gi.c ∧ ¬ Alive n g p ∧ ∀ q, q ∈ gi.P ↔ Conn n g p q
  cov : ∀ p, p ∈ L → On n p → g p ≠ none → ¬ Alive n g p → ∃ gi, gi ∈ gs ∧ p ∈ gi.P
  dis : gs.Pairwise fun a b => ∀ p, p ∈ a.P → p ∉ b.P
  len : gs.length ≤ L.length
theorem FG.init {n : Nat} {g : Grd} : FG n g [] [] [] := ⟨List.nodup_nil, by simp, by simp, by simp, .nil, by simp⟩
theorem FG.skip {n : Nat} {g : Grd} {L hs : List Pt} {gs : List GI} {p : Pt} (h : FG n g L hs gs) (hp : On n p → g p ≠ none → p ∈ hs) : FG n g (L ++ [p]) hs gs := by
  have key : On n p → g p ≠ none → ∃ p', p' ∈ L ∧ On n p' ∧ g p' ≠ none ∧ Conn n g p' p := fun a b => (h.hs p).mp (hp a b)
  refine ⟨h.nd, fun q => (h.hs q).trans ⟨?_, ?_⟩, fun gi hg => ?_, fun q hq a b c => ?_, h.dis, by have := h.len; simp; omega⟩
  · rintro ⟨p', h1, h2⟩; exact ⟨p', List.mem_append_left _ h1, h2⟩
  · rintro ⟨p', h1, h2, h3, h4⟩
    rcases List.mem_append.mp h1 with z | z
    · exact ⟨p', z, h2, h3, h4⟩
    · rw [List.mem_singleton] at z; subst z
      obtain ⟨p'', k1, k2, k3, k4⟩ := key h2 h3
      exact ⟨p'', k1, k2, k3, k4.trans h4⟩
  · obtain ⟨a, p', b, c⟩ := h.g1 gi hg
    exact ⟨a, p', List.mem_append_left _ b, c⟩
  · rcases List.mem_append.mp hq with z | z
    · exact h.cov q z a b c
    · rw [List.mem_singleton] at z; subst z
      obtain ⟨p', k1, k2, k3, k4⟩ := key a b
      have hna : ¬ Alive n g p' := fun al => c (Alive.across a (k4.symm k2) al)
      obtain ⟨gi, g1, g2⟩ := h.cov p' k1 k2 k3 hna
      obtain ⟨_, p0, _, o0, _, _, e⟩ := h.g1 gi g1
      exact ⟨gi, g1, (e _).mpr (((e _).mp g2).trans k4)⟩
theorem FG.new_dis {n : Nat} {g : Grd} {L hs : List Pt} {gs : List GI} {p : Pt} (h : FG n g L hs gs) (hp : On n p) (hn : p ∉ hs) {q : Pt} (hc : Conn n g p q) : q ∉ hs := by
  intro hq
  obtain ⟨p', h1, h2, h3, h4⟩ := (h.hs q).mp hq
  exact hn ((h.hs p).mpr ⟨p', h1, h2, h3, h4.trans (hc.symm hp)⟩)
theorem FG.sub {n : Nat} {g : Grd} {L hs : List Pt} {gs : List GI} (h : FG n g L hs gs) {gi : GI} (hg : gi ∈ gs) {q : Pt} (hq : q ∈ gi.P) : q ∈ hs := by
  obtain ⟨_, p, h1, h2, h3, _, h4⟩ := h.g1 gi hg
  exact (h.hs q).mpr ⟨p, h1, h2, by rw [h3]; simp, (h4 q).mp hq⟩
theorem FG.alive {n : Nat} {g : Grd} {L hs hs' : List Pt} {gs : List GI} {p : Pt} {P : List Pt} (h : FG n g L hs gs) (hp : On n p) (hg : g p ≠ none) (hn : p ∉ hs) (hP : ∀ q, q ∈ P ↔ Conn n g p q) (nd : hs'.Nodup) (hm : ∀ q, q ∈ hs' ↔ q ∈ hs ∨ q ∈ P) (ha : Alive n g p) :
    FG n g (L ++ [p]) hs' gs := by
  refine ⟨nd, fun q => ?_, fun gi hg => ?_, fun q hq a b c => ?_, h.dis, by have := h.len; simp; omega⟩
  · rw [hm, h.hs, hP]
    constructor
    · rintro (⟨p', h1, h2⟩ | z)
      · exact ⟨p', List.mem_append_left _ h1, h2⟩
      · exact ⟨p, by simp, hp, hg, z⟩
    · rintro ⟨p', h1, h2⟩
      rcases List.mem_append.mp h1 with z | z
      · exact .inl ⟨p', z, h2⟩
      · rw [List.mem_singleton] at z; subst z; exact .inr h2.2.2
  · obtain ⟨a, p', b, c⟩ := h.g1 gi hg
    exact ⟨a, p', List.mem_append_left _ b, c⟩
  · rcases List.mem_append.mp hq with z | z
    · exact h.cov q z a b c
    · rw [List.mem_singleton] at z; subst z; exact (c ha).elim
theorem FG.dead {n : Nat} {g : Grd} {L hs hs' : List Pt} {gs : List GI} {p : Pt} {P : List Pt} {c : Str} {x d a : Addr} (h : FG n g L hs gs) (hp : On n p) (hg : g p = some c) (hn : p ∉ hs) (hP : ∀ q, q ∈ P ↔ Conn n g p q) (ndP : P.Nodup) (nd : hs'.Nodup) (hm : ∀ q, q ∈ hs' ↔ q ∈ hs ∨ q ∈ P) (ha : ¬ Alive n g p) :
    FG n g (L ++ [p]) hs' (gs ++ [⟨x, d, a, c, P⟩]) := by
  have hg' : g p ≠ none := by rw [hg]; simp
  refine ⟨nd, fun q => ?_, fun gi hgi => ?_, fun q hq a b c => ?_, ?_, by have := h.len; simp; omega⟩
  · rw [hm, h.hs, hP]
    constructor
    · rintro (⟨p', h1, h2⟩ | z)
      · exact ⟨p', List.mem_append_left _ h1, h2⟩
      · exact ⟨p, by simp, hp, hg', z⟩
    · rintro ⟨p', h1, h2⟩
      rcases List.mem_append.mp h1 with z | z
      · exact .inl ⟨p', z, h2⟩
      · rw [List.mem_singleton] at z; subst z; exact .inr h2.2.2
  · rcases List.mem_append.mp hgi with z | z
    · obtain ⟨a, p', b, c⟩ := h.g1 gi z
      exact ⟨a, p', List.mem_append_left _ b, c⟩
    · rw [List.mem_singleton] at z; subst z
      exact ⟨ndP, p, by simp, hp, hg, ha, hP⟩
  · rcases List.mem_append.mp hq with z | z
    · obtain ⟨gi, g1, g2⟩ := h.cov q z a b c
      exact ⟨gi, List.mem_append_left _ g1, g2⟩
    · rw [List.mem_singleton] at z; subst z
      exact ⟨_, List.mem_append_right _ (List.mem_singleton.mpr rfl), (hP _).mpr .refl⟩
  · refine List.pairwise_append.mpr ⟨h.dis, by simp, ?_⟩
    intro gi hgi b hb q hq hq'
    rw [List.mem_singleton] at hb; subst hb
    exact h.new_dis hp hn ((hP q).mp hq') (h.sub hgi hq)
theorem FG.lenH {n : Nat} {g : Grd} {L hs : List Pt} {gs : List GI} (h : FG n g L hs gs) (few : Few n g) : hs.length ≤ 49 :=
  few hs h.nd fun q hq => by
    obtain ⟨p, _, h2, h3, h4⟩ := (h.hs q).mp hq
    exact ⟨h4.on h2, by rw [h4.color]; exact h3⟩
end Go

end
section
set_option autoImplicit false
set_option linter.unusedVariables false
set_option linter.unusedSimpArgs false
set_option Elab.async false
namespace Go
open PySem

def gset (g : Grd) (p : Pt) (o : Option Str) : Grd := fun q => if q = p then o else g q
theorem gset_same {g : Grd} {p : Pt} {o : Option Str} : gset g p o p = o := by simp [gset]
theorem gset_ne {g : Grd} {p q : Pt} {o : Option Str} (h : q ≠ p) : gset g p o q = g q := by simp [gset, h]
/-- what the rules leave of a grid: the stones that breathe -/
def Breathed (n : Nat) (g g' : Grd) : Prop := ∀ p, On n p → (Alive n g p → g' p = g p) ∧ (¬ Alive n g p → g' p = none)
def Dead (n : Nat) (g : Grd) (p : Pt) : Prop := On n p ∧ g p ≠ none ∧ ¬ Alive n g p
/-- a stone of colour c at p0 on a grid: what is left -/
def Played (n : Nat) (g1 : Grd) (c : Str) (g2 : Grd) : Prop :=
  ((∃ q, Dead n g1 q ∧ g1 q ≠ some c) ∧ ∀ p, On n p → (Dead n g1 p ∧ g1 p ≠ some c → g2 p = none) ∧ (¬ (Dead n g1 p ∧ g1 p ≠ some c) → g2 p = g1 p)) ∨
  ((¬ ∃ q, Dead n g1 q ∧ g1 q ≠ some c) ∧ Breathed n g1 g2)
/-- the point that is told as ko -/
def KoAt (n : Nat) (g1 : Grd) (c : Str) (p0 q : Pt) : Prop :=
  Dead n g1 q ∧ g1 q ≠ some c ∧ (∀ r, Dead n g1 r → g1 r ≠ some c → r = q) ∧ Dead n g1 p0 ∧ ∀ r, Dead n g1 r → g1 r = some c → r = p0

theorem Alive.mono {n : Nat} {g g' : Grd} {p : Pt} (h : Alive n g p) (h1 : ∀ q, Alive n g q → On n q ∨ q = p → g' q = g q) (h2 : ∀ q, On n q → g q = none → g' q = none) : Alive n g' p := by
  induction h with
  | @lib p q a b c =>
    have e := h1 p (.lib a b c) (.inr rfl)
    exact .lib (by rw [e]; exact a) b (h2 q (mem_nbs.mp b).2 c)
  | @step p q a b c d ih =>
    have e := h1 p (.step a b c d) (.inr rfl)
    have e' := h1 q d (.inl (mem_nbs.mp b).2)
    exact .step (by rw [e]; exact a) b (by rw [e, e']; exact c) (ih fun r hr ho => h1 r hr (.inl (by
      rcases ho with o | o
      · exact o
      · rw [o]; exact (mem_nbs.mp b).2)))
theorem Breathed.legal {n : Nat} {g g' : Grd} (h : Breathed n g g') : Legal n g' := by
  intro p hp hg
  have ha : Alive n g p := Classical.byContradiction fun na => hg ((h p hp).2 na)
  refine ha.mono (fun q hq ho => (h q ?_).1 hq) fun q ho hn => (h q ho).2 fun al => al.some hn
  rcases ho with o | o
  · exact o
  · rw [o]; exact hp
theorem Breathed.unique {n : Nat} {g g' g'' : Grd} (h : Breathed n g g') (h' : Breathed n g g'') {p : Pt} (hp : On n p) : g' p = g'' p := by
  by_cases ha : Alive n g p
  · rw [(h p hp).1 ha, (h' p hp).1 ha]
  · rw [(h p hp).2 ha, (h' p hp).2 ha]

theorem dead_near {n : Nat} {g : Grd} {p0 : Pt} {c : Str} (hl : Legal n g) (hp0 : On n p0) (hg0 : g p0 = none) {r : Pt} (hd : Dead n (gset g p0 (some c)) r) :
    ∃ p, p ∈ p0 :: nbs n p0 ∧ On n p ∧ Conn n (gset g p0 (some c)) p r := by
  by_cases hr : r = p0
  · subst hr; exact ⟨r, List.mem_cons_self, hp0, .refl⟩
  · obtain ⟨ho, hs, na⟩ := hd
    rw [gset_ne hr] at hs
    have key : ∀ {r}, Alive n g r → On n r → ¬ Alive n (gset g p0 (some c)) r → ∃ p, p ∈ p0 :: nbs n p0 ∧ On n p ∧ Conn n (gset g p0 (some c)) p r := by
      intro r ha
      induction ha with
      | @lib p q a b e =>
        intro ho na
        have hpp : p ≠ p0 := fun z => a (z ▸ hg0)
        by_cases hq : q = p0
        · subst hq; exact ⟨p, List.mem_cons_of_mem _ (nbs_symm ho b), ho, .refl⟩
        · exact (na (.lib (by rw [gset_ne hpp]; exact a) b (by rw [gset_ne hq]; exact e))).elim
      | @step p q a b e d ih =>
        intro ho na
        have hpp : p ≠ p0 := fun z => a (z ▸ hg0)
        have hqq : q ≠ p0 := fun z => d.some (z ▸ hg0)
        have eq : gset g p0 (some c) q = gset g p0 (some c) p := by rw [gset_ne hpp, gset_ne hqq]; exact e
        have nq : ¬ Alive n (gset g p0 (some c)) q := fun al => na (.step (by rw [gset_ne hpp]; exact a) b eq al)
        obtain ⟨x, h1, h2, h3⟩ := ih (mem_nbs.mp b).2 nq
        exact ⟨x, h1, h2, .step h3 (nbs_symm ho b) (by rw [← eq, h3.color])⟩
    exact key (hl r ho hs) ho na
theorem dead_own {n : Nat} {g : Grd} {p0 : Pt} {c : Str} (hl : Legal n g) (hp0 : On n p0) (hg0 : g p0 = none) {r : Pt} (hd : Dead n (gset g p0 (some c)) r) (hc : gset g p0 (some c) r = some c) :
    Conn n (gset g p0 (some c)) p0 r := by
  obtain ⟨p, h1, h2, h3⟩ := dead_near hl hp0 hg0 hd
  rcases List.mem_cons.mp h1 with rfl | h1
  · exact h3
  · exact Conn.trans (.step .refl h1 (by rw [← h3.color, hc, gset_same])) h3
theorem dead_foe {n : Nat} {g : Grd} {p0 : Pt} {c : Str} (hl : Legal n g) (hp0 : On n p0) (hg0 : g p0 = none) {r : Pt} (hd : Dead n (gset g p0 (some c)) r) (hc : gset g p0 (some c) r ≠ some c) :
    ∃ p, p ∈ nbs n p0 ∧ Dead n (gset g p0 (some c)) p ∧ gset g p0 (some c) p = gset g p0 (some c) r ∧ Conn n (gset g p0 (some c)) p r := by
  obtain ⟨p, h1, h2, h3⟩ := dead_near hl hp0 hg0 hd
  rcases List.mem_cons.mp h1 with rfl | h1
  · rw [h3.color, gset_same] at hc; exact (hc rfl).elim
  · exact ⟨p, h1, ⟨h2, by rw [← h3.color]; exact hd.2.1, fun al => hd.2.2 (Alive.across hd.1 (h3.symm h2) al)⟩, h3.color.symm, h3⟩
theorem Played.legal {n : Nat} {g g2 : Grd} {p0 : Pt} {c : Str} (hl : Legal n g) (hp0 : On n p0) (hg0 : g p0 = none) (h : Played n (gset g p0 (some c)) c g2) : Legal n g2 := by
  rcases h with ⟨⟨q, hq, hqc⟩, h⟩ | ⟨_, h⟩
  · intro p hp hg
    have npd : ¬ (Dead n (gset g p0 (some c)) p ∧ gset g p0 (some c) p ≠ some c) := fun z => hg ((h p hp).1 z)
    have e := (h p hp).2 npd
    have free : ∀ q, On n q → gset g p0 (some c) q = none → g2 q = none := fun q ho hn => by
      rw [(h q ho).2 (fun z => z.1.2.1 hn)]; exact hn
    by_cases ha : Alive n (gset g p0 (some c)) p
    · refine ha.mono (fun q hq ho => ?_) free
      have : On n q := by rcases ho with o | o; exact o; rw [o]; exact hp
      exact (h q this).2 fun z => z.1.2.2 hq
    · have hd : Dead n (gset g p0 (some c)) p := ⟨hp, by rw [← e]; exact hg, ha⟩
      have hpc : gset g p0 (some c) p = some c := Classical.byContradiction fun z => npd ⟨hd, z⟩
      have hco := dead_own hl hp0 hg0 hd hpc
      obtain ⟨x, x1, x2, x3, _⟩ := dead_foe hl hp0 hg0 hq hqc
      have same : ∀ q, On n q → gset g p0 (some c) q = some c → g2 q = some c := fun q ho hc => by rw [(h q ho).2 (fun z => z.2 hc)]; exact hc
      have hx : g2 x = none := (h x x2.1).1 ⟨x2, by rw [x3]; exact hqc⟩
      have h0 : g2 p0 = some c := same p0 hp0 gset_same
      have hco2 : Conn n g2 p0 p := by
        clear hd hpc e npd hg ha
        induction hco with
        | refl => exact .refl
        | @step q r a b cc ih =>
          have hcr : gset g p0 (some c) r = some c := by rw [cc, gset_same]
          refine .step (ih (a.on hp0)) b ?_
          rw [same r (mem_nbs.mp b).2 hcr, h0]
      exact Alive.across hp (hco2.symm hp0) (.lib (by rw [h0]; simp) x1 hx)
  · exact h.legal

/-- every point of the board can be reached from every other -/
theorem board_conn {n : Nat} {S : Pt → Prop} {p : Pt} (hp : On n p) (h0 : S p) (hS : ∀ q r, On n q → S q → r ∈ nbs n q → S r) : ∀ r, On n r → S r := by
  have right : ∀ (k : Nat) (a b : Int), On n (a, b) → S (a, b) → On n (a, b + k) → S (a, b + k) := by
    intro k
    induction k with
    | zero => intro a b _ h _; simpa using h
    | succ k ih =>
      intro a b h1 h2 h3
      have h4 : On n (a, b + k) := by simp [On] at *; omega
      refine hS (a, b + k) _ h4 (ih a b h1 h2 h4) (mem_nbs.mpr ⟨mem_nb4.mpr (.inr (.inr (.inr ⟨rfl, by simp; omega⟩))), h3⟩)
  have left : ∀ (k : Nat) (a b : Int), On n (a, b) → S (a, b) → On n (a, b - k) → S (a, b - k) := by
    intro k
    induction k with
    | zero => intro a b _ h _; simpa using h
    | succ k ih =>
      intro a b h1 h2 h3
      have h4 : On n (a, b - k) := by simp [On] at *; omega
      refine hS (a, b - k) _ h4 (ih a b h1 h2 h4) (mem_nbs.mpr ⟨mem_nb4.mpr (.inr (.inr (.inl ⟨rfl, by simp; omega⟩))), h3⟩)
  have down : ∀ (k : Nat) (a b : Int), On n (a, b) → S (a, b) → On n (a + k, b) → S (a + k, b) := by
    intro k
    induction k with
    | zero => intro a b _ h _; simpa using h
    | succ k ih =>
      intro a b h1 h2 h3
      have h4 : On n (a + k, b) := by simp [On] at *; omega
      refine hS (a + k, b) _ h4 (ih a b h1 h2 h4) (mem_nbs.mpr ⟨mem_nb4.mpr (.inr (.inl ⟨by simp; omega, rfl⟩)), h3⟩)
  have up : ∀ (k : Nat) (a b : Int), On n (a, b) → S (a, b) → On n (a - k, b) → S (a - k, b) := by
    intro k
    induction k with
    | zero => intro a b _ h _; simpa using h
    | succ k ih =>
      intro a b h1 h2 h3
      have h4 : On n (a - k, b) := by simp [On] at *; omega
      refine hS (a - k, b) _ h4 (ih a b h1 h2 h4) (mem_nbs.mpr ⟨mem_nb4.mpr (.inl ⟨by simp; omega, rfl⟩), h3⟩)
  obtain ⟨a, b⟩ := p
  rintro ⟨c, d⟩ hr
  have h1 : On n (a, d) := by simp [On] at *; omega
  have s1 : S (a, d) := by
    by_cases q : b ≤ d
    · have := right (d - b).toNat a b hp h0 (by rw [show b + ((d - b).toNat : Int) = d by omega]; exact h1)
      rwa [show b + ((d - b).toNat : Int) = d by omega] at this
    · have := left (b - d).toNat a b hp h0 (by rw [show b - ((b - d).toNat : Int) = d by omega]; exact h1)
      rwa [show b - ((b - d).toNat : Int) = d by omega] at this
  by_cases q : a ≤ c
  · have := down (c - a).toNat a d h1 s1 (by rw [show a + ((c - a).toNat : Int) = c by omega]; exact hr)
    rwa [show a + ((c - a).toNat : Int) = c by omega] at this
  · have := up (a - c).toNat a d h1 s1 (by rw [show a - ((a - c).toNat : Int) = c by omega]; exact hr)
    rwa [show a - ((a - c).toNat : Int) = c by omega] at this
end Go

end
section
set_option autoImplicit false
set_option linter.unusedVariables false
set_option linter.unusedSimpArgs false
set_option Elab.async false
namespace Go
open PySem

def setAll (g : Grd) (L : List Pt) (o : Option Str) : Grd := fun p => if p ∈ L then o else g p
theorem setAll_nil {g : Grd} {o : Option Str} : setAll g [] o = g := by funext p; simp [setAll]
theorem setAll_snoc {g : Grd} {L : List Pt} {p : Pt} {o : Option Str} : gset (setAll g L o) p o = setAll g (L ++ [p]) o := by
  funext q
  simp only [gset, setAll, List.mem_append, List.mem_singleton]
  by_cases e : q = p
  · simp [e]
  · simp [e]
def clrG (g : Grd) (gs : List GI) : Grd := fun p => if ∃ gi, gi ∈ gs ∧ p ∈ gi.P then none else g p
theorem clrG_nil {g : Grd} : clrG g [] = g := by funext p; simp [clrG]
theorem clrG_snoc {g : Grd} {gs : List GI} {gi : GI} {W : List Pt} (h : W.Perm gi.P) : setAll (clrG g gs) W none = clrG g (gs ++ [gi]) := by
  funext q
  simp only [setAll, clrG, h.mem_iff]
  by_cases e : q ∈ gi.P
  · simp only [e, if_true]; rw [if_pos ⟨gi, by simp, e⟩]
  · simp only [e, if_false]
    by_cases e' : ∃ gj, gj ∈ gs ∧ q ∈ gj.P
    · rw [if_pos e', if_pos]; obtain ⟨gj, a, b⟩ := e'; exact ⟨gj, by simp [a], b⟩
    · rw [if_neg e', if_neg]; rintro ⟨gj, a, b⟩
      rcases List.mem_append.mp a with z | z
      · exact e' ⟨gj, z, b⟩
      · rw [List.mem_singleton] at z; subst z; exact e b
theorem FG.breathed {n : Nat} {g : Grd} {hs : List Pt} {gs : List GI} (h : FG n g (pts n) hs gs) : Breathed n g (clrG g gs) := by
  intro p hp
  refine ⟨fun ha => ?_, fun ha => ?_⟩
  · rw [clrG, if_neg]
    rintro ⟨gi, g1, g2⟩
    obtain ⟨_, p0, _, o0, c0, na, e⟩ := h.g1 gi g1
    exact na (Alive.across o0 ((e p).mp g2) ha)
  · by_cases hg : g p = none
    · rw [clrG]; split
      · rfl
      · exact hg
    · rw [clrG, if_pos (h.cov p (mem_pts.mpr hp) hp hg ha)]
theorem FG.legal {n : Nat} {g : Grd} {hs : List Pt} {gs : List GI} (h : FG n g (pts n) hs gs) : gs = [] ↔ Legal n g := by
  constructor
  · rintro rfl p hp hg
    refine Classical.byContradiction fun na => ?_
    obtain ⟨gi, g1, _⟩ := h.cov p (mem_pts.mpr hp) hp hg na
    simp at g1
  · intro hl
    cases gs with
    | nil => rfl
    | cons gi r =>
      obtain ⟨_, p0, _, o0, c0, na, _⟩ := h.g1 gi (by simp)
      exact (na (hl p0 o0 (by rw [c0]; simp))).elim

section
variable {n : Nat} {g : Grd} {p0 : Pt} {c : Str} {hs : List Pt} {gs : List GI}
theorem FG.ne {L : List Pt} {g1 : Grd} (h : FG n g1 L hs gs) {gi : GI} (hg : gi ∈ gs) : ∃ r, r ∈ gi.P ∧ g1 r = some gi.c ∧ Dead n g1 r ∧ ∀ q, q ∈ gi.P ↔ Conn n g1 r q := by
  obtain ⟨_, p, _, o, e, na, hP⟩ := h.g1 gi hg
  exact ⟨p, (hP p).mpr .refl, e, ⟨o, by rw [e]; simp, na⟩, hP⟩
theorem FG.col {L : List Pt} {g1 : Grd} (h : FG n g1 L hs gs) {gi : GI} (hg : gi ∈ gs) {r : Pt} (hr : r ∈ gi.P) : g1 r = some gi.c ∧ Dead n g1 r := by
  obtain ⟨p, _, e, ⟨o, _, na⟩, hP⟩ := h.ne hg
  have hc := (hP r).mp hr
  exact ⟨by rw [hc.color]; exact e, hc.on o, by rw [hc.color, e]; simp, fun al => na (Alive.across o hc al)⟩
theorem FG.dead_iff (hl : Legal n g) (hp0 : On n p0) (hg0 : g p0 = none) (h : FG n (gset g p0 (some c)) (p0 :: nb4 p0) hs gs) {r : Pt} : Dead n (gset g p0 (some c)) r ↔ ∃ gi, gi ∈ gs ∧ r ∈ gi.P := by
  constructor
  · intro hd
    obtain ⟨p, h1, h2, h3⟩ := dead_near hl hp0 hg0 hd
    have hm : p ∈ p0 :: nb4 p0 := by
      rcases List.mem_cons.mp h1 with z | z
      · exact List.mem_cons.mpr (.inl z)
      · exact List.mem_cons_of_mem _ (mem_nbs.mp z).1
    obtain ⟨gi, g1, g2⟩ := h.cov p hm h2 (by rw [← h3.color]; exact hd.2.1) (fun al => hd.2.2 (Alive.across hd.1 (h3.symm h2) al))
    obtain ⟨_, p1, _, _, _, _, hP⟩ := h.g1 gi g1
    exact ⟨gi, g1, (hP r).mpr (((hP p).mp g2).trans h3)⟩
  · rintro ⟨gi, g1, g2⟩; exact (h.col g1 g2).2
theorem play_nil (hl : Legal n g) (hp0 : On n p0) (hg0 : g p0 = none) (h : FG n (gset g p0 (some c)) (p0 :: nb4 p0) hs []) : Played n (gset g p0 (some c)) c (gset g p0 (some c)) ∧ ∀ q, ¬ KoAt n (gset g p0 (some c)) c p0 q := by
  have nd : ∀ r, ¬ Dead n (gset g p0 (some c)) r := fun r hd => by obtain ⟨_, q, _⟩ := (h.dead_iff hl hp0 hg0).mp hd; simp at q
  refine ⟨.inr ⟨fun ⟨q, a, _⟩ => nd q a, fun p hp => ⟨fun _ => rfl, fun na => ?_⟩⟩, fun q hk => nd q hk.1⟩
  exact Classical.byContradiction fun e => nd p ⟨hp, e, na⟩
theorem clr_one {gi : GI} (hl : Legal n g) (hp0 : On n p0) (hg0 : g p0 = none) (h : FG n (gset g p0 (some c)) (p0 :: nb4 p0) hs [gi]) {p : Pt} (hp : On n p) :
    (Alive n (gset g p0 (some c)) p → clrG (gset g p0 (some c)) [gi] p = gset g p0 (some c) p) ∧ (¬ Alive n (gset g p0 (some c)) p → clrG (gset g p0 (some c)) [gi] p = none) := by
  refine ⟨fun al => ?_, fun na => ?_⟩
  · rw [clrG, if_neg]; rintro ⟨gj, a, b⟩; exact (h.col a b).2.2.2 al
  · by_cases e : gset g p0 (some c) p = none
    · rw [clrG]; split; rfl; exact e
    · rw [clrG, if_pos ((h.dead_iff hl hp0 hg0).mp ⟨hp, e, na⟩)]
theorem play_one {gi : GI} (hl : Legal n g) (hp0 : On n p0) (hg0 : g p0 = none) (h : FG n (gset g p0 (some c)) (p0 :: nb4 p0) hs [gi]) : Played n (gset g p0 (some c)) c (clrG (gset g p0 (some c)) [gi]) ∧ (∀ q, ¬ KoAt n (gset g p0 (some c)) c p0 q) ∧
    (gi.P.length = n * n ↔ ∀ p, On n p → clrG (gset g p0 (some c)) [gi] p = none) := by
  have hd : ∀ {r}, Dead n (gset g p0 (some c)) r ↔ r ∈ gi.P := fun {r} => (h.dead_iff hl hp0 hg0).trans ⟨fun ⟨gj, a, b⟩ => by rw [List.mem_singleton] at a; subst a; exact b, fun b => ⟨gi, by simp, b⟩⟩
  have hcol : ∀ {r}, r ∈ gi.P → gset g p0 (some c) r = some gi.c := fun {r} hr => (h.col (by simp) hr).1
  refine ⟨?_, fun q hk => ?_, ?_⟩
  · by_cases e : ∃ q, Dead n (gset g p0 (some c)) q ∧ gset g p0 (some c) q ≠ some c
    · obtain ⟨q, q1, q2⟩ := e
      have hcc : gi.c ≠ c := fun z => q2 (by rw [hcol (hd.mp q1), z])
      refine .inl ⟨⟨q, q1, q2⟩, fun p hp => ⟨fun z => (clr_one hl hp0 hg0 h hp).2 z.1.2.2, fun z => ?_⟩⟩
      rw [clrG, if_neg]; rintro ⟨gj, a, b⟩
      rw [List.mem_singleton] at a; subst a
      exact z ⟨hd.mpr b, by rw [hcol b]; simpa using hcc⟩
    · exact .inr ⟨e, fun p hp => clr_one hl hp0 hg0 h hp⟩
  · obtain ⟨k1, k2, _, k4, _⟩ := hk
    have e1 := hcol (hd.mp k1); have e2 := hcol (hd.mp k4)
    rw [gset_same] at e2; rw [e1] at k2; exact k2 e2.symm
  · obtain ⟨nd, p1, _, o1, c1, na, hP⟩ := h.g1 gi (by simp)
    constructor
    · intro hlen p hp
      rw [clrG, if_pos]
      refine ⟨gi, by simp, ?_⟩
      refine Classical.byContradiction fun hn => ?_
      have := on_length (n := n) (l := p :: gi.P) (List.nodup_cons.mpr ⟨hn, nd⟩) (fun q hq => by
        rcases List.mem_cons.mp hq with rfl | z
        · exact hp
        · exact (hd.mpr z).1)
      rw [List.length_cons, hlen] at this; omega
    · intro hall
      have hstone : ∀ q, On n q → gset g p0 (some c) q ≠ none → q ∈ gi.P := fun q ho hs => by
        have := hall q ho
        rw [clrG] at this
        split at this
        · rename_i z; obtain ⟨gj, a, b⟩ := z; rw [List.mem_singleton] at a; subst a; exact b
        · exact (hs this).elim
      have full : ∀ r, On n r → r ∈ gi.P := board_conn (S := fun r => r ∈ gi.P) o1 ((hP _).mpr .refl) fun q r ho hq hr => by
        refine hstone r (mem_nbs.mp hr).2 fun hn => ?_
        exact (h.col (by simp) hq).2.2.2 (.lib (by rw [hcol hq]; simp) hr hn)
      have h1 := on_length nd fun q hq => (hd.mpr hq).1
      have h2 := nodup_le (pts n) gi.P pts_nodup fun q hq => full q (mem_pts.mp hq)
      rw [pts_length] at h2; omega
theorem play_many (hl : Legal n g) (hp0 : On n p0) (hg0 : g p0 = none) (h : FG n (gset g p0 (some c)) (p0 :: nb4 p0) hs gs) (h2 : 2 ≤ gs.length) {opp : Str} (ho : ∀ gi, gi ∈ gs → (gi.c = opp ↔ gi.c ≠ c)) :
    Played n (gset g p0 (some c)) c (clrG (gset g p0 (some c)) (gs.filter fun gi => decide (gi.c = opp))) ∧ clrG (gset g p0 (some c)) (gs.filter fun gi => decide (gi.c = opp)) p0 = some c ∧
    (∀ f q, gs.filter (fun gi => decide (gi.c = opp)) = [f] → f.P = [q] → ∃ o, gs.filter (fun gi => decide (gi.c = c)) = [o] ∧ (o.P.length = 1 ↔ KoAt n (gset g p0 (some c)) c p0 q)) ∧
    ((∀ f, gs.filter (fun gi => decide (gi.c = opp)) = [f] → f.P.length ≠ 1) → ∀ q, ¬ KoAt n (gset g p0 (some c)) c p0 q) ∧
    (∀ f q, gs.filter (fun gi => decide (gi.c = opp)) = [f] → f.P = [q] → ∀ q', KoAt n (gset g p0 (some c)) c p0 q' → q' = q) := by
  have hd : ∀ {r}, Dead n (gset g p0 (some c)) r ↔ ∃ gi, gi ∈ gs ∧ r ∈ gi.P := fun {r} => h.dead_iff hl hp0 hg0
  -- own groups all hold p0
  have own : ∀ gi, gi ∈ gs → gi.c = c → p0 ∈ gi.P := fun gi hg hc => by
    obtain ⟨r, r1, r2, r3, hP⟩ := h.ne hg
    have := dead_own hl hp0 hg0 r3 (by rw [r2, hc])
    exact (hP p0).mpr (this.symm hp0)
  have uniq : ∀ (l : List GI), l.Pairwise (fun a b => ∀ p, p ∈ a.P → p ∉ b.P) → (∀ gi, gi ∈ l → gi.c = c → p0 ∈ gi.P) → (l.filter fun gi => decide (gi.c = c)).length ≤ 1 := by
    intro l hp ho'
    have hp' := hp.filter (fun gi => decide (gi.c = c))
    cases hf : l.filter (fun gi => decide (gi.c = c)) with
    | nil => simp
    | cons a t =>
      cases t with
      | nil => simp
      | cons b t =>
        rw [hf] at hp'
        have ha : a ∈ l.filter (fun gi => decide (gi.c = c)) := by rw [hf]; simp
        have hb : b ∈ l.filter (fun gi => decide (gi.c = c)) := by rw [hf]; simp
        rw [List.mem_filter] at ha hb
        have := (List.pairwise_cons.mp hp').1 b (by simp) p0 (ho' a ha.1 (of_decide_eq_true ha.2))
        exact (this (ho' b hb.1 (of_decide_eq_true hb.2))).elim
  have hown := uniq gs h.dis own
  have hsplit : (gs.filter fun gi => decide (gi.c = opp)).length + (gs.filter fun gi => decide (gi.c = c)).length = gs.length := by
    clear uniq hown h hd own h2
    induction gs with
    | nil => simp
    | cons a t ih =>
      have hi := ih fun gi hg => ho gi (List.mem_cons_of_mem _ hg)
      have ha := ho a (by simp)
      by_cases e : a.c = c
      · have e' : ¬ a.c = opp := fun z => (ha.mp z) e
        simp [List.filter_cons, e] at *
        rw [if_neg (by simpa using e')]
        omega
      · have e' : a.c = opp := ha.mpr e
        rw [List.filter_cons, if_pos (by simpa using e'), List.filter_cons, if_neg (by simpa using e)]
        simp only [List.length_cons]; omega
  have hfoe : ∃ f, f ∈ gs.filter fun gi => decide (gi.c = opp) := by
    cases hf : gs.filter (fun gi => decide (gi.c = opp)) with
    | nil => rw [hf] at hsplit; simp only [List.length_nil] at hsplit; omega
    | cons a t => exact ⟨a, by simp⟩
  have hcl : ∀ p, clrG (gset g p0 (some c)) (gs.filter fun gi => decide (gi.c = opp)) p = none ∧ (Dead n (gset g p0 (some c)) p ∧ gset g p0 (some c) p ≠ some c) ∨ clrG (gset g p0 (some c)) (gs.filter fun gi => decide (gi.c = opp)) p = gset g p0 (some c) p ∧ ¬ (Dead n (gset g p0 (some c)) p ∧ gset g p0 (some c) p ≠ some c) := by
    intro p
    by_cases e : ∃ gi, gi ∈ (gs.filter fun gi => decide (gi.c = opp)) ∧ p ∈ gi.P
    · refine .inl ⟨by rw [clrG, if_pos e], ?_⟩
      obtain ⟨gi, a, b⟩ := e
      rw [List.mem_filter] at a
      have := h.col a.1 b
      exact ⟨this.2, by rw [this.1]; simpa using (ho gi a.1).mp (of_decide_eq_true a.2)⟩
    · refine .inr ⟨by rw [clrG, if_neg e], fun z => e ?_⟩
      obtain ⟨gi, a, b⟩ := hd.mp z.1
      have := (h.col a b).1
      exact ⟨gi, List.mem_filter.mpr ⟨a, decide_eq_true ((ho gi a).mpr fun q => z.2 (by rw [this, q]))⟩, b⟩
  have foeD : ∀ {r}, Dead n (gset g p0 (some c)) r → gset g p0 (some c) r ≠ some c → ∃ gi, gi ∈ (gs.filter fun gi => decide (gi.c = opp)) ∧ r ∈ gi.P := fun {r} k1 k2 => by
    obtain ⟨gi, a, b⟩ := hd.mp k1
    have := (h.col a b).1
    exact ⟨gi, List.mem_filter.mpr ⟨a, decide_eq_true ((ho gi a).mpr fun q => k2 (by rw [this, q]))⟩, b⟩
  have Dfoe : ∀ {gi r}, gi ∈ (gs.filter fun gi => decide (gi.c = opp)) → r ∈ gi.P → Dead n (gset g p0 (some c)) r ∧ gset g p0 (some c) r ≠ some c := fun {gi r} a b => by
    rw [List.mem_filter] at a
    have := h.col a.1 b
    exact ⟨this.2, by rw [this.1]; simpa using (ho gi a.1).mp (of_decide_eq_true a.2)⟩
  refine ⟨.inl ⟨?_, fun p hp => ?_⟩, ?_, ?_, ?_, ?_⟩
  · obtain ⟨f, hf⟩ := hfoe
    obtain ⟨r, r1, _⟩ := h.ne (List.mem_filter.mp hf).1
    exact ⟨r, Dfoe hf r1⟩
  · rcases hcl p with ⟨a, b⟩ | ⟨a, b⟩
    · exact ⟨fun _ => a, fun z => (z b).elim⟩
    · exact ⟨fun z => (b z).elim, fun _ => a⟩
  · rcases hcl p0 with ⟨_, b⟩ | ⟨a, b⟩
    · exact (b.2 gset_same).elim
    · rw [a, gset_same]
  · intro f q hf hq
    rw [hf] at hsplit; simp only [List.length_cons, List.length_nil] at hsplit
    obtain ⟨o, ho1⟩ : ∃ o, gs.filter (fun gi => decide (gi.c = c)) = [o] := by
      cases hq : gs.filter (fun gi => decide (gi.c = c)) with
      | nil => rw [hq] at hsplit; simp at hsplit; omega
      | cons a t =>
        rw [hq] at hown; cases t with
        | nil => exact ⟨a, rfl⟩
        | cons _ _ => simp at hown
    refine ⟨o, ho1, ?_⟩
    have hom : o ∈ gs ∧ o.c = c := by
      have : o ∈ gs.filter (fun gi => decide (gi.c = c)) := by rw [ho1]; simp
      rw [List.mem_filter] at this; exact ⟨this.1, of_decide_eq_true this.2⟩
    have hp0o := own o hom.1 hom.2
    have hfm : f ∈ gs.filter fun gi => decide (gi.c = opp) := by rw [hf]; simp
    have hqD := Dfoe hfm (r := q) (by rw [hq]; simp)
    have allf : ∀ r, Dead n (gset g p0 (some c)) r → gset g p0 (some c) r ≠ some c → r = q := fun r a b => by
      obtain ⟨gi, c1, c2⟩ := foeD a b
      rw [hf, List.mem_singleton] at c1; subst c1
      rw [hq, List.mem_singleton] at c2; exact c2
    have allo : ∀ r, (Dead n (gset g p0 (some c)) r ∧ gset g p0 (some c) r = some c) ↔ r ∈ o.P := fun r => by
      constructor
      · rintro ⟨a, b⟩
        obtain ⟨gi, c1, c2⟩ := hd.mp a
        have e := (h.col c1 c2).1
        rw [b] at e
        have : gi ∈ gs.filter (fun gi => decide (gi.c = c)) := List.mem_filter.mpr ⟨c1, decide_eq_true (by simpa using e.symm)⟩
        rw [ho1, List.mem_singleton] at this; subst this; exact c2
      · intro hr
        have := h.col hom.1 hr
        exact ⟨this.2, by rw [this.1, hom.2]⟩
    constructor
    · intro hlen
      obtain ⟨x, hx⟩ := List.length_eq_one_iff.mp hlen
      rw [hx, List.mem_singleton] at hp0o; subst hp0o
      refine ⟨hqD.1, hqD.2, allf, ((allo p0).mpr (by rw [hx]; simp)).1, fun r a b => ?_⟩
      have := (allo r).mp ⟨a, b⟩
      rw [hx, List.mem_singleton] at this; exact this
    · rintro ⟨_, _, _, _, k5⟩
      have sub : ∀ r, r ∈ o.P → r = p0 := fun r hr => k5 r ((allo r).mpr hr).1 ((allo r).mpr hr).2
      have nd := (h.g1 o hom.1).1
      match hP : o.P, hp0o with
      | [a], _ => rfl
      | a :: b :: t, _ =>
        rw [hP] at sub nd
        have := sub a (by simp); have := sub b (by simp)
        subst_vars; simp at nd
  · intro hno q hk
    obtain ⟨k1, k2, k3, k4, k5⟩ := hk
    have sub : ∀ gi r, gi ∈ (gs.filter fun gi => decide (gi.c = opp)) → r ∈ gi.P → r = q := fun gi r a b => k3 r (Dfoe a b).1 (Dfoe a b).2
    have one : ∀ gi, gi ∈ (gs.filter fun gi => decide (gi.c = opp)) → gi.P = [q] := fun gi hg => by
      obtain ⟨r, r1, _⟩ := h.ne (List.mem_filter.mp hg).1
      have nd := (h.g1 gi (List.mem_filter.mp hg).1).1
      have sb := sub gi
      match hP : gi.P, r1 with
      | [a], _ => have := sb a hg (by rw [hP]; simp); rw [this]
      | a :: b :: t, _ =>
        have e1 := sb a hg (by rw [hP]; simp); have e2 := sb b hg (by rw [hP]; simp)
        rw [hP, e1, e2] at nd; simp at nd
    have dis := h.dis.filter (fun gi => decide (gi.c = opp))
    cases hf : gs.filter (fun gi => decide (gi.c = opp)) with
    | nil => rw [hf] at hfoe; obtain ⟨_, z⟩ := hfoe; simp at z
    | cons a t =>
      cases t with
      | nil => exact hno a hf (by rw [one a (by rw [hf]; simp)]; rfl)
      | cons b t =>
        rw [hf] at dis
        have := (List.pairwise_cons.mp dis).1 b (by simp) q (by rw [one a (by rw [hf]; simp)]; simp)
        exact this (by rw [one b (by rw [hf]; simp)]; simp)
  · intro f q hf hq q' hk
    obtain ⟨gi, a, b⟩ := foeD hk.1 hk.2.1
    rw [hf, List.mem_singleton] at a; subst a
    rw [hq, List.mem_singleton] at b; exact b
end
end Go

end
section
set_option autoImplicit false
set_option linter.unusedVariables false
set_option linter.unusedSimpArgs false
set_option Elab.async false
set_option maxRecDepth 100000
set_option maxHeartbeats 4000000
namespace Go
open PySem PySem.W PyProof.Rows PySem.Calls

abbrev top (i : Nat) : Stmt := nthS PySem.Challenge.pw_im0127_06.main.body i
abbrev brd : Stmt := top 6
def inS : Stmt := nthS (fbody brd) 0
def cpS : Stmt := nthS (fbody brd) 1
def mgS : Stmt := nthS (fbody brd) 2
def meS : Stmt := nthS (fbody brd) 3
def fsS : Stmt := nthS (fbody brd) 4
def faS : Stmt := nthS (fbody brd) 5
def ieS : Stmt := nthS (fbody brd) 6
def geS : Stmt := nthS (fbody brd) 7
def plS : Stmt := nthS (fbody brd) 8
def asS : Stmt := nthS (fbody brd) 9
def loS : Stmt := nthS (fbody brd) 10
def arS : Stmt := nthS (fbody brd) 11
def opS : Stmt := top 2
def rgS : Stmt := nthS (fbody (top 5)) 0

abbrev sb : Str := Str.ofString "b"
abbrev sw : Str := Str.ofString "w"

/-- a dict of texts that the top has made -/
def ODict (G : Gl) (d : PySem.Addr) (fs : List (Str × LV)) : Prop := ∃ ob es n, G.K.lookup d = some ob ∧ ob.cls = .type "dict" ∧ ob.dict = none ∧ ob.slots = #[] ∧ ob.data = .dict (List.toArray es) n ∧ SEnt G (fun _ => none) fs es ∧ (fs.map (·.1)).Nodup
theorem EV_odict {G : Gl} {k : Nat} {fl : Bool} {sc : Scope} {m : Loc} {H : Hp} {Q : Qv} {X : Xc} {d : PySem.Addr} {fs : List (Str × LV)} {x : Str} {lv : LV} {v i : PySem.Expr} {pos : Pos} (D : ODict G d fs) (hl : fs.lookup x = some lv)
    (h : EV G k fl sc v m H (fun a H1 => a = .ref d ∧ EV G k fl sc i m H1 (fun b H2 => b = .str x ∧ Q lv H2) X) X)
    (hs' : ∀ o i', subscripted i false o i' = operate [o, i'] (getItem o i') := by intro _ _; with_unfolding_all rfl) : EV G k fl sc (.Subscript v i pos) m H Q X := fun env A C Z s hs I =>
  Subscript_ (wpAny_mono (h env A C Z s hs I) (fun va s1 ⟨C1, a, H1, c1, I1, v1, e1, q1⟩ =>
    wpAny_mono (q1 env A C1 Z s1 hs I1) (fun vb s2 ⟨C2, b, H2, c2, I2, v2, e2, q2⟩ => by
      subst e2; subst e1; cases v1
      obtain ⟨t, rfl⟩ := v2
      obtain ⟨ob, es, n, k1, k2, k3, k4, k5, k6, nd⟩ := D
      have k0 := I2.kin _ _ k1
      obtain ⟨kvs, p1, p2, p3⟩ := SV.of k6
      have DD : s2.heap.DictOf (sk G) d kvs := ⟨ob, _, n, k0, ⟨k2, k3, k4⟩, k5, fun e he => p3 e (by simpa using he), p1, by rw [p2.keys]; exact nd⟩
      obtain ⟨w, w1, w2⟩ := p2.val hl
      exact tail_any ⟨ob, k0, k2⟩ F.slot_dict_getitem.lookup (wpAny_getItem_of (knd := sk G) (k := x) (isStr_sk x t) DD.mapOf w1 ⟨C2, lv, H2, c1.trans c2, I2.toks, w2.mono (fun _ _ e => by cases e), q2⟩) (hs' _ _)) fun _ _ x => XPost.up c1 x) fun _ _ x => x)

/-- the names and classes that the board's text leans on -/
structure BW (G : Gl) where
  bc : Addr
  gc : Addr
  rc : Addr
  fin : Addr
  fcp : Addr
  fmg : Addr
  fme : Addr
  ffs : Addr
  ffa : Addr
  fie : Addr
  fge : Addr
  fpl : Addr
  fas : Addr
  flo : Addr
  far : Addr
  fop : Addr
  frg : Addr
  aop : Addr
  hh : G.hn = true
  n_set : GNm G (Str.ofString "set") (.type "set")
  n_list : GNm G (Str.ofString "list") (.type "list")
  n_range : GNm G (Str.ofString "range") (.type "range")
  n_len : GNm G (Str.ofString "len") (.builtin "len")
  n_ie : GNm G (Str.ofString "IndexError") (.type "IndexError")
  n_ve : GNm G (Str.ofString "ValueError") (.type "ValueError")
  n_ke : GNm G (Str.ofString "KeyError") (.type "KeyError")
  n_board : GNm G (Str.ofString "Board") (.ref bc) ∧ keepIn G.K (.ref bc) = true
  n_group : GNm G (Str.ofString "_Group") (.ref gc) ∧ keepIn G.K (.ref gc) = true
  n_op : Fn G (Str.ofString "opponent_of") fop opS
  n_opd : GNm G (Str.ofString "_opponents") (.ref aop)
  opd : ODict G aop [(sb, .str sw), (sw, .str sb)]
  ob : ObjCls G.K bc = true
  og : ObjCls G.K gc = true
  mb : makesIn G.K bc = true
  mgr : makesIn G.K gc = true
  ib : findIn G.K (.ref bc) "__init__" = some (some (.ref fin)) ∧ typeIn G.K (.ref fin) = some (.type "function") ∧ IsFn G fin inS
  ig : findIn G.K (.ref gc) "__init__" = some (some (.builtin "object.__init__"))
  m_cp : Meth G bc (Str.ofString "copy") fcp cpS
  m_mg : Meth G bc (Str.ofString "_make_group") fmg mgS
  m_fs : Meth G bc (Str.ofString "_find_surrounded_groups") ffs fsS
  m_fa : Meth G bc (Str.ofString "_find_all_surrounded_groups") ffa faS
  m_ie : Meth G bc (Str.ofString "is_empty") fie ieS
  m_ge : Meth G bc (Str.ofString "get") fge geS
  m_pl : Meth G bc (Str.ofString "play") fpl plS
  m_as : Meth G bc (Str.ofString "apply_setup") fas asS
  m_lo : Meth G bc (Str.ofString "list_occupied_points") flo loS
  a_side : NoAttr G.K bc (Str.ofString "side") = true
  a_pts : NoAttr G.K bc (Str.ofString "board_points") = true
  a_brd : NoAttr G.K bc (Str.ofString "board") = true
  a_emp : NoAttr G.K bc (Str.ofString "_is_empty") = true
  g_col : NoAttr G.K gc (Str.ofString "colour") = true
  g_pts : NoAttr G.K gc (Str.ofString "points") = true
  g_sur : NoAttr G.K gc (Str.ofString "is_surrounded") = true

def cv : Option Str → LV
  | none => .none
  | some x => .str x

def bns (n : Nat) (pl bl : Addr) (em : Bool) : List (Str × LV) := [(Str.ofString "side", .int n), (Str.ofString "board_points", .ref pl), (Str.ofString "board", .ref bl), (Str.ofString "_is_empty", .bool em)]
def gns (c : Str) (a : Addr) (b : Bool) : List (Str × LV) := [(Str.ofString "colour", .str c), (Str.ofString "points", .ref a), (Str.ofString "is_surrounded", .bool b)]
theorem ne1 : (Str.ofString "board_points" == Str.ofString "side") = false := by decide +kernel
theorem ne2 : (Str.ofString "board" == Str.ofString "side") = false := by decide +kernel
theorem ne3 : (Str.ofString "board" == Str.ofString "board_points") = false := by decide +kernel
theorem ne4 : (Str.ofString "_is_empty" == Str.ofString "side") = false := by decide +kernel
theorem ne5 : (Str.ofString "_is_empty" == Str.ofString "board_points") = false := by decide +kernel
theorem ne6 : (Str.ofString "_is_empty" == Str.ofString "board") = false := by decide +kernel
theorem ne7 : (Str.ofString "points" == Str.ofString "colour") = false := by decide +kernel
theorem ne8 : (Str.ofString "is_surrounded" == Str.ofString "colour") = false := by decide +kernel
theorem ne9 : (Str.ofString "is_surrounded" == Str.ofString "points") = false := by decide +kernel
theorem bns_side {n : Nat} {pl bl : Addr} {em : Bool} : (bns n pl bl em).lookup (Str.ofString "side") = some (.int n) := by simp [bns]
theorem bns_pts {n : Nat} {pl bl : Addr} {em : Bool} : (bns n pl bl em).lookup (Str.ofString "board_points") = some (.ref pl) := by simp [bns, List.lookup_cons, ne1]
theorem bns_brd {n : Nat} {pl bl : Addr} {em : Bool} : (bns n pl bl em).lookup (Str.ofString "board") = some (.ref bl) := by simp [bns, List.lookup_cons, ne2, ne3]
theorem bns_emp {n : Nat} {pl bl : Addr} {em : Bool} : (bns n pl bl em).lookup (Str.ofString "_is_empty") = some (.bool em) := by simp [bns, List.lookup_cons, ne4, ne5, ne6]
theorem gns_col {c : Str} {a : Addr} {b : Bool} : (gns c a b).lookup (Str.ofString "colour") = some (.str c) := by simp [gns]
theorem gns_pts {c : Str} {a : Addr} {b : Bool} : (gns c a b).lookup (Str.ofString "points") = some (.ref a) := by simp [gns, List.lookup_cons, ne7]
theorem gns_sur {c : Str} {a : Addr} {b : Bool} : (gns c a b).lookup (Str.ofString "is_surrounded") = some (.bool b) := by simp [gns, List.lookup_cons, ne8, ne9]

structure Bd where
  x : Addr
  d : Addr
  pl : Addr
  bl : Addr
  rows : List Addr

def rowL (n : Nat) (g : Grd) (i : Nat) : List LV := (List.range n).map fun (j : Nat) => cv (g (i, j))
structure BAt (H : Hp) (b : Bd) (n : Nat) (g : Grd) (em : Bool) : Prop where
  ns : H b.d = some (.ns (bns n b.pl b.bl em))
  pl : H b.pl = some (.lst ((pts n).map pv))
  bl : H b.bl = some (.lst (b.rows.map .ref))
  len : b.rows.length = n
  row : ∀ i a, b.rows[i]? = some a → H a = some (.lst (rowL n g i))
  nd : b.rows.Nodup
  two : 2 ≤ n
  nine : n ≤ 9
  col : ∀ p c, g p = some c → c = sb ∨ c = sw
theorem BAt.ext {H H' : Hp} {b : Bd} {n : Nat} {g : Grd} {em : Bool} (h : BAt H b n g em) (e : Ext H H') : BAt H' b n g em :=
  ⟨e _ _ h.ns, e _ _ h.pl, e _ _ h.bl, h.len, fun i a q => e _ _ (h.row i a q), h.nd, h.two, h.nine, h.col⟩

section
variable {G : Gl} {k : Nat} {fl : Bool} {sc : Scope} {m : Loc} {H : Hp} {Q : Qv} {X : Xc} (B : BW G)
theorem EV_side {e : PySem.Expr} {pos : Pos} (h : EV G k fl sc e m H (fun lv H1 => ∃ x d n pl bl em, lv = .inst B.bc x d ∧ H1 d = some (.ns (bns n pl bl em)) ∧ Q (.int n) H1) X)
    (he : ∀ env, eval (.Attribute e (Str.ofString "side") pos) env = (do
      let o ← eval e env
      standAt pos.atName
      let r ← holding [o] (getAttr o (Str.ofString "side") true)
      letTemporaryGo e o r
      pure r) := by intro _; with_unfolding_all rfl) : EV G k fl sc (.Attribute e (Str.ofString "side") pos) m H Q X :=
  EV_Attr (h.mono fun lv H1 ⟨x, d, n, pl, bl, em, q1, q2, q3⟩ => ⟨_, x, d, _, _, q1, q2, B.ob, B.a_side, bns_side, q3⟩) he
theorem EV_bpts {e : PySem.Expr} {pos : Pos} (h : EV G k fl sc e m H (fun lv H1 => ∃ x d n pl bl em, lv = .inst B.bc x d ∧ H1 d = some (.ns (bns n pl bl em)) ∧ Q (.ref pl) H1) X)
    (he : ∀ env, eval (.Attribute e (Str.ofString "board_points") pos) env = (do
      let o ← eval e env
      standAt pos.atName
      let r ← holding [o] (getAttr o (Str.ofString "board_points") true)
      letTemporaryGo e o r
      pure r) := by intro _; with_unfolding_all rfl) : EV G k fl sc (.Attribute e (Str.ofString "board_points") pos) m H Q X :=
  EV_Attr (h.mono fun lv H1 ⟨x, d, n, pl, bl, em, q1, q2, q3⟩ => ⟨_, x, d, _, _, q1, q2, B.ob, B.a_pts, bns_pts, q3⟩) he
theorem EV_brd {e : PySem.Expr} {pos : Pos} (h : EV G k fl sc e m H (fun lv H1 => ∃ x d n pl bl em, lv = .inst B.bc x d ∧ H1 d = some (.ns (bns n pl bl em)) ∧ Q (.ref bl) H1) X)
    (he : ∀ env, eval (.Attribute e (Str.ofString "board") pos) env = (do
      let o ← eval e env
      standAt pos.atName
      let r ← holding [o] (getAttr o (Str.ofString "board") true)
      letTemporaryGo e o r
      pure r) := by intro _; with_unfolding_all rfl) : EV G k fl sc (.Attribute e (Str.ofString "board") pos) m H Q X :=
  EV_Attr (h.mono fun lv H1 ⟨x, d, n, pl, bl, em, q1, q2, q3⟩ => ⟨_, x, d, _, _, q1, q2, B.ob, B.a_brd, bns_brd, q3⟩) he
theorem EV_emp {e : PySem.Expr} {pos : Pos} (h : EV G k fl sc e m H (fun lv H1 => ∃ x d n pl bl em, lv = .inst B.bc x d ∧ H1 d = some (.ns (bns n pl bl em)) ∧ Q (.bool em) H1) X)
    (he : ∀ env, eval (.Attribute e (Str.ofString "_is_empty") pos) env = (do
      let o ← eval e env
      standAt pos.atName
      let r ← holding [o] (getAttr o (Str.ofString "_is_empty") true)
      letTemporaryGo e o r
      pure r) := by intro _; with_unfolding_all rfl) : EV G k fl sc (.Attribute e (Str.ofString "_is_empty") pos) m H Q X :=
  EV_Attr (h.mono fun lv H1 ⟨x, d, n, pl, bl, em, q1, q2, q3⟩ => ⟨_, x, d, _, _, q1, q2, B.ob, B.a_emp, bns_emp, q3⟩) he
theorem EV_gcol {e : PySem.Expr} {pos : Pos} (h : EV G k fl sc e m H (fun lv H1 => ∃ x d c a b, lv = .inst B.gc x d ∧ H1 d = some (.ns (gns c a b)) ∧ Q (.str c) H1) X)
    (he : ∀ env, eval (.Attribute e (Str.ofString "colour") pos) env = (do
      let o ← eval e env
      standAt pos.atName
      let r ← holding [o] (getAttr o (Str.ofString "colour") true)
      letTemporaryGo e o r
      pure r) := by intro _; with_unfolding_all rfl) : EV G k fl sc (.Attribute e (Str.ofString "colour") pos) m H Q X :=
  EV_Attr (h.mono fun lv H1 ⟨x, d, c, a, b, q1, q2, q3⟩ => ⟨_, x, d, _, _, q1, q2, B.og, B.g_col, gns_col, q3⟩) he
theorem EV_gpts {e : PySem.Expr} {pos : Pos} (h : EV G k fl sc e m H (fun lv H1 => ∃ x d c a b, lv = .inst B.gc x d ∧ H1 d = some (.ns (gns c a b)) ∧ Q (.ref a) H1) X)
    (he : ∀ env, eval (.Attribute e (Str.ofString "points") pos) env = (do
      let o ← eval e env
      standAt pos.atName
      let r ← holding [o] (getAttr o (Str.ofString "points") true)
      letTemporaryGo e o r
      pure r) := by intro _; with_unfolding_all rfl) : EV G k fl sc (.Attribute e (Str.ofString "points") pos) m H Q X :=
  EV_Attr (h.mono fun lv H1 ⟨x, d, c, a, b, q1, q2, q3⟩ => ⟨_, x, d, _, _, q1, q2, B.og, B.g_pts, gns_pts, q3⟩) he
theorem EV_gsur {e : PySem.Expr} {pos : Pos} (h : EV G k fl sc e m H (fun lv H1 => ∃ x d c a b, lv = .inst B.gc x d ∧ H1 d = some (.ns (gns c a b)) ∧ Q (.bool b) H1) X)
    (he : ∀ env, eval (.Attribute e (Str.ofString "is_surrounded") pos) env = (do
      let o ← eval e env
      standAt pos.atName
      let r ← holding [o] (getAttr o (Str.ofString "is_surrounded") true)
      letTemporaryGo e o r
      pure r) := by intro _; with_unfolding_all rfl) : EV G k fl sc (.Attribute e (Str.ofString "is_surrounded") pos) m H Q X :=
  EV_Attr (h.mono fun lv H1 ⟨x, d, c, a, b, q1, q2, q3⟩ => ⟨_, x, d, _, _, q1, q2, B.og, B.g_sur, gns_sur, q3⟩) he

theorem EV_cell {b : Bd} {n : Nat} {g : Grd} {em : Bool} {i j : Int} {xs xr xc : Str} {p1 p2 p3 p4 p5 p6 : Pos} (hs : (xs, some (.inst B.bc b.x b.d)) ∈ m) (hr : (xr, some (.int i)) ∈ m) (hc : (xc, some (.int j)) ∈ m) (hB : BAt H b n g em) (hon : On n (i, j)) (h : Q (cv (g (i, j))) H)
    (h1 : (xs == ("__classdict__" : Str)) = false := by decide +kernel) (h2 : (xs == ("__debug__" : Str)) = false := by decide +kernel) (h3 : (xr == ("__classdict__" : Str)) = false := by decide +kernel) (h4 : (xr == ("__debug__" : Str)) = false := by decide +kernel) (h5 : (xc == ("__classdict__" : Str)) = false := by decide +kernel) (h6 : (xc == ("__debug__" : Str)) = false := by decide +kernel)
    (he : ∀ env, eval (.Attribute (.Name xs p1) (Str.ofString "board") p2) env = (do
      let o ← eval (.Name xs p1) env
      standAt p2.atName
      let r ← holding [o] (getAttr o (Str.ofString "board") true)
      letTemporaryGo (.Name xs p1) o r
      pure r) := by intro _; with_unfolding_all rfl)
    : EV G k fl sc (.Subscript (.Subscript (.Attribute (.Name xs p1) (Str.ofString "board") p2) (.Name xr p3) p4) (.Name xc p5) p6) m H Q X := by
  obtain ⟨o1, o2, o3, o4⟩ := hon
  have hi : i.toNat < n := by simp at o2; omega
  have hj : j.toNat < n := by simp at o4; omega
  have hi' : i.toNat < b.rows.length := by rw [hB.len]; exact hi
  have hrow := hB.row i.toNat b.rows[i.toNat] (List.getElem?_eq_getElem hi')
  have ei : ((i.toNat : Nat) : Int) = i := by simp at o1; omega
  have ej : ((j.toNat : Nat) : Int) = j := by simp at o3; omega
  refine EV_Sub ?_
  refine EV_Sub ?_
  refine EV_brd B ?_ he
  refine EV_Name hs ?_ h1 h2
  refine ⟨_, _, _, _, _, _, rfl, hB.ns, ?_⟩
  refine EV_Name hr ?_ h3 h4
  refine ⟨SubT_lst hB.bl, ?_⟩
  refine BO_item_list hB.bl o1 (lv := .ref b.rows[i.toNat]) (by rw [List.getElem?_map, List.getElem?_eq_getElem hi']; rfl) ?_
  refine EV_Name hc ?_ h5 h6
  refine ⟨SubT_lst hrow, ?_⟩
  refine BO_item_list hrow o3 (lv := cv (g (i, j))) ?_ h
  rw [rowL, List.getElem?_map, List.getElem?_range hj]
  simp [ei, ej]

theorem AS_pv {p : Pt} {x y : Str} {p1 p2 p3 : Pos} {kd : Nat} {m1 m2 : Loc} {N : Loc → Hp → Prop} {X : Xk → Loc → Hp → Prop} (h1 : Put m x (.int p.1) m1) (h2 : Put m1 y (.int p.2) m2) (hh : G.hn = true) (h : N m2 H) (hl : fl = true ∨ (sc.names.lookup x = some .local ∧ sc.names.lookup y = some .local) := by exact .inl rfl) :
    AS G k fl sc (.Tuple [.Name x p1, .Name y p2] kd p3) (pv p) m H N X :=
  AS_tuple (ASs_cons h1 (ASs_cons h2 (ASs_nil h) (hl.imp id And.right)) (hl.imp id And.left)) hh
theorem SA_g1 {c0 : Addr} (hc0 : c0 = B.gc) {x d : Addr} {v : LV} {N : Hp → Prop} (hd : H d = some (.ns [])) (h : N (hset H d (.ns [(Str.ofString "colour", v)]))) : SA G (Str.ofString "colour") (.inst c0 x d) v H N X := by
  subst hc0; exact SA_of hd B.og B.g_col (by simp) h
theorem SA_g2 {c0 : Addr} (hc0 : c0 = B.gc) {x d : Addr} {v w : LV} {N : Hp → Prop} (hd : H d = some (.ns [(Str.ofString "colour", v)])) (h : N (hset H d (.ns [(Str.ofString "colour", v), (Str.ofString "points", w)]))) : SA G (Str.ofString "points") (.inst c0 x d) w H N X := by
  subst hc0; exact SA_of hd B.og B.g_pts (by simp) (by rw [aput, if_neg (fun e => by have := ne7; rw [e] at this; simp at this)]; exact h)
theorem SA_g3 {c0 : Addr} (hc0 : c0 = B.gc) {x d : Addr} {c : Str} {a : Addr} {b : Bool} {N : Hp → Prop} (hd : H d = some (.ns [(Str.ofString "colour", .str c), (Str.ofString "points", .ref a)])) (h : N (hset H d (.ns (gns c a b)))) : SA G (Str.ofString "is_surrounded") (.inst c0 x d) (.bool b) H N X := by
  subst hc0; exact SA_of hd B.og B.g_sur (by simp) (by rw [aput, if_neg (fun e => by have := ne8; rw [e] at this; simp at this), aput, if_neg (fun e => by have := ne9; rw [e] at this; simp at this)]; exact h)
theorem SA_emp {c0 : Addr} (hc0 : c0 = B.bc) {x d : Addr} {n : Nat} {pl bl : Addr} {em em' : Bool} {N : Hp → Prop} (hd : H d = some (.ns (bns n pl bl em))) (h : N (hset H d (.ns (bns n pl bl em')))) : SA G (Str.ofString "_is_empty") (.inst c0 x d) (.bool em') H N X := by
  subst hc0; exact SA_of hd B.ob B.a_emp (by simp [bns]) (by rw [bns, aput, if_neg (fun e => by have := ne4; rw [e] at this; simp at this), aput, if_neg (fun e => by have := ne5; rw [e] at this; simp at this), aput, if_neg (fun e => by have := ne6; rw [e] at this; simp at this), aput, if_pos rfl]; exact h)
theorem SA_brd {c0 : Addr} (hc0 : c0 = B.bc) {x d : Addr} {n : Nat} {pl bl bl' : Addr} {em : Bool} {N : Hp → Prop} (hd : H d = some (.ns (bns n pl bl em))) (h : N (hset H d (.ns (bns n pl bl' em)))) : SA G (Str.ofString "board") (.inst c0 x d) (.ref bl') H N X := by
  subst hc0; exact SA_of hd B.ob B.a_brd (by simp [bns]) (by rw [bns, aput, if_neg (fun e => by have := ne2; rw [e] at this; simp at this), aput, if_neg (fun e => by have := ne3; rw [e] at this; simp at this), aput, if_pos rfl]; exact h)
theorem SA_b1 {c0 : Addr} (hc0 : c0 = B.bc) {x d : Addr} {v : LV} {N : Hp → Prop} (hd : H d = some (.ns [])) (h : N (hset H d (.ns [(Str.ofString "side", v)]))) : SA G (Str.ofString "side") (.inst c0 x d) v H N X := by
  subst hc0; exact SA_of hd B.ob B.a_side (by simp) h
theorem SA_b2 {c0 : Addr} (hc0 : c0 = B.bc) {x d : Addr} {v w : LV} {N : Hp → Prop} (hd : H d = some (.ns [(Str.ofString "side", v)])) (h : N (hset H d (.ns [(Str.ofString "side", v), (Str.ofString "board_points", w)]))) : SA G (Str.ofString "board_points") (.inst c0 x d) w H N X := by
  subst hc0; exact SA_of hd B.ob B.a_pts (by simp) (by rw [aput, if_neg (fun e => by have := ne1; rw [e] at this; simp at this)]; exact h)
theorem SA_b3 {c0 : Addr} (hc0 : c0 = B.bc) {x d : Addr} {v w u : LV} {N : Hp → Prop} (hd : H d = some (.ns [(Str.ofString "side", v), (Str.ofString "board_points", w)])) (h : N (hset H d (.ns [(Str.ofString "side", v), (Str.ofString "board_points", w), (Str.ofString "board", u)]))) : SA G (Str.ofString "board") (.inst c0 x d) u H N X := by
  subst hc0; exact SA_of hd B.ob B.a_brd (by simp) (by rw [aput, if_neg (fun e => by have := ne2; rw [e] at this; simp at this), aput, if_neg (fun e => by have := ne3; rw [e] at this; simp at this)]; exact h)
theorem SA_b4 {c0 : Addr} (hc0 : c0 = B.bc) {x d : Addr} {n : Nat} {pl bl : Addr} {em : Bool} {N : Hp → Prop} (hd : H d = some (.ns [(Str.ofString "side", .int n), (Str.ofString "board_points", .ref pl), (Str.ofString "board", .ref bl)])) (h : N (hset H d (.ns (bns n pl bl em)))) : SA G (Str.ofString "_is_empty") (.inst c0 x d) (.bool em) H N X := by
  subst hc0; exact SA_of hd B.ob B.a_emp (by simp) (by rw [aput, if_neg (fun e => by have := ne4; rw [e] at this; simp at this), aput, if_neg (fun e => by have := ne5; rw [e] at this; simp at this), aput, if_neg (fun e => by have := ne6; rw [e] at this; simp at this)]; exact h)
end
theorem TS_onb {G : Gl} (B : BW G) {k : Nat} {fl : Bool} {sc : Scope} {m : Loc} {H : Hp} {Q : Bool → Hp → Prop} {X : Xc} {b : Bd} {n : Nat} {g : Grd} {em : Bool} {i j : Int} {xs xr xc : Str} {p1 p2 p3 p4 p5 p6 p7 p8 p9 p10 p11 : Pos} {k1 k2 : Nat}
    (hs : (xs, some (.inst B.bc b.x b.d)) ∈ m) (hr : (xr, some (.int i)) ∈ m) (hc : (xc, some (.int j)) ∈ m) (hB : BAt H b n g em) (h : Q (decide (On n (i, j))) H)
    (h1 : (xs == ("__classdict__" : Str)) = false := by decide +kernel) (h2 : (xs == ("__debug__" : Str)) = false := by decide +kernel) (h3 : (xr == ("__classdict__" : Str)) = false := by decide +kernel) (h4 : (xr == ("__debug__" : Str)) = false := by decide +kernel) (h5 : (xc == ("__classdict__" : Str)) = false := by decide +kernel) (h6 : (xc == ("__debug__" : Str)) = false := by decide +kernel)
    (he : ∀ p env, eval (.Attribute (.Name xs p1) (Str.ofString "side") p) env = (do
      let o ← eval (.Name xs p1) env
      standAt p.atName
      let r ← holding [o] (getAttr o (Str.ofString "side") true)
      letTemporaryGo (.Name xs p1) o r
      pure r) := by intro _ _; with_unfolding_all rfl)
    (he' : ∀ p env, eval (.Attribute (.Name xs p9) (Str.ofString "side") p) env = (do
      let o ← eval (.Name xs p9) env
      standAt p.atName
      let r ← holding [o] (getAttr o (Str.ofString "side") true)
      letTemporaryGo (.Name xs p9) o r
      pure r) := by intro _ _; with_unfolding_all rfl)
    (hm : behindInMarks .LtE (.Name xr p4) = false := by with_unfolding_all rfl) (hm' : behindInMarks .LtE (.Name xc p8) = false := by with_unfolding_all rfl)
    (hm1 : behindInMarks .Lt (.Attribute (.Name xs p1) (Str.ofString "side") p2) = false := by with_unfolding_all rfl) (hm1' : behindInMarks .Lt (.Attribute (.Name xs p9) (Str.ofString "side") p10) = false := by with_unfolding_all rfl) :
    TS G k fl sc (.BoolOp .And [.Compare (.Constant (.int 0) k1 p3) [.LtE, .Lt] [.Name xr p4, .Attribute (.Name xs p1) (Str.ofString "side") p2] p5, .Compare (.Constant (.int 0) k2 p7) [.LtE, .Lt] [.Name xc p8, .Attribute (.Name xs p9) (Str.ofString "side") p10] p11] p6) m H Q X := by
  have key : decide (On n (i, j)) = (decide (0 ≤ i) && decide (i < n) && (decide (0 ≤ j) && decide (j < n))) := by rw [Bool.eq_iff_iff, decide_eq_true_eq]; simp [On, and_assoc]
  rw [key] at h
  refine TS_Bool (AT_and (TS_Compare2 (EV_int (EV_Name hr (BO_le ⟨_, rfl, ?_⟩) h3 h4)) (by assumption)))
  by_cases c1 : 0 ≤ i
  case neg => simp only [c1, decide_false, Bool.false_and] at h ⊢; simpa using h
  simp only [c1, decide_true, if_true]
  refine EV_side B (EV_Name hs ⟨_, _, _, _, _, _, rfl, hB.ns, BO_lt ⟨_, rfl, ?_⟩⟩ h1 h2) (he _)
  by_cases c2 : i < n
  case neg => simp only [c1, c2, decide_false, Bool.false_and, Bool.and_false] at h ⊢; simpa using h
  simp only [c2, decide_true, if_true]
  refine AT_and (TS_Compare2 (EV_int (EV_Name hc (BO_le ⟨_, rfl, ?_⟩) h5 h6)) (by assumption))
  by_cases c3 : 0 ≤ j
  case neg => simp only [c1, c2, c3, decide_false, Bool.false_and, Bool.and_false] at h ⊢; simpa using h
  simp only [c3, decide_true, if_true]
  refine EV_side B (EV_Name hs ⟨_, _, _, _, _, _, rfl, hB.ns, BO_lt ⟨_, rfl, ?_⟩⟩ h1 h2) (he' _)
  by_cases c4 : j < n
  case neg => simp only [c1, c2, c3, c4, decide_false, Bool.false_and, Bool.and_false] at h ⊢; simpa using h
  simp only [c4, decide_true, if_true]
  refine AT_nil ?_
  simpa [c1, c2, c3, c4] using h

section
variable {G : Gl} {k : Nat} {fl : Bool} {sc : Scope} {m : Loc} {H : Hp} {Q : Qv} {X : Xc} (B : BW G)
theorem EV_bm {name : Str} {f : Addr} {st : Stmt} (M : Meth G B.bc name f st) (hbn : (name == Str.ofString "side") = false ∧ (name == Str.ofString "board_points") = false ∧ (name == Str.ofString "board") = false ∧ (name == Str.ofString "_is_empty") = false) {o : PySem.Expr} {apos pos : Pos} {es : List PySem.Expr}
    (h : EV G k fl sc o m H (fun lv H1 => ∃ x d n pl bl em, lv = .inst B.bc x d ∧ H1 d = some (.ns (bns n pl bl em)) ∧ AR G k fl sc es m H1 (fun lvs H2 => CALL G k (.ref f) (.inst B.bc x d :: lvs) H2 Q X) X) X)
    {pl : Env → Sem Bool} (he : ∀ env, eval (.Call (.Attribute o name apos) es [] pos) env = (do
      let ov ← eval o env
      standAt apos.atName
      let (f, first) ← holding [ov] (getMethod ov name (pl env))
      callWith pos f first (backTo pos (starEach es env)) []) := by intro _; with_unfolding_all rfl) : EV G k fl sc (.Call (.Attribute o name apos) es [] pos) m H Q X :=
  EV_OMeth (h.mono fun lv H1 ⟨x, d, n, pl, bl, em, q1, q2, q3⟩ => ⟨_, x, d, _, f, q1, q2, B.ob, M.1, M.2.1, M.2.2.1, by simp [bns, List.lookup_cons, hbn], q3⟩) he
theorem EV_m_cp {o : PySem.Expr} {apos pos : Pos} {es : List PySem.Expr}
    (h : EV G k fl sc o m H (fun lv H1 => ∃ x d n pl bl em, lv = .inst B.bc x d ∧ H1 d = some (.ns (bns n pl bl em)) ∧ AR G k fl sc es m H1 (fun lvs H2 => CALL G k (.ref B.fcp) (.inst B.bc x d :: lvs) H2 Q X) X) X)
    {pl : Env → Sem Bool} (he : ∀ env, eval (.Call (.Attribute o (Str.ofString "copy") apos) es [] pos) env = (do
      let ov ← eval o env
      standAt apos.atName
      let (f, first) ← holding [ov] (getMethod ov (Str.ofString "copy") (pl env))
      callWith pos f first (backTo pos (starEach es env)) []) := by intro _; with_unfolding_all rfl) : EV G k fl sc (.Call (.Attribute o (Str.ofString "copy") apos) es [] pos) m H Q X :=
  EV_bm B B.m_cp (by decide +kernel) h he
theorem EV_m_mg {o : PySem.Expr} {apos pos : Pos} {es : List PySem.Expr}
    (h : EV G k fl sc o m H (fun lv H1 => ∃ x d n pl bl em, lv = .inst B.bc x d ∧ H1 d = some (.ns (bns n pl bl em)) ∧ AR G k fl sc es m H1 (fun lvs H2 => CALL G k (.ref B.fmg) (.inst B.bc x d :: lvs) H2 Q X) X) X)
    {pl : Env → Sem Bool} (he : ∀ env, eval (.Call (.Attribute o (Str.ofString "_make_group") apos) es [] pos) env = (do
      let ov ← eval o env
      standAt apos.atName
      let (f, first) ← holding [ov] (getMethod ov (Str.ofString "_make_group") (pl env))
      callWith pos f first (backTo pos (starEach es env)) []) := by intro _; with_unfolding_all rfl) : EV G k fl sc (.Call (.Attribute o (Str.ofString "_make_group") apos) es [] pos) m H Q X :=
  EV_bm B B.m_mg (by decide +kernel) h he
theorem EV_m_fs {o : PySem.Expr} {apos pos : Pos} {es : List PySem.Expr}
    (h : EV G k fl sc o m H (fun lv H1 => ∃ x d n pl bl em, lv = .inst B.bc x d ∧ H1 d = some (.ns (bns n pl bl em)) ∧ AR G k fl sc es m H1 (fun lvs H2 => CALL G k (.ref B.ffs) (.inst B.bc x d :: lvs) H2 Q X) X) X)
    {pl : Env → Sem Bool} (he : ∀ env, eval (.Call (.Attribute o (Str.ofString "_find_surrounded_groups") apos) es [] pos) env = (do
      let ov ← eval o env
      standAt apos.atName
      let (f, first) ← holding [ov] (getMethod ov (Str.ofString "_find_surrounded_groups") (pl env))
      callWith pos f first (backTo pos (starEach es env)) []) := by intro _; with_unfolding_all rfl) : EV G k fl sc (.Call (.Attribute o (Str.ofString "_find_surrounded_groups") apos) es [] pos) m H Q X :=
  EV_bm B B.m_fs (by decide +kernel) h he
theorem EV_m_fa {o : PySem.Expr} {apos pos : Pos} {es : List PySem.Expr}
    (h : EV G k fl sc o m H (fun lv H1 => ∃ x d n pl bl em, lv = .inst B.bc x d ∧ H1 d = some (.ns (bns n pl bl em)) ∧ AR G k fl sc es m H1 (fun lvs H2 => CALL G k (.ref B.ffa) (.inst B.bc x d :: lvs) H2 Q X) X) X)
    {pl : Env → Sem Bool} (he : ∀ env, eval (.Call (.Attribute o (Str.ofString "_find_all_surrounded_groups") apos) es [] pos) env = (do
      let ov ← eval o env
      standAt apos.atName
      let (f, first) ← holding [ov] (getMethod ov (Str.ofString "_find_all_surrounded_groups") (pl env))
      callWith pos f first (backTo pos (starEach es env)) []) := by intro _; with_unfolding_all rfl) : EV G k fl sc (.Call (.Attribute o (Str.ofString "_find_all_surrounded_groups") apos) es [] pos) m H Q X :=
  EV_bm B B.m_fa (by decide +kernel) h he
theorem EV_m_ie {o : PySem.Expr} {apos pos : Pos} {es : List PySem.Expr}
    (h : EV G k fl sc o m H (fun lv H1 => ∃ x d n pl bl em, lv = .inst B.bc x d ∧ H1 d = some (.ns (bns n pl bl em)) ∧ AR G k fl sc es m H1 (fun lvs H2 => CALL G k (.ref B.fie) (.inst B.bc x d :: lvs) H2 Q X) X) X)
    {pl : Env → Sem Bool} (he : ∀ env, eval (.Call (.Attribute o (Str.ofString "is_empty") apos) es [] pos) env = (do
      let ov ← eval o env
      standAt apos.atName
      let (f, first) ← holding [ov] (getMethod ov (Str.ofString "is_empty") (pl env))
      callWith pos f first (backTo pos (starEach es env)) []) := by intro _; with_unfolding_all rfl) : EV G k fl sc (.Call (.Attribute o (Str.ofString "is_empty") apos) es [] pos) m H Q X :=
  EV_bm B B.m_ie (by decide +kernel) h he
theorem EV_m_ge {o : PySem.Expr} {apos pos : Pos} {es : List PySem.Expr}
    (h : EV G k fl sc o m H (fun lv H1 => ∃ x d n pl bl em, lv = .inst B.bc x d ∧ H1 d = some (.ns (bns n pl bl em)) ∧ AR G k fl sc es m H1 (fun lvs H2 => CALL G k (.ref B.fge) (.inst B.bc x d :: lvs) H2 Q X) X) X)
    {pl : Env → Sem Bool} (he : ∀ env, eval (.Call (.Attribute o (Str.ofString "get") apos) es [] pos) env = (do
      let ov ← eval o env
      standAt apos.atName
      let (f, first) ← holding [ov] (getMethod ov (Str.ofString "get") (pl env))
      callWith pos f first (backTo pos (starEach es env)) []) := by intro _; with_unfolding_all rfl) : EV G k fl sc (.Call (.Attribute o (Str.ofString "get") apos) es [] pos) m H Q X :=
  EV_bm B B.m_ge (by decide +kernel) h he
theorem EV_m_pl {o : PySem.Expr} {apos pos : Pos} {es : List PySem.Expr}
    (h : EV G k fl sc o m H (fun lv H1 => ∃ x d n pl bl em, lv = .inst B.bc x d ∧ H1 d = some (.ns (bns n pl bl em)) ∧ AR G k fl sc es m H1 (fun lvs H2 => CALL G k (.ref B.fpl) (.inst B.bc x d :: lvs) H2 Q X) X) X)
    {pl : Env → Sem Bool} (he : ∀ env, eval (.Call (.Attribute o (Str.ofString "play") apos) es [] pos) env = (do
      let ov ← eval o env
      standAt apos.atName
      let (f, first) ← holding [ov] (getMethod ov (Str.ofString "play") (pl env))
      callWith pos f first (backTo pos (starEach es env)) []) := by intro _; with_unfolding_all rfl) : EV G k fl sc (.Call (.Attribute o (Str.ofString "play") apos) es [] pos) m H Q X :=
  EV_bm B B.m_pl (by decide +kernel) h he
theorem EV_m_as {o : PySem.Expr} {apos pos : Pos} {es : List PySem.Expr}
    (h : EV G k fl sc o m H (fun lv H1 => ∃ x d n pl bl em, lv = .inst B.bc x d ∧ H1 d = some (.ns (bns n pl bl em)) ∧ AR G k fl sc es m H1 (fun lvs H2 => CALL G k (.ref B.fas) (.inst B.bc x d :: lvs) H2 Q X) X) X)
    {pl : Env → Sem Bool} (he : ∀ env, eval (.Call (.Attribute o (Str.ofString "apply_setup") apos) es [] pos) env = (do
      let ov ← eval o env
      standAt apos.atName
      let (f, first) ← holding [ov] (getMethod ov (Str.ofString "apply_setup") (pl env))
      callWith pos f first (backTo pos (starEach es env)) []) := by intro _; with_unfolding_all rfl) : EV G k fl sc (.Call (.Attribute o (Str.ofString "apply_setup") apos) es [] pos) m H Q X :=
  EV_bm B B.m_as (by decide +kernel) h he
theorem EV_m_lo {o : PySem.Expr} {apos pos : Pos} {es : List PySem.Expr}
    (h : EV G k fl sc o m H (fun lv H1 => ∃ x d n pl bl em, lv = .inst B.bc x d ∧ H1 d = some (.ns (bns n pl bl em)) ∧ AR G k fl sc es m H1 (fun lvs H2 => CALL G k (.ref B.flo) (.inst B.bc x d :: lvs) H2 Q X) X) X)
    {pl : Env → Sem Bool} (he : ∀ env, eval (.Call (.Attribute o (Str.ofString "list_occupied_points") apos) es [] pos) env = (do
      let ov ← eval o env
      standAt apos.atName
      let (f, first) ← holding [ov] (getMethod ov (Str.ofString "list_occupied_points") (pl env))
      callWith pos f first (backTo pos (starEach es env)) []) := by intro _; with_unfolding_all rfl) : EV G k fl sc (.Call (.Attribute o (Str.ofString "list_occupied_points") apos) es [] pos) m H Q X :=
  EV_bm B B.m_lo (by decide +kernel) h he
end
theorem Ext.at {H H' : Hp} {a : Addr} {o : LO} (e : Ext H H') (h : H a = some o) : H' a = some o := e _ _ h
def IsCol (c : Str) : Prop := c = sb ∨ c = sw
theorem IsCol.lay {c : Str} (h : IsCol c) : PyData.canLay0 (.str c) = true := by
  rcases h with rfl | rfl <;> decide +kernel
theorem eqv_str {a b : Str} : PyData.eqv (.str a) (.str b) = decide (a = b) := by
  simp [PyData.eqv]
  by_cases h : a = b <;> simp [h]
theorem BO_eqs {G : Gl} {H : Hp} {Q : Qv} {X : Xc} {a b : Str} (ha : IsCol a) (hb : IsCol b) (h : Q (.bool (decide (a = b))) H) : BO G (compareOp .Eq) (.str a) (.str b) H Q X :=
  BO_eq (.str ha.lay) (.str hb.lay) (by rw [eqv_str]; exact h) (by simp [PyData.depth])
theorem BO_nes {G : Gl} {H : Hp} {Q : Qv} {X : Xc} {a b : Str} (ha : IsCol a) (hb : IsCol b) (h : Q (.bool (!decide (a = b))) H) : BO G (compareOp .NotEq) (.str a) (.str b) H Q X :=
  BO_ne (.str ha.lay) (.str hb.lay) (by rw [eqv_str]; exact h) (by simp [PyData.depth])
theorem len1 {α : Type} {l : List α} (h : l.length = 1) : ∃ a, l = [a] := by match l, h with | [a], _ => exact ⟨_, rfl⟩
theorem len2 {α : Type} {l : List α} (h : l.length = 2) : ∃ a b, l = [a, b] := by match l, h with | [a, b], _ => exact ⟨_, _, rfl⟩
theorem len3 {α : Type} {l : List α} (h : l.length = 3) : ∃ a b c, l = [a, b, c] := by match l, h with | [a, b, c], _ => exact ⟨_, _, _, rfl⟩
theorem len4 {α : Type} {l : List α} (h : l.length = 4) : ∃ a b c d, l = [a, b, c, d] := by match l, h with | [a, b, c, d], _ => exact ⟨_, _, _, _, rfl⟩
end Go

end
section
set_option autoImplicit false
set_option linter.unusedVariables false
set_option linter.unusedSimpArgs false
set_option Elab.async false
set_option maxRecDepth 100000
namespace Go
open PySem PySem.W PyProof.Rows

def ptsN (n i : Nat) : List Pt := (List.range i).flatMap fun (r : Nat) => (List.range n).map fun (c : Nat) => ((r : Int), (c : Int))
theorem ptsN_succ (n i : Nat) : ptsN n (i + 1) = ptsN n i ++ (List.range n).map fun (c : Nat) => ((i : Int), (c : Int)) := by
  rw [ptsN, List.range_succ, List.flatMap_append]; simp [ptsN]
theorem ptsN_len (n i : Nat) : (ptsN n i).length = i * n := by
  induction i with
  | zero => simp [ptsN]
  | succ i ih => rw [ptsN_succ, List.length_append, ih]; simp [Nat.add_mul]

/-- [(ta, tb) for ta in range(xs) for tb in range(xs)] -/
theorem CS_grid {G : Gl} {k : Nat} {sc : Scope} {D : Addr} {H1 : Hp} {n : Nat} {z ta tb xs xr : Str} {scope : Scope} {pos q1 q2 q3 q4 q5 q6 q7 q8 q9 q10 q11 : Pos} {kd : Nat} {N : Loc → Hp → Prop} (hh : G.hn = true) (hn : n ≤ 60)
    (hr : GNm G xr (.type "range")) (l1 : sc.names.lookup ta = some .local) (l2 : sc.names.lookup tb = some .local) (l3 : sc.names.lookup xr = some .globalImplicit)
    (hD : H1 D = none) (hN : ∀ m' H', Ext H1 H' → H' D = some (.lst ((pts n).map pv)) → N m' H')
    (c1 : (xs == ("__classdict__" : Str)) = false := by decide +kernel) (c2 : (xs == ("__debug__" : Str)) = false := by decide +kernel) (c3 : (ta == ("__classdict__" : Str)) = false := by decide +kernel) (c4 : (ta == ("__debug__" : Str)) = false := by decide +kernel) (c5 : (tb == ("__classdict__" : Str)) = false := by decide +kernel) (c6 : (tb == ("__debug__" : Str)) = false := by decide +kernel) (c7 : (xr == ("__debug__" : Str)) = false := by decide +kernel) :
    CS G k sc (stpN G) (.ListComp (.Tuple [.Name ta q1, .Name tb q2] kd q3) [⟨.Name ta q4, .Call (.Name xr q5) [.Name xs q6] [] q7, [], 0⟩, ⟨.Name tb q8, .Call (.Name xr q9) [.Name xs q10] [] q11, [], 0⟩] scope pos) 0 D (0, n)
      [(z, none), (ta, none), (tb, none), (xs, some (.int n))] (hset H1 D (.lst [])) N := by
  have mem4 : ∀ {o0 o1 o2 : Option LV}, ((xs, some (LV.int n)) : Str × Option LV) ∈ [(z, o0), (ta, o1), (tb, o2), (xs, some (LV.int n))] := by simp
  refine CS_loop (S := stpN G) (ifs := []) (target := .Name ta q4) (p := q7) (act := fun env acc => do
      let x ← eval (.Call (.Name xr q9) [.Name xs q10] [] q11) env
      standAt q11
      let x ← foldedSetIterable (.Call (.Name xr q9) [.Name xs q10] [] q11) env x
      let _ ← runOwn (.compStart (.ListComp (.Tuple [.Name ta q1, .Name tb q2] kd q3) [⟨.Name ta q4, .Call (.Name xr q5) [.Name xs q6] [] q7, [], 0⟩, ⟨.Name tb q8, .Call (.Name xr q9) [.Name xs q10] [] q11, [], 0⟩] scope pos) 1 (← holding [x] (pyIter x)) acc env) env) hh
    (fun w x m H => ∃ i : Nat, x = ((i : Int), n - i) ∧ i ≤ n ∧ w = n - i ∧ (∃ o0 o1 o2, m = [(z, o0), (ta, o1), (tb, o2), (xs, some (.int n))]) ∧ Ext H1 H ∧ H D = some (.lst ((ptsN n i).map pv)))
    (n := n) ⟨0, rfl, by omega, by omega, ⟨_, _, _, rfl⟩, (Ext.refl _).set hD, by simp [ptsN]⟩ ?_ (by
    intro it acc env
    simp only [compTurn, List.getElem?_cons_zero, List.getElem?_cons_succ, bind_assoc, pure_bind]
    rfl)
  rintro w x m H ⟨i, rfl, hi, rfl, ⟨o0, o1, o2, rfl⟩, hE, hL⟩
  cases hw : n - i with
  | zero =>
    refine ⟨none, rfl, fun _ => ?_, (fun lv x' q => by cases q)⟩
    have : i = n := by omega
    subst this
    exact hN _ H hE hL
  | succ w =>
    refine ⟨some (.int i, ((i : Int) + 1, w)), rfl, (fun q => by cases q), ?_⟩
    rintro lv x' q; cases q
    refine AS_Name (.there .here) ?_ (.inr l1)
    refine TSs_nil ⟨fun _ => ?_, (fun q => by cases q)⟩
    refine INN_comp (S := stpN G) ?_
    refine IT_range l3 hr ?_ c7
    refine EV_Name mem4 ⟨n, rfl, by omega, by omega, ?_⟩ c1 c2
    refine CS_loop (S := stpN G) (ifs := []) (target := .Name tb q8) (p := q11) (act := fun env acc => do let _ ← call (.builtin "list.append") [acc, ← eval (.Tuple [.Name ta q1, .Name tb q2] kd q3) env]) hh
      (fun w' x m H => ∃ j : Nat, x = ((j : Int), n - j) ∧ j ≤ n ∧ w' = n - j ∧ (∃ o0 o2, m = [(z, o0), (ta, some (.int i)), (tb, o2), (xs, some (.int n))]) ∧ Ext H1 H ∧ H D = some (.lst ((ptsN n i ++ (List.range j).map fun (c : Nat) => ((i : Int), (c : Int))).map pv)))
      (n := n) ⟨0, rfl, by omega, by omega, ⟨_, _, rfl⟩, hE, by simpa using hL⟩ ?_
    rintro w' x m H' ⟨j, rfl, hj, rfl, ⟨o0', o2', rfl⟩, hE', hL'⟩
    cases hw' : n - j with
    | zero =>
      refine ⟨none, rfl, fun _ => ?_, (fun lv x' q => by cases q)⟩
      have : j = n := by omega
      subst this
      exact ⟨w, by omega, i + 1, Prod.ext (by show (i : Int) + 1 = ((i + 1 : Nat) : Int); omega) (by show w = _ - (i + 1); omega), by omega, by omega, ⟨_, _, _, rfl⟩, hE', by rw [ptsN_succ]; exact hL'⟩
    | succ w' =>
      refine ⟨some (.int j, ((j : Int) + 1, w')), rfl, (fun q => by cases q), ?_⟩
      rintro lv x' q; cases q
      refine AS_Name (.there (.there .here)) ?_ (.inr l2)
      refine TSs_nil ⟨fun _ => ?_, (fun q => by cases q)⟩
      refine INN_append ?_
      refine EV_Tuple (AR_cons (EV_Name (lv := .int i) (by simp) (AR_cons (EV_Name (lv := .int j) (by simp) (AR_nil ⟨by simp, ?_⟩) c5 c6)) c3 c4))
      refine ⟨_, hL', ?_, w', by omega, j + 1, Prod.ext (by show (j : Int) + 1 = ((j + 1 : Nat) : Int); omega) (by show w' = n - (j + 1); omega), by omega, by omega, ⟨_, _, rfl⟩, hE'.set hD, ?_⟩
      · rw [List.length_map, List.length_append, ptsN_len, List.length_map, List.length_range]
        have : i * n ≤ 60 * 60 := Nat.mul_le_mul (by omega) hn
        omega
      · rw [hset_same, List.range_succ]; simp [pv]
end Go

end
section
set_option autoImplicit false
set_option linter.unusedVariables false
set_option linter.unusedSimpArgs false
set_option Elab.async false
set_option maxRecDepth 100000
namespace Go
open PySem PySem.W PyProof.Rows
theorem EV_grid {G : Gl} {k : Nat} {fl : Bool} {sc : Scope} {m : Loc} {H : Hp} {Q : Qv} {X : Xc} {n : Nat} {z ta tb xs xr : Str} {scope : Scope} {pos q1 q2 q3 q4 q5 q6 q7 q8 q9 q10 q11 : Pos} {kd : Nat} (hh : G.hn = true) (hn : n ≤ 60)
    (hr : GNm G xr (.type "range")) (hm : (xs, some (.int n)) ∈ m) (hl0 : sc.names.lookup xr = some .globalImplicit) (l1 : (relS scope sc).names.lookup ta = some .local) (l2 : (relS scope sc).names.lookup tb = some .local) (l3 : (relS scope sc).names.lookup xr = some .globalImplicit)
    (hcomp : comp0 scope.names m = [(z, none), (ta, none), (tb, none), (xs, some (.int n))]) (hok : compOk scope sc m = true)
    (h : ∀ D H', H D = none → Ext H H' → H' D = some (.lst ((pts n).map pv)) → Q (.ref D) H')
    (c1 : (xs == ("__classdict__" : Str)) = false := by decide +kernel) (c2 : (xs == ("__debug__" : Str)) = false := by decide +kernel) (c3 : (ta == ("__classdict__" : Str)) = false := by decide +kernel) (c4 : (ta == ("__debug__" : Str)) = false := by decide +kernel) (c5 : (tb == ("__classdict__" : Str)) = false := by decide +kernel) (c6 : (tb == ("__debug__" : Str)) = false := by decide +kernel) (c7 : (xr == ("__debug__" : Str)) = false := by decide +kernel)
    (hf : ∀ env x, foldedSetIterable (.Call (.Name xr q5) [.Name xs q6] [] q7) env x = pure x := by intro _ _; with_unfolding_all rfl) :
    EV G k fl sc (.ListComp (.Tuple [.Name ta q1, .Name tb q2] kd q3) [⟨.Name ta q4, .Call (.Name xr q5) [.Name xs q6] [] q7, [], 0⟩, ⟨.Name tb q8, .Call (.Name xr q9) [.Name xs q10] [] q11, [], 0⟩] scope pos) m H Q X := by
  refine EV_ListComp (S := stpN G) ?_ hok hf
  refine IT_range hl0 hr (EV_Name hm ⟨n, rfl, by omega, by omega, fun D hD => ?_⟩ c1 c2) c7
  rw [hcomp]
  exact CS_grid hh hn hr l1 l2 l3 hD (fun m' H' a b => h D H' hD a b) c1 c2 c3 c4 c5 c6 c7
theorem EX_grid {G : Gl} {k : Nat} {sc : Scope} {m : Loc} {H : Hp} {P : PQ} {n : Nat} {x z ta tb xs xr : Str} {scope : Scope} {xp pos spos q1 q2 q3 q4 q5 q6 q7 q8 q9 q10 q11 : Pos} {kd : Nat} (hh : G.hn = true) (hn : n ≤ 60)
    (hr : GNm G xr (.type "range")) (hm : (xs, some (.int n)) ∈ m) (hl0 : sc.names.lookup xr = some .globalImplicit) (l1 : (relS scope sc).names.lookup ta = some .local) (l2 : (relS scope sc).names.lookup tb = some .local) (l3 : (relS scope sc).names.lookup xr = some .globalImplicit)
    (hcomp : comp0 scope.names m = [(z, none), (ta, none), (tb, none), (xs, some (.int n))]) (hok : compOk scope sc m = true)
    (h : ∀ D H', H D = none → Ext H H' → H' D = some (.lst ((pts n).map pv)) → ∃ m', Put m x (.ref D) m' ∧ P.n m' H')
    (hk : sc.kind = .function) (hx : sc.names.lookup x = some .local) (hl : (xp.line == pos.line) = true := by with_unfolding_all rfl) (hv : (scope.names.any fun (n, k) => n == x && (k == .local || k == .cell)) = false := by decide +kernel)
    (c1 : (xs == ("__classdict__" : Str)) = false := by decide +kernel) (c2 : (xs == ("__debug__" : Str)) = false := by decide +kernel) (c3 : (ta == ("__classdict__" : Str)) = false := by decide +kernel) (c4 : (ta == ("__debug__" : Str)) = false := by decide +kernel) (c5 : (tb == ("__classdict__" : Str)) = false := by decide +kernel) (c6 : (tb == ("__debug__" : Str)) = false := by decide +kernel) (c7 : (xr == ("__debug__" : Str)) = false := by decide +kernel)
    (hf : ∀ env x, foldedSetIterable (.Call (.Name xr q5) [.Name xs q6] [] q7) env x = pure x := by intro _ _; with_unfolding_all rfl) :
    EX G k sc (.Assign [.Name x xp] (.ListComp (.Tuple [.Name ta q1, .Name tb q2] kd q3) [⟨.Name ta q4, .Call (.Name xr q5) [.Name xs q6] [] q7, [], 0⟩, ⟨.Name tb q8, .Call (.Name xr q9) [.Name xs q10] [] q11, [], 0⟩] scope pos) spos) m H P := by
  refine EX_AssignComp (S := stpN G) ?_ hok hk hx hl hv hf
  refine IT_range hl0 hr (EV_Name hm ⟨n, rfl, by omega, by omega, fun D hD => ?_⟩ c1 c2) c7
  rw [hcomp]
  exact CS_grid hh hn hr l1 l2 l3 hD (fun m' H' a b => h D H' hD a b) c1 c2 c3 c4 c5 c6 c7

theorem pickL_seg {vs : List LV} {lo hi : Option Int} {a b : Nat} (h : sliceBounds lo hi none vs.length = ((a : Int), (b : Int), 1)) (hb : b ≤ vs.length) : pickL vs lo hi none = (vs.drop a).take (b - a) := by
  rw [pickL, h]
  dsimp only
  rw [sliceRange_one, List.filterMap_map]
  have : ∀ c, a + c ≤ vs.length → (List.range c).filterMap ((fun x => vs[x]?) ∘ (a + ·)) = (vs.drop a).take c := by
    intro c hc
    induction c with
    | zero => simp
    | succ c ih =>
      rw [List.range_succ, List.filterMap_append, ih (by omega), List.take_add_one]
      simp [List.getElem?_drop]
      have e : vs[a + c]? = some vs[a + c] := List.getElem?_eq_getElem (by omega)
      simp [e]
  by_cases hab : a ≤ b
  · exact this _ (by omega)
  · have : b - a = 0 := by omega
    rw [this]; simp
theorem pickL_all {vs : List LV} : pickL vs none none none = vs := by
  rw [pickL_seg (a := 0) (b := vs.length) (by simp [sliceBounds]) (Nat.le_refl _)]; simp
end Go

end
section
set_option autoImplicit false
set_option linter.unusedVariables false
set_option linter.unusedSimpArgs false
set_option Elab.async false
namespace Go
open PySem PySem.W PyProof.Rows
/-- x, = a set of one -/
theorem AS_set1 {G : Gl} {k : Nat} {fl : Bool} {sc : Scope} {m : Loc} {H : Hp} {N : Loc → Hp → Prop} {X : Xk → Loc → Hp → Prop} {t : PySem.Expr} {kd : Nat} {pp : Pos} {a : Addr} {p : Int × Int} (hH : H a = some (.pset [p])) (h : ASs G k fl sc [t] [pv p] m H N X) (hh : G.hn = true) : AS G k fl sc (.Tuple [t] kd pp) (.ref a) m H N X := fun env A C Z s v hs I hv => by
  cases hv
  obtain ⟨W, ob, hp, J⟩ := I.freeze hH
  have hW : W = [p] := List.perm_singleton.mp hp
  subst hW
  obtain ⟨s1, s2⟩ := h.1.2 env
  obtain ⟨ob', e1, e2, hex, _⟩ := J.st.hp a _ (hset_same _ _ _)
  have hT : s.TypeIs (.ref a) "set" := ⟨ob', e1, by subst e2; exact hex.1⟩
  rw [arm_assign_Tuple]
  refine wpAny_bind (wpAny_standAt ?_)
  unfold unpack
  rw [s2, s1]
  refine wpAny_bind (wpAny_holding ?_)
  unfold unpackItems
  refine wpAny_bind ?_
  unfold notIterableAtAll
  refine wpAny_bind (wpAny_specialOf hT PySem.F.slot_set_iter.lookup ?_)
  refine wpAny_pure ?_
  simp only [Bool.false_eq_true, if_false]
  refine wpAny_bind (wpAny_holding ?_)
  refine wpAny_mono (IV_set (X := fun _ _ => False) (Q := fun x H' => x = (a, ob, 0) ∧ H' = hset H a (.psetx a [p] ob)) (hset_same _ _ _) ⟨rfl, rfl⟩ k fl env A C Z m s (.ref a) J rfl) (fun r s3 hr => ?_) (fun e s3 he => by obtain ⟨_, _, _, _, _, q⟩ := he; exact q.elim)
  obtain ⟨C1, H1, it, x, o, rfl, c1, I1, n1, n2, g1, i1, rfl, rfl⟩ := hr
  have nx1 : (stpP G).nx (hset H a (.psetx a [p] ob)) (a, ob, 0) (some (pv p, (a, ob, 1))) := ⟨[p], hset_same _ _ _, rfl⟩
  have nx2 : (stpP G).nx (hset H a (.psetx a [p] ob)) (a, ob, 1) none := ⟨[p], hset_same _ _ _, rfl⟩
  refine wpAny_bind (wpAny_holding ?_)
  show wpAny _ _ (draw (.ref it) 1) _ _ _
  unfold draw
  refine wpAny_bind (wpAny_mono ((stpP G).next _ hh I1 g1 i1 n1 n2 nx1) (fun r s4 hr => ?_) fun _ _ x => x)
  obtain ⟨w, C2, o2, rfl, c2, I2, v2, n3, g2, i2⟩ := hr
  dsimp only
  refine wpAny_bind (wpAny_holding ?_)
  unfold draw
  refine wpAny_pure (wpAny_pure ?_)
  dsimp only [List.length_cons, List.length_nil]
  rw [if_neg (by decide)]
  refine wpAny_bind (wpAny_holding ?_)
  refine wpAny_mono ((stpP G).next _ hh I2 g2 i2 n3 n2 nx2) (fun r s5 hr => ?_) fun _ _ x => x
  obtain ⟨rfl, I3⟩ := hr
  simp only [Option.isSome_none, Bool.false_eq_true, if_false]
  refine wpAny_pure ?_
  have I4 := I3.thaw (hset_same _ _ _) (List.Perm.refl [p])
  rw [hset_hset, hset_id hH] at I4
  refine wpAny_mono (h.2 env A C2 Z s5 [w] hs I4 ⟨w, [], rfl, v2, rfl⟩) (fun _ s6 ⟨C', m', H', a, b, c⟩ => ⟨C', m', H', (c1.trans c2).trans a, b, c⟩) fun e s6 he => ?_
  exact XsPost.up (c1.trans c2) he
end Go

end
section
set_option autoImplicit false
set_option linter.unusedVariables false
set_option linter.unusedSimpArgs false
set_option Elab.async false
namespace Go
open PySem

/-- the search for an empty region -/
structure MR (n : Nat) (g : Grd) (p0 : Pt) (P T : List Pt) (ss : List Str) (D : Pt → Pt → Prop) : Prop where
  ndP : P.Nodup
  ndT : T.Nodup
  dis : ∀ q, q ∈ T → q ∉ P
  cP : ∀ q, q ∈ P → Conn n g p0 q
  cT : ∀ q, q ∈ T → Conn n g p0 q
  st0 : p0 ∈ P ∨ p0 ∈ T
  cl : ∀ q, q ∈ P → ∀ r, D q r → r ∈ nbs n q → g r = g p0 → r ∈ P ∨ r ∈ T
  ndS : ss.Nodup
  co : ∀ c, c ∈ ss ↔ ∃ q, q ∈ P ∧ ∃ r, D q r ∧ r ∈ nbs n q ∧ g r = some c

theorem MR.init {n : Nat} {g : Grd} {p : Pt} : MR n g p [] [p] [] (fun _ _ => True) :=
  ⟨List.nodup_nil, by simp, by simp, by simp, by simp; exact .refl, by simp, by simp, List.nodup_nil, by simp⟩
theorem MR.len {n : Nat} {g : Grd} {p0 : Pt} {P T : List Pt} {ss : List Str} {D : Pt → Pt → Prop} (h : MR n g p0 P T ss D) (hn : n ≤ 7) (hp : On n p0) : P.length ≤ 49 ∧ T.length ≤ 49 := by
  have h1 := on_length h.ndP fun q hq => (h.cP q hq).on hp
  have h2 := on_length h.ndT fun q hq => (h.cT q hq).on hp
  have : n * n ≤ 7 * 7 := Nat.mul_le_mul hn hn
  omega
theorem MR.pop {n : Nat} {g : Grd} {p0 t : Pt} {P T : List Pt} {ss : List Str} (h : MR n g p0 P T ss (fun _ _ => True)) (ht : t ∈ T) : MR n g p0 (t :: P) (T.erase t) ss (tk t 0) := by
  have htP := h.dis t ht
  refine ⟨List.nodup_cons.mpr ⟨htP, h.ndP⟩, h.ndT.erase _, fun q hq => ?_, fun q hq => ?_, fun q hq => h.cT q (List.mem_of_mem_erase hq), ?_, fun q hq r hD hr hc => ?_, h.ndS, fun c => (h.co c).trans ?_⟩
  · have := (h.ndT.mem_erase_iff).mp hq
    simp only [List.mem_cons, not_or]; exact ⟨this.1, h.dis q this.2⟩
  · rcases List.mem_cons.mp hq with rfl | hq
    · exact h.cT _ ht
    · exact h.cP q hq
  · rcases h.st0 with q | q
    · exact .inl (List.mem_cons_of_mem _ q)
    · by_cases e : p0 = t
      · exact .inl (by rw [e]; exact List.mem_cons_self)
      · exact .inr ((h.ndT.mem_erase_iff).mpr ⟨e, q⟩)
  · by_cases e : q = t
    · have := hD e; simp at this
    · have hq' : q ∈ P := by rcases List.mem_cons.mp hq with z | z; exact (e z).elim; exact z
      rcases h.cl q hq' r trivial hr hc with z | z
      · exact .inl (List.mem_cons_of_mem _ z)
      · by_cases e' : r = t
        · exact .inl (by rw [e']; exact List.mem_cons_self)
        · exact .inr ((h.ndT.mem_erase_iff).mpr ⟨e', z⟩)
  · constructor
    · rintro ⟨q, hq, r, _, hr, hg⟩
      exact ⟨q, List.mem_cons_of_mem _ hq, r, fun e => (htP (e ▸ hq)).elim, hr, hg⟩
    · rintro ⟨q, hq, r, hD, hr, hg⟩
      by_cases e : q = t
      · have := hD e; simp at this
      · have hq' : q ∈ P := by rcases List.mem_cons.mp hq with z | z; exact (e z).elim; exact z
        exact ⟨q, hq', r, trivial, hr, hg⟩
theorem tk_mono {t r : Pt} {i : Nat} (hr : (nb4 t)[i]? = some r) {q s : Pt} (h : tk t i q s) : tk t (i + 1) q s := (tk_succ hr).mpr (.inl h)
theorem MR.skip {n : Nat} {g : Grd} {p0 t r : Pt} {i : Nat} {P T : List Pt} {ss : List Str} (h : MR n g p0 P T ss (tk t i)) (hr : (nb4 t)[i]? = some r) (hs : ¬ On n r) : MR n g p0 P T ss (tk t (i + 1)) := by
  refine ⟨h.ndP, h.ndT, h.dis, h.cP, h.cT, h.st0, fun q hq s hD hs' hc => ?_, h.ndS, fun c => (h.co c).trans ⟨?_, ?_⟩⟩
  · rcases (tk_succ hr).mp hD with z | ⟨rfl, rfl⟩
    · exact h.cl q hq s z hs' hc
    · exact (hs (mem_nbs.mp hs').2).elim
  · rintro ⟨q, hq, s, hD, a, b⟩; exact ⟨q, hq, s, tk_mono hr hD, a, b⟩
  · rintro ⟨q, hq, s, hD, a, b⟩
    rcases (tk_succ hr).mp hD with z | ⟨rfl, rfl⟩
    · exact ⟨q, hq, s, z, a, b⟩
    · exact (hs (mem_nbs.mp a).2).elim
theorem MR.col {n : Nat} {g : Grd} {p0 t r : Pt} {i : Nat} {P T : List Pt} {ss : List Str} {c : Str} (h : MR n g p0 P T ss (tk t i)) (hr : (nb4 t)[i]? = some r) (ht : t ∈ P) (ho : On n r) (hg : g r = some c) (h0 : g p0 = none) : MR n g p0 P T (if c ∈ ss then ss else c :: ss) (tk t (i + 1)) := by
  have hm : ∀ x, x ∈ (if c ∈ ss then ss else c :: ss) ↔ x = c ∨ x ∈ ss := by
    intro x; split
    · rename_i z; exact ⟨.inr, fun y => by rcases y with rfl | y; exact z; exact y⟩
    · simp
  refine ⟨h.ndP, h.ndT, h.dis, h.cP, h.cT, h.st0, fun q hq s hD hs' hc => ?_, ?_, fun d => (hm d).trans ⟨?_, ?_⟩⟩
  · rcases (tk_succ hr).mp hD with z | ⟨rfl, rfl⟩
    · exact h.cl q hq s z hs' hc
    · rw [hg, h0] at hc; cases hc
  · split
    · exact h.ndS
    · rename_i z; exact List.nodup_cons.mpr ⟨z, h.ndS⟩
  · rintro (rfl | z)
    · exact ⟨t, ht, r, (tk_succ hr).mpr (.inr ⟨rfl, rfl⟩), mem_nbs.mpr ⟨List.mem_of_getElem? hr, ho⟩, hg⟩
    · obtain ⟨q, hq, s, hD, a, b⟩ := (h.co d).mp z
      exact ⟨q, hq, s, tk_mono hr hD, a, b⟩
  · rintro ⟨q, hq, s, hD, a, b⟩
    rcases (tk_succ hr).mp hD with z | ⟨rfl, rfl⟩
    · exact .inr ((h.co d).mpr ⟨q, hq, s, z, a, b⟩)
    · rw [hg] at b; cases b; exact .inl rfl
theorem MR.seen {n : Nat} {g : Grd} {p0 t r : Pt} {i : Nat} {P T : List Pt} {ss : List Str} (h : MR n g p0 P T ss (tk t i)) (hr : (nb4 t)[i]? = some r) (hg : g r = none) (hP : r ∈ P) : MR n g p0 P T ss (tk t (i + 1)) := by
  refine ⟨h.ndP, h.ndT, h.dis, h.cP, h.cT, h.st0, fun q hq s hD hs' hc => ?_, h.ndS, fun c => (h.co c).trans ⟨?_, ?_⟩⟩
  · rcases (tk_succ hr).mp hD with z | ⟨rfl, rfl⟩
    · exact h.cl q hq s z hs' hc
    · exact .inl hP
  · rintro ⟨q, hq, s, hD, a, b⟩; exact ⟨q, hq, s, tk_mono hr hD, a, b⟩
  · rintro ⟨q, hq, s, hD, a, b⟩
    rcases (tk_succ hr).mp hD with z | ⟨rfl, rfl⟩
    · exact ⟨q, hq, s, z, a, b⟩
    · rw [hg] at b; cases b
theorem MR.more {n : Nat} {g : Grd} {p0 t r : Pt} {i : Nat} {P T : List Pt} {ss : List Str} (h : MR n g p0 P T ss (tk t i)) (hr : (nb4 t)[i]? = some r) (ht : t ∈ P) (ho : On n r) (hg : g r = none) (h0 : g p0 = none) (hP : r ∉ P) :
    MR n g p0 P (if r ∈ T then T else r :: T) ss (tk t (i + 1)) := by
  have hc : Conn n g p0 r := .step (h.cP t ht) (mem_nbs.mpr ⟨List.mem_of_getElem? hr, ho⟩) (hg.trans h0.symm)
  have hm : ∀ x, x ∈ (if r ∈ T then T else r :: T) ↔ x = r ∨ x ∈ T := by
    intro x; split
    · rename_i z; exact ⟨.inr, fun y => by rcases y with rfl | y; exact z; exact y⟩
    · simp
  refine ⟨h.ndP, ?_, fun q hq => ?_, h.cP, fun q hq => ?_, h.st0.imp id fun z => (hm _).mpr (.inr z), fun q hq s hD hs' hc' => ?_, h.ndS, fun c => (h.co c).trans ⟨?_, ?_⟩⟩
  · split
    · exact h.ndT
    · rename_i z; exact List.nodup_cons.mpr ⟨z, h.ndT⟩
  · rcases (hm q).mp hq with rfl | z; exact hP; exact h.dis q z
  · rcases (hm q).mp hq with rfl | z; exact hc; exact h.cT q z
  · rcases (tk_succ hr).mp hD with z | ⟨rfl, rfl⟩
    · exact (h.cl q hq s z hs' hc').imp id fun z => (hm _).mpr (.inr z)
    · exact .inr ((hm _).mpr (.inl rfl))
  · rintro ⟨q, hq, s, hD, a, b⟩; exact ⟨q, hq, s, tk_mono hr hD, a, b⟩
  · rintro ⟨q, hq, s, hD, a, b⟩
    rcases (tk_succ hr).mp hD with z | ⟨rfl, rfl⟩
    · exact ⟨q, hq, s, z, a, b⟩
    · rw [hg] at b; cases b
theorem MR.all {n : Nat} {g : Grd} {p0 t : Pt} {P T : List Pt} {ss : List Str} (h : MR n g p0 P T ss (tk t 4)) : MR n g p0 P T ss (fun _ _ => True) := by
  have full : ∀ q r, r ∈ nbs n q → tk t 4 q r := fun q r hr e => by subst e; simpa [nb4] using (mem_nbs.mp hr).1
  exact ⟨h.ndP, h.ndT, h.dis, h.cP, h.cT, h.st0, fun q hq r _ hr hc => h.cl q hq r (full q r hr) hr hc, h.ndS, fun c => (h.co c).trans ⟨fun ⟨q, a, r, b, d, e⟩ => ⟨q, a, r, trivial, d, e⟩, fun ⟨q, a, r, b, d, e⟩ => ⟨q, a, r, full q r d, d, e⟩⟩⟩
theorem MR.last {n : Nat} {g : Grd} {p0 : Pt} {P : List Pt} {ss : List Str} (h : MR n g p0 P [] ss (fun _ _ => True)) :
    P.Nodup ∧ (∀ q, q ∈ P ↔ Conn n g p0 q) ∧ ∀ c, c ∈ ss ↔ ∃ q, Conn n g p0 q ∧ ∃ r, r ∈ nbs n q ∧ g r = some c := by
  have hc : ∀ q, q ∈ P ↔ Conn n g p0 q := fun q => ⟨h.cP q, fun c => by
    induction c with
    | refl => rcases h.st0 with z | z; exact z; simp at z
    | step a b c ih => rcases h.cl _ ih _ trivial b c with z | z; exact z; simp at z⟩
  exact ⟨h.ndP, hc, fun c => (h.co c).trans ⟨fun ⟨q, a, r, _, b, d⟩ => ⟨q, (hc q).mp a, r, b, d⟩, fun ⟨q, a, r, b, d⟩ => ⟨q, (hc q).mpr a, r, trivial, b, d⟩⟩⟩

/-- the points that a colour reaches -/
inductive Area (n : Nat) (g : Grd) (c : Str) : Pt → Prop
  | stone {p : Pt} : g p = some c → Area n g c p
  | free {p q : Pt} : g p = none → q ∈ nbs n p → Area n g c q → Area n g c p
theorem Area.cases' {n : Nat} {g : Grd} {c : Str} {p : Pt} (h : Area n g c p) : g p = some c ∨ g p = none := by cases h with | stone h => exact .inl h | free h _ _ => exact .inr h
theorem area_free {n : Nat} {g : Grd} {c : Str} {p : Pt} (h0 : g p = none) (hp : On n p) : Area n g c p ↔ ∃ q, Conn n g p q ∧ ∃ r, r ∈ nbs n q ∧ g r = some c := by
  constructor
  · intro h
    induction h with
    | stone h => rw [h] at h0; cases h0
    | @free p q a b d ih =>
      rcases d.cases' with e | e
      · exact ⟨p, .refl, q, b, e⟩
      · obtain ⟨x, x1, x2⟩ := ih e (mem_nbs.mp b).2
        exact ⟨x, Conn.trans (.step .refl b (e.trans a.symm)) x1, x2⟩
  · rintro ⟨q, hq, r, hr, hc⟩
    have : ∀ {q}, Conn n g p q → Area n g c q → Area n g c p := by
      intro q h
      induction h with
      | refl => exact id
      | @step q r a b d ih => intro ha; exact ih (.free (by rw [a.color]; exact h0) b ha)
    exact this hq (.free (by rw [hq.color]; exact h0) hr (.stone hc))

open Classical in
noncomputable def cnt (L : List Pt) (p : Pt → Prop) : Nat := (L.filter fun x => decide (p x)).length
theorem cnt_nil {p : Pt → Prop} : cnt [] p = 0 := rfl
theorem cnt_append {L M : List Pt} {p : Pt → Prop} : cnt (L ++ M) p = cnt L p + cnt M p := by simp [cnt]
theorem cnt_all {L : List Pt} {p : Pt → Prop} (h : ∀ x, x ∈ L → p x) : cnt L p = L.length := by
  rw [cnt, List.filter_eq_self.mpr]; intro x hx; simpa using h x hx
theorem cnt_none {L : List Pt} {p : Pt → Prop} (h : ∀ x, x ∈ L → ¬ p x) : cnt L p = 0 := by
  rw [cnt, List.filter_eq_nil_iff.mpr]; rfl; intro x hx; simpa using h x hx
open Classical in
theorem cnt_eq {L M : List Pt} {p q : Pt → Prop} (hL : L.Nodup) (hM : M.Nodup) (h : ∀ x, (x ∈ L ∧ p x) ↔ (x ∈ M ∧ q x)) : cnt L p = cnt M q := by
  unfold cnt
  refine Nat.le_antisymm (nodup_le _ _ (hL.filter _) fun x hx => ?_) (nodup_le _ _ (hM.filter _) fun x hx => ?_)
  · rw [List.mem_filter] at hx ⊢; have := (h x).mp ⟨hx.1, of_decide_eq_true hx.2⟩; exact ⟨this.1, decide_eq_true this.2⟩
  · rw [List.mem_filter] at hx ⊢; have := (h x).mpr ⟨hx.1, of_decide_eq_true hx.2⟩; exact ⟨this.1, decide_eq_true this.2⟩
theorem cnt_le {L : List Pt} {p : Pt → Prop} : cnt L p ≤ L.length := List.length_filter_le _ _
end Go

end
section
set_option autoImplicit false
set_option linter.unusedVariables false
set_option linter.unusedSimpArgs false
set_option Elab.async false
namespace Go
open PySem PySem.W PyProof.Rows
theorem dset_sd {G : Gl} {k : Nat} {fl : Bool} {env : Env} {A : Around} {C : Cm} {Z : Zs} {m : Loc} {H : Hp} {s : Shared} (I : Inv G k fl env A C Z m H s) {d : Addr} {fs : List (Str × LV)} {x : Str} {t : Tok} {lv : LV} {v : Value} (hH : H d = some (.sdict fs)) (z : fs.length < 100) (hv : VR C lv v) {E : Value → Shared → Prop} {Q : Unit → Shared → Prop}
    (hQ : ∀ s', Inv G k fl env A C Z m (hset H d (.sdict (aput fs x lv))) s' → Q () s') : wpAny G.M A (dictSet d (.str x t) v) Q E s := by
  obtain ⟨kvs, D, sv, nd⟩ := I.sdict hH
  have nd2 : (kvs.map (·.1)).Nodup := by rw [sv.keys]; exact nd
  have hl : kvs.length = fs.length := by have := congrArg List.length sv.keys; simpa using this
  refine wpAny_dictSet_pairs (knd := sk G) (k := x) (isStr_sk x t) D (fun h' q1 q2 => ?_) (by rw [hl]; unfold sizeLine; omega)
  obtain ⟨ob, g1, g2⟩ := sdict_of (C := C) q1 (sv.put hv nd2) (aput_keys nd).1
  exact hQ _ (I.upd (tk := s.toks + 1) hH q2 g1 g2)
/-- {'b': i, 'w': j} -/
theorem EV_Dict2 {G : Gl} {k : Nat} {fl : Bool} {sc : Scope} {m : Loc} {H : Hp} {Q : Qv} {X : Xc} {x y : Str} {i j : Int} {k1 k2 k3 k4 : Nat} {p1 p2 p3 p4 pos : Pos} (h : ∀ d, H d = none → Q (.ref d) (hset H d (.sdict (aput [(x, .int i)] y (.int j))))) :
    EV G k fl sc (.Dict [some (.Constant (.str x) k1 p1), some (.Constant (.str y) k2 p2)] [.Constant (.int i) k3 p3, .Constant (.int j) k4 p4] pos) m H Q X := fun env A C Z s hs I => by
  refine wpAny_Dict_any rfl rfl (by simp) (by simp) ?_
  have hn := Heap.get?_none_of_le (h := s.heap) (Nat.le_refl s.heap.objs.size)
  obtain ⟨f1, J⟩ := I.allocH (tk := s.toks) (h' := s.heap.push { cls := .type "dict", data := .dict #[] }) (o := .sdict []) hn (fun b o e => Heap.get?_push_of_some _ e) (Heap.get?_push_size _ rfl) ⟨rfl, rfl, rfl, List.nodup_nil, [], 0, rfl, rfl⟩
  unfold pairTrees pairTrees pairTrees
  unfold evalPairs
  refine wpAny_bind (wpAny_mkText ?_)
  refine wpAny_bind (wpAny_holding (wpAny_bind (wpAny_mkInt (wpAny_bind (wpAny_standAt (wpAny_pure ?_))))))
  refine wpAny_bind (wpAny_holding ?_)
  unfold evalPairs
  refine wpAny_bind (wpAny_mkText ?_)
  refine wpAny_bind (wpAny_holding (wpAny_bind (wpAny_mkInt (wpAny_bind (wpAny_standAt (wpAny_pure ?_))))))
  refine wpAny_bind (wpAny_holding ?_)
  unfold evalPairs
  refine wpAny_pure (wpAny_pure (wpAny_pure ?_))
  simp only [storeAll, List.forIn_cons, List.forIn_nil]
  have J4 := J.toks (tk := s.toks + 1 + 1 + 1 + 1)
  refine wpAny_bind (wpAny_bind (dset_sd (x := x) (lv := .int i) J4 (hset_same _ _ _) (by simp) ⟨_, rfl⟩ fun s1 I1 => wpAny_pure ?_))
  dsimp only
  refine wpAny_bind (wpAny_bind (dset_sd (x := y) (lv := .int j) I1 (hset_same _ _ _) (by simp [aput]) ⟨_, rfl⟩ fun s2 I2 => wpAny_pure ?_))
  refine wpAny_pure ?_
  rw [hset_hset, hset_hset] at I2
  exact ⟨C, .ref _, _, Cle.refl C, I2, rfl, h _ f1⟩
end Go

end
section
set_option autoImplicit false
set_option linter.unusedVariables false
set_option linter.unusedSimpArgs false
set_option Elab.async false
namespace Go
open PySem

/-- the score reckoned so far -/
structure AR7 (n : Nat) (g : Grd) (L hs : List Pt) (N : Str → Nat) : Prop where
  nd : hs.Nodup
  mh : ∀ q, q ∈ hs ↔ ∃ p, p ∈ L ∧ On n p ∧ g p = none ∧ Conn n g p q
  sc : ∀ c, N c = cnt L (fun p => g p = some c) + cnt hs (fun q => Area n g c q)
theorem cnt_one {p : Pt} {P : Pt → Prop} (h : P p) : cnt [p] P = 1 := cnt_all (by simpa using h)
theorem cnt_zero {p : Pt} {P : Pt → Prop} (h : ¬ P p) : cnt [p] P = 0 := cnt_none (by simpa using h)
theorem AR7.init {n : Nat} {g : Grd} : AR7 n g [] [] (fun _ => 0) := ⟨List.nodup_nil, by simp, fun c => rfl⟩
theorem AR7.stone {n : Nat} {g : Grd} {L hs : List Pt} {N : Str → Nat} {p : Pt} {c : Str} (h : AR7 n g L hs N) (hg : g p = some c) : AR7 n g (L ++ [p]) hs (fun d => if d = c then N c + 1 else N d) := by
  refine ⟨h.nd, fun q => (h.mh q).trans ⟨?_, ?_⟩, fun d => ?_⟩
  · rintro ⟨p', a, b⟩; exact ⟨p', List.mem_append_left _ a, b⟩
  · rintro ⟨p', a, b, e, f⟩
    rcases List.mem_append.mp a with z | z
    · exact ⟨p', z, b, e, f⟩
    · rw [List.mem_singleton] at z; subst z; rw [hg] at e; cases e
  · rw [cnt_append]
    by_cases e : d = c
    · subst e; rw [if_pos rfl, h.sc, cnt_one hg]; omega
    · rw [if_neg e, h.sc d, cnt_zero (fun z => by rw [hg] at z; cases z; exact e rfl)]; rfl
theorem AR7.skip {n : Nat} {g : Grd} {L hs : List Pt} {N : Str → Nat} {p : Pt} (h : AR7 n g L hs N) (hg : g p = none) (hp : On n p) (hin : p ∈ hs) : AR7 n g (L ++ [p]) hs N := by
  refine ⟨h.nd, fun q => (h.mh q).trans ⟨?_, ?_⟩, fun d => ?_⟩
  · rintro ⟨p', a, b⟩; exact ⟨p', List.mem_append_left _ a, b⟩
  · rintro ⟨p', a, b, e, f⟩
    rcases List.mem_append.mp a with z | z
    · exact ⟨p', z, b, e, f⟩
    · rw [List.mem_singleton] at z; subst z
      obtain ⟨x, x1, x2, x3, x4⟩ := (h.mh p').mp hin
      exact ⟨x, x1, x2, x3, x4.trans f⟩
  · rw [cnt_append, h.sc d, cnt_zero (fun z => by rw [hg] at z; cases z)]; rfl
theorem AR7.new_dis {n : Nat} {g : Grd} {L hs : List Pt} {N : Str → Nat} {p : Pt} (h : AR7 n g L hs N) (hp : On n p) (hn : p ∉ hs) {q : Pt} (hc : Conn n g p q) : q ∉ hs := by
  intro hq
  obtain ⟨p', h1, h2, h3, h4⟩ := (h.mh q).mp hq
  exact hn ((h.mh p).mpr ⟨p', h1, h2, h3, h4.trans (hc.symm hp)⟩)
theorem AR7.region {n : Nat} {g : Grd} {L hs hs' P : List Pt} {N : Str → Nat} {p : Pt} {ss : List Str} (h : AR7 n g L hs N) (hg : g p = none) (hp : On n p) (hin : p ∉ hs) (ndP : P.Nodup) (hP : ∀ q, q ∈ P ↔ Conn n g p q) (hss : ∀ c, c ∈ ss ↔ ∃ q, Conn n g p q ∧ ∃ r, r ∈ nbs n q ∧ g r = some c)
    (nd : hs'.Nodup) (hm : ∀ q, q ∈ hs' ↔ q ∈ hs ∨ q ∈ P) : AR7 n g (L ++ [p]) hs' (fun c => if c ∈ ss then N c + P.length else N c) := by
  refine ⟨nd, fun q => ?_, fun d => ?_⟩
  · rw [hm, h.mh, hP]
    constructor
    · rintro (⟨p', h1, h2⟩ | z)
      · exact ⟨p', List.mem_append_left _ h1, h2⟩
      · exact ⟨p, by simp, hp, hg, z⟩
    · rintro ⟨p', h1, h2⟩
      rcases List.mem_append.mp h1 with z | z
      · exact .inl ⟨p', z, h2⟩
      · rw [List.mem_singleton] at z; subst z; exact .inr h2.2.2
  · have e1 : cnt hs' (fun q => Area n g d q) = cnt (hs ++ P) (fun q => Area n g d q) := cnt_eq nd (List.nodup_append.mpr ⟨h.nd, ndP, fun a ha b hb e => h.new_dis hp hin ((hP b).mp hb) (e ▸ ha)⟩) fun x => by rw [hm, List.mem_append]
    have hA : ∀ q, q ∈ P → (Area n g d q ↔ d ∈ ss) := fun q hq => by
      have hc := (hP q).mp hq
      rw [area_free (by rw [hc.color]; exact hg) (hc.on hp), hss]
      constructor
      · rintro ⟨x, x1, x2⟩; exact ⟨x, hc.trans x1, x2⟩
      · rintro ⟨x, x1, x2⟩; exact ⟨x, (hc.symm hp).trans x1, x2⟩
    rw [e1, cnt_append, cnt_append, h.sc d, cnt_zero (fun z => by rw [hg] at z; cases z)]
    by_cases e : d ∈ ss
    · rw [if_pos e, cnt_all (L := P) fun q hq => (hA q hq).mpr e]; omega
    · rw [if_neg e, cnt_none (L := P) fun q hq z => e ((hA q hq).mp z)]; rfl
theorem AR7.done {n : Nat} {g : Grd} {hs : List Pt} {N : Str → Nat} (h : AR7 n g (pts n) hs N) (c : Str) : N c = cnt (pts n) (fun p => Area n g c p) := by
  classical
  rw [h.sc c]
  have e1 : cnt (pts n) (fun p => g p = some c) = cnt ((pts n).filter fun p => decide (g p = some c)) (fun p => Area n g c p) := by
    refine cnt_eq pts_nodup (pts_nodup.filter _) fun x => ?_
    rw [List.mem_filter, decide_eq_true_eq]
    exact ⟨fun ⟨a, b⟩ => ⟨⟨a, b⟩, .stone b⟩, fun ⟨a, _⟩ => a⟩
  rw [e1, ← cnt_append]
  refine cnt_eq (List.nodup_append.mpr ⟨pts_nodup.filter _, h.nd, fun a ha b hb e => ?_⟩) pts_nodup fun x => ?_
  · subst e
    rw [List.mem_filter, decide_eq_true_eq] at ha
    obtain ⟨p, _, _, h3, h4⟩ := (h.mh a).mp hb
    rw [h4.color, h3] at ha; cases ha.2
  · rw [List.mem_append, List.mem_filter, decide_eq_true_eq]
    constructor
    · rintro ⟨z | z, a⟩
      · exact ⟨z.1, a⟩
      · obtain ⟨p, _, h2, _, h4⟩ := (h.mh x).mp z
        exact ⟨mem_pts.mpr (h4.on h2), a⟩
    · rintro ⟨a, b⟩
      refine ⟨?_, b⟩
      rcases b.cases' with z | z
      · exact .inl ⟨a, z⟩
      · exact .inr ((h.mh x).mpr ⟨x, a, mem_pts.mp a, z, .refl⟩)
theorem AR7.le {n : Nat} {g : Grd} {L hs : List Pt} {N : Str → Nat} (h : AR7 n g L hs N) (hn : n ≤ 7) : hs.length ≤ 49 := by
  have := on_length h.nd fun q hq => by obtain ⟨p, _, h2, _, h4⟩ := (h.mh q).mp hq; exact h4.on h2
  have : n * n ≤ 7 * 7 := Nat.mul_le_mul hn hn
  omega
end Go

end
section
set_option autoImplicit false
set_option linter.unusedVariables false
set_option linter.unusedSimpArgs false
set_option Elab.async false
namespace Go
open PySem
/-- a list that grows while it is walked: what has been looked at is in it -/
def GD (n : Nat) (ok : Pt → Pt → Prop) (L : List Pt) (i t : Nat) : Prop :=
  ∀ j p r, L[j]? = some p → ((j < i ∧ r ∈ nbs n p) ∨ (j = i ∧ r ∈ (nbs n p).take t)) → ok p r → r ∈ L
section
variable {n : Nat} {ok : Pt → Pt → Prop} {L : List Pt} {i t : Nat} {p r : Pt}
theorem GD.start : GD n ok L 0 0 := fun j p r _ h _ => by rcases h with ⟨h, _⟩ | ⟨_, h⟩; omega; simp at h
theorem GD.keep (h : GD n ok L i t) (hp : L[i]? = some p) (hr : (nbs n p)[t]? = some r) (hk : ok p r → r ∈ L) : GD n ok L i (t + 1) := by
  intro j q s hj hs ho
  rcases hs with ⟨a, b⟩ | ⟨rfl, b⟩
  · exact h j q s hj (.inl ⟨a, b⟩) ho
  · rw [hp] at hj; cases hj
    rw [List.take_add_one, hr] at b
    rcases List.mem_append.mp b with z | z
    · exact h _ _ s hp (.inr ⟨rfl, z⟩) ho
    · simp at z; subst z; exact hk ho
theorem GD.add (h : GD n ok L i t) (hp : L[i]? = some p) (hr : (nbs n p)[t]? = some r) : GD n ok (L ++ [r]) i (t + 1) := by
  intro j q s hj hs ho
  have hi := (List.getElem?_eq_some_iff.mp hp).1
  have hj' : L[j]? = some q := by
    rcases hs with ⟨a, _⟩ | ⟨a, _⟩
    · rw [List.getElem?_append_left (by omega)] at hj; exact hj
    · rw [List.getElem?_append_left (by omega)] at hj; exact hj
  rcases hs with ⟨a, b⟩ | ⟨rfl, b⟩
  · exact List.mem_append_left _ (h j q s hj' (.inl ⟨a, b⟩) ho)
  · rw [hp] at hj'; cases hj'
    rw [List.take_add_one, hr] at b
    rcases List.mem_append.mp b with z | z
    · exact List.mem_append_left _ (h _ _ s hp (.inr ⟨rfl, z⟩) ho)
    · simp at z; subst z; simp
theorem GD.next (h : GD n ok L i t) (hp : L[i]? = some p) (ht : (nbs n p).length ≤ t) : GD n ok L (i + 1) 0 := by
  intro j q s hj hs ho
  rcases hs with ⟨a, b⟩ | ⟨_, b⟩
  · by_cases e : j = i
    · subst e; rw [hp] at hj; cases hj
      exact h _ _ s hp (.inr ⟨rfl, by rw [List.take_of_length_le ht]; exact b⟩) ho
    · exact h j q s hj (.inl ⟨by omega, b⟩) ho
  · simp at b
theorem GD.done (h : GD n ok L i 0) (hi : L.length ≤ i) : ∀ p, p ∈ L → ∀ r, r ∈ nbs n p → ok p r → r ∈ L := by
  intro p hp r hr ho
  obtain ⟨j, hj⟩ := List.getElem?_of_mem hp
  exact h j p r hj (.inl ⟨by have := (List.getElem?_eq_some_iff.mp hj).1; omega, hr⟩) ho
end
theorem alive_complete {n : Nat} {g : Grd} {L : List Pt} (h0 : ∀ p, g p ≠ none → (∃ r, r ∈ nbs n p ∧ g r = none) → p ∈ L) (hon : ∀ p, g p ≠ none → On n p)
    (hs : ∀ p, p ∈ L → ∀ r, r ∈ nbs n p → g r = g p → r ∈ L) {p : Pt} (ha : Alive n g p) : p ∈ L := by
  induction ha with
  | @lib p q a b c => exact h0 p a ⟨q, b, c⟩
  | @step p q a b c d ih => exact hs q ih p (nbs_symm (hon p a) b) c.symm
theorem area_complete {n : Nat} {g : Grd} {c : Str} {L : List Pt} (h0 : ∀ p, g p = some c → p ∈ L) 
    (hs : ∀ p, p ∈ L → ∀ r, r ∈ nbs n p → g r = none → r ∈ L) {p : Pt} (hp : On n p) (ha : Area n g c p) : p ∈ L := by
  induction ha with
  | stone h => exact h0 _ h
  | @free p q a b d ih => exact hs q (ih (mem_nbs.mp b).2) p (nbs_symm hp b) a
end Go

end
section
set_option autoImplicit false
set_option linter.unusedVariables false
set_option linter.unusedSimpArgs false
set_option Elab.async false
namespace Go
open PySem PySem.W PyProof.Rows
theorem eraseIdx_map' {α β : Type} (f : α → β) : ∀ (l : List α) (i : Nat), (l.map f).eraseIdx i = (l.eraseIdx i).map f
  | [], _ => rfl
  | _ :: _, 0 => rfl
  | a :: t, i + 1 => by rw [List.map_cons, List.eraseIdx_cons_succ, List.eraseIdx_cons_succ, List.map_cons, eraseIdx_map' f t i]
section
variable {prog : Program} {w : World} {K : Type} [DecidableEq K] {knd : HeapKind prog w K} {A : Around} {E : Value → Shared → Prop} {s : Shared}
theorem takeOut_heap {d a : Addr} {xs : List (K × Addr × Value)} {k : K} {j : Nat} {p : Addr × Value} {Q : Option DictEntry → Shared → Prop} (hu : knd.room A) (hkey : knd.is s.heap k a) (hm : s.heap.DictOfH knd d xs) (hj : xs[j]? = some (k, p))
    (hsome : ∀ h', h'.DictOfH knd d (xs.eraseIdx j) → Heap.SameBut d s.heap h' → Q (some (entryOfKey knd (k, p))) { s with heap := h', toks := s.toks + knd.draws k })
    (hsz : xs.length ≤ sizeLine := by size_fits) : wpAny (model prog w) A (Builtin.Dict.takeOut d (.ref a)) Q E s := by
  obtain ⟨o, es, ep, ho, hc, hd, he, his, hn⟩ := hm
  have hes : es.size ≤ sizeLine := by have := size_of_entries he; omega
  unfold Builtin.Dict.takeOut
  try with_reducible refine wpAny_holding ?_
  refine wpAny_bind (knd.pyHash hu hkey ?_)
  refine wpAny_bind (wpAny_dictFind_heap (s := { s with toks := s.toks + knd.draws k }) hu hkey ho hd he his hn ?_ ?_)
  · intro hno; exact (hno j p hj).elim
  · intro j' p' hj'
    have ej : j' = j := idxH_unique hn hj' hj
    subst ej
    rw [hj] at hj'; cases hj'
    refine wpAny_bind (wpAny_dictEntries (s := { s with toks := s.toks + knd.draws k }) ho hd ?_)
    rw [entry_at he j', hj]
    refine wpAny_bind (wpAny_updateDictKeys (hz := hes) (s := { s with toks := s.toks + knd.draws k }) ho hd (wpAny_pure (hsome _ ⟨_, _, ep + 1, Heap.get?_update_self _ ho (Obj.isFreed_of_dict (Obj.data_mapDictKeys hd _)),
      hc.mapDictKeys _, Obj.data_mapDictKeys hd _, ?_, ?_, ?_⟩ (Heap.SameBut.update ..))))
    · obtain ⟨l⟩ := es
      have he' : l = xs.map (entryOfKey knd) := he
      subst he'
      simp only [List.eraseIdxIfInBounds_toArray]; exact eraseIdx_map' _ _ _
    · intro x hx
      exact knd.keeps (his x (List.mem_of_mem_eraseIdx hx)) ho hd (Heap.SameBut.update ..)
    · exact hn.sublist ((List.eraseIdx_sublist xs j').map _)
theorem meetsH_dict_pop {d a : Addr} :
    MeetsIn prog w (Builtin.«dict.pop» ⟨[.ref d, .ref a], []⟩) (fun A R s => knd.room A.in1 ∧ ∃ k xs j p, knd.is s.heap k a ∧ s.heap.DictOfH knd d xs ∧ xs.length ≤ sizeLine ∧ xs[j]? = some (k, p) ∧
      ∀ h', h'.DictOfH knd d (xs.eraseIdx j) → Heap.SameBut d s.heap h' → R (.ok (.ret p.2)) { s with heap := h', toks := s.toks + knd.draws k }) :=
  .of_wp fun A R s ⟨hu, k, xs, j, p, hkey, hm, hsz, hj, h⟩ => by
    unfold Builtin.«dict.pop»
    refine wpAny_bind ?_
    unfold Builtin.Dict.keyAndDefault
    refine wpAny_bind (wpAny_notOrdered_dict hm.typeIs ?_)
    show wpAny _ _ (pure (d, Value.ref a, none)) _ _ s
    refine wpAny_pure ?_
    have hp : (keyPart (.ref a)).isSome = false := rfl
    simp only [hp, Bool.false_eq_true, if_false]
    obtain ⟨o, es, ep, ho, hc, hd, he, his, hn⟩ := id hm
    have hne : es.isEmpty = false := by
      have h1 := size_of_entries (knd := knd) (xs := xs) he
      have h2 := (List.getElem?_eq_some_iff.mp hj).1
      simp only [Array.isEmpty, decide_eq_false_iff_not]; omega
    refine wpAny_bind (wpAny_dictEntries ho hd (wpAny_bind (wpAny_pure ?_)))
    simp only [hne, Bool.false_eq_true, if_false]
    refine wpAny_bind (takeOut_heap hu hkey hm hj (hsz := hsz) fun h' hm' hs' => ?_)
    simp only [Option.isNone_some, Bool.false_eq_true, if_false]
    exact wpAny_bind (wpAny_letGo (wpAny_pure ⟨p.2, rfl, h h' hm' hs'⟩))
end
theorem XsR.erase {C : Cm} : ∀ {fs : List ((Int × Int) × LV)} {xs : List (List Int × Addr × Value)} (j : Nat), XsR C fs xs → XsR C (fs.eraseIdx j) (xs.eraseIdx j)
  | [], xs, _, h => by cases h; simp [XsR]
  | (p, l) :: fs, _, 0, ⟨a, v, r, e, _, _, h⟩ => by subst e; exact h
  | (p, l) :: fs, _, j + 1, ⟨a, v, r, e, h1, h2, h⟩ => by subst e; exact ⟨a, v, r.eraseIdx j, rfl, h1, h2, XsR.erase j h⟩
theorem erase_filter {fs : List ((Int × Int) × LV)} {p : Int × Int} {l : LV} : ∀ {j : Nat}, (fs.map (·.1)).Nodup → fs[j]? = some (p, l) → fs.eraseIdx j = fs.filter fun f => !decide (f.1 = p) := by
  induction fs with
  | nil => intro j _ h; simp at h
  | cons f r ih =>
    intro j nd h
    obtain ⟨n1, n2⟩ := List.nodup_cons.mp nd
    cases j with
    | zero =>
      simp at h; subst h
      rw [List.eraseIdx_cons_zero, List.filter_cons]
      simp only [decide_true, Bool.not_true, Bool.false_eq_true, if_false]
      symm; rw [List.filter_eq_self]
      intro g hg
      have : g.1 ≠ p := fun e => n1 (List.mem_map.mpr ⟨g, hg, e⟩)
      simp [this]
    | succ j =>
      simp at h
      have hf : f.1 ≠ p := fun e => n1 (List.mem_map.mpr ⟨_, List.mem_of_getElem? h, e.symm⟩)
      rw [List.eraseIdx_cons_succ, List.filter_cons, ih n2 h]
      simp [hf]
theorem XsR.at2 {C : Cm} {p : Int × Int} {l : LV} : ∀ {fs : List ((Int × Int) × LV)} {xs : List (List Int × Addr × Value)} {j : Nat}, XsR C fs xs → fs[j]? = some (p, l) → ∃ a w, xs[j]? = some (kk p, a, w) ∧ VR C l w
  | [], _, _, _, hj => by simp at hj
  | (q, m) :: fs, _, 0, ⟨a, v, r, e, _, h2, h⟩, hj => by subst e; simp at hj; obtain ⟨rfl, rfl⟩ := hj; exact ⟨a, v, rfl, h2⟩
  | (q, m) :: fs, _, j + 1, ⟨a, v, r, e, _, _, h⟩, hj => by subst e; simp at hj; simpa using XsR.at2 h hj
theorem CALL_dpop {G : Gl} {k : Nat} {H : Hp} {Q : Qv} {X : Xc} {d : Addr} {fs : List ((Int × Int) × LV)} {ep j : Nat} {p : Int × Int} {l : LV} (hH : H d = some (.pdict fs ep)) (hj : fs[j]? = some (p, l)) (h : ∀ ep', Q l (hset H d (.pdict (fs.filter fun f => !decide (f.1 = p)) ep'))) : CALL G k (.builtin "dict.pop") [.ref d, pv p] H Q X := fun fl env A C Z m s vals I hv => by
  obtain ⟨va, r, rfl, e1, h2⟩ := hv
  obtain ⟨vb, r2, rfl, e2, h3⟩ := h2
  cases h3; cases e1
  obtain ⟨xs, D, x, z, nd, _⟩ := I.pdict hH
  obtain ⟨a, rfl, ht⟩ := I.pkey e2
  obtain ⟨a', w, hx, hw⟩ := x.at2 hj
  have hsz := x.length
  refine call_meetsIn PySem.F.slot_dict_pop D.typeIs PySem.F.entry_dict_pop (PySem.F.args_dict_pop_2 _ _) meetsH_dict_pop ⟨room2 I, kk p, xs, j, (a', w), ht, D, by unfold sizeLine; omega, hx, fun h' q1 q2 => ?_⟩
  have hl := (List.eraseIdx_sublist fs j).length_le
  obtain ⟨ep', J⟩ := I.pdict_back (tk := s.toks + (tk2 G).draws (kk p)) hH q2 q1 (x.erase j) (nd.sublist ((List.eraseIdx_sublist fs j).map _)) (by omega)
  rw [erase_filter nd hj] at J
  exact ⟨C, l, _, Cle.refl C, J, hw, h ep'⟩
end Go

end
section
set_option autoImplicit false
set_option linter.unusedVariables false
set_option linter.unusedSimpArgs false
set_option Elab.async false
namespace Go
open PySem PySem.W PyProof.Rows
theorem CALL_min2 {G : Gl} {k : Nat} {H : Hp} {Q : Qv} {X : Xc} {p : Int × Int} (hh : G.hn = true) (h : Q (.int (if p.2 < p.1 then p.2 else p.1)) H) : CALL G k (.builtin "min") [pv p] H Q X := fun fl env A C Z m s vals I hv => by
  obtain ⟨va, r, rfl, e1, h2⟩ := hv
  cases h2
  obtain ⟨a, vs, rfl, ⟨ob, n, q1, q2, q3⟩, hvs⟩ := e1
  obtain ⟨x, r1, rfl, ⟨t1, rfl⟩, hvs⟩ := hvs
  obtain ⟨y, r2, rfl, ⟨t2, rfl⟩, hvs⟩ := hvs
  cases hvs
  have hC := I.st.con a _ q1
  refine call_min_walk ?_
  refine iter_tuple (t := a) (items := List.toArray [.int p.1 t1, .int p.2 t2]) ⟨_, hC, q2, _, q3⟩ ?_
  have hne : a ≠ s.heap.objs.size := Nat.ne_of_lt (Heap.lt_size hC)
  refine ⟨s.heap.objs.size, _, _, _, _, _, fun i j => decide ((if i = 0 then p.1 else p.2 : Int) < (if j = 0 then p.1 else p.2 : Int)), rfl, Walks.tuple (A := A.in1) (show A.in1.handled = none from I.hno hh) s.heap.objs.size a hne (List.toArray [.int p.1 t1, .int p.2 t2]), ⟨⟨_, Heap.get?_push_size _ rfl, rfl, rfl⟩, ?_⟩, ?_, ?_, ?_, ?_⟩
  · exact ⟨ob, Heap.get?_push_of_some _ hC, q2, n, q3⟩
  · intro b hb
    simp at hb
    rcases hb with rfl | rfl
    · rw [Heap.size_push]; exact Nat.lt_succ_self _
    · rw [Heap.size_push]; exact Nat.lt_succ_of_lt (Heap.lt_size hC)
  · simp
  · refine CmpOf.ints_lt (fun i => if i = 0 then p.1 else p.2) fun i v hi => ?_
    match i, hi with
    | 0, hi => simp at hi; exact ⟨t1, hi.symm⟩
    | 1, hi => simp at hi; exact ⟨t2, hi.symm⟩
    | i + 2, hi => simp at hi
  · intro v h' tk hP hk
    have J : Inv G k fl env A C Z m H { s with heap := h', toks := tk } := I.keeps fun b o e => hk b o (by
      simp only [List.mem_singleton]; exact Nat.ne_of_lt (Heap.lt_size e)) (Heap.get?_push_of_some _ e)
    refine ⟨C, .int (if p.2 < p.1 then p.2 else p.1), H, Cle.refl C, J, ?_, h⟩
    by_cases c : p.2 < p.1
    · simp [argBest, c] at hP ⊢; exact ⟨t2, hP.symm⟩
    · simp [argBest, c] at hP ⊢; exact ⟨t1, hP.symm⟩
end Go

end
section
set_option autoImplicit false
set_option linter.unusedVariables false
set_option linter.unusedSimpArgs false
set_option Elab.async false
namespace Go
open PySem PySem.W PyProof.Rows
section
variable {prog : Program} {w : World} {A : Around} {E : Value → Shared → Prop} {s : Shared}
theorem samePairs0 {nm : String} {a b : Addr} {oa ob : Obj} {es : Array DictEntry} {ep ep' : Nat} {Q : Bool → Shared → Prop} (ha : (a == sysModules) = false) (hb : (b == sysModules) = false)
    (hoa : s.heap.get? a = some oa) (hda : oa.data = .dict es ep) (hob : s.heap.get? b = some ob) (hdb : ob.data = .dict #[] ep') (h : Q (es.size == 0) s) :
    wpAny (model prog w) A (Builtin.Dict.samePairs nm a b) Q E s := by
  unfold Builtin.Dict.samePairs Builtin.Dict.showsAll
  rw [if_neg (show ¬ (a == sysModules) = true by rw [ha]; exact Bool.false_ne_true), if_neg (show ¬ (b == sysModules) = true by rw [hb]; exact Bool.false_ne_true)]
  refine wpAny_bind (wpAny_pure (wpAny_bind (wpAny_pure ?_)))
  refine wpAny_bind (wpAny_dictEntries hoa hda ?_)
  dsimp only
  refine wpAny_bind (wpAny_dictEntries hob hdb ?_)
  by_cases hsz : es.size = 0
  case neg =>
    have e1 : (es.size != (#[] : Array DictEntry).size) = true := by simpa using hsz
    rw [if_pos e1]
    have hbf : (es.size == 0) = false := by simpa using hsz
    rw [hbf] at h
    exact wpAny_bind (wpAny_rule (wpAny_pure h))
  case pos =>
    have e1 : ¬ (es.size != (#[] : Array DictEntry).size) = true := by simpa using hsz
    rw [if_neg e1]
    have hbf : (es.size == 0) = true := by simpa using hsz
    rw [hbf] at h
    refine wpAny_bind (wpAny_dictEpoch hoa hda ?_)
    rw [hsz]
    refine wpAny_bind ?_
    rw [Std.Legacy.Range.forIn_eq_forIn_range']
    simp only [Std.Legacy.Range.size, Nat.sub_zero, Nat.add_sub_cancel, Nat.div_one]
    refine wpAny_pure ?_
    exact wpAny_pure h
end
theorem BO_eqd0 {G : Gl} {H : Hp} {Q : Qv} {X : Xc} {a b : Addr} {fs : List ((Int × Int) × LV)} {ep ep' : Nat} (ha : H a = some (.pdict fs ep)) (hb : H b = some (.pdict [] ep')) (h : Q (.bool fs.isEmpty) H) : BO G (compareOp .Eq) (.ref a) (.ref b) H Q X := fun k fl env A C Z m s va vb I h1 h2 => by
  cases h1; cases h2
  obtain ⟨xs, da, x, z, nd, od, e1, e2, e3⟩ := I.pdict ha
  obtain ⟨ys, db, y, _, _, od', f1, f2, f3⟩ := I.pdict hb
  have hy : ys = [] := by have := y.length; simpa using this
  subst hy
  have hx := x.length
  refine wpAny_richCompare_same_room (op := .Eq) da.typeIs db.typeIs PySem.F.slot_dict_eq (wpAny_call_entry PySem.F.slot_dict_eq da.typeIs PySem.F.entry_dict_eq ?_ (PySem.F.args_dict_eq_2 _ _)) I.units
  show wpAny _ _ (Builtin.Dict.dictSlotArgs "__eq__" ⟨[.ref a, .ref b], []⟩ >>= _) _ _ s
  refine wpAny_bind ?_
  unfold Builtin.Dict.dictSlotArgs
  refine wpAny_bind (wpAny_notOrdered_dict da.typeIs ?_)
  show wpAny _ _ (pure (Value.ref a, Value.ref b)) _ _ s
  refine wpAny_pure ?_
  refine wpAny_bind (wpAny_isInstance (T := "dict") db.typeIs PySem.F.sub_dict_dict ?_)
  simp only [Bool.not_true, Bool.false_eq_true, if_false]
  refine wpAny_bind (wpAny_pure (wpAny_bind (wpAny_pure ?_)))
  refine wpAny_bind (samePairs0 (I.notSys ha) (I.notSys hb) e1 e3 f1 f3 ?_)
  refine wpAny_pure ⟨_, rfl, ?_, ?_⟩
  · exact fun x => nomatch x
  · refine ⟨C, .bool fs.isEmpty, H, Cle.refl C, I, ?_, h⟩
    have : ((List.toArray (xs.map (entryOfKey (tk2 G)))).size == 0) = fs.isEmpty := by
      rw [List.size_toArray, List.length_map, hx]; cases fs <;> rfl
    rw [this]; cases fs <;> rfl
end Go

end
section
set_option autoImplicit false
set_option linter.unusedVariables false
set_option linter.unusedSimpArgs false
set_option Elab.async false
namespace Go
open PySem PySem.W PyProof.Rows
theorem pick_nat {vs : List LV} (a b : Nat) : pickL vs (some (a : Int)) (some (b : Int)) none = (vs.drop a).take (b - a) := by
  have hb : sliceBounds (some (a : Int)) (some (b : Int)) none vs.length = (((min a vs.length : Nat) : Int), ((min b vs.length : Nat) : Int), 1) := by
    simp [sliceBounds]; constructor <;> (split <;> omega)
  rw [pickL_seg hb (by omega)]
  by_cases h : a ≤ vs.length
  · rw [Nat.min_eq_left h]
    by_cases h' : b ≤ vs.length
    · rw [Nat.min_eq_left h']
    · rw [Nat.min_eq_right (by omega), List.take_of_length_le (by simp), List.take_of_length_le (by simp; omega)]
  · have e1 : min a vs.length = vs.length := by omega
    rw [e1, List.drop_eq_nil_of_le (Nat.le_refl _), List.drop_eq_nil_of_le (by omega)]; simp
theorem pick_hi {vs : List LV} (b : Nat) : pickL vs none (some (b : Int)) none = vs.take b := by
  have hb : sliceBounds none (some (b : Int)) none vs.length = (((0 : Nat) : Int), ((min b vs.length : Nat) : Int), 1) := by
    simp [sliceBounds]; (split <;> omega)
  rw [pickL_seg hb (by omega), List.drop_zero, Nat.sub_zero]
  by_cases h : b ≤ vs.length
  · rw [Nat.min_eq_left h]
  · rw [Nat.min_eq_right (by omega), List.take_of_length_le (Nat.le_refl _), List.take_of_length_le (by omega)]
/-- [::-1] -/
theorem pick_rev {vs : List LV} : (∀ x, x ∈ pickL vs none none (some (-1)) ↔ x ∈ vs) ∧ (pickL vs none none (some (-1))).length ≤ vs.length := by
  have hb : sliceBounds none none (some (-1)) vs.length = ((vs.length : Int) - 1, -1, -1) := by
    simp [sliceBounds]
  have hr : sliceRange ((vs.length : Int) - 1) (-1) (-1) = (List.range vs.length).map fun (k : Nat) => ((vs.length : Int) - 1 + -1 * (k : Int)).toNat := by
    unfold sliceRange
    rw [if_neg (by decide)]
    have : (if ((vs.length : Int) - 1 > -1) then (((vs.length : Int) - 1) - -1 - -1 - 1) / (- -1) else 0) = (vs.length : Int) := by
      have e : (((vs.length : Int) - 1) - -1 - -1 - 1) / (- -1) = (vs.length : Int) := by
        have : (((vs.length : Int) - 1) - -1 - -1 - 1) = (vs.length : Int) := by omega
        rw [this]; simp
      rw [e]; split <;> omega
    rw [this]; simp
  unfold pickL
  rw [hb]
  dsimp only
  rw [hr]
  constructor
  · intro x
    simp only [List.mem_filterMap, List.mem_map, List.mem_range]
    constructor
    · rintro ⟨i, ⟨k, hk, rfl⟩, h⟩; exact List.mem_of_getElem? h
    · intro hx
      obtain ⟨i, hi⟩ := List.getElem?_of_mem hx
      have hlt := (List.getElem?_eq_some_iff.mp hi).1
      exact ⟨i, ⟨vs.length - 1 - i, by omega, by omega⟩, hi⟩
  · refine Nat.le_trans (List.length_filterMap_le _ _) ?_
    simp
section
variable {prog : Program} {w : World} {K : Type} [DecidableEq K] {knd : HeapKind prog w K} {A : Around} {E : Value → Shared → Prop} {s : Shared}
theorem meetsH_dict_len {d : Addr} (hd : (d == sysModules) = false) :
    MeetsIn prog w (Builtin.«dict.__len__» ⟨[.ref d], []⟩) (fun _ R s => ∃ xs : List (K × Addr × Value), s.heap.DictOfH knd d xs ∧ R (.ok (.ret (.int xs.length s.toks))) { s with toks := s.toks + 1 }) := by
  refine .of_wp fun A R s ⟨xs, hm, h⟩ => ?_
  obtain ⟨o, es, ep, ho, hc, hdat, he, his, hn⟩ := hm
  show wpAny _ _ (dictSize d >>= _) _ _ s
  unfold dictSize
  refine wpAny_bind (wpAny_bind (wpAny_dictEntries ho hdat (wpAny_pure ?_)))
  show wpAny _ _ (Builtin.Dict.pendingCount d >>= _) _ _ s
  refine wpAny_bind (wpAny_pendingCount_other hd ?_)
  refine wpAny_ret_mkInt ?_
  rw [Nat.add_zero, size_of_entries he]; exact h
theorem len_body_dictH {d : Addr} {xs : List (K × Addr × Value)} {Q : Value → Shared → Prop} (hd : (d == sysModules) = false) (hm : s.heap.DictOfH knd d xs) (hfit : (xs.length : Int) < 2 ^ 63)
    (h : Q (.int xs.length (s.toks + 1)) { s with toks := s.toks + 1 + 1 }) : wpAny (model prog w) A (Builtin.«len» ⟨[.ref d], []⟩) (fun fin s' => ∃ r, fin = .done (.ret r) ∧ Q r s') E s := by
  unfold Builtin.«len»
  refine wpAny_bind (m := oneArg "len" _) (wpAny_pure ?_)
  refine wpAny_bind (m := callSpecial? (.ref d) (Str.ofString "__len__")) (wpAny_callSpecial?_slot (name := Str.ofString "__len__") hm.typeIs PySem.F.slot_dict_len
    (call_meetsIn PySem.F.slot_dict_len hm.typeIs PySem.F.entry_dict_len (PySem.F.args_dict_len_1 _) (meetsH_dict_len (knd := knd) hd) ⟨xs, hm, ?_⟩))
  show wpAny _ _ _ _ _ { s with toks := s.toks + 1 }
  refine wpAny_bind (wpAny_holding (wpAny_pure ?_))
  refine wpAny_bind (wpAny_letGo ?_)
  show wpAny _ _ (if ((xs.length : Nat) : Int) < 0 then _ else _) _ _ _
  rw [if_neg (by omega)]
  show wpAny _ _ (if ((xs.length : Nat) : Int) ≥ 2 ^ 63 then _ else _) _ _ _
  rw [if_neg (by omega)]
  exact wpAny_bind (wpAny_mkInt (wpAny_pure ⟨_, rfl, h⟩))
end
theorem CALL_len_pd {G : Gl} {k : Nat} {H : Hp} {Q : Qv} {X : Xc} {a : Addr} {fs : List ((Int × Int) × LV)} {ep : Nat} (hH : H a = some (.pdict fs ep)) (h : Q (.int fs.length) H) : CALL G k (.builtin "len") [.ref a] H Q X := fun fl env A C Z m s vals I hv => by
  obtain ⟨va, r, rfl, e1, h2⟩ := hv
  cases h2; cases e1
  obtain ⟨xs, D, x, z, nd, _⟩ := I.pdict hH
  have hx := x.length
  refine PySem.Calls.call_function_entry PySem.kind_len PySem.plain_len PySem.entry_len (PySem.args_len1 _) (len_body_dictH (knd := tk2 G) (I.notSys hH) D (by omega) ?_)
  rw [hx]
  exact ⟨C, .int _, H, Cle.refl C, I.toks, ⟨_, rfl⟩, h⟩
end Go

end
section
open PySem PySem.W PyProof.Rows
set_option Elab.async false
set_option maxRecDepth 100000
set_option maxHeartbeats 8000000
open_top hd for PySem.Challenge.rw_im0127_06


end
namespace Go
open PySem PySem.W PyProof.Rows PySem.Calls
set_option maxRecDepth 100000
set_option maxHeartbeats 4000000
section
variable {G : Gl} {H : Hp} {Q : Qv} {X : Xc}
theorem SubT_pv {p : Pt} : SubT H (pv p) := trivial
theorem BO_pv0 {p : Pt} (h : Q (.int p.1) H) : BO G getItem (pv p) (.int 0) H Q X := BO_item_tup (by omega) (by simp) (lv := .int p.1) rfl h
theorem BO_pv1 {p : Pt} (h : Q (.int p.2) H) : BO G getItem (pv p) (.int 1) H Q X := BO_item_tup (by omega) (by simp) (lv := .int p.2) rfl h
end
local macro_rules | `(tactic| walk_at "mem") => `(tactic| with_reducible first
  | exact List.mem_cons_self
  | (apply List.mem_cons_of_mem; walk_at "mem"))
local macro_rules | `(tactic| walk_at "put") => `(tactic| with_reducible first
  | exact Put.here
  | (apply Put.there; walk_at "put"))
local macro_rules | `(tactic| walk_at "hp") => `(tactic| with_reducible first
  | assumption
  | exact hset_same _ _ _
  | (refine (hset_ne _ _ ?_).trans ?_; (walk_at "ne"); (walk_at "hp"))
  | (refine Ext.at (by assumption) ?_; (walk_at "hp")))
local macro_rules | `(tactic| walk_at "ne") => `(tactic| with_reducible first
  | assumption
  | (apply Ne.symm; assumption)
  | exact ne_of (by assumption) (by walk_at "hp")
  | exact Ne.symm (ne_of (by assumption) (by walk_at "hp")))
local macro_rules | `(tactic| walk_at "ext") => `(tactic| with_reducible first
  | assumption
  | exact Ext.refl _
  | (refine Ext.set ?_ ?_; (walk_at "ext"); (walk_at "none"))
  | (refine Ext.trans ?_ (by assumption); (walk_at "ext")))
local macro_rules | `(tactic| walk_at "none") => `(tactic| with_reducible first
  | assumption
  | (refine Ext.none ?_ (by assumption); (walk_at "ext")))
local macro_rules | `(tactic| walk_at "bat") => `(tactic| with_reducible first
  | assumption
  | (refine BAt.ext (by assumption) ?_; (walk_at "ext")))
local macro_rules | `(tactic| walk_at "oft") => `(tactic| with_reducible first
  | exact OfT_lst (by walk_at "hp")
  | exact OfT_pset (by walk_at "hp")
  | exact OfT_sset (by walk_at "hp")
  | exact OfT_pd (by walk_at "hp")
  | exact OfT_sd (by walk_at "hp"))
local macro_rules | `(tactic| walk_at "subt") => `(tactic| with_reducible first
  | exact trivial
  | exact SubT_pv
  | exact SubT_lst (by walk_at "hp")
  | exact SubT_pd (by walk_at "hp")
  | exact SubT_sd (by walk_at "hp"))
local macro_rules | `(tactic| walk_at "on") => `(tactic| with_unfolding_all first
  | assumption)
local macro_rules | `(tactic| walk_at "gn") => `(tactic| with_reducible first
  | exact (‹BW _›).n_set
  | exact (‹BW _›).n_len
  | exact (‹BW _›).n_list
  | exact (‹BW _›).n_range
  | assumption)
local macro_rules | `(tactic| walk_at "attr") => `(tactic| with_reducible first
  | (show EV _ _ _ _ (.Attribute _ (Str.ofString "side") _) _ _ _ _; refine EV_side ‹BW _› ?_)
  | (show EV _ _ _ _ (.Attribute _ (Str.ofString "board") _) _ _ _ _; refine EV_brd ‹BW _› ?_)
  | (show EV _ _ _ _ (.Attribute _ (Str.ofString "board_points") _) _ _ _ _; refine EV_bpts ‹BW _› ?_)
  | (show EV _ _ _ _ (.Attribute _ (Str.ofString "_is_empty") _) _ _ _ _; refine EV_emp ‹BW _› ?_)
  | (show EV _ _ _ _ (.Attribute _ (Str.ofString "colour") _) _ _ _ _; refine EV_gcol ‹BW _› ?_)
  | (show EV _ _ _ _ (.Attribute _ (Str.ofString "points") _) _ _ _ _; refine EV_gpts ‹BW _› ?_)
  | (show EV _ _ _ _ (.Attribute _ (Str.ofString "is_surrounded") _) _ _ _ _; refine EV_gsur ‹BW _› ?_))
local macro_rules | `(tactic| walk_at "bmeth") => `(tactic| with_reducible first
  | (show EV _ _ _ _ (.Call (.Attribute _ (Str.ofString "_make_group") _) _ _ _) _ _ _ _; refine EV_m_mg ‹BW _› ?_)
  | (show EV _ _ _ _ (.Call (.Attribute _ (Str.ofString "copy") _) _ _ _) _ _ _ _; refine EV_m_cp ‹BW _› ?_)
  | (show EV _ _ _ _ (.Call (.Attribute _ (Str.ofString "_find_surrounded_groups") _) _ _ _) _ _ _ _; refine EV_m_fs ‹BW _› ?_)
  | (show EV _ _ _ _ (.Call (.Attribute _ (Str.ofString "_find_all_surrounded_groups") _) _ _ _) _ _ _ _; refine EV_m_fa ‹BW _› ?_)
  | (show EV _ _ _ _ (.Call (.Attribute _ (Str.ofString "is_empty") _) _ _ _) _ _ _ _; refine EV_m_ie ‹BW _› ?_)
  | (show EV _ _ _ _ (.Call (.Attribute _ (Str.ofString "get") _) _ _ _) _ _ _ _; refine EV_m_ge ‹BW _› ?_)
  | (show EV _ _ _ _ (.Call (.Attribute _ (Str.ofString "play") _) _ _ _) _ _ _ _; refine EV_m_pl ‹BW _› ?_)
  | (show EV _ _ _ _ (.Call (.Attribute _ (Str.ofString "apply_setup") _) _ _ _) _ _ _ _; refine EV_m_as ‹BW _› ?_)
  | (show EV _ _ _ _ (.Call (.Attribute _ (Str.ofString "list_occupied_points") _) _ _ _) _ _ _ _; refine EV_m_lo ‹BW _› ?_))
local macro_rules | `(tactic| walk_at "meth") => `(tactic| with_reducible first
  | (show EV _ _ _ _ (.Call (.Attribute _ (Str.ofString "add") _) _ _ _) _ _ _ _; refine EV_sadd ?_)
  | (show EV _ _ _ _ (.Call (.Attribute _ (Str.ofString "append") _) _ _ _) _ _ _ _; refine EV_lapp ?_)
  | (show EV _ _ _ _ (.Call (.Attribute _ (Str.ofString "pop") _) _ _ _) _ _ _ _; refine EV_spop ?_)
  | (show EV _ _ _ _ (.Call (.Attribute _ (Str.ofString "update") _) _ _ _) _ _ _ _; refine EV_supd ?_)
  | (show EV _ _ _ _ (.Call (.Attribute _ (Str.ofString "insert") _) _ _ _) _ _ _ _; refine EV_lins ?_))
local macro_rules | `(tactic| walk_at "call") => `(tactic| with_reducible first
  | (show EV _ _ _ _ (.Call (.Attribute _ _ _) _ _ _) _ _ _ _; first | walk_at "meth" | walk_at "bmeth")
  | (show EV _ _ _ _ (.Call (.Name (Str.ofString "_Group") _) _ _ _) _ _ _ _; refine EV_CallK (by decide +kernel) (‹BW _›).n_group.1 (‹BW _›).n_group.2 ?_)
  | (show EV _ _ _ _ (.Call (.Name (Str.ofString "Board") _) _ _ _) _ _ _ _; refine EV_CallK (by decide +kernel) (‹BW _›).n_board.1 (‹BW _›).n_board.2 ?_)
  | (show EV _ _ _ _ (.Call (.Name (Str.ofString "set") _) _ _ _) _ _ _ _; refine EV_CallT (by decide +kernel) (‹BW _›).n_set ?_)
  | (show EV _ _ _ _ (.Call (.Name (Str.ofString "list") _) _ _ _) _ _ _ _; refine EV_CallT (by decide +kernel) (‹BW _›).n_list ?_)
  | (show EV _ _ _ _ (.Call (.Name (Str.ofString "len") _) _ _ _) _ _ _ _; refine EV_CallB (by decide +kernel) (‹BW _›).n_len ?_))
local macro_rules | `(tactic| walk_at "sub") => `(tactic| with_reducible first
  | (show EV _ _ _ _ (.Subscript (.Subscript (.Attribute (.Name _ _) (Str.ofString "board") _) (.Name _ _) _) (.Name _ _) _) _ _ _ _; refine EV_cell ‹BW _› (by walk_at "mem") (by walk_at "mem") (by walk_at "mem") (by walk_at "bat") (by walk_at "on") ?_)
  | ((fail_if_success (show EV _ _ _ _ (.Subscript _ (.Slice _ _ _ _) _) _ _ _ _)); refine EV_Sub ?_))
local macro_rules | `(tactic| walk_at "const") => `(tactic| with_reducible first
  | (show EV _ _ _ _ (.Constant (.int _) _ _) _ _ _ _; refine EV_int ?_)
  | (show EV _ _ _ _ (.Constant .none _ _) _ _ _ _; refine EV_none ?_)
  | (show EV _ _ _ _ (.Constant (.bool _) _ _) _ _ _ _; refine EV_bool ?_)
  | (show EV _ _ _ _ (.Constant (.str _) _ _) _ _ _ _; refine EV_str ?_))
local macro_rules | `(tactic| walk_at "ev") => `(tactic| with_reducible first
  | (show EV _ _ _ _ (.Name _ _) _ _ _ _; refine EV_Name (by walk_at "mem") ?_)
  | (show EV _ _ _ _ (.Constant _ _ _) _ _ _ _; walk_at "const")
  | (show EV _ _ _ _ (.Attribute _ _ _) _ _ _ _; walk_at "attr")
  | (show EV _ _ _ _ (.Subscript _ _ _) _ _ _ _; walk_at "sub")
  | (show EV _ _ _ _ (.Call _ _ _ _) _ _ _ _; walk_at "call")
  | (show EV _ _ _ _ (.BinOp _ _ _ _) _ _ _ _; refine EV_BinOp ?_)
  | (show EV _ _ _ _ (.Tuple _ _ _) _ _ _ _; refine EV_Tuple ?_)
  | (show EV _ _ _ _ (.Compare _ [_] [_] _) _ _ _ _; refine EV_Compare1 ?_)
  | (show EV _ _ _ _ (.List _ _) _ _ _ _; refine EV_List ?_)
  | (show EV _ _ _ _ (.UnaryOp .USub _ _) _ _ _ _; refine EV_Neg ?_)
  | (show EV _ _ _ _ (.UnaryOp .Not _ _) _ _ _ _; refine EV_Not ?_))
local macro_rules | `(tactic| walk_at "ex") => `(tactic| with_reducible first
  | (show EX _ _ _ (.Assign [.Name _ _] _ _) _ _ _; refine EX_Assign ?_)
  | (show EX _ _ _ (.If _ _ _ _) _ _ _; refine EX_If ?_)
  | (show EX _ _ _ (.Assign [.Tuple _ _ _] _ _) _ _ _; refine EX_AssignTup ?_)
  | (show EX _ _ _ (.Expr _ _) _ _ _; refine EX_Expr ?_ (by decide +kernel))
  | (show EX _ _ _ (.Continue _) _ _ _; refine EX_Continue ?_)
  | (show EX _ _ _ (.Return _ _) _ _ _; refine EX_Return ?_)
  | (show EX _ _ _ (.Assign [.Subscript _ _ _] _ _) _ _ _; refine EX_AssignSub ?_)
  | (show EX _ _ _ (.Assign [.Attribute _ _ _] _ _) _ _ _; refine EX_AssignAttr ?_)
  | (show EX _ _ _ (.AugAssign (.Name _ _) _ _ _) _ _ _; refine EX_AugName (by walk_at "mem") ?_)
  | (show EX _ _ _ (.AugAssign (.Subscript _ _ _) _ _ _) _ _ _; refine EX_AugSub ?_)
  | (show EX _ _ _ (.Break _) _ _ _; refine EX_Break ?_)
  | (show EX _ _ _ (.Pass _) _ _ _; refine EX_Pass ?_))
local macro_rules | `(tactic| walk_at "ts") => `(tactic| with_reducible first
  | (show TS _ _ _ _ (.Compare _ [_] [_] _) _ _ _ _; refine TS_Compare1 ?_)
  | (show TS _ _ _ _ (.UnaryOp .Not _ _) _ _ _ _; refine TS_Not ?_)
  | (show TS _ _ _ _ (.BoolOp .And [.Compare (.Constant (.int 0) _ _) [.LtE, .Lt] [.Name _ _, .Attribute (.Name _ _) (Str.ofString "side") _] _, .Compare (.Constant (.int 0) _ _) [.LtE, .Lt] [.Name _ _, .Attribute (.Name _ _) (Str.ofString "side") _] _] _) _ _ _ _; refine TS_onb ‹BW _› (by walk_at "mem") (by walk_at "mem") (by walk_at "mem") (by walk_at "bat") ?_)
  | (show TS _ _ _ _ (.BoolOp _ _ _) _ _ _ _; refine TS_Bool ?_)
  | (show TS _ _ _ _ (.Compare _ [_, _] [_, _] _) _ _ _ _; refine TS_Compare2 ?_)
  | refine TS_val ?_)
local macro_rules | `(tactic| walk_at "bo") => `(tactic| with_reducible first
  | (show BO _ (binaryOp .FloorDiv) (.int _) (.int _) _ _ _; refine BO_div (by decide) ?_ (PyProof.noPylong_small (by decide)))
  | (show BO _ (binaryOp .Mod) (.int _) (.int _) _ _ _; refine BO_mod (by decide) ?_)
  | (show BO _ (getItem) (pv _) (.int 0) _ _ _; refine BO_pv0 ?_)
  | (show BO _ (getItem) (pv _) (.int 1) _ _ _; refine BO_pv1 ?_)
  | (show BO _ (binaryOp .Add) (.int _) (.int _) _ _ _; refine BO_add ?_)
  | (show BO _ (binaryOp .Sub) (.int _) (.int _) _ _ _; refine BO_sub ?_)
  | (show BO _ (compareOp .Lt) (_) (_) _ _ _; refine BO_lt ?_)
  | (show BO _ (compareOp .LtE) (_) (_) _ _ _; refine BO_le ?_)
  | (show BO _ (compareOp .Gt) (_) (_) _ _ _; refine BO_gt ?_)
  | (show BO _ (compareOp .GtE) (_) (_) _ _ _; refine BO_ge ?_)
  | (show BO _ (compareOp .Eq) (.int _) (.int _) _ _ _; refine BO_eqi ?_)
  | (show BO _ (compareOp .NotEq) (.int _) (.int _) _ _ _; refine BO_nei ?_)
  | (show BO _ (inplaceOp .Add) (.int _) (.int _) _ _ _; refine BO_iadd ?_)
  | (show BO _ (compareOp .Is) (_) (.none) _ _ _; refine BO_isNone ?_)
  | (show BO _ (compareOp .IsNot) (_) (.none) _ _ _; refine BO_notNone ?_)
  | (show BO _ (compareOp .In) (.tup [.int _, .int _]) (.ref _) _ _ _; first | refine BO_inset2 (by walk_at "hp") ?_ | refine BO_inpd2 (by walk_at "hp") ?_)
  | (show BO _ (compareOp .NotIn) (.tup [.int _, .int _]) (.ref _) _ _ _; first | refine BO_notinset2 (by walk_at "hp") ?_ | refine BO_notinpd2 (by walk_at "hp") ?_)
  | (show BO _ (compareOp .In) (pv _) (.ref _) _ _ _; first | refine BO_inset (by walk_at "hp") ?_ | refine BO_inpd (by walk_at "hp") ?_)
  | (show BO _ (compareOp .NotIn) (pv _) (.ref _) _ _ _; first | refine BO_notinset (by walk_at "hp") ?_ | refine BO_notinpd (by walk_at "hp") ?_))
local macro_rules | `(tactic| walk_at "misc") => `(tactic| with_reducible first
  | (show ∃ _, Put _ _ _ _ ∧ _; refine ⟨_, by walk_at "put", ?_⟩)
  | (show OfT _ _ _ ∧ _; refine ⟨by walk_at "oft", ?_⟩)
  | (show SubT _ _ ∧ _; refine ⟨by walk_at "subt", ?_⟩)
  | (show ∃ _, truthOf _ (.ref _) = some _ ∧ _; first | refine ⟨_, truth_lst (by walk_at "hp"), ?_⟩ | refine ⟨_, truth_pset (by walk_at "hp"), ?_⟩)
  | (show ∃ _, truthOf _ (.bool _) = some _ ∧ _; refine ⟨_, rfl, ?_⟩)
  | (show ∃ _, truthOf _ (.int _) = some _ ∧ _; refine ⟨_, rfl, ?_⟩)
  | (show ∃ _, (LV.bool _) = (LV.bool _) ∧ _; refine ⟨_, rfl, ?_⟩)
  | (show ∃ _, (LV.int _) = (LV.int _) ∧ _; refine ⟨_, rfl, ?_⟩)
  | (show ∃ _ _ _ _ _ _, (LV.inst _ _ _) = (LV.inst _ _ _) ∧ _; first | refine ⟨_, _, _, _, _, _, rfl, (by walk_at "hp"), ?_⟩ | refine ⟨_, _, _, _, _, _, rfl, (by walk_at "bat" : BAt _ _ _ _ _).ns, ?_⟩)
  | (show ∃ _ _ _ _ _, (LV.inst _ _ _) = (LV.inst _ _ _) ∧ _; refine ⟨_, _, _, _, _, rfl, (by walk_at "hp"), ?_⟩)
  | (show _ ≤ 4096 ∧ _; refine ⟨Nat.le_of_ble_eq_true rfl, ?_⟩)
  | (show CALL _ _ (.builtin "list.append") _ _ _ _; refine CALL_append (by walk_at "hp") ?_ ?_))
local macro_rules | `(tactic| walk_at "sa") => `(tactic| with_reducible first
  | (show SA _ (Str.ofString "colour") _ _ _ _ _; refine SA_g1 ‹BW _› (by rfl) (by walk_at "hp") ?_)
  | (show SA _ (Str.ofString "points") _ _ _ _ _; refine SA_g2 ‹BW _› (by rfl) (by walk_at "hp") ?_)
  | (show SA _ (Str.ofString "is_surrounded") _ _ _ _ _; refine SA_g3 ‹BW _› (by rfl) (by walk_at "hp") ?_)
  | (show SA _ (Str.ofString "_is_empty") _ _ _ _ _; first | refine SA_emp ‹BW _› (by rfl) (by walk_at "hp") ?_ | refine SA_b4 ‹BW _› (by rfl) (by walk_at "hp") ?_)
  | (show SA _ (Str.ofString "board") _ _ _ _ _; first | refine SA_brd ‹BW _› (by rfl) (by walk_at "hp") ?_ | refine SA_b3 ‹BW _› (by rfl) (by walk_at "hp") ?_)
  | (show SA _ (Str.ofString "side") _ _ _ _ _; refine SA_b1 ‹BW _› (by rfl) (by walk_at "hp") ?_)
  | (show SA _ (Str.ofString "board_points") _ _ _ _ _; refine SA_b2 ‹BW _› (by rfl) (by walk_at "hp") ?_))
local macro_rules | `(tactic| walk_at "st") => `(tactic| with_reducible first
  | (show EV _ _ _ _ _ _ _ _ _; walk_at "ev")
  | (show EX _ _ _ _ _ _ _; walk_at "ex")
  | (show EXS _ _ _ (_ :: _) _ _ _; refine EXS_cons ?_)
  | (show EXS _ _ _ [] _ _ _; refine EXS_nil ?_)
  | (show AR _ _ _ _ [] _ _ _ _; refine AR_nil ?_)
  | (show AR _ _ _ _ (_ :: _) _ _ _ _; refine AR_cons ?_)
  | (show TS _ _ _ _ _ _ _ _ _; walk_at "ts")
  | (show BO _ _ _ _ _ _ _; walk_at "bo")
  | (show SA _ _ _ _ _ _ _; walk_at "sa")
  | (show AT _ _ _ _ _ [] _ _ _ _; refine AT_nil ?_)
  | (show AT _ _ _ _ .And (_ :: _) _ _ _ _; refine AT_and ?_)
  | (show AT _ _ _ _ .Or (_ :: _) _ _ _ _; refine AT_or ?_)
  | walk_at "misc")
local macro_rules | `(tactic| walk_at "go") => `(tactic| ((try dsimp only); (repeat walk_at "st")))

section


theorem CALL_mg {G : Gl} (B : BW G) {k : Nat} {H : Hp} {Q : Qv} {X : Xc} {b : Bd} {n : Nat} {g : Grd} {em : Bool} {row col : Int} {colour : Str} (hB : BAt H b n g em) (hon : On n (row, col)) (hc : g (row, col) = some colour) (few : Few n g)
    (h : ∀ x d a P sur H', Ext H H' → H a = none → H d = none → H' d = some (.ns (gns colour a sur)) → H' a = some (.pset P) → P.Nodup → (∀ q, q ∈ P ↔ Conn n g (row, col) q) → (sur = true ↔ ¬ Alive n g (row, col)) → Q (.inst B.gc x d) H') :
    CALL G (k + 3) (.ref B.fmg) [.inst B.bc b.x b.d, .int row, .int col, .str colour] H Q X := by
  have hg0 : g (row, col) ≠ none := by rw [hc]; simp
  refine CALL_of (CODE_fn B.m_mg.2.2.2 4 rfl (by decide +kernel) ?_)
  refine EXS_at (m' := [("self", some (.inst B.bc b.x b.d)), ("row", some (.int row)), ("col", some (.int col)), ("colour", some (.str colour)), ("points", none), ("is_surrounded", none), ("to_handle", none), ("point", none), ("r", none), ("c", none), ("neighbour", none), ("r1", none), ("c1", none), ("neigh_colour", none), ("group", none)]) rfl ?_
  refine EXS_cons ?_
  walk_at "go"
  refine CALL_set fun a1 f1 => ?_
  walk_at "go"
  refine CALL_set fun a2 f2 => ?_
  have n12 : a1 ≠ a2 := by walk_at "ne"
  walk_at "go"
  refine CALL_add2 (by walk_at "hp") (by decide) ?_
  refine EXS_cons ?_
  refine EX_While (fun w m' H' => ∃ (P T : List Pt) (sur : Bool) (o1 o2 o3 o4 o5 o6 o7 : Option LV), w = 100 - P.length ∧
    m' = ([("self", some (.inst B.bc b.x b.d)), ("row", some (.int row)), ("col", some (.int col)), ("colour", some (.str colour)), ("points", some (.ref a1)), ("is_surrounded", some (.bool sur)), ("to_handle", some (.ref a2)), ("point", o1), ("r", o2), ("c", o3), ("neighbour", o4), ("r1", o5), ("c1", o6), ("neigh_colour", o7), ("group", none)] : Loc) ∧
    Ext H H' ∧ H' a1 = some (.pset P) ∧ H' a2 = some (.pset T) ∧ MG n g (row, col) P T sur (fun _ _ => True)) ?_ 100 ?_
  rotate_left
  · refine ⟨[], [(row, col)], true, none, none, none, none, none, none, none, rfl, rfl, by walk_at "ext", by walk_at "hp", ?_, MG.init⟩
    simp
  rintro w m' H' ⟨P, T, sur, o1, o2, o3, o4, o5, o6, o7, rfl, rfl, hE, hP, hT, hM⟩
  walk_at "go"
  refine ⟨fun hT0 => ?_, fun hT0 => ?_⟩
  · have hT1 : T ≠ [] := by rintro rfl; simp at hT0
    walk_at "go"
    refine CALL_set_pop (by walk_at "hp") hT1 fun t ht => ?_
    walk_at "go"
    refine CALL_set_add (by walk_at "hp") (by have := hM.lenP few hon hg0; omega) ?_
    rw [if_neg (hM.dis t ht)]
    walk_at "go"
    refine AS_pv (by walk_at "put") (by walk_at "put") B.hh ?_
    walk_at "go"
    refine EX_ForL B.hh ?_
    walk_at "go"
    intro a3 f3
    refine ⟨a3, (nb4 t).map pv, rfl, hset_same _ _ _, fun i m' H'' => ∃ (T' : List Pt) (sur' : Bool) (o4 o5 o6 o7 : Option LV), 
      m' = ([("self", some (.inst B.bc b.x b.d)), ("row", some (.int row)), ("col", some (.int col)), ("colour", some (.str colour)), ("points", some (.ref a1)), ("is_surrounded", some (.bool sur')), ("to_handle", some (.ref a2)), ("point", some (pv t)), ("r", some (.int t.1)), ("c", some (.int t.2)), ("neighbour", o4), ("r1", o5), ("c1", o6), ("neigh_colour", o7), ("group", none)] : Loc) ∧
      Ext H H'' ∧ H'' a1 = some (.pset (t :: P)) ∧ H'' a2 = some (.pset T') ∧ H'' a3 = some (.lst ((nb4 t).map pv)) ∧ MG n g (row, col) (t :: P) T' sur' (tk t i), 
      ⟨_, _, _, _, _, _, rfl, by walk_at "ext", by walk_at "hp", by walk_at "hp", hset_same _ _ _, hM.pop ht⟩, ?_⟩
    constructor
    · rintro i m' H'' ⟨_, _, _, _, _, _, _, _, _, _, h5, _⟩; exact h5
    · rintro i lv m' H'' hi ⟨T', sur', o4, o5, o6, o7, rfl, hE', hP', hT', h3', hM'⟩
      have hBk := hB.ext hE'
      have n13 : a1 ≠ a3 := fun e => by rw [e, h3'] at hP'; cases hP'
      have n23 : a2 ≠ a3 := fun e => by rw [e, h3'] at hT'; cases hT'
      rw [List.getElem?_map] at hi
      obtain ⟨⟨r, c⟩, hr, rfl⟩ := Option.map_eq_some_iff.mp hi
      refine AS_Name (by walk_at "put") ?_
      walk_at "go"
      refine AS_pv (by walk_at "put") (by walk_at "put") B.hh ?_
      walk_at "go"
      refine ⟨fun hx => ?_, fun hx => ?_⟩
      · walk_at "go"
        exact ⟨_, _, _, _, _, _, rfl, hE', hP', hT', h3', hM'.skip hr fun ho => by simp [ho] at hx⟩
      have ho : On n (r, c) := by simpa using hx
      walk_at "go"
      cases hgr : g (r, c) with
      | none =>
        dsimp only [cv]
        walk_at "go"
        refine ⟨fun hx => ?_, fun hx => by cases hx⟩
        walk_at "go"
        exact ⟨_, _, _, _, _, _, rfl, hE', hP', hT', h3', hM'.free hr List.mem_cons_self ho hgr hg0⟩
      | some cc =>
        dsimp only [cv]
        walk_at "go"
        refine ⟨(fun hx => by cases hx), fun hx => ?_⟩
        walk_at "go"
        refine BO_eqs (hB.col _ _ hgr) (hB.col _ _ hc) ?_
        walk_at "go"
        refine ⟨fun hx => ?_, fun hx => ?_⟩
        · have hcc : cc = colour := by simpa using hx
          subst hcc
          walk_at "go"
          refine ⟨fun hx => ?_, fun hx => ?_⟩
          · have hnP : (r, c) ∉ t :: P := by simpa using hx
            walk_at "go"
            refine CALL_set_add (p := (r, c)) (by walk_at "hp") (by have := hM'.lenT few hon hg0; omega) ?_
            walk_at "go"
            exact ⟨_, _, _, _, _, _, rfl, by walk_at "ext", by walk_at "hp", by walk_at "hp", by walk_at "hp", hM'.more hr List.mem_cons_self ho (hgr.trans hc.symm) hg0 hnP⟩
          · have hnP : (r, c) ∈ t :: P := by
              by_cases e : (r, c) ∈ t :: P
              · exact e
              · rw [decide_eq_false e] at hx; cases hx
            walk_at "go"
            exact ⟨_, _, _, _, _, _, rfl, hE', hP', hT', h3', hM'.seen hr (hgr.trans hc.symm) hg0 hnP⟩
        · have hcc : cc ≠ colour := by simpa using hx
          walk_at "go"
          exact ⟨_, _, _, _, _, _, rfl, hE', hP', hT', h3', hM'.skip hr fun _ => ⟨by rw [hgr, hc]; simpa using hcc, by rw [hgr]; simp⟩⟩
    · rintro m' H'' ⟨T', sur', o4, o5, o6, o7, rfl, hE', hP', hT', h3', hM'⟩
      walk_at "go"
      refine ⟨100 - (t :: P).length, ?_, t :: P, T', sur', _, _, _, _, _, _, _, rfl, rfl, hE', hP', hT', hM'.all⟩
      have := hM'.lenP few hon hg0
      simp only [List.length_cons] at this ⊢; omega
  · obtain rfl : T = [] := by simpa using hT0
    obtain ⟨l1, l2, l3⟩ := hM.last hon hg0
    walk_at "go"
    refine CALL_of (CODE_cls0 B.mgr B.ig fun x d hd => ?_)
    walk_at "go"
    refine h x d a1 P sur _ (by walk_at "ext") (by walk_at "none") (by walk_at "none") (by walk_at "hp") (by walk_at "hp") l1 l2 l3

end
section


abbrev GI.lv {G : Gl} (B : BW G) (gi : GI) : LV := .inst B.gc gi.x gi.d
def GAt (H : Hp) (L : List PySem.Addr) (H' : Hp) (gs : List GI) : Prop := ∀ gi, gi ∈ gs → H gi.d = none ∧ H gi.a = none ∧ gi.d ∉ L ∧ gi.a ∉ L ∧ H' gi.d = some (.ns (gns gi.c gi.a true)) ∧ H' gi.a = some (.pset gi.P)
theorem GAt.ext {H : Hp} {L : List PySem.Addr} {H' H'' : Hp} {gs : List GI} (h : GAt H L H' gs) (e : Ext H' H'') : GAt H L H'' gs :=
  fun gi hg => let ⟨a, b, c, d, x, y⟩ := h gi hg; ⟨a, b, c, d, e _ _ x, e _ _ y⟩
theorem GAt.set {H : Hp} {L : List PySem.Addr} {H' : Hp} {gs : List GI} {b : PySem.Addr} (h : GAt H L H' gs) (hb : b ∈ L) (o : LO) : GAt H L (hset H' b o) gs :=
  fun gi hg => let ⟨a, q, c, d, x, y⟩ := h gi hg; ⟨a, q, c, d, (hset_ne _ _ (fun e => c (by rw [e]; exact hb))).trans x, (hset_ne _ _ (fun e => d (by rw [e]; exact hb))).trans y⟩
theorem GAt.add {H : Hp} {L : List PySem.Addr} {H' : Hp} {gs : List GI} {gi : GI} (h : GAt H L H' gs) (k : H gi.d = none ∧ H gi.a = none ∧ gi.d ∉ L ∧ gi.a ∉ L ∧ H' gi.d = some (.ns (gns gi.c gi.a true)) ∧ H' gi.a = some (.pset gi.P)) : GAt H L H' (gs ++ [gi]) :=
  fun gj hg => by
    rcases List.mem_append.mp hg with z | z
    · exact h gj z
    · rw [List.mem_singleton] at z; subst z; exact k

theorem CALL_fa {G : Gl} (B : BW G) {k : Nat} {H : Hp} {Q : Qv} {X : Xc} {b : Bd} {n : Nat} {g : Grd} {em : Bool} (hB : BAt H b n g em) (few : Few n g)
    (h : ∀ ls gs H' hs, Ext H H' → H ls = none → H' ls = some (.lst (gs.map (GI.lv B))) → GAt H [ls] H' gs → FG n g (pts n) hs gs → Q (.ref ls) H') :
    CALL G (k + 4) (.ref B.ffa) [.inst B.bc b.x b.d] H Q X := by
  refine CALL_of (CODE_fn B.m_fa.2.2.2 1 rfl (by decide +kernel) ?_)
  refine EXS_at (m' := [("self", some (.inst B.bc b.x b.d)), ("surrounded", none), ("handled", none), ("row", none), ("col", none), ("colour", none), ("point", none), ("group", none)]) rfl ?_
  generalize hL : (pts n) = L at h
  refine EXS_cons ?_
  walk_at "go"
  intro ls fls
  walk_at "go"
  refine CALL_set fun hd fhd => ?_
  walk_at "go"
  refine EX_ForL B.hh ?_
  walk_at "go"
  have hpl0 := hL ▸ hB.pl
  refine ⟨_, L.map pv, rfl, by walk_at "hp", fun i m' H' => ∃ (hs : List Pt) (gs : List GI) (o1 o2 o3 o4 o5 : Option LV), m' = ([("self", some (.inst B.bc b.x b.d)), ("surrounded", some (.ref ls)), ("handled", some (.ref hd)), ("row", o1), ("col", o2), ("colour", o3), ("point", o4), ("group", o5)] : Loc) ∧
    Ext H H' ∧ H' ls = some (.lst (gs.map (GI.lv B))) ∧ H' hd = some (.pset hs) ∧ H' b.pl = some (.lst (L.map pv)) ∧ GAt H [ls, hd] H' gs ∧ FG n g (L.take i) hs gs,
    ⟨[], [], _, _, _, _, _, rfl, by walk_at "ext", by rw [List.map_nil]; walk_at "hp", hset_same _ _ _, by walk_at "hp", (fun gi hgi => by simp at hgi), FG.init⟩, ?_⟩
  constructor
  · rintro i m' H' ⟨hs, gs, o1, o2, o3, o4, o5, rfl, hE, h1, h2, hpl, hG, hF⟩; exact hpl
  · rintro i lv m' H' hi ⟨hs, gs, o1, o2, o3, o4, o5, rfl, hE, h1, h2, hpl, hG, hF⟩
    have nlp : b.pl ≠ ls := ne_of fls (hL ▸ hB.pl)
    have nhp : b.pl ≠ hd := fun e => by rw [← e, hpl] at h2; cases h2
    have hLl : L.length ≤ 100 := by rw [← hL, pts_length]; exact Nat.le_trans (Nat.mul_le_mul hB.nine hB.nine) (by omega)
    obtain ⟨⟨row, col⟩, hr, rfl⟩ := Option.map_eq_some_iff.mp (by rw [List.getElem?_map] at hi; exact hi)
    have ht : L.take (i + 1) = L.take i ++ [(row, col)] := by rw [List.take_add_one, hr]; rfl
    have hBk := hB.ext hE
    have nsh : ls ≠ hd := fun e => by rw [e, h2] at h1; cases h1
    refine AS_pv (by walk_at "put") (by walk_at "put") B.hh ?_
    have ho : On n (row, col) := mem_pts.mp (hL ▸ List.mem_of_getElem? hr)
    walk_at "go"
    cases hg : g (row, col) with
    | none =>
      dsimp only [cv]
      walk_at "go"
      refine ⟨fun _ => ?_, (fun hx => by cases hx)⟩
      walk_at "go"
      exact ⟨hs, gs, _, _, _, _, _, rfl, hE, h1, h2, hpl, hG, ht ▸ hF.skip fun _ q => (q hg).elim⟩
    | some cc =>
      dsimp only [cv]
      walk_at "go"
      refine ⟨(fun hx => by cases hx), fun _ => ?_⟩
      walk_at "go"
      refine ⟨fun hx => ?_, fun hx => ?_⟩
      · have hin : (row, col) ∈ hs := of_decide_eq_true hx
        walk_at "go"
        exact ⟨hs, gs, _, _, _, _, _, rfl, hE, h1, h2, hpl, hG, ht ▸ hF.skip fun _ _ => hin⟩
      · have hin : (row, col) ∉ hs := of_decide_eq_false hx
        walk_at "go"
        refine CALL_mg B hBk ho hg few fun x d a P sur H3 e3 na nd k1 k2 ndP mP hsur => ?_
        walk_at "go"
        have hlh := hF.lenH few
        have hlP : P.length ≤ 49 := few P ndP fun q hq => ⟨((mP q).mp hq).on ho, by rw [((mP q).mp hq).color, hg]; simp⟩
        have hsz : hs.length + P.length ≤ 60 := by
          have := few (hs ++ P) (List.nodup_append.mpr ⟨hF.nd, ndP, fun q hq q' hq' e => hF.new_dis ho hin ((mP q').mp hq') (e ▸ hq)⟩) fun q hq => by
            rcases List.mem_append.mp hq with z | z
            · obtain ⟨p', _, o1, o2, o3⟩ := (hF.hs q).mp z
              exact ⟨o3.on o1, by rw [o3.color]; exact o2⟩
            · exact ⟨((mP q).mp z).on ho, by rw [((mP q).mp z).color, hg]; simp⟩
          rw [List.length_append] at this; omega
        have nha : hd ≠ a := ne_of na h2
        have nla : ls ≠ a := ne_of na h1
        have nld : ls ≠ d := ne_of nd h1
        have nhd : hd ≠ d := ne_of nd h2
        refine ⟨fun hx => ?_, fun hx => ?_⟩
        · subst hx
          walk_at "go"
          refine CALL_update nha (by walk_at "hp") (by walk_at "hp") hsz fun rs nrs mrs => ?_
          walk_at "go"
          have hG' : GAt H [ls, hd] H3 (gs ++ [⟨x, d, a, cc, P⟩]) := (hG.ext e3).add ⟨by walk_at "none", by walk_at "none", by simp [nld.symm, nhd.symm], by simp [nla.symm, nha.symm], k1, k2⟩
          exact ⟨rs, gs ++ [⟨x, d, a, cc, P⟩], _, _, _, _, _, rfl, by walk_at "ext", by rw [List.map_append]; exact (hset_ne _ _ nsh).trans (hset_same _ _ _), by walk_at "hp", by walk_at "hp", (hG'.set (by simp) _).set (by simp) _, ht ▸ hF.dead ho hg hin mP ndP nrs mrs (hsur.mp rfl)⟩
          · simp only [List.length_map]; have := hF.len; rw [List.length_take] at this; omega
        · subst hx
          walk_at "go"
          refine CALL_update nha (by walk_at "hp") (by walk_at "hp") hsz fun rs nrs mrs => ?_
          walk_at "go"
          exact ⟨rs, gs, _, _, _, _, _, rfl, by walk_at "ext", by walk_at "hp", by walk_at "hp", by walk_at "hp", (hG.ext e3).set (by simp) _, ht ▸ hF.alive ho (by rw [hg]; simp) hin mP nrs mrs (Classical.not_not.mp fun q => by have := hsur.mpr q; cases this)⟩
  · rintro m' H' ⟨hs, gs, o1, o2, o3, o4, o5, rfl, hE, h1, h2, hpl, hG, hF⟩
    rw [List.length_map, List.take_length] at hF
    walk_at "go"
    exact h ls gs H' hs hE fls h1 (fun gi hgi => let ⟨a, b, c, d, e, f⟩ := hG gi hgi; ⟨a, b, fun q => c (by simp at q; simp [q]), fun q => d (by simp at q; simp [q]), e, f⟩) hF

end
section


theorem CALL_fs {G : Gl} (B : BW G) {k : Nat} {H : Hp} {Q : Qv} {X : Xc} {b : Bd} {n : Nat} {g : Grd} {em : Bool} {r0 c0 : Int} (hB : BAt H b n g em) (few : Few n g)
    (h : ∀ ls gs H' hs, Ext H H' → H ls = none → H' ls = some (.lst (gs.map (GI.lv B))) → GAt H [ls] H' gs → FG n g ((r0, c0) :: nb4 (r0, c0)) hs gs → Q (.ref ls) H') :
    CALL G (k + 4) (.ref B.ffs) [.inst B.bc b.x b.d, .int r0, .int c0] H Q X := by
  refine CALL_of (CODE_fn B.m_fs.2.2.2 3 rfl (by decide +kernel) ?_)
  refine EXS_at (m' := [("self", some (.inst B.bc b.x b.d)), ("r", some (.int r0)), ("c", some (.int c0)), ("surrounded", none), ("handled", none), ("row", none), ("col", none), ("colour", none), ("point", none), ("group", none)]) rfl ?_
  generalize hL : ((r0, c0) :: nb4 (r0, c0)) = L at h
  refine EXS_cons ?_
  walk_at "go"
  intro ls fls
  walk_at "go"
  refine CALL_set fun hd fhd => ?_
  walk_at "go"
  refine EX_ForL B.hh ?_
  walk_at "go"
  intro la fla
  refine ⟨_, L.map pv, rfl, by rw [← hL]; exact hset_same _ _ _, fun i m' H' => ∃ (hs : List Pt) (gs : List GI) (o1 o2 o3 o4 o5 : Option LV), m' = ([("self", some (.inst B.bc b.x b.d)), ("r", some (.int r0)), ("c", some (.int c0)), ("surrounded", some (.ref ls)), ("handled", some (.ref hd)), ("row", o1), ("col", o2), ("colour", o3), ("point", o4), ("group", o5)] : Loc) ∧
    Ext H H' ∧ H' ls = some (.lst (gs.map (GI.lv B))) ∧ H' hd = some (.pset hs) ∧ H' la = some (.lst (L.map pv)) ∧ GAt H [ls, hd] H' gs ∧ FG n g (L.take i) hs gs,
    ⟨[], [], _, _, _, _, _, rfl, by walk_at "ext", by rw [List.map_nil]; walk_at "hp", by walk_at "hp", by rw [← hL]; exact hset_same _ _ _, (fun gi hgi => by simp at hgi), FG.init⟩, ?_⟩
  constructor
  · rintro i m' H' ⟨hs, gs, o1, o2, o3, o4, o5, rfl, hE, h1, h2, hpl, hG, hF⟩; exact hpl
  · rintro i lv m' H' hi ⟨hs, gs, o1, o2, o3, o4, o5, rfl, hE, h1, h2, hpl, hG, hF⟩
    have nlp : la ≠ ls := (ne_of fla (by walk_at "hp")).symm
    have nhp : la ≠ hd := (ne_of fla (by walk_at "hp")).symm
    have hLl : L.length ≤ 100 := by rw [← hL]; simp [nb4]
    obtain ⟨⟨row, col⟩, hr, rfl⟩ := Option.map_eq_some_iff.mp (by rw [List.getElem?_map] at hi; exact hi)
    have ht : L.take (i + 1) = L.take i ++ [(row, col)] := by rw [List.take_add_one, hr]; rfl
    have hBk := hB.ext hE
    have nsh : ls ≠ hd := fun e => by rw [e, h2] at h1; cases h1
    refine AS_pv (by walk_at "put") (by walk_at "put") B.hh ?_
    walk_at "go"
    refine ⟨fun hx => ?_, fun hx => ?_⟩
    · walk_at "go"
      exact ⟨hs, gs, _, _, _, _, _, rfl, hE, h1, h2, hpl, hG, ht ▸ hF.skip fun q => by simp [q] at hx⟩
    have ho : On n (row, col) := by simpa using hx
    walk_at "go"
    cases hg : g (row, col) with
    | none =>
      dsimp only [cv]
      walk_at "go"
      refine ⟨fun _ => ?_, (fun hx => by cases hx)⟩
      walk_at "go"
      exact ⟨hs, gs, _, _, _, _, _, rfl, hE, h1, h2, hpl, hG, ht ▸ hF.skip fun _ q => (q hg).elim⟩
    | some cc =>
      dsimp only [cv]
      walk_at "go"
      refine ⟨(fun hx => by cases hx), fun _ => ?_⟩
      walk_at "go"
      refine ⟨fun hx => ?_, fun hx => ?_⟩
      · have hin : (row, col) ∈ hs := of_decide_eq_true hx
        walk_at "go"
        exact ⟨hs, gs, _, _, _, _, _, rfl, hE, h1, h2, hpl, hG, ht ▸ hF.skip fun _ _ => hin⟩
      · have hin : (row, col) ∉ hs := of_decide_eq_false hx
        walk_at "go"
        refine CALL_mg B hBk ho hg few fun x d a P sur H3 e3 na nd k1 k2 ndP mP hsur => ?_
        walk_at "go"
        have hlh := hF.lenH few
        have hlP : P.length ≤ 49 := few P ndP fun q hq => ⟨((mP q).mp hq).on ho, by rw [((mP q).mp hq).color, hg]; simp⟩
        have hsz : hs.length + P.length ≤ 60 := by
          have := few (hs ++ P) (List.nodup_append.mpr ⟨hF.nd, ndP, fun q hq q' hq' e => hF.new_dis ho hin ((mP q').mp hq') (e ▸ hq)⟩) fun q hq => by
            rcases List.mem_append.mp hq with z | z
            · obtain ⟨p', _, o1, o2, o3⟩ := (hF.hs q).mp z
              exact ⟨o3.on o1, by rw [o3.color]; exact o2⟩
            · exact ⟨((mP q).mp z).on ho, by rw [((mP q).mp z).color, hg]; simp⟩
          rw [List.length_append] at this; omega
        have nha : hd ≠ a := ne_of na h2
        have nla : ls ≠ a := ne_of na h1
        have nld : ls ≠ d := ne_of nd h1
        have nhd : hd ≠ d := ne_of nd h2
        refine ⟨fun hx => ?_, fun hx => ?_⟩
        · subst hx
          walk_at "go"
          refine CALL_update nha (by walk_at "hp") (by walk_at "hp") hsz fun rs nrs mrs => ?_
          walk_at "go"
          have hG' : GAt H [ls, hd] H3 (gs ++ [⟨x, d, a, cc, P⟩]) := (hG.ext e3).add ⟨by walk_at "none", by walk_at "none", by simp [nld.symm, nhd.symm], by simp [nla.symm, nha.symm], k1, k2⟩
          exact ⟨rs, gs ++ [⟨x, d, a, cc, P⟩], _, _, _, _, _, rfl, by walk_at "ext", by rw [List.map_append]; exact (hset_ne _ _ nsh).trans (hset_same _ _ _), by walk_at "hp", by walk_at "hp", (hG'.set (by simp) _).set (by simp) _, ht ▸ hF.dead ho hg hin mP ndP nrs mrs (hsur.mp rfl)⟩
          · simp only [List.length_map]; have := hF.len; rw [List.length_take] at this; omega
        · subst hx
          walk_at "go"
          refine CALL_update nha (by walk_at "hp") (by walk_at "hp") hsz fun rs nrs mrs => ?_
          walk_at "go"
          exact ⟨rs, gs, _, _, _, _, _, rfl, by walk_at "ext", by walk_at "hp", by walk_at "hp", by walk_at "hp", (hG.ext e3).set (by simp) _, ht ▸ hF.alive ho (by rw [hg]; simp) hin mP nrs mrs (Classical.not_not.mp fun q => by have := hsur.mpr q; cases this)⟩
  · rintro m' H' ⟨hs, gs, o1, o2, o3, o4, o5, rfl, hE, h1, h2, hpl, hG, hF⟩
    rw [List.length_map, List.take_length] at hF
    walk_at "go"
    exact h ls gs H' hs hE fls h1 (fun gi hgi => let ⟨a, b, c, d, e, f⟩ := hG gi hgi; ⟨a, b, fun q => c (by simp at q; simp [q]), fun q => d (by simp at q; simp [q]), e, f⟩) hF

end
section


/-- what stood and is not in F still stands -/
def Fr (F : List PySem.Addr) (H H' : Hp) : Prop := ∀ a o, a ∉ F → H a = some o → H' a = some o
theorem Fr.refl (F : List PySem.Addr) (H : Hp) : Fr F H H := fun _ _ _ e => e
theorem Ext.fr {H H' : Hp} (F : List PySem.Addr) (e : Ext H H') : Fr F H H' := fun a o _ h => e a o h
theorem Fr.trans {F : List PySem.Addr} {H H' H'' : Hp} (x : Fr F H H') (y : Fr F H' H'') : Fr F H H'' := fun a o n h => y a o n (x a o n h)
theorem Fr.hset {F : List PySem.Addr} {H H' : Hp} {b : PySem.Addr} (o : LO) (x : Fr F H H') (hb : b ∈ F ∨ H b = none) : Fr F H (hset H' b o) := fun a p n h => by
  rw [hset_ne]
  · exact x a p n h
  · rintro rfl
    rcases hb with q | q
    · exact n q
    · rw [q] at h; cases h
theorem Fr.ext {H H' : Hp} (x : Fr [] H H') : Ext H H' := fun a o h => x a o (by simp) h
theorem Fr.none {F : List PySem.Addr} {H H' : Hp} (x : Fr F H H') (hF : ∀ a, a ∈ F → H' a ≠ none) {a : PySem.Addr} (h : H' a = .none) : H a = .none := by
  cases q : H a with
  | none => rfl
  | some o =>
    by_cases e : a ∈ F
    · exact (hF a e h).elim
    · rw [x a o e q] at h; cases h

def Bd.own (b : Bd) : List PySem.Addr := b.d :: b.rows
theorem BAt.congr {H : Hp} {b : Bd} {n : Nat} {g g' : Grd} {em : Bool} (h : BAt H b n g em) (e : ∀ p, On n p → g' p = g p) (hc : ∀ p c, g' p = some c → c = sb ∨ c = sw) : BAt H b n g' em := by
  refine ⟨h.ns, h.pl, h.bl, h.len, fun i a q => ?_, h.nd, h.two, h.nine, hc⟩
  rw [h.row i a q]
  have hi : i < n := by have := (List.getElem?_eq_some_iff.mp q).1; rw [h.len] at this; exact this
  simp only [rowL, Option.some.injEq, LO.lst.injEq]
  refine List.map_congr_left fun j hj => ?_
  rw [e _ ⟨by simp, by simp; omega, by simp, by simp at hj ⊢; omega⟩]
theorem BAt.fr {H H' : Hp} {b : Bd} {n : Nat} {g : Grd} {em : Bool} {F : List PySem.Addr} (h : BAt H b n g em) (x : Fr F H H') (h1 : b.d ∉ F) (h2 : b.pl ∉ F) (h3 : b.bl ∉ F) (h4 : ∀ a, a ∈ b.rows → a ∉ F) : BAt H' b n g em :=
  ⟨x _ _ h1 h.ns, x _ _ h2 h.pl, x _ _ h3 h.bl, h.len, fun i a q => x _ _ (h4 a (List.mem_of_getElem? q)) (h.row i a q), h.nd, h.two, h.nine, h.col⟩
/-- an object of another kind -/
def Alien : LO → Bool
  | .lst _ => false
  | .ns _ => false
  | _ => true
theorem BAt.hset {H : Hp} {b : Bd} {n : Nat} {g : Grd} {em : Bool} {a : PySem.Addr} {o o' : LO} (h : BAt H b n g em) (ha : H a = some o) (hk : Alien o = true) : BAt (hset H a o') b n g em := by
  refine h.fr (F := [a]) ((Fr.refl _ _).hset _ (.inl (by simp))) ?_ ?_ ?_ fun c hc => ?_
  · simp; intro e; rw [← e, h.ns] at ha; cases ha; cases hk
  · simp; intro e; rw [← e, h.pl] at ha; cases ha; cases hk
  · simp; intro e; rw [← e, h.bl] at ha; cases ha; cases hk
  · simp; intro e; subst e
    obtain ⟨i, hi⟩ := List.getElem?_of_mem hc
    rw [h.row i _ hi] at ha; cases ha; cases hk
theorem BAt.new {H : Hp} {b : Bd} {n : Nat} {g : Grd} {em : Bool} {a : PySem.Addr} {o' : LO} (h : BAt H b n g em) (ha : H a = none) : BAt (Go.hset H a o') b n g em := h.ext ((Ext.refl _).set ha)
theorem rowL_set {n : Nat} {g : Grd} {i j : Nat} {o : Option Str} (hj : j < n) : (rowL n g i).set j (cv o) = rowL n (gset g ((i : Int), (j : Int)) o) i := by
  apply List.ext_getElem?
  intro k
  by_cases e : k = j
  · subst e; rw [List.getElem?_set_self (by simp [rowL, hj])]; simp [rowL, hj, gset]
  · rw [List.getElem?_set_ne (Ne.symm e)]
    simp only [rowL, List.getElem?_map]
    by_cases hk : k < n
    · rw [List.getElem?_range hk]
      simp only [Option.map_some, gset]
      rw [if_neg]; simp; omega
    · rw [List.getElem?_eq_none (by simp; omega)]; rfl
theorem rowL_ne {n : Nat} {g : Grd} {i : Nat} {p : Pt} {o : Option Str} (h : (i : Int) ≠ p.1) : rowL n (gset g p o) i = rowL n g i := by
  refine List.map_congr_left fun j _ => ?_
  rw [gset, if_neg]; rintro rfl; exact h rfl
theorem BAt.cell {H : Hp} {b : Bd} {n : Nat} {g : Grd} {em : Bool} {i j : Int} {a : PySem.Addr} {o : Option Str} (h : BAt H b n g em) (hon : On n (i, j)) (ha : b.rows[i.toNat]? = some a) (hc : ∀ c, o = some c → c = sb ∨ c = sw) :
    BAt (Go.hset H a (.lst ((rowL n g i.toNat).set j.toNat (cv o)))) b n (gset g (i, j) o) em := by
  obtain ⟨o1, o2, o3, o4⟩ := hon
  simp only at o1 o2 o3 o4
  have ei : ((i.toNat : Nat) : Int) = i := by omega
  have ej : ((j.toNat : Nat) : Int) = j := by omega
  have hrow := h.row _ _ ha
  refine ⟨?_, ?_, ?_, h.len, fun k c q => ?_, h.nd, h.two, h.nine, fun p c q => ?_⟩
  · rw [hset_ne _ _ (fun e => by rw [← e, h.ns] at hrow; cases hrow)]; exact h.ns
  · rw [hset_ne]
    · exact h.pl
    · intro e
      rw [← e, h.pl] at hrow
      simp only [Option.some.injEq, LO.lst.injEq] at hrow
      have h2 := congrArg (fun l => l[0]?) hrow
      have hn := h.two
      match n, hn with
      | n + 2, _ =>
        simp [pts, rowL, List.range_succ_eq_map, pv] at h2
        cases q : g (i.toNat, 0) <;> rw [← ei] at * <;> simp_all [cv]
  · rw [hset_ne]
    · exact h.bl
    · intro e
      rw [← e, h.bl] at hrow
      simp only [Option.some.injEq, LO.lst.injEq] at hrow
      have h2 := congrArg (fun l => l[0]?) hrow
      have hn := h.two
      have hl := h.len
      match n, hn, b.rows, hl with
      | n + 2, _, r :: rs, _ =>
        simp [rowL, List.range_succ_eq_map] at h2
        cases q : g (i.toNat, 0) <;> simp_all [cv]
  · by_cases e : k = i.toNat
    · subst e
      rw [ha] at q; cases q
      rw [hset_same, rowL_set (by omega), ei, ej]
    · have hca : c ≠ a := by
        rintro rfl
        have h1 := (List.getElem?_eq_some_iff.mp ha)
        have h2 := (List.getElem?_eq_some_iff.mp q)
        obtain ⟨b1, b2⟩ := h1; obtain ⟨b3, b4⟩ := h2
        exact e ((List.getElem_inj h.nd).mp (b4.trans b2.symm))
      rw [hset_ne _ _ hca, rowL_ne (by simp; omega)]
      exact h.row k c q
  · by_cases e : p = (i, j)
    · rw [gset, if_pos e] at q; exact hc c q
    · rw [gset, if_neg e] at q; exact h.col p c q
theorem BAt.em {H : Hp} {b : Bd} {n : Nat} {g : Grd} {em : Bool} (h : BAt H b n g em) (em' : Bool) : BAt (Go.hset H b.d (.ns (bns n b.pl b.bl em'))) b n g em' := by
  have ne : ∀ {c : PySem.Addr} {vs : List LV}, H c = some (.lst vs) → c ≠ b.d := fun q e => by rw [e, h.ns] at q; cases q
  exact ⟨hset_same _ _ _, (hset_ne _ _ (ne h.pl)).trans h.pl, (hset_ne _ _ (ne h.bl)).trans h.bl, h.len, fun i a q => (hset_ne _ _ (ne (h.row i a q))).trans (h.row i a q), h.nd, h.two, h.nine, h.col⟩
/-- a list that is no row -/
theorem BAt.notOwn {H : Hp} {b : Bd} {n : Nat} {g : Grd} {em : Bool} {a : PySem.Addr} {vs : List LV} (h : BAt H b n g em) (ha : H a = some (.lst vs)) (hv : vs = [] ∨ ∃ v, v ∈ vs ∧ ∀ o, v ≠ cv o) : a ∉ b.own := by
  intro hm
  rcases List.mem_cons.mp hm with rfl | hm
  · rw [h.ns] at ha; cases ha
  · obtain ⟨i, hi⟩ := List.getElem?_of_mem hm
    rw [h.row i a hi] at ha
    simp only [Option.some.injEq, LO.lst.injEq] at ha
    rcases hv with rfl | ⟨v, v1, v2⟩
    · have := congrArg List.length ha
      have := h.two
      simp [rowL] at *; omega
    · rw [← ha] at v1
      obtain ⟨j, _, q⟩ := List.mem_map.mp v1
      exact v2 _ q.symm
theorem BAt.notOwn' {H : Hp} {b : Bd} {n : Nat} {g : Grd} {em : Bool} {a : PySem.Addr} {o : LO} (h : BAt H b n g em) (ha : H a = some o) (hk : Alien o = true) : a ∉ b.own := by
  intro hm
  rcases List.mem_cons.mp hm with rfl | hm
  · rw [h.ns] at ha; cases ha; cases hk
  · obtain ⟨i, hi⟩ := List.getElem?_of_mem hm
    rw [h.row i a hi] at ha; cases ha; cases hk
theorem pv_notC {L : List Pt} : L.map pv = [] ∨ ∃ v, v ∈ L.map pv ∧ ∀ o, v ≠ cv o := by
  cases L with
  | nil => exact .inl rfl
  | cons p r => exact .inr ⟨pv p, by simp, fun o => by cases o <;> simp [cv, pv]⟩

theorem EX_setcell {G : Gl} (B : BW G) {k : Nat} {sc : Scope} {m : Loc} {H : Hp} {P : PQ} {b : Bd} {n : Nat} {g : Grd} {em : Bool} {i j : Int} {o : Option Str} {xs xr xc : Str} {e : PySem.Expr} {p1 p2 p3 p4 p5 p6 p7 : Pos} (hs : (xs, some (.inst B.bc b.x b.d)) ∈ m) (hr : (xr, some (.int i)) ∈ m) (hc : (xc, some (.int j)) ∈ m) (hB : BAt H b n g em) (hon : On n (i, j))
    (he : EV G k true sc e m H (fun lv H1 => lv = cv o ∧ H1 = H) (fun _ _ => False)) (ho : ∀ c, o = some c → c = sb ∨ c = sw) (h : ∀ H', BAt H' b n (gset g (i, j) o) em → Fr b.own H H' → P.n m H')
    (h1 : (xs == ("__classdict__" : Str)) = false := by decide +kernel) (h2 : (xs == ("__debug__" : Str)) = false := by decide +kernel) (h3 : (xr == ("__classdict__" : Str)) = false := by decide +kernel) (h4 : (xr == ("__debug__" : Str)) = false := by decide +kernel) (h5 : (xc == ("__classdict__" : Str)) = false := by decide +kernel) (h6 : (xc == ("__debug__" : Str)) = false := by decide +kernel)
    (heq : ∀ env, eval (.Attribute (.Name xs p1) (Str.ofString "board") p2) env = (do
      let o ← eval (.Name xs p1) env
      standAt p2.atName
      let r ← holding [o] (getAttr o (Str.ofString "board") true)
      letTemporaryGo (.Name xs p1) o r
      pure r) := by intro _; with_unfolding_all rfl)
    (hsw : ∀ env, swapsWith e (some (.Subscript (.Subscript (.Attribute (.Name xs p1) (Str.ofString "board") p2) (.Name xr p3) p4) (.Name xc p5) p6)) p7.line env = pure false := by intro _; with_unfolding_all rfl)
    : EX G k sc (.Assign [.Subscript (.Subscript (.Attribute (.Name xs p1) (Str.ofString "board") p2) (.Name xr p3) p4) (.Name xc p5) p6] e p7) m H P := by
  have hon' := hon
  obtain ⟨o1, o2, o3, o4⟩ := hon
  simp only at o1 o2 o3 o4
  have hi : i.toNat < n := by omega
  have hj : j.toNat < n := by omega
  have hi' : i.toNat < b.rows.length := by rw [hB.len]; exact hi
  have ha : b.rows[i.toNat]? = some b.rows[i.toNat] := List.getElem?_eq_getElem hi'
  have hrow := hB.row _ _ ha
  refine EX_AssignSub ?_ hsw
  have he' : EV G k true sc e m H (fun lv H1 => lv = cv o ∧ H1 = H) (fun c H' => P.x c m H') := fun env A C Z s hs I => wpAny_mono (he env A C Z s hs I) (fun _ _ x => x) fun _ _ ⟨_, _, _, _, _, q⟩ => q.elim
  refine he'.mono ?_
  rintro lv H1 ⟨rfl, rfl⟩
  refine EV_Sub ?_
  refine EV_brd B ?_ heq
  refine EV_Name hs ?_ h1 h2
  refine ⟨_, _, _, _, _, _, rfl, hB.ns, ?_⟩
  refine EV_Name hr ?_ h3 h4
  refine ⟨SubT_lst hB.bl, ?_⟩
  refine BO_item_list hB.bl o1 (lv := .ref b.rows[i.toNat]) (by rw [List.getElem?_map, List.getElem?_eq_getElem hi']; rfl) ?_
  refine EV_Name hc ?_ h5 h6
  refine SO_list hrow o3 (by simp [rowL]; omega) ?_
  exact h _ (hB.cell hon' ha ho) ((Fr.refl _ _).hset _ (.inl (List.mem_cons_of_mem _ (List.mem_of_getElem? ha))))

end
section

theorem EX_RaiseIE {G : Gl} (B : BW G) {k : Nat} {sc : Scope} {m : Loc} {H : Hp} {P : PQ} {np pos : Pos} (h : P.x ("IndexError", true) m H) (hx : sc.names.lookup (Str.ofString "IndexError") = some .globalImplicit := by decide +kernel) : EX G k sc (.Raise (some (.Name (Str.ofString "IndexError") np)) none pos) m H P :=
  EX_Raise B.hh excClass_IndexError (by rfl) hx B.n_ie h
theorem EX_RaiseVE {G : Gl} (B : BW G) {k : Nat} {sc : Scope} {m : Loc} {H : Hp} {P : PQ} {np pos : Pos} (h : P.x ("ValueError", true) m H) (hx : sc.names.lookup (Str.ofString "ValueError") = some .globalImplicit := by decide +kernel) : EX G k sc (.Raise (some (.Name (Str.ofString "ValueError") np)) none pos) m H P :=
  EX_Raise B.hh excClass_ValueError (by rfl) hx B.n_ve h

theorem EV_cellOut {G : Gl} (B : BW G) {k : Nat} {fl : Bool} {sc : Scope} {m : Loc} {H : Hp} {Q : Qv} {X : Xc} {b : Bd} {n : Nat} {g : Grd} {em : Bool} {i j : Int} {xs xr xc : Str} {p1 p2 p3 p4 p5 p6 : Pos} (hs : (xs, some (.inst B.bc b.x b.d)) ∈ m) (hr : (xr, some (.int i)) ∈ m) (hc : (xc, some (.int j)) ∈ m) (hB : BAt H b n g em) (h0 : 0 ≤ i) (h0' : 0 ≤ j) (hb : i < 2 ^ 63) (hb' : j < 2 ^ 63) (hon : ¬ On n (i, j)) (h : X ("IndexError", true) H)
    (h1 : (xs == ("__classdict__" : Str)) = false := by decide +kernel) (h2 : (xs == ("__debug__" : Str)) = false := by decide +kernel) (h3 : (xr == ("__classdict__" : Str)) = false := by decide +kernel) (h4 : (xr == ("__debug__" : Str)) = false := by decide +kernel) (h5 : (xc == ("__classdict__" : Str)) = false := by decide +kernel) (h6 : (xc == ("__debug__" : Str)) = false := by decide +kernel)
    (he : ∀ env, eval (.Attribute (.Name xs p1) (Str.ofString "board") p2) env = (do
      let o ← eval (.Name xs p1) env
      standAt p2.atName
      let r ← holding [o] (getAttr o (Str.ofString "board") true)
      letTemporaryGo (.Name xs p1) o r
      pure r) := by intro _; with_unfolding_all rfl)
    : EV G k fl sc (.Subscript (.Subscript (.Attribute (.Name xs p1) (Str.ofString "board") p2) (.Name xr p3) p4) (.Name xc p5) p6) m H Q X := by
  refine EV_Sub (EV_Sub (EV_brd B (EV_Name hs ⟨_, _, _, _, _, _, rfl, hB.ns, EV_Name hr ⟨SubT_lst hB.bl, ?_⟩ h3 h4⟩ h1 h2) he))
  by_cases hi : i < n
  · have hi2 : i.toNat < n := by omega
    have hi' : i.toNat < b.rows.length := by rw [hB.len]; exact hi2
    have hrow := hB.row i.toNat b.rows[i.toNat] (List.getElem?_eq_getElem hi')
    refine BO_item_list hB.bl h0 (lv := .ref b.rows[i.toNat]) (by rw [List.getElem?_map, List.getElem?_eq_getElem hi']; rfl) ?_
    refine EV_Name hc ⟨SubT_lst hrow, ?_⟩ h5 h6
    refine BO_item_out hrow B.hh (.inr ?_) (by omega) hb' h
    simp only [rowL, List.length_map, List.length_range]
    simp [On] at hon; omega
  · refine BO_item_out hB.bl B.hh (.inr ?_) (by omega) hb h
    rw [List.length_map, hB.len]; omega

theorem EV_Glob {G : Gl} {k : Nat} {fl : Bool} {sc : Scope} {m : Loc} {H : Hp} {Q : Qv} {X : Xc} {x : Str} {p : Pos} {a : PySem.Addr} (hx : sc.names.lookup x = some .globalImplicit) (hg : GNm G x (.ref a)) (h : Q (.ref a) H) (hd : (x == ("__debug__" : Str)) = false := by decide +kernel) : EV G k fl sc (.Name x p) m H Q X :=
  fun env A C Z s hs I => I.name (by show env.scope.names.lookup x = _; rw [hs]; exact hx) hg hd ⟨C, .ref a, H, Cle.refl C, I, rfl, h⟩

theorem CALL_op {G : Gl} (B : BW G) {k : Nat} {H : Hp} {Q : Qv} {X : Xc} {c : Str} (hc : IsCol c) (h : Q (.str (if c = sb then sw else sb)) H) : CALL G (k + 1) (.ref B.fop) [.str c] H Q X := by
  refine CALL_of (CODE_fn B.n_op.2.2 1 rfl (by decide +kernel) ?_)
  refine EXS_at (m' := [("colour", some (.str c))]) rfl ?_
  refine EXS_cons ?_
  refine EX_Try (T := "KeyError") (by decide +kernel) B.n_ke (by decide +kernel) (by rfl) (by rfl) ?_
  refine EXS_cons (EX_Return ?_)
  have hl : ([(sb, LV.str sw), (sw, LV.str sb)] : List (Str × LV)).lookup c = some (.str (if c = sb then sw else sb)) := by
    have e : (sw == sb) = false := by decide +kernel
    have e' : ¬ sw = sb := by intro q; rw [q] at e; simp at e
    rcases hc with rfl | rfl
    · simp
    · simp [List.lookup_cons, e, e']
  refine EV_odict B.opd hl ?_
  refine EV_Glob (by decide +kernel) B.n_opd ?_
  refine ⟨rfl, ?_⟩
  walk_at "go"
  exact ⟨rfl, h⟩

theorem CALL_ie {G : Gl} (B : BW G) {k : Nat} {H : Hp} {Q : Qv} {X : Xc} {b : Bd} {n : Nat} {g : Grd} {em : Bool} (hB : BAt H b n g em) (h : Q (.bool em) H) : CALL G (k + 1) (.ref B.fie) [.inst B.bc b.x b.d] H Q X := by
  refine CALL_of (CODE_fn B.m_ie.2.2.2 1 rfl (by decide +kernel) ?_)
  refine EXS_at (m' := [("self", some (.inst B.bc b.x b.d))]) rfl ?_
  refine EXS_cons ?_
  walk_at "go"
  exact h

theorem CALL_ge {G : Gl} (B : BW G) {k : Nat} {H : Hp} {Q : Qv} {X : Xc} {b : Bd} {n : Nat} {g : Grd} {em : Bool} {i j : Int} (hB : BAt H b n g em) (h : On n (i, j) → Q (cv (g (i, j))) H) (hx : ¬ On n (i, j) → X ("IndexError", true) H) (hb : i < 2 ^ 63 ∧ j < 2 ^ 63) : CALL G (k + 1) (.ref B.fge) [.inst B.bc b.x b.d, .int i, .int j] H Q X := by
  refine CALL_of (CODE_fn B.m_ge.2.2.2 3 rfl (by decide +kernel) ?_)
  refine EXS_at (m' := [("self", some (.inst B.bc b.x b.d)), ("row", some (.int i)), ("col", some (.int j))]) rfl ?_
  refine EXS_cons ?_
  walk_at "go"
  by_cases c1 : i < 0
  · simp only [c1, decide_true, if_true]
    refine ⟨fun _ => ?_, (fun q => by cases q)⟩
    walk_at "go"
    exact EX_RaiseIE B (hx fun o => by have := o.1; simp at this; omega)
  simp only [c1, decide_false, Bool.false_eq_true, if_false]
  walk_at "go"
  by_cases c2 : j < 0
  · simp only [c2, decide_true, if_true]
    refine ⟨fun _ => ?_, (fun q => by cases q)⟩
    walk_at "go"
    exact EX_RaiseIE B (hx fun o => by have := o.2.2.1; simp at this; omega)
  simp only [c2, decide_false, Bool.false_eq_true, if_false]
  walk_at "go"
  refine ⟨(fun q => by cases q), fun _ => ?_⟩
  refine EXS_nil (EXS_cons (EX_Return ?_))
  by_cases ho : On n (i, j)
  · refine EV_cell B (by walk_at "mem") (by walk_at "mem") (by walk_at "mem") hB ho (h ho)
  · refine EV_cellOut B (by walk_at "mem") (by walk_at "mem") (by walk_at "mem") hB (by omega) (by omega) hb.1 hb.2 ho (hx ho)
theorem CALL_lo {G : Gl} (B : BW G) {k : Nat} {H : Hp} {Q : Qv} {X : Xc} {b : Bd} {n : Nat} {g : Grd} {em : Bool} (hB : BAt H b n g em)
    (h : ∀ a H', Ext H H' → H a = none → H' a = some (.lst ((pts n).filterMap fun p => (g p).map fun c => .tup [.str c, pv p])) → Q (.ref a) H') : CALL G (k + 1) (.ref B.flo) [.inst B.bc b.x b.d] H Q X := by
  refine CALL_of (CODE_fn B.m_lo.2.2.2 1 rfl (by decide +kernel) ?_)
  refine EXS_at (m' := [("self", some (.inst B.bc b.x b.d)), ("result", none), ("row", none), ("col", none), ("colour", none)]) rfl ?_
  refine EXS_cons ?_
  walk_at "go"
  intro ls fls
  walk_at "go"
  refine EX_ForL B.hh ?_
  walk_at "go"
  have hpl0 := hB.pl
  have nlp : b.pl ≠ ls := ne_of fls hpl0
  refine ⟨_, (pts n).map pv, rfl, by walk_at "hp", fun i m' H' => ∃ (o1 o2 o3 : Option LV), m' = ([("self", some (.inst B.bc b.x b.d)), ("result", some (.ref ls)), ("row", o1), ("col", o2), ("colour", o3)] : Loc) ∧
    Ext H H' ∧ H' ls = some (.lst (((pts n).take i).filterMap fun p => (g p).map fun c => .tup [.str c, pv p])), ⟨_, _, _, rfl, by walk_at "ext", by simp⟩, ?_⟩
  constructor
  · rintro i m' H' ⟨o1, o2, o3, rfl, hE, h1⟩; exact hE _ _ hpl0
  · rintro i lv m' H' hi ⟨o1, o2, o3, rfl, hE, h1⟩
    obtain ⟨⟨row, col⟩, hr, rfl⟩ := Option.map_eq_some_iff.mp (by rw [List.getElem?_map] at hi; exact hi)
    have ht : (pts n).take (i + 1) = (pts n).take i ++ [(row, col)] := by rw [List.take_add_one, hr]; rfl
    have hBk := hB.ext hE
    have ho : On n (row, col) := mem_pts.mp (List.mem_of_getElem? hr)
    refine AS_pv (by walk_at "put") (by walk_at "put") B.hh ?_
    walk_at "go"
    cases hg : g (row, col) with
    | none =>
      dsimp only [cv]
      walk_at "go"
      refine ⟨(fun hx => by cases hx), fun _ => ?_⟩
      walk_at "go"
      exact ⟨_, _, _, rfl, hE, by rw [ht]; simp [hg]; exact h1⟩
    | some cc =>
      dsimp only [cv]
      walk_at "go"
      refine ⟨fun hx => ?_, (fun hx => by cases hx)⟩
      walk_at "go"
      · exact ⟨_, _, _, rfl, by walk_at "ext", by rw [ht, hset_same, List.filterMap_append]; simp [hg, pv]⟩
      · have h1 : (pts n).length ≤ 81 := by rw [pts_length]; exact Nat.mul_le_mul hB.nine hB.nine
        have h2 := List.length_filterMap_le (fun p => (g p).map fun c => LV.tup [.str c, pv p]) ((pts n).take i)
        rw [List.length_take] at h2; omega
  · rintro m' H' ⟨o1, o2, o3, rfl, hE, h1⟩
    rw [List.length_map, List.take_length] at h1
    walk_at "go"
    exact h ls H' hE fls h1

end
section

def gEmpty : Grd := fun _ => none
/-- a new board -/
def BNew (H : Hp) (b : Bd) : Prop := H b.d = none ∧ H b.pl = none ∧ H b.bl = none ∧ ∀ a, a ∈ b.rows → H a = none

theorem CODE_in {G : Gl} (B : BW G) {k : Nat} {H : Hp} {Q : Qv} {X : Xc} {x d : PySem.Addr} {n : Nat} (h2 : 2 ≤ n) (h9 : n ≤ 9) (hd : H d = none)
    (h : ∀ b H', b.x = x → b.d = d → Ext H H' → BNew H b → BAt H' b n gEmpty true → Q .none H') : CODE G (k + 1) (.ref B.fin) [.inst B.bc x d, .int n] (hset H d (.ns [])) Q X := by
  refine CODE_fn B.ib.2.2 2 rfl (by decide +kernel) ?_
  refine EXS_at (m' := [("self", some (.inst B.bc x d)), ("side", some (.int n)), ("row", none)]) rfl ?_
  refine EXS_cons ?_
  walk_at "go"
  have h2' : ¬ ((n : Int) < 2) := by omega
  simp only [h2', decide_false]
  refine ⟨(fun q => by cases q), fun _ => ?_⟩
  walk_at "go"
  refine EV_grid (n := n) B.hh (by omega) B.n_range (by walk_at "mem") (by decide +kernel) (by decide +kernel) (by decide +kernel) (by decide +kernel) (by rfl) (by rfl) ?_
  intro pl H1 hpl e1 p1
  have hd1 : H1 d = some (.ns [(Str.ofString "side", .int n)]) := e1 _ _ (hset_same _ _ _)
  have npd : pl ≠ d := fun e => by rw [e, hd1] at p1; cases p1
  walk_at "go"
  intro bl hbl
  have nbd : bl ≠ d := (ne_of hbl (by walk_at "hp")).symm
  have nbp : bl ≠ pl := (ne_of hbl (by walk_at "hp")).symm
  walk_at "go"
  have hE2 : Ext H1 (hset H1 pl (.lst ((pts n).map pv))) := by rw [hset_id p1]; exact Ext.refl _
  refine EX_ForN B.hh (by decide +kernel) B.n_range ?_
  walk_at "go"
  have npl0 : H pl = none := by walk_at "none"
  refine ⟨by omega, fun i m' H' => ∃ (rs : List PySem.Addr) (o : Option LV), m' = ([("self", some (.inst B.bc x d)), ("side", some (.int n)), ("row", o)] : Loc) ∧ Ext H H' ∧ rs.length = i ∧ rs.Nodup ∧ (∀ a, a ∈ rs → H a = none) ∧
    H' d = some (.ns [(Str.ofString "side", .int n), (Str.ofString "board_points", .ref pl), (Str.ofString "board", .ref bl)]) ∧ H' pl = some (.lst ((pts n).map pv)) ∧ H' bl = some (.lst (rs.map .ref)) ∧
    (∀ a, a ∈ rs → H' a = some (.lst (List.replicate n .none)) ∧ a ≠ bl), ⟨[], _, rfl, ?_, rfl, List.nodup_nil, by simp, by walk_at "hp", by walk_at "hp", by rw [List.map_nil]; walk_at "hp", by simp⟩, ?_⟩
  · intro a o ho
    have n1 : a ≠ d := ne_of hd ho
    have n3 : a ≠ bl := by rintro rfl; have := Ext.none e1 (by rw [hset_ne _ _ nbd] at hbl; exact hbl); rw [hset_ne _ _ nbd, hset_ne _ _ nbd] at this; rw [ho] at this; cases this
    rw [hset_ne _ _ n1, hset_ne _ _ n3, hset_ne _ _ n1]
    exact e1 _ _ (by rw [hset_ne _ _ n1, hset_ne _ _ n1]; exact ho)
  have hbl0 : H bl = none := by have := Ext.none e1 (by rw [hset_ne _ _ nbd] at hbl; exact hbl); rw [hset_ne _ _ nbd, hset_ne _ _ nbd] at this; exact this
  constructor
  · intros; trivial
  · rintro i lv m' H' hi ⟨rs, o, rfl, hE, hl, nd, hf, k1, k2, k3, k4⟩
    refine AS_Name (by walk_at "put") ?_
    refine EXS_cons (EX_Expr (EV_lapp (EV_Attr (EV_Name (by walk_at "mem") ?_))) (by decide +kernel))
    refine ⟨_, _, _, _, .ref bl, rfl, k1, B.ob, B.a_brd, by simp [List.lookup_cons, ne2, ne3], ?_⟩
    walk_at "go"
    intro c hc
    walk_at "go"
    refine BO_mull (hset_same _ _ _) (by omega) (by omega) fun r hr => ?_
    have nrc : r ≠ c := (ne_of hr (hset_same _ _ _)).symm
    have hr' : H' r = none := by rw [hset_ne _ _ nrc] at hr; exact hr
    have hr0 : H r = none := Ext.none hE hr'
    have hc0 : H c = none := Ext.none hE hc
    have ncb : bl ≠ c := ne_of hc k3
    have nrb : bl ≠ r := ne_of hr' k3
    have ncd : d ≠ c := ne_of hc k1
    have nrd : d ≠ r := ne_of hr' k1
    have ncp : pl ≠ c := ne_of hc k2
    have nrp : pl ≠ r := ne_of hr' k2
    have hin : i < n := by have := (List.getElem?_eq_some_iff.mp hi).1; simpa using this
    have hrs : r ∉ rs := fun q => by have := (k4 r q).1; rw [hr'] at this; cases this
    walk_at "go"
    · refine ⟨rs ++ [r], _, rfl, ?_, by simp [hl], ?_, ?_, by walk_at "hp", by walk_at "hp", ?_, ?_⟩
      · exact ((hE.set hc0).set hr0).set hbl0
      · refine List.nodup_append.mpr ⟨nd, by simp, fun a ha b hb => ?_⟩
        rw [List.mem_singleton] at hb; subst hb; rintro rfl; exact hrs ha
      · intro a ha
        rcases List.mem_append.mp ha with q | q
        · exact hf a q
        · rw [List.mem_singleton] at q; subst q; exact hr0
      · rw [List.map_append]; exact hset_same _ _ _
      · intro a ha
        rcases List.mem_append.mp ha with q | q
        · have hac : a ≠ c := fun e => by rw [e] at q; have := (k4 c q).1; rw [hc] at this; cases this
          have har : a ≠ r := fun e => hrs (e ▸ q)
          refine ⟨?_, (k4 a q).2⟩
          rw [hset_ne _ _ (k4 a q).2, hset_ne _ _ har, hset_ne _ _ hac]; exact (k4 a q).1
        · rw [List.mem_singleton] at q; subst q
          refine ⟨?_, nrb.symm⟩
          rw [hset_ne _ _ nrb.symm, hset_same]
          simp
    · rw [List.length_map]; omega
  · rintro m' H' ⟨rs, o, rfl, hE, hl, nd, hf, k1, k2, k3, k4⟩
    simp only [List.length_map, List.length_range] at hl
    walk_at "go"
    refine h ⟨x, d, pl, bl, rs⟩ _ rfl rfl (hE.set hd) ⟨hd, npl0, hbl0, hf⟩ ⟨hset_same _ _ _, by walk_at "hp", by walk_at "hp", hl, fun i a q => ?_, nd, h2, h9, by simp [gEmpty]⟩
    have hm := List.mem_of_getElem? q
    rw [hset_ne _ _ (fun e => by rw [← e, (k4 a hm).1] at k1; cases k1), (k4 a hm).1]
    simp [rowL, gEmpty, cv, List.map_const']

end
section

theorem CALL_board {G : Gl} (B : BW G) {k : Nat} {H : Hp} {Q : Qv} {X : Xc} {n : Nat} (h2 : 2 ≤ n) (h9 : n ≤ 9) (h : ∀ b H', Ext H H' → BNew H b → BAt H' b n gEmpty true → Q (.inst B.bc b.x b.d) H') : CALL G (k + 2) (.ref B.bc) [.int n] H Q X :=
  CALL_of (CODE_cls B.mb B.ib.1 B.ib.2.1 fun x d hd => CODE_in B h2 h9 hd fun b H' e1 e2 e3 e4 e5 => by subst e1; subst e2; exact ⟨rfl, h b H' e3 e4 e5⟩)

theorem CALL_cp {G : Gl} (B : BW G) {k : Nat} {H : Hp} {Q : Qv} {X : Xc} {b : Bd} {n : Nat} {g : Grd} {em : Bool} (hB : BAt H b n g em)
    (h : ∀ b' H', Ext H H' → BNew H b' → BAt H' b' n g em → Q (.inst B.bc b'.x b'.d) H') : CALL G (k + 3) (.ref B.fcp) [.inst B.bc b.x b.d] H Q X := by
  refine CALL_of (CODE_fn B.m_cp.2.2.2 1 rfl (by decide +kernel) ?_)
  refine EXS_at (m' := [("self", some (.inst B.bc b.x b.d)), ("b", none)]) rfl ?_
  refine EXS_cons ?_
  walk_at "go"
  refine CALL_board B hB.two hB.nine fun c H1 e1 nw bc => ?_
  have hB1 := hB.ext e1
  walk_at "go"
  refine EV_ListComp (S := stpN G) ?_ (by rfl)
  refine IT_range (by decide +kernel) B.n_range ?_
  walk_at "go"
  refine ⟨by omega, by have := hB.nine; omega, fun D hD => ?_⟩
  have m0 : comp0 ([(Str.ofString ".0", NameKind.local), (Str.ofString "i", NameKind.local), (Str.ofString "self", NameKind.free)]) [(Str.ofString "self", some (.inst B.bc b.x b.d)), (Str.ofString "b", some (.inst B.bc c.x c.d))] = [(Str.ofString ".0", none), (Str.ofString "i", none), (Str.ofString "self", some (.inst B.bc b.x b.d))] := by rfl
  rw [m0]
  refine CS_loop (S := stpN G) (ifs := []) (target := .Name (Str.ofString "i") _) B.hh
    (fun w x m H' => ∃ (i : Nat) (rs : List PySem.Addr) (o0 o1 : Option LV), x = ((i : Int), n - i) ∧ i ≤ n ∧ w = n - i ∧ m = ([(Str.ofString ".0", o0), (Str.ofString "i", o1), (Str.ofString "self", some (.inst B.bc b.x b.d))] : Loc) ∧ Ext H1 H' ∧ H' D = some (.lst (rs.map .ref)) ∧
      rs.length = i ∧ rs.Nodup ∧ (∀ a, a ∈ rs → H1 a = none ∧ a ≠ D) ∧ ∀ j a, rs[j]? = some a → H' a = some (.lst (rowL n g j)))
    (n := n) ⟨0, [], none, none, rfl, by omega, by omega, rfl, (Ext.refl _).set hD, hset_same _ _ _, rfl, List.nodup_nil, by simp, by simp⟩ ?_
  rintro w x m H' ⟨i, rs, o0, o1, rfl, hi, rfl, rfl, hE, hL, hl, nd, hf, hr⟩
  cases hw : n - i with
  | zero =>
    refine ⟨none, rfl, fun _ => ?_, (fun lv x' q => by cases q)⟩
    have : i = n := by omega
    subst this
    have hc1 : H' c.d = some (.ns (bns i c.pl c.bl true)) := hE _ _ bc.ns
    have hf' : ∀ a, a ∈ rs → H a = none := fun a ha => Ext.none e1 (hf a ha).1
    have hDc : D ≠ c.d := fun e => by rw [e, bc.ns] at hD; cases hD
    have hrc : ∀ a, a ∈ rs → a ≠ c.d := fun a ha e => by have := (hf a ha).1; rw [e, bc.ns] at this; cases this
    have hE0 : Ext H H' := e1.trans hE
    have hpl : H' c.pl = some (.lst ((pts i).map pv)) := hE _ _ bc.pl
    have npc : c.pl ≠ c.d := fun e => by rw [e, hc1] at hpl; cases hpl
    walk_at "go"
    refine ⟨_, _, _, _, _, _, rfl, (hB.ext (hE0.set nw.1)).ns, ?_⟩
    walk_at "go"
    rw [hset_hset]
    refine h ⟨c.x, c.d, c.pl, D, rs⟩ _ (hE0.set nw.1) ⟨nw.1, nw.2.1, Ext.none e1 hD, hf'⟩ ⟨hset_same _ _ _, (hset_ne _ _ npc).trans hpl, (hset_ne _ _ hDc).trans hL, hl, fun j a q => ?_, nd, hB.two, hB.nine, hB.col⟩
    exact (hset_ne _ _ (hrc a (List.mem_of_getElem? q))).trans (hr j a q)
  | succ w =>
    refine ⟨some (.int i, ((i : Int) + 1, w)), rfl, (fun q => by cases q), ?_⟩
    rintro lv x' q; cases q
    refine AS_Name (.there .here) ?_ (.inr (by decide +kernel))
    refine TSs_nil ⟨fun _ => ?_, (fun q => by cases q)⟩
    refine INN_append ?_
    have hBk := hB1.ext hE
    refine EV_Slice ?_
    walk_at "go"
    have hin : i < n := by omega
    have hi' : i < b.rows.length := by rw [hB.len]; exact hin
    have hrow := hBk.row i b.rows[i] (List.getElem?_eq_getElem hi')
    have hlen : (rowL n g i).length = n := by simp [rowL]
    have h9 := hB.nine
    refine ⟨SubT_lst hBk.bl, BO_item_list hBk.bl (by omega) (lv := .ref b.rows[i]) (by rw [List.getElem?_map]; simp [hi']) ?_⟩
    refine EP_none (EP_none (EP_none ⟨rowL n g i, hrow, by omega, by simp, by rw [pickL_all]; omega, SubT_lst hrow, fun r hr' => ?_⟩))
    rw [pickL_all]
    have hDr : D ≠ r := ne_of hr' hL
    have hr1 : H1 r = none := Ext.none hE hr'
    refine ⟨_, (hset_ne _ _ hDr).trans hL, by rw [List.length_map]; omega, w, by omega, i + 1, rs ++ [r], _, _, Prod.ext (by show (i : Int) + 1 = ((i + 1 : Nat) : Int); omega) (by show w = n - (i + 1); omega), by omega, by omega, rfl, (hE.set hr1).set hD, ?_, by simp [hl], ?_, ?_, ?_⟩
    · rw [List.map_append]; exact hset_same _ _ _
    · refine List.nodup_append.mpr ⟨nd, by simp, fun a ha b hb => ?_⟩
      rw [List.mem_singleton] at hb; subst hb; rintro rfl
      obtain ⟨j, hj⟩ := List.getElem?_of_mem ha
      have := hr j a hj; rw [hr'] at this; cases this
    · intro a ha
      rcases List.mem_append.mp ha with q | q
      · exact hf a q
      · rw [List.mem_singleton] at q; subst q; exact ⟨hr1, hDr.symm⟩
    · intro j a hj
      rw [List.getElem?_append] at hj
      split at hj
      · have hm := List.mem_of_getElem? hj
        have h1 := hr j a hj
        rw [hset_ne _ _ (hf a hm).2, hset_ne _ _ (ne_of hr' h1)]; exact h1
      · rename_i hlt
        have hj0 : j - rs.length = 0 := by
          have := (List.getElem?_eq_some_iff.mp hj).1; simp at this; omega
        rw [hj0] at hj; simp at hj; subst hj
        have : j = i := by omega
        subst this
        rw [hset_ne _ _ hDr.symm, hset_same]

end
section

theorem TS_offb {G : Gl} (B : BW G) {k : Nat} {fl : Bool} {sc : Scope} {m : Loc} {H : Hp} {Q : Bool → Hp → Prop} {X : Xc} {b : Bd} {n : Nat} {g : Grd} {em : Bool} {i j : Int} {xs xr xc : Str} {a1 a2 a3 a4 a5 a6 a7 a8 a9 b1 b2 b3 b4 b6 b7 : Pos} {k1 k2 : Nat}
    (hs : (xs, some (.inst B.bc b.x b.d)) ∈ m) (hr : (xr, some (.int i)) ∈ m) (hc : (xc, some (.int j)) ∈ m) (hB : BAt H b n g em) (h : Q (decide (¬ On n (i, j))) H)
    (h1 : (xs == ("__classdict__" : Str)) = false := by decide +kernel) (h2 : (xs == ("__debug__" : Str)) = false := by decide +kernel) (h3 : (xr == ("__classdict__" : Str)) = false := by decide +kernel) (h4 : (xr == ("__debug__" : Str)) = false := by decide +kernel) (h5 : (xc == ("__classdict__" : Str)) = false := by decide +kernel) (h6 : (xc == ("__debug__" : Str)) = false := by decide +kernel)
    (he : ∀ q p env, eval (.Attribute (.Name xs q) (Str.ofString "side") p) env = (do
      let o ← eval (.Name xs q) env
      standAt p.atName
      let r ← holding [o] (getAttr o (Str.ofString "side") true)
      letTemporaryGo (.Name xs q) o r
      pure r) := by intro _ _ _; with_unfolding_all rfl)
    (hm : ∀ q, behindInMarks .GtE (.Attribute (.Name xs q) (Str.ofString "side") b6) = false := by intro _; with_unfolding_all rfl) (hm' : ∀ q, behindInMarks .GtE (.Attribute (.Name xs q) (Str.ofString "side") b7) = false := by intro _; with_unfolding_all rfl)
    (hm2 : ∀ i q, behindInMarks .Lt (.Constant (.int 0) i q) = false := by intro _ _; with_unfolding_all rfl) :
    TS G k fl sc (.BoolOp .Or [.Compare (.Name xr a1) [.Lt] [.Constant (.int 0) k1 a2] a3, .Compare (.Name xc a4) [.Lt] [.Constant (.int 0) k2 a5] a6, .Compare (.Name xr a7) [.GtE] [.Attribute (.Name xs a8) (Str.ofString "side") b6] a9, .Compare (.Name xc b1) [.GtE] [.Attribute (.Name xs b2) (Str.ofString "side") b7] b3] b4) m H Q X := by
  refine TS_Bool (AT_or (TS_Compare1 (EV_Name hr (EV_int (BO_lt ⟨_, rfl, ?_⟩)) h3 h4) (hm2 _ _)))
  by_cases c1 : i < 0
  case pos =>
    have : decide (¬ On n (i, j)) = true := decide_eq_true (by simp [On]; omega)
    rw [this] at h; simp only [c1, decide_true, if_true]; exact h
  simp only [c1, decide_false, Bool.false_eq_true, if_false]
  refine AT_or (TS_Compare1 (EV_Name hc (EV_int (BO_lt ⟨_, rfl, ?_⟩)) h5 h6) (hm2 _ _))
  by_cases c2 : j < 0
  case pos =>
    have : decide (¬ On n (i, j)) = true := decide_eq_true (by simp [On]; omega)
    rw [this] at h; simp only [c2, decide_true, if_true]; exact h
  simp only [c2, decide_false, Bool.false_eq_true, if_false]
  refine AT_or (TS_Compare1 (EV_Name hr (EV_side B (EV_Name hs ⟨_, _, _, _, _, _, rfl, hB.ns, BO_ge ⟨_, rfl, ?_⟩⟩ h1 h2) (he _ _)) h3 h4) (hm _))
  by_cases c3 : i ≥ n
  case pos =>
    have : decide (¬ On n (i, j)) = true := decide_eq_true (by simp [On]; omega)
    rw [this] at h; simp only [c3, decide_true, if_true]; exact h
  simp only [c3, decide_false, Bool.false_eq_true, if_false]
  refine AT_or (TS_Compare1 (EV_Name hc (EV_side B (EV_Name hs ⟨_, _, _, _, _, _, rfl, hB.ns, BO_ge ⟨_, rfl, ?_⟩⟩ h1 h2) (he _ _)) h5 h6) (hm' _))
  by_cases c4 : j ≥ n
  case pos =>
    have : decide (¬ On n (i, j)) = true := decide_eq_true (by simp [On]; omega)
    rw [this] at h; simp only [c4, decide_true, if_true]; exact h
  simp only [c4, decide_false, Bool.false_eq_true, if_false]
  have : decide (¬ On n (i, j)) = false := decide_eq_false (by simp [On]; omega)
  rw [this] at h
  exact AT_nil h


end
section

/-- a setup, point by point -/
def putG (g : Grd) (Lb Lw Le : List Pt) : Grd := setAll (setAll (setAll g Lb (some sb)) Lw (some sw)) Le none

theorem LstOf_ref {H : Hp} {a : PySem.Addr} {vs : List LV} (h : H a = some (.lst vs)) : LstOf H (.ref a) vs := h
theorem CALL_as {G : Gl} (B : BW G) {k : Nat} {H : Hp} {Q : Qv} {X : Xc} {b : Bd} {n : Nat} {g : Grd} {em : Bool} {ab aw ae : PySem.Addr} {Lb Lw Le : List Pt} (hB : BAt H b n g em) (few : Few n (putG g Lb Lw Le))
    (hb : H ab = some (.lst (Lb.map pv))) (hw : H aw = some (.lst (Lw.map pv))) (he : H ae = some (.lst (Le.map pv))) (hlen : Lb.length + Lw.length + Le.length ≤ 4000)
    (h : (∀ p, p ∈ Lb ++ Lw ++ Le → On n p) → ∀ H' g2 em' leg, Fr b.own H H' → BAt H' b n g2 em' → Breathed n (putG g Lb Lw Le) g2 → (em' = true ↔ ∀ p, On n p → g2 p = none) → (leg = true ↔ Legal n (putG g Lb Lw Le)) → Q (.bool leg) H')
    (hx : (¬ ∀ p, p ∈ Lb ++ Lw ++ Le → On n p) → ∀ H', Ext H H' → X ("IndexError", true) H') :
    CALL G (k + 5) (.ref B.fas) [.inst B.bc b.x b.d, .ref ab, .ref aw, .ref ae] H Q X := by
  refine CALL_of (CODE_fn B.m_as.2.2.2 4 rfl (by decide +kernel) ?_)
  refine EXS_at (m' := [("self", some (.inst B.bc b.x b.d)), ("black_points", some (.ref ab)), ("white_points", some (.ref aw)), ("empty_points", some (.ref ae)), ("row", none), ("col", none), ("captured", none), ("group", none)]) rfl ?_
  refine EXS_cons ?_
  refine EX_ForL B.hh ?_
  walk_at "go"
  refine CALL_list (vs := Lb.map pv) hb (by rw [List.length_map]; omega) fun a1 f1 => ?_
  walk_at "go"
  refine CALL_list (vs := Lw.map pv) (LstOf_ref (by walk_at "hp")) (by rw [List.length_map]; omega) fun a2 f2 => ?_
  walk_at "go"
  refine BO_addl (vs := Lb.map pv) (ws := Lw.map pv) (LstOf_ref (by walk_at "hp")) (LstOf_ref (by walk_at "hp")) (by rw [List.length_map, List.length_map]; omega) fun a3 f3 => ?_
  walk_at "go"
  refine CALL_list (vs := Le.map pv) (LstOf_ref (by walk_at "hp")) (by rw [List.length_map]; omega) fun a4 f4 => ?_
  walk_at "go"
  refine BO_addl (vs := Lb.map pv ++ Lw.map pv) (ws := Le.map pv) (LstOf_ref (by walk_at "hp")) (LstOf_ref (by walk_at "hp")) (by rw [List.length_append, List.length_map, List.length_map, List.length_map]; omega) fun a5 f5 => ?_
  have hmap : Lb.map pv ++ Lw.map pv ++ Le.map pv = (Lb ++ Lw ++ Le).map pv := by simp
  have h50 : H a5 = none := by walk_at "none"
  refine ⟨a5, (Lb ++ Lw ++ Le).map pv, rfl, by rw [hmap]; exact hset_same _ _ _, fun i m' H' => ∃ (o1 o2 : Option LV), m' = ([("self", some (.inst B.bc b.x b.d)), ("black_points", some (.ref ab)), ("white_points", some (.ref aw)), ("empty_points", some (.ref ae)), ("row", o1), ("col", o2), ("captured", none), ("group", none)] : Loc) ∧
    Ext H H' ∧ H' a5 = some (.lst ((Lb ++ Lw ++ Le).map pv)) ∧ ∀ p, p ∈ (Lb ++ Lw ++ Le).take i → On n p, ⟨_, _, rfl, by walk_at "ext", by rw [hmap]; exact hset_same _ _ _, by simp⟩, ?_⟩
  constructor
  · rintro i m' H' ⟨o1, o2, rfl, hE, h1, h2⟩; exact h1
  · rintro i lv m' H' hi ⟨o1, o2, rfl, hE, h1, h2⟩
    obtain ⟨⟨row, col⟩, hr, rfl⟩ := Option.map_eq_some_iff.mp (by rw [List.getElem?_map] at hi; exact hi)
    have ht : (Lb ++ Lw ++ Le).take (i + 1) = (Lb ++ Lw ++ Le).take i ++ [(row, col)] := by rw [List.take_add_one, hr]; rfl
    have hBk := hB.ext hE
    refine AS_pv (by walk_at "put") (by walk_at "put") B.hh ?_
    refine EXS_cons (EX_If (TS_offb B (by walk_at "mem") (by walk_at "mem") (by walk_at "mem") hBk ?_))
    by_cases ho : On n (row, col)
    · have e : decide (¬ On n (row, col)) = false := decide_eq_false (by simpa using ho)
      rw [e]
      refine ⟨(fun q => by cases q), fun _ => ?_⟩
      walk_at "go"
      refine ⟨_, _, rfl, hE, h1, fun p hp => ?_⟩
      rw [ht] at hp
      rcases List.mem_append.mp hp with z | z
      · exact h2 p z
      · rw [List.mem_singleton] at z; subst z; exact ho
    · have e : decide (¬ On n (row, col)) = true := decide_eq_true ho
      rw [e]
      refine ⟨fun _ => ?_, (fun q => by cases q)⟩
      walk_at "go"
      exact EX_RaiseIE B (hx (fun q => ho (q _ (List.mem_of_getElem? hr))) _ hE)
  rintro m' H0 ⟨o1, o2, rfl, e0, -, hall⟩
  rw [List.length_map, List.take_length] at hall
  replace h := h hall
  clear hx
  have hB0 := hB.ext e0
  walk_at "go"
  refine EX_ForL B.hh ?_
  walk_at "go"
  refine ⟨_, Lb.map pv, rfl, e0 _ _ hb, fun i m' H' => ∃ (o1 o2 : Option LV), m' = ([("self", some (.inst B.bc b.x b.d)), ("black_points", some (.ref ab)), ("white_points", some (.ref aw)), ("empty_points", some (.ref ae)), ("row", o1), ("col", o2), ("captured", none), ("group", none)] : Loc) ∧
    Fr b.own H H' ∧ BAt H' b n (setAll g (Lb.take i) (some sb)) em, ⟨_, _, rfl, e0.fr _, by rw [List.take_zero, setAll_nil]; exact hB0⟩, ?_⟩
  constructor
  · rintro i m' H' ⟨o1, o2, rfl, hF, hBk⟩; exact hF _ _ (hB.notOwn hb pv_notC) hb
  · rintro i lv m' H' hi ⟨o1, o2, rfl, hF, hBk⟩
    obtain ⟨⟨row, col⟩, hr, rfl⟩ := Option.map_eq_some_iff.mp (by rw [List.getElem?_map] at hi; exact hi)
    have ht : Lb.take (i + 1) = Lb.take i ++ [(row, col)] := by rw [List.take_add_one, hr]; rfl
    have ho : On n (row, col) := hall _ (by have := List.mem_of_getElem? hr; simp [this])
    refine AS_pv (by walk_at "put") (by walk_at "put") B.hh ?_
    refine EXS_cons (EX_setcell B (o := (some sb)) (by walk_at "mem") (by walk_at "mem") (by walk_at "mem") hBk ho (by walk_at "go"; exact ⟨rfl, rfl⟩) (by simp) fun H3 q1 q2 => ?_)
    walk_at "go"
    exact ⟨_, _, rfl, hF.trans q2, by rw [setAll_snoc, ← ht] at q1; exact q1⟩
  rintro m' H2 ⟨o1, o2, rfl, hF2, hB2⟩
  rw [List.length_map, List.take_length] at hB2
  walk_at "go"
  refine EX_ForL B.hh ?_
  walk_at "go"
  refine ⟨_, Lw.map pv, rfl, hF2 _ _ (hB.notOwn hw pv_notC) hw, fun i m' H' => ∃ (o1 o2 : Option LV), m' = ([("self", some (.inst B.bc b.x b.d)), ("black_points", some (.ref ab)), ("white_points", some (.ref aw)), ("empty_points", some (.ref ae)), ("row", o1), ("col", o2), ("captured", none), ("group", none)] : Loc) ∧
    Fr b.own H H' ∧ BAt H' b n (setAll (setAll g Lb (some sb)) (Lw.take i) (some sw)) em, ⟨_, _, rfl, hF2, by rw [List.take_zero, setAll_nil]; exact hB2⟩, ?_⟩
  constructor
  · rintro i m' H' ⟨o1, o2, rfl, hF, hBk⟩; exact hF _ _ (hB.notOwn hw pv_notC) hw
  · rintro i lv m' H' hi ⟨o1, o2, rfl, hF, hBk⟩
    obtain ⟨⟨row, col⟩, hr, rfl⟩ := Option.map_eq_some_iff.mp (by rw [List.getElem?_map] at hi; exact hi)
    have ht : Lw.take (i + 1) = Lw.take i ++ [(row, col)] := by rw [List.take_add_one, hr]; rfl
    have ho : On n (row, col) := hall _ (by have := List.mem_of_getElem? hr; simp [this])
    refine AS_pv (by walk_at "put") (by walk_at "put") B.hh ?_
    refine EXS_cons (EX_setcell B (o := (some sw)) (by walk_at "mem") (by walk_at "mem") (by walk_at "mem") hBk ho (by walk_at "go"; exact ⟨rfl, rfl⟩) (by simp) fun H3 q1 q2 => ?_)
    walk_at "go"
    exact ⟨_, _, rfl, hF.trans q2, by rw [setAll_snoc, ← ht] at q1; exact q1⟩
  rintro m' H4 ⟨o1, o2, rfl, hF4, hB4⟩
  rw [List.length_map, List.take_length] at hB4
  walk_at "go"
  refine EX_ForL B.hh ?_
  walk_at "go"
  refine ⟨_, Le.map pv, rfl, hF4 _ _ (hB.notOwn he pv_notC) he, fun i m' H' => ∃ (o1 o2 : Option LV), m' = ([("self", some (.inst B.bc b.x b.d)), ("black_points", some (.ref ab)), ("white_points", some (.ref aw)), ("empty_points", some (.ref ae)), ("row", o1), ("col", o2), ("captured", none), ("group", none)] : Loc) ∧
    Fr b.own H H' ∧ BAt H' b n (setAll (setAll (setAll g Lb (some sb)) Lw (some sw)) (Le.take i) none) em, ⟨_, _, rfl, hF4, by rw [List.take_zero, setAll_nil]; exact hB4⟩, ?_⟩
  constructor
  · rintro i m' H' ⟨o1, o2, rfl, hF, hBk⟩; exact hF _ _ (hB.notOwn he pv_notC) he
  · rintro i lv m' H' hi ⟨o1, o2, rfl, hF, hBk⟩
    obtain ⟨⟨row, col⟩, hr, rfl⟩ := Option.map_eq_some_iff.mp (by rw [List.getElem?_map] at hi; exact hi)
    have ht : Le.take (i + 1) = Le.take i ++ [(row, col)] := by rw [List.take_add_one, hr]; rfl
    have ho : On n (row, col) := hall _ (by have := List.mem_of_getElem? hr; simp [this])
    refine AS_pv (by walk_at "put") (by walk_at "put") B.hh ?_
    refine EXS_cons (EX_setcell B (o := none) (by walk_at "mem") (by walk_at "mem") (by walk_at "mem") hBk ho (by walk_at "go"; exact ⟨rfl, rfl⟩) (by simp) fun H3 q1 q2 => ?_)
    walk_at "go"
    exact ⟨_, _, rfl, hF.trans q2, by rw [setAll_snoc, ← ht] at q1; exact q1⟩
  rintro m' H5 ⟨o1, o2, rfl, hF5, hB5⟩
  rw [List.length_map, List.take_length] at hB5
  walk_at "go"
  change BAt H5 b n (putG g Lb Lw Le) em at hB5
  generalize putG g Lb Lw Le = g1 at h hB5 few
  refine CALL_fa B hB5 few fun ls gs H6 hs e6 fls hls hG hFG => ?_
  have hB6 := hB5.ext e6
  have own0 : ∀ a, a ∈ b.own → H5 a ≠ none := fun a ha q => by
    rcases List.mem_cons.mp ha with rfl | hm
    · rw [hB5.ns] at q; cases q
    · obtain ⟨i, hi⟩ := List.getElem?_of_mem hm
      rw [hB5.row i a hi] at q; cases q
  have hlg : gs.length ≤ 100 := by
    have := hFG.len; rw [pts_length] at this
    have := Nat.mul_le_mul hB.nine hB.nine; omega
  walk_at "go"
  refine EX_ForL B.hh ?_
  walk_at "go"
  refine ⟨ls, gs.map (GI.lv B), rfl, hls, fun i m' H' => ∃ (o1 o2 o3 : Option LV), m' = ([("self", some (.inst B.bc b.x b.d)), ("black_points", some (.ref ab)), ("white_points", some (.ref aw)), ("empty_points", some (.ref ae)), ("row", o1), ("col", o2), ("captured", some (.ref ls)), ("group", o3)] : Loc) ∧
    Fr b.own H6 H' ∧ BAt H' b n (clrG g1 (gs.take i)) em, ⟨_, _, _, rfl, Fr.refl _ _, by rw [List.take_zero, clrG_nil]; exact hB6⟩, ?_⟩
  constructor
  · rintro i m' H' ⟨o1, o2, o3, rfl, hF, hBk⟩; exact hF _ _ (fun q => own0 _ q fls) hls
  · rintro i lv m' H' hi ⟨o1, o2, o3, rfl, hF, hBk⟩
    obtain ⟨gi, hgi, rfl⟩ := Option.map_eq_some_iff.mp (by rw [List.getElem?_map] at hi; exact hi)
    have ht : gs.take (i + 1) = gs.take i ++ [gi] := by rw [List.take_add_one, hgi]; rfl
    obtain ⟨z1, z2, z3, z4, z5, z6⟩ := hG gi (List.mem_of_getElem? hgi)
    have y5 := hF _ _ (fun q => own0 _ q z1) z5
    have y6 := hF _ _ (fun q => own0 _ q z2) z6
    have nda : gi.d ≠ gi.a := fun e => by rw [e, y6] at y5; cases y5
    obtain ⟨_, p0, _, o0, _, _, hP⟩ := hFG.g1 gi (List.mem_of_getElem? hgi)
    refine AS_Name (by walk_at "put") ?_
    refine EXS_cons (EX_freeze y6 fun W ob hp => ?_)
    refine EX_ForP B.hh ?_
    walk_at "go"
    refine ⟨gi.a, W, ob, rfl, hset_same _ _ _, fun j m' H'' => ∃ (o1 o2 : Option LV), m' = ([("self", some (.inst B.bc b.x b.d)), ("black_points", some (.ref ab)), ("white_points", some (.ref aw)), ("empty_points", some (.ref ae)), ("row", o1), ("col", o2), ("captured", some (.ref ls)), ("group", some (.inst B.gc gi.x gi.d))] : Loc) ∧
      Fr b.own (hset H' gi.a (.psetx gi.a W ob)) H'' ∧ BAt H'' b n (setAll (clrG g1 (gs.take i)) (W.take j) none) em, ⟨_, _, rfl, Fr.refl _ _, by rw [List.take_zero, setAll_nil]; exact hBk.hset y6 rfl⟩, ?_⟩
    constructor
    · rintro j m' H'' ⟨o1, o2, rfl, hF', hBk'⟩; exact hF' _ _ (fun q => own0 _ q z2) (hset_same _ _ _)
    · rintro j lv m' H'' hj ⟨o1, o2, rfl, hF', hBk'⟩
      obtain ⟨⟨row, col⟩, hr, rfl⟩ := Option.map_eq_some_iff.mp (by rw [List.getElem?_map] at hj; exact hj)
      have ht : W.take (j + 1) = W.take j ++ [(row, col)] := by rw [List.take_add_one, hr]; rfl
      have ho : On n (row, col) := ((hP _).mp (hp.mem_iff.mp (List.mem_of_getElem? hr))).on o0
      refine AS_pv (by walk_at "put") (by walk_at "put") B.hh ?_
      refine EXS_cons (EX_setcell B (o := none) (by walk_at "mem") (by walk_at "mem") (by walk_at "mem") hBk' ho (by walk_at "go"; exact ⟨rfl, rfl⟩) (by simp) fun H3 q1 q2 => ?_)
      walk_at "go"
      exact ⟨_, _, rfl, hF'.trans q2, by rw [setAll_snoc, ← ht] at q1; exact q1⟩
    rintro m' H'' ⟨o1, o2, rfl, hF', hBk'⟩
    rw [List.length_map, List.take_length] at hBk'
    have w6 := hF' _ _ (fun q => own0 _ q z2) (hset_same _ _ _)
    refine EXS_nil ⟨w6, EXS_nil ⟨_, _, _, rfl, fun c o hc ho => ?_, ?_⟩⟩
    · by_cases e : c = gi.a
      · subst e; rw [z6] at ho; cases ho; exact hset_same _ _ _
      · rw [hset_ne _ _ e]
        exact hF' _ _ hc (by rw [hset_ne _ _ e]; exact hF _ _ hc ho)
    · rw [ht, ← clrG_snoc hp]; exact hBk'.hset w6 rfl
  rintro m' H7 ⟨o1, o2, o3, rfl, hF7, hB7⟩
  rw [List.length_map, List.take_length] at hB7
  have hls7 := hF7 _ _ (fun q => own0 _ q fls) hls
  have hlg' : (!(gs.map (GI.lv B)).isEmpty) = false ↔ Legal n g1 := by rw [← hFG.legal]; cases gs <;> simp
  have hbr := hFG.breathed
  have hF8 : Fr b.own H H7 := (hF5.trans (e6.fr _)).trans hF7
  generalize clrG g1 gs = g2 at hB7 hbr
  have hns7 := hB7.ns
  have nld : ls ≠ b.d := fun e => by rw [e, hns7] at hls7; cases hls7
  walk_at "go"
  have hB8 := hB7.em true
  have hF9 : Fr b.own H (hset H7 b.d (.ns (bns n b.pl b.bl true))) := hF8.hset _ (.inl List.mem_cons_self)
  refine EX_ForL B.hh ?_
  walk_at "go"
  refine ⟨_, (pts n).map pv, rfl, hB8.pl, fun i m' H' => ∃ (o1 o2 : Option LV), m' = ([("self", some (.inst B.bc b.x b.d)), ("black_points", some (.ref ab)), ("white_points", some (.ref aw)), ("empty_points", some (.ref ae)), ("row", o1), ("col", o2), ("captured", some (.ref ls)), ("group", o3)] : Loc) ∧
    H' = hset H7 b.d (.ns (bns n b.pl b.bl true)) ∧ ∀ p, p ∈ (pts n).take i → g2 p = none, ⟨_, _, rfl, rfl, by simp⟩, ?_⟩
  constructor
  · rintro i m' H' ⟨o1, o2, rfl, rfl, hN⟩; exact hB8.pl
  · rintro i lv m' H' hi ⟨o1, o2, rfl, rfl, hN⟩
    obtain ⟨⟨row, col⟩, hr, rfl⟩ := Option.map_eq_some_iff.mp (by rw [List.getElem?_map] at hi; exact hi)
    have ht : (pts n).take (i + 1) = (pts n).take i ++ [(row, col)] := by rw [List.take_add_one, hr]; rfl
    have ho : On n (row, col) := mem_pts.mp (List.mem_of_getElem? hr)
    refine AS_pv (by walk_at "put") (by walk_at "put") B.hh ?_
    walk_at "go"
    cases hg : g2 (row, col) with
    | none =>
      dsimp only [cv]
      walk_at "go"
      refine ⟨(fun q => by cases q), fun _ => ?_⟩
      walk_at "go"
      refine ⟨_, _, rfl, rfl, fun p hp => ?_⟩
      rw [ht] at hp
      rcases List.mem_append.mp hp with z | z
      · exact hN p z
      · rw [List.mem_singleton] at z; subst z; exact hg
    | some cc =>
      dsimp only [cv]
      walk_at "go"
      refine ⟨fun _ => ?_, (fun q => by cases q)⟩
      have hns8 := hB8.ns
      walk_at "go"
      refine h _ g2 false _ (hF9.hset _ (.inl List.mem_cons_self)) (hB8.em false) hbr ⟨(fun q => by cases q), fun q => by rw [q _ ho] at hg; cases hg⟩ ?_
      rw [Bool.not_eq_true']; exact hlg'
  · rintro m' H' ⟨o1, o2, rfl, rfl, hN⟩
    rw [List.length_map, List.take_length] at hN
    walk_at "go"
    refine h _ g2 true _ hF9 hB8 hbr ⟨fun _ p hp => hN p (mem_pts.mpr hp), fun _ => rfl⟩ ?_
    rw [Bool.not_eq_true']; exact hlg'

end
section

def kov : Option Pt → LV
  | none => .none
  | some p => pv p
theorem mulOk {n : Nat} (h : n ≤ 9) : IntMulOk (n : Int) (n : Int) := by
  have : n = 0 ∨ n = 1 ∨ n = 2 ∨ n = 3 ∨ n = 4 ∨ n = 5 ∨ n = 6 ∨ n = 7 ∨ n = 8 ∨ n = 9 := by omega
  rcases this with rfl | rfl | rfl | rfl | rfl | rfl | rfl | rfl | rfl | rfl <;> exact IntMulOk.of_left (by decide +kernel)

theorem fm_sel {α β : Type} (F : α → β) (f : β → Option β) (p : α → Bool) : ∀ (l : List α), (∀ a, a ∈ l → f (F a) = if p a then some (F a) else none) → (l.map F).filterMap f = (l.filter p).map F
  | [], _ => rfl
  | a :: t, h => by
    rw [List.map_cons, List.filterMap_cons, h a (by simp), List.filter_cons, fm_sel F f p t fun b hb => h b (List.mem_cons_of_mem _ hb)]
    cases p a <;> simp

theorem CALL_pl {G : Gl} (B : BW G) {k : Nat} {H : Hp} {Q : Qv} {X : Xc} {b : Bd} {n : Nat} {g : Grd} {em : Bool} {i j : Int} {c : Str} (hB : BAt H b n g em) (hc : IsCol c) (hl : Legal n g) (few : On n (i, j) → Few n (gset g (i, j) (some c))) (hb : i < 2 ^ 63 ∧ j < 2 ^ 63)
    (hx : ¬ On n (i, j) → ∀ H', Ext H H' → X ("IndexError", true) H') (ht : On n (i, j) → g (i, j) ≠ none → ∀ H', Ext H H' → X ("ValueError", true) H')
    (h : On n (i, j) → g (i, j) = none → ∀ H' g2 em' ko, Fr b.own H H' → BAt H' b n g2 em' → Played n (gset g (i, j) (some c)) c g2 → (em' = true ↔ ∀ p, On n p → g2 p = none) → (∀ q, ko = some q ↔ KoAt n (gset g (i, j) (some c)) c (i, j) q) → Q (kov ko) H') :
    CALL G (k + 5) (.ref B.fpl) [.inst B.bc b.x b.d, .int i, .int j, .str c] H Q X := by
  refine CALL_of (CODE_fn B.m_pl.2.2.2 4 rfl (by decide +kernel) ?_)
  refine EXS_at (m' := [("self", some (.inst B.bc b.x b.d)), ("row", some (.int i)), ("col", some (.int j)), ("colour", some (.str c)), ("opponent", none), ("surrounded", none), ("simple_ko_point", none), ("to_capture", none), ("group", none), ("self_capture", none), ("r", none), ("c", none)]) rfl ?_
  refine EXS_cons ?_
  walk_at "go"
  by_cases c1 : i < 0
  · simp only [c1, decide_true, if_true]
    refine ⟨fun _ => ?_, (fun q => by cases q)⟩
    walk_at "go"
    exact EX_RaiseIE B (hx (fun o => by have := o.1; simp at this; omega) _ (Ext.refl _))
  simp only [c1, decide_false, Bool.false_eq_true, if_false]
  walk_at "go"
  by_cases c2 : j < 0
  · simp only [c2, decide_true, if_true]
    refine ⟨fun _ => ?_, (fun q => by cases q)⟩
    walk_at "go"
    exact EX_RaiseIE B (hx (fun o => by have := o.2.2.1; simp at this; omega) _ (Ext.refl _))
  simp only [c2, decide_false, Bool.false_eq_true, if_false]
  walk_at "go"
  refine ⟨(fun q => by cases q), fun _ => ?_⟩
  refine EXS_nil (EXS_cons (EX_Assign (EV_CallK (by decide +kernel) B.n_op.1 B.n_op.2.1 ?_)))
  walk_at "go"
  refine CALL_op B hc ?_
  generalize hopp : (if c = sb then sw else sb) = opp
  refine ⟨_, by walk_at "put", EXS_cons (EX_If (TS_Compare1 ?_))⟩
  by_cases hon : On n (i, j)
  case neg =>
    refine EV_cellOut B (by walk_at "mem") (by walk_at "mem") (by walk_at "mem") hB (by omega) (by omega) hb.1 hb.2 hon (hx hon _ (Ext.refl _))
  have few := few hon
  walk_at "go"
  cases hg : g (i, j) with
  | some cc =>
    dsimp only [cv]
    walk_at "go"
    refine ⟨fun _ => ?_, (fun q => by cases q)⟩
    walk_at "go"
    exact EX_RaiseVE B (ht hon (by rw [hg]; simp) _ (Ext.refl _))
  | none =>
  replace h := h hon hg
  clear hx ht
  dsimp only [cv]
  walk_at "go"
  refine ⟨(fun q => by cases q), fun _ => ?_⟩
  refine EXS_nil (EXS_cons (EX_setcell B (o := some c) (by walk_at "mem") (by walk_at "mem") (by walk_at "mem") hB hon (by walk_at "go"; exact ⟨rfl, rfl⟩) (fun x q => by cases q; exact hc) fun H1 hB1 hF1 => ?_))
  have hns1 := hB1.ns
  walk_at "go"
  have hB2 := hB1.em false
  have hF2 : Fr b.own H (Go.hset H1 b.d (.ns (bns n b.pl b.bl false))) := hF1.hset _ (.inl List.mem_cons_self)
  generalize Go.hset H1 b.d (.ns (bns n b.pl b.bl false)) = H2 at hB2 hF2
  refine CALL_fs B hB2 few fun ls gs H3 hs e3 fls hls hG hFG => ?_
  have hB3 := hB2.ext e3
  have own0 : ∀ a, a ∈ b.own → H2 a ≠ none := fun a ha q => by
    rcases List.mem_cons.mp ha with rfl | hm
    · rw [hB2.ns] at q; cases q
    · obtain ⟨i, hi⟩ := List.getElem?_of_mem hm
      rw [hB2.row i a hi] at q; cases q
  have hF3 : Fr b.own H H3 := hF2.trans (e3.fr _)
  generalize hg1 : gset g (i, j) (some c) = g1 at *
  have hoppc : ∀ gi, gi ∈ gs → (gi.c = opp ↔ gi.c ≠ c) := fun gi hgi => by
    obtain ⟨p, p1, p2, _⟩ := hFG.ne hgi
    have h1 := hB2.col _ _ p2
    have e : sw ≠ sb := by decide +kernel
    rcases h1 with q | q <;> rcases hc with z | z <;> subst hopp <;> simp [q, z, e, e.symm]
  have hopc : IsCol opp := by subst hopp; split; exact .inr rfl; exact .inl rfl
  have hGc : ∀ gi, gi ∈ gs → IsCol gi.c := fun gi hgi => by
    obtain ⟨p, p1, p2, _⟩ := hFG.ne hgi
    exact hB2.col _ _ p2
  have hg1p : g1 (i, j) = some c := by rw [← hg1]; exact gset_same
  walk_at "go"
  refine ⟨fun hne => ?_, fun hne => ?_⟩
  case refine_2 =>
    have : gs = [] := by cases gs with | nil => rfl | cons _ _ => simp at hne
    subst this
    walk_at "go"
    obtain ⟨k1, k2⟩ := play_nil hl hon hg (by rw [hg1]; exact hFG)
    rw [hg1] at k1 k2
    exact h H3 g1 false none hF3 hB3 k1 ⟨(fun q => by cases q), fun q => by rw [q _ hon] at hg1p; cases hg1p⟩ (fun q => ⟨(fun z => by cases z), fun z => (k2 q z).elim⟩)
  have nlo : ls ∉ b.own := fun q => own0 _ q fls
  refine EXS_cut (fun m' H' => ∃ (tc : PySem.Addr) (gs' : List GI) (ko : Option Pt) (em' : Bool) (o1 o2 : Option LV), m' = ([("self", some (.inst B.bc b.x b.d)), ("row", some (.int i)), ("col", some (.int j)), ("colour", some (.str c)), ("opponent", some (.str opp)), ("surrounded", some (.ref ls)), ("simple_ko_point", some (kov ko)), ("to_capture", some (.ref tc)), ("group", o1), ("self_capture", o2), ("r", none), ("c", none)] : Loc) ∧
    Fr b.own H3 H' ∧ BAt H' b n g1 em' ∧ H' tc = some (.lst (gs'.map (GI.lv B))) ∧ (∀ gi, gi ∈ gs' → gi ∈ gs) ∧ tc ∉ b.own ∧ Played n g1 c (clrG g1 gs') ∧ (em' = true ↔ ∀ p, On n p → clrG g1 gs' p = none) ∧ (∀ q, ko = some q ↔ KoAt n g1 c (i, j) q)) ?_ ?_
  case refine_2 =>
    rintro m' H4 ⟨tc, gs', ko, em', o1, o2, rfl, hF4, hB4, htc, hsub, nto, hpl, hem, hko⟩
    refine EXS_cons (EX_ForL B.hh ?_)
    walk_at "go"
    refine ⟨tc, gs'.map (GI.lv B), rfl, htc, fun i' m' H' => ∃ (o1 o2 o3 o4 : Option LV), m' = ([("self", some (.inst B.bc b.x b.d)), ("row", some (.int i)), ("col", some (.int j)), ("colour", some (.str c)), ("opponent", some (.str opp)), ("surrounded", some (.ref ls)), ("simple_ko_point", some (kov ko)), ("to_capture", some (.ref tc)), ("group", o1), ("self_capture", o2), ("r", o3), ("c", o4)] : Loc) ∧
      Fr b.own H4 H' ∧ BAt H' b n (clrG g1 (gs'.take i')) em', ⟨_, _, _, _, rfl, Fr.refl _ _, by rw [List.take_zero, clrG_nil]; exact hB4⟩, ?_⟩
    constructor
    · rintro i' m' H' ⟨o1, o2, o3, o4, rfl, hF, hBk⟩; exact hF _ _ nto htc
    · rintro i' lv m' H' hi ⟨o1, o2, o3, o4, rfl, hF, hBk⟩
      obtain ⟨gi, hgi, rfl⟩ := Option.map_eq_some_iff.mp (by rw [List.getElem?_map] at hi; exact hi)
      have ht : gs'.take (i' + 1) = gs'.take i' ++ [gi] := by rw [List.take_add_one, hgi]; rfl
      have hgm := hsub gi (List.mem_of_getElem? hgi)
      obtain ⟨z1, z2, z3, z4, z5, z6⟩ := hG gi hgm
      have z6' := hF4 _ _ (fun q => own0 _ q z2) z6
      have y5 := hF _ _ (fun q => own0 _ q z1) (hF4 _ _ (fun q => own0 _ q z1) z5)
      have y6 := hF _ _ (fun q => own0 _ q z2) z6'
      have nda : gi.d ≠ gi.a := fun e => by rw [e, y6] at y5; cases y5
      obtain ⟨_, p0, _, o0, _, _, hP⟩ := hFG.g1 gi hgm
      refine AS_Name (by walk_at "put") ?_
      refine EXS_cons (EX_freeze y6 fun W ob hp => ?_)
      refine EX_ForP B.hh ?_
      walk_at "go"
      refine ⟨gi.a, W, ob, rfl, hset_same _ _ _, fun j' m' H'' => ∃ (o2 o3 o4 : Option LV), m' = ([("self", some (.inst B.bc b.x b.d)), ("row", some (.int i)), ("col", some (.int j)), ("colour", some (.str c)), ("opponent", some (.str opp)), ("surrounded", some (.ref ls)), ("simple_ko_point", some (kov ko)), ("to_capture", some (.ref tc)), ("group", some (.inst B.gc gi.x gi.d)), ("self_capture", o2), ("r", o3), ("c", o4)] : Loc) ∧
        Fr b.own (Go.hset H' gi.a (.psetx gi.a W ob)) H'' ∧ BAt H'' b n (setAll (clrG g1 (gs'.take i')) (W.take j') none) em', ⟨_, _, _, rfl, Fr.refl _ _, by rw [List.take_zero, setAll_nil]; exact hBk.hset y6 rfl⟩, ?_⟩
      constructor
      · rintro j' m' H'' ⟨o2, o3, o4, rfl, hF', hBk'⟩; exact hF' _ _ (fun q => own0 _ q z2) (hset_same _ _ _)
      · rintro j' lv m' H'' hj ⟨o2, o3, o4, rfl, hF', hBk'⟩
        obtain ⟨⟨row, col⟩, hr, rfl⟩ := Option.map_eq_some_iff.mp (by rw [List.getElem?_map] at hj; exact hj)
        have ht : W.take (j' + 1) = W.take j' ++ [(row, col)] := by rw [List.take_add_one, hr]; rfl
        have ho : On n (row, col) := ((hP _).mp (hp.mem_iff.mp (List.mem_of_getElem? hr))).on o0
        refine AS_pv (by walk_at "put") (by walk_at "put") B.hh ?_
        refine EXS_cons (EX_setcell B (o := none) (by walk_at "mem") (by walk_at "mem") (by walk_at "mem") hBk' ho (by walk_at "go"; exact ⟨rfl, rfl⟩) (by simp) fun H3 q1 q2 => ?_)
        walk_at "go"
        exact ⟨_, _, _, rfl, hF'.trans q2, by rw [setAll_snoc, ← ht] at q1; exact q1⟩
      rintro m' H'' ⟨o2, o3, o4, rfl, hF', hBk'⟩
      rw [List.length_map, List.take_length] at hBk'
      have w6 := hF' _ _ (fun q => own0 _ q z2) (hset_same _ _ _)
      refine EXS_nil ⟨w6, EXS_nil ⟨_, _, _, _, rfl, fun c o hc ho => ?_, ?_⟩⟩
      · by_cases e : c = gi.a
        · subst e; rw [z6'] at ho; cases ho; exact hset_same _ _ _
        · rw [hset_ne _ _ e]
          exact hF' _ _ hc (by rw [hset_ne _ _ e]; exact hF _ _ hc ho)
      · rw [ht, ← clrG_snoc hp]; exact hBk'.hset w6 rfl
    rintro m' H7 ⟨o1, o2, o3, o4, rfl, hF7, hB7⟩
    rw [List.length_map, List.take_length] at hB7
    walk_at "go"
    exact h H7 _ em' ko ((hF3.trans hF4).trans hF7) hB7 hpl hem hko
  walk_at "go"
  refine CALL_len_list hls ?_
  walk_at "go"
  refine ⟨fun h1 => ?_, fun h1 => ?_⟩
  · have hz : (gs.length : Int) = 1 := by simpa using h1
    have hz' : gs.length = 1 := by omega
    obtain ⟨gi, rfl⟩ := len1 hz'
    obtain ⟨k1, k2, k3⟩ := play_one hl hon hg (by rw [hg1]; exact hFG)
    rw [hg1] at k1 k2 k3
    obtain ⟨z1, z2, z3, z4, z5, z6⟩ := hG gi (by simp)
    walk_at "go"
    refine BO_item_list hls (by omega) (lv := GI.lv B gi) (by simp) ?_
    walk_at "go"
    refine CALL_len_set z6 ?_
    walk_at "go"
    refine BO_mul ?_ (mulOk hB.nine)
    have hns3 := hB3.ns
    walk_at "go"
    refine ⟨fun hx => ?_, fun hx => ?_⟩
    · have hlen : gi.P.length = n * n := by
        have : (gi.P.length : Int) = (n : Int) * n := by simpa using hx
        exact_mod_cast this
      walk_at "go"
      exact ⟨ls, [gi], none, true, none, none, rfl, (Fr.refl _ _).hset _ (.inl List.mem_cons_self), hB3.em true, (hset_ne _ _ (fun e => by rw [e, hns3] at hls; cases hls)).trans hls, fun _ q => q, nlo, k1, ⟨fun _ => k3.mp hlen, fun _ => rfl⟩, fun q => ⟨(fun z => by cases z), fun z => (k2 q z).elim⟩⟩
    · have hlen : gi.P.length ≠ n * n := fun e => by
        have : ((gi.P.length : Int) == (n : Int) * n) = true := by rw [e]; simp
        rw [hx] at this; cases this
      walk_at "go"
      exact ⟨ls, [gi], none, false, none, none, rfl, Fr.refl _ _, hB3, hls, fun _ q => q, nlo, k1, ⟨(fun q => by cases q), fun q => (hlen (k3.mpr q)).elim⟩, fun q => ⟨(fun z => by cases z), fun z => (k2 q z).elim⟩⟩
  · have h2 : 2 ≤ gs.length := by
      have e1 : gs.length ≠ 1 := fun e => by rw [List.length_map, e] at h1; simp at h1
      have e2 : gs ≠ [] := by rintro rfl; simp at hne
      cases gs with
      | nil => exact (e2 rfl).elim
      | cons a t => cases t with
        | nil => simp at e1
        | cons b t => simp
    obtain ⟨k1, k2, k3, k4, k5⟩ := play_many hl hon hg (by rw [hg1]; exact hFG) h2 hoppc
    rw [hg1] at k1 k2 k3 k4 k5
    obtain ⟨Fs, selF⟩ : ∃ Fs : Str → LV → Option LV, ∀ (col : Str) gi, gi ∈ gs → Fs col (GI.lv B gi) = if decide (gi.c = col) = true then some (GI.lv B gi) else none := by
      refine ⟨fun col lv => @ite _ (∃ gi, gi ∈ gs ∧ GI.lv B gi = lv ∧ gi.c = col) (Classical.propDecidable _) (some lv) none, fun col gi hgi => ?_⟩
      dsimp only
      by_cases e : gi.c = col
      · rw [if_pos (decide_eq_true e)]; exact if_pos ⟨gi, hgi, rfl, e⟩
      · have e' : ¬ decide (gi.c = col) = true := fun q => e (of_decide_eq_true q)
        rw [if_neg e']
        refine if_neg ?_
        rintro ⟨gj, g1, g2, g3⟩
        have hd : gj.d = gi.d := by simp only [GI.lv, LV.inst.injEq] at g2; exact g2.2.2
        have q1 := (hG gj g1).2.2.2.2.1
        have q2 := (hG gi hgi).2.2.2.2.1
        rw [hd, q2] at q1
        simp only [Option.some.injEq, LO.ns.injEq, gns, List.cons.injEq, Prod.mk.injEq, LV.str.injEq, true_and] at q1
        exact e (q1.1.trans g3)
    have hgl : gs.length ≤ 10 := by have := hFG.len; simp [nb4] at this; omega
    refine EXS_cons (EX_LCl B.hh ?_ (by rfl) (by rfl) (by decide +kernel))
    walk_at "go"
    refine ⟨ls, gs.map (GI.lv B), rfl, hls, Fs opp, by rw [List.length_map]; omega, ?_, ?_⟩
    · intro lv hlv
      obtain ⟨gi, hgi, rfl⟩ := List.mem_map.mp hlv
      intro m2 H2' hs he
      have hs : Sim [(Str.ofString ".0", none), (Str.ofString "group", none), (Str.ofString "opponent", some (.str opp))] m2 := hs
      obtain ⟨o0, _, rfl, o1, _, rfl, _, rfl, rfl⟩ := hs
      have hgd : H2' gi.d = some (.ns (gns gi.c gi.a true)) := he _ _ ( (hG gi hgi).2.2.2.2.1)
      refine AS_Name (by walk_at "put") ⟨⟨_, _, rfl, _, _, rfl, _, rfl, rfl⟩, TSs_one ?_⟩ (.inr (by decide +kernel))
      walk_at "go"
      refine BO_eqs (hGc gi hgi) hopc ?_
      walk_at "go"
      have hf := selF opp gi hgi
      refine ⟨fun q => ?_, fun q => ?_⟩
      · have q' : ¬ gi.c = opp := of_decide_eq_false q
        exact ⟨by rw [hf, decide_eq_false q']; rfl, Ext.refl _⟩
      · have q' : gi.c = opp := of_decide_eq_true q
        walk_at "go"
        exact ⟨by rw [hf, decide_eq_true q']; rfl, Ext.refl _⟩
    intro D H4 fD eD cD
    rw [fm_sel _ _ _ _ (selF opp)] at cD
    generalize hfoes : (gs.filter fun gi => decide (gi.c = opp)) = foes at *
    have fsub : ∀ gi, gi ∈ foes → gi ∈ gs := fun gi q => by rw [← hfoes] at q; exact (List.mem_filter.mp q).1
    have hB4 := hB3.ext eD
    have nDo : D ∉ b.own := fun q => by
      rcases List.mem_cons.mp q with rfl | hm
      · rw [hB3.ns] at fD; cases fD
      · obtain ⟨i, hi⟩ := List.getElem?_of_mem hm
        rw [hB3.row i _ hi] at fD; cases fD
    have hem0 : (false = true ↔ ∀ p, On n p → clrG g1 foes p = none) := ⟨(fun q => by cases q), fun q => by rw [q _ hon] at k2; cases k2⟩
    walk_at "go"
    refine CALL_len_list cD ?_
    walk_at "go"
    by_cases e1 : foes.length = 1
    case neg =>
      have e1' : ((((foes.map (GI.lv B)).length : Nat) : Int) == 1) = false := by rw [List.length_map]; simpa using (by omega : (foes.length : Int) ≠ 1)
      rw [e1']
      simp only [Bool.false_eq_true, if_false]
      refine ⟨(fun q => by cases q), fun _ => ?_⟩
      walk_at "go"
      exact ⟨D, foes, none, false, none, none, rfl, eD.fr _, hB4, cD, fsub, nDo, k1, hem0, fun q => ⟨(fun z => by cases z), fun z => (k4 (fun f hf => (e1 (by rw [hf]; rfl)).elim) q z).elim⟩⟩
    obtain ⟨f, rfl⟩ := len1 e1
    have hfm := fsub f (by simp)
    have hfd := eD _ _ (hG f hfm).2.2.2.2.1
    have hfa := eD _ _ (hG f hfm).2.2.2.2.2
    have e1' : (((([f].map (GI.lv B)).length : Nat) : Int) == 1) = true := rfl
    rw [e1']
    simp only [if_true]
    walk_at "go"
    refine BO_item_list cD (by omega) (lv := GI.lv B f) (by simp) ?_
    walk_at "go"
    refine CALL_len_set hfa ?_
    walk_at "go"
    by_cases e2 : f.P.length = 1
    case neg =>
      have e2' : ((f.P.length : Int) == 1) = false := by simpa using (by omega : (f.P.length : Int) ≠ 1)
      rw [e2']
      simp only [Bool.false_eq_true, if_false]
      refine ⟨(fun q => by cases q), fun _ => ?_⟩
      walk_at "go"
      exact ⟨D, [f], none, false, none, none, rfl, eD.fr _, hB4, cD, fsub, nDo, k1, hem0, fun q => ⟨(fun z => by cases z), fun z => (k4 (fun f' hf => by cases hf; exact e2) q z).elim⟩⟩
    have e2' : ((f.P.length : Int) == 1) = true := by rw [e2]; rfl
    rw [e2']
    simp only [if_true]
    obtain ⟨q, hq⟩ := len1 e2
    obtain ⟨o, ho, hoK⟩ := k3 f q rfl hq
    walk_at "go"
    refine ⟨fun _ => ?_, (fun q => by cases q)⟩
    refine EXS_cons (EX_LCl B.hh ?_ (by rfl) (by rfl) (by decide +kernel))
    walk_at "go"
    refine ⟨ls, gs.map (GI.lv B), rfl, (eD _ _ hls), Fs c, by rw [List.length_map]; omega, ?_, ?_⟩
    · intro lv hlv
      obtain ⟨gi, hgi, rfl⟩ := List.mem_map.mp hlv
      intro m2 H2' hs he
      have hs : Sim [(Str.ofString ".0", none), (Str.ofString "group", none), (Str.ofString "colour", some (.str c))] m2 := hs
      obtain ⟨o0, _, rfl, o1, _, rfl, _, rfl, rfl⟩ := hs
      have hgd : H2' gi.d = some (.ns (gns gi.c gi.a true)) := he _ _ (eD _ _ (hG gi hgi).2.2.2.2.1)
      refine AS_Name (by walk_at "put") ⟨⟨_, _, rfl, _, _, rfl, _, rfl, rfl⟩, TSs_one ?_⟩ (.inr (by decide +kernel))
      walk_at "go"
      refine BO_eqs (hGc gi hgi) hc ?_
      walk_at "go"
      have hf := selF c gi hgi
      refine ⟨fun q => ?_, fun q => ?_⟩
      · have q' : ¬ gi.c = c := of_decide_eq_false q
        exact ⟨by rw [hf, decide_eq_false q']; rfl, Ext.refl _⟩
      · have q' : gi.c = c := of_decide_eq_true q
        walk_at "go"
        exact ⟨by rw [hf, decide_eq_true q']; rfl, Ext.refl _⟩
    intro E H5 fE eE cE
    rw [fm_sel _ _ _ _ (selF c)] at cE
    rw [ho] at cE
    have hom : o ∈ gs := by
      have : o ∈ gs.filter (fun gi => decide (gi.c = c)) := by rw [ho]; simp
      exact (List.mem_filter.mp this).1
    have hod := eE _ _ (eD _ _ (hG o hom).2.2.2.2.1)
    have hoa := eE _ _ (eD _ _ (hG o hom).2.2.2.2.2)
    have hfd5 := eE _ _ hfd
    have hfa5 := eE _ _ hfa
    have cD5 := eE _ _ cD
    have hB5 := hB4.ext eE
    walk_at "go"
    refine BO_item_list cE (by omega) (lv := GI.lv B o) (by simp) ?_
    walk_at "go"
    refine CALL_len_set hoa ?_
    walk_at "go"
    refine ⟨fun hx => ?_, fun hx => ?_⟩
    · have hol : o.P.length = 1 := by have : (o.P.length : Int) = 1 := by simpa using hx
                                      omega
      walk_at "go"
      refine BO_item_list cD5 (by omega) (lv := GI.lv B f) (by simp) ?_
      walk_at "go"
      rw [hq] at hfa5
      refine AS_set1 hfa5 (ASs_cons (by walk_at "put") (ASs_nil ?_)) B.hh
      walk_at "go"
      exact ⟨D, [f], some q, false, none, _, rfl, (eD.trans eE).fr _, hB5, cD5, fsub, nDo, k1, hem0, fun q' => ⟨(fun z => by cases z; exact hoK.mp hol), fun z => by rw [k5 f q rfl hq q' z]⟩⟩
    · have hol : o.P.length ≠ 1 := fun e => by rw [e] at hx; cases hx
      walk_at "go"
      exact ⟨D, [f], none, false, none, _, rfl, (eD.trans eE).fr _, hB5, cD5, fsub, nDo, k1, hem0, fun q' => ⟨(fun z => by cases z), fun z => (hol (hoK.mpr (by rw [← k5 f q rfl hq q' z]; exact z))).elim⟩⟩

end
section

def rns (a e : PySem.Addr) : List (Str × LV) := [(Str.ofString "points", .ref a), (Str.ofString "neighbouring_colours", .ref e)]
theorem ner : (Str.ofString "neighbouring_colours" == Str.ofString "points") = false := by decide +kernel
theorem rns_pts {a e : PySem.Addr} : (rns a e).lookup (Str.ofString "points") = some (.ref a) := by simp [rns]
theorem rns_col {a e : PySem.Addr} : (rns a e).lookup (Str.ofString "neighbouring_colours") = some (.ref e) := by simp [rns, List.lookup_cons, ner]
structure RW (G : Gl) (B : BW G) where
  rc : PySem.Addr
  fme : PySem.Addr
  far : PySem.Addr
  frg : PySem.Addr
  n_region : GNm G (Str.ofString "_Region") (.ref rc) ∧ keepIn G.K (.ref rc) = true
  mr : makesIn G.K rc = true
  or : ObjCls G.K rc = true
  ir : findIn G.K (.ref rc) "__init__" = some (some (.ref frg)) ∧ typeIn G.K (.ref frg) = some (.type "function") ∧ IsFn G frg rgS
  m_me : Meth G B.bc (Str.ofString "_make_empty_region") fme meS
  m_ar : Meth G B.bc (Str.ofString "area_score") far arS
  r_pts : NoAttr G.K rc (Str.ofString "points") = true
  r_col : NoAttr G.K rc (Str.ofString "neighbouring_colours") = true
section
variable {G : Gl} {B : BW G} (R : RW G B) {k : Nat} {fl : Bool} {sc : Scope} {m : Loc} {H : Hp} {Q : Qv} {X : Xc}
theorem EV_rpts {e : PySem.Expr} {pos : Pos} (h : EV G k fl sc e m H (fun lv H1 => ∃ x d a b, lv = .inst R.rc x d ∧ H1 d = some (.ns (rns a b)) ∧ Q (.ref a) H1) X)
    (he : ∀ env, eval (.Attribute e (Str.ofString "points") pos) env = (do
      let o ← eval e env
      standAt pos.atName
      let r ← holding [o] (getAttr o (Str.ofString "points") true)
      letTemporaryGo e o r
      pure r) := by intro _; with_unfolding_all rfl) : EV G k fl sc (.Attribute e (Str.ofString "points") pos) m H Q X :=
  EV_Attr (h.mono fun lv H1 ⟨x, d, a, b, q1, q2, q3⟩ => ⟨_, x, d, _, _, q1, q2, R.or, R.r_pts, rns_pts, q3⟩) he
theorem EV_rcol {e : PySem.Expr} {pos : Pos} (h : EV G k fl sc e m H (fun lv H1 => ∃ x d a b, lv = .inst R.rc x d ∧ H1 d = some (.ns (rns a b)) ∧ Q (.ref b) H1) X)
    (he : ∀ env, eval (.Attribute e (Str.ofString "neighbouring_colours") pos) env = (do
      let o ← eval e env
      standAt pos.atName
      let r ← holding [o] (getAttr o (Str.ofString "neighbouring_colours") true)
      letTemporaryGo e o r
      pure r) := by intro _; with_unfolding_all rfl) : EV G k fl sc (.Attribute e (Str.ofString "neighbouring_colours") pos) m H Q X :=
  EV_Attr (h.mono fun lv H1 ⟨x, d, a, b, q1, q2, q3⟩ => ⟨_, x, d, _, _, q1, q2, R.or, R.r_col, rns_col, q3⟩) he
theorem SA_r1 {x d a : PySem.Addr} {N : Hp → Prop} (hd : H d = some (.ns [])) (h : N (hset H d (.ns [(Str.ofString "points", .ref a)]))) : SA G (Str.ofString "points") (.inst R.rc x d) (.ref a) H N X :=
  SA_of hd R.or R.r_pts (by simp) h
theorem SA_r2 {x d a b : PySem.Addr} {N : Hp → Prop} (hd : H d = some (.ns [(Str.ofString "points", .ref a)])) (h : N (hset H d (.ns (rns a b)))) : SA G (Str.ofString "neighbouring_colours") (.inst R.rc x d) (.ref b) H N X :=
  SA_of hd R.or R.r_col (by simp) (by rw [aput, if_neg (fun e => by have := ner; rw [e] at this; simp at this)]; exact h)
theorem SA_r3 {x d a b a' : PySem.Addr} {N : Hp → Prop} (hd : H d = some (.ns (rns a b))) (h : N (hset H d (.ns (rns a' b)))) : SA G (Str.ofString "points") (.inst R.rc x d) (.ref a') H N X :=
  SA_of hd R.or R.r_pts (by simp [rns]) (by rw [rns, aput, if_pos rfl]; exact h)
theorem SA_r4 {x d a b b' : PySem.Addr} {N : Hp → Prop} (hd : H d = some (.ns (rns a b))) (h : N (hset H d (.ns (rns a b')))) : SA G (Str.ofString "neighbouring_colours") (.inst R.rc x d) (.ref b') H N X :=
  SA_of hd R.or R.r_col (by simp [rns]) (by rw [rns, aput, if_neg (fun e => by have := ner; rw [e] at this; simp at this), aput, if_pos rfl]; exact h)
theorem CALL_region (h : ∀ x d a b H', Ext H H' → H d = none → H' d = some (.ns (rns a b)) → Q (.inst R.rc x d) H') : CALL G (k + 2) (.ref R.rc) [] H Q X := by
  refine CALL_of (CODE_cls R.mr R.ir.1 R.ir.2.1 fun x d hd => ?_)
  refine CODE_fn R.ir.2.2 1 rfl (by decide +kernel) ?_
  refine EXS_at (m' := [("self", some (.inst R.rc x d))]) rfl ?_
  refine EXS_cons ?_
  walk_at "go"
  refine CALL_set fun a fa => ?_
  have nda : d ≠ a := ne_of fa (hset_same _ _ _)
  have ha : H a = none := by rw [hset_ne _ _ nda.symm] at fa; exact fa
  refine EV_Name (by walk_at "mem") (SA_r1 R (by walk_at "hp") ?_)
  walk_at "go"
  refine CALL_sets fun b fb => ?_
  have ndb : d ≠ b := ne_of fb (hset_same _ _ _)
  have nab : a ≠ b := ne_of fb ((hset_ne _ _ nda.symm).trans (hset_same _ _ _))
  have hb : H b = none := by rw [hset_ne _ _ ndb.symm, hset_ne _ _ nab.symm, hset_ne _ _ ndb.symm] at fb; exact fb
  refine EV_Name (by walk_at "mem") (SA_r2 R (by walk_at "hp") ?_)
  walk_at "go"
  exact ⟨rfl, h x d a b _ (((((Ext.refl _).set hd).set ha).set hd).set hb |>.set hd) hd (hset_same _ _ _)⟩
end


end
section

theorem CALL_me {G : Gl} {B : BW G} (R : RW G B) {k : Nat} {H : Hp} {Q : Qv} {X : Xc} {b : Bd} {n : Nat} {g : Grd} {em : Bool} {row col : Int} (hB : BAt H b n g em) (hn : n ≤ 7) (hon : On n (row, col)) (hc : g (row, col) = none)
    (h : ∀ x d a e P ss H', Ext H H' → H a = none → H d = none → H' d = some (.ns (rns a e)) → H' a = some (.pset P) → H' e = some (.sset ss) → P.Nodup → (∀ q, q ∈ P ↔ Conn n g (row, col) q) → (∀ c, c ∈ ss ↔ ∃ q, Conn n g (row, col) q ∧ ∃ r, r ∈ nbs n q ∧ g r = some c) → ss.length ≤ 2 → Q (.inst R.rc x d) H') :
    CALL G (k + 3) (.ref R.fme) [.inst B.bc b.x b.d, .int row, .int col] H Q X := by
  refine CALL_of (CODE_fn R.m_me.2.2.2 3 rfl (by decide +kernel) ?_)
  refine EXS_at (m' := [("self", some (.inst B.bc b.x b.d)), ("row", some (.int row)), ("col", some (.int col)), ("points", none), ("neighbouring_colours", none), ("to_handle", none), ("point", none), ("r", none), ("c", none), ("neighbour", none), ("r1", none), ("c1", none), ("neigh_colour", none), ("region", none)]) rfl ?_
  refine EXS_cons ?_
  walk_at "go"
  refine CALL_set fun a1 f1 => ?_
  walk_at "go"
  refine CALL_sets fun a4 f4 => ?_
  have n14 : a1 ≠ a4 := by walk_at "ne"
  walk_at "go"
  refine CALL_set fun a2 f2 => ?_
  have n12 : a1 ≠ a2 := by walk_at "ne"
  have n42 : a4 ≠ a2 := by walk_at "ne"
  walk_at "go"
  refine CALL_add2 (by walk_at "hp") (by decide) ?_
  refine EXS_cons ?_
  have len2 : ∀ {P T ss D}, MR n g (row, col) P T ss D → ss.length ≤ 2 := fun {P T ss D} hM => by
    have := nodup_le ss [sb, sw] hM.ndS fun c hc' => by
      obtain ⟨q, _, r, _, _, hg⟩ := (hM.co c).mp hc'
      rcases hB.col _ _ hg with z | z <;> simp [z]
    simpa using this
  refine EX_While (fun w m' H' => ∃ (P T : List Pt) (ss : List Str) (o1 o2 o3 o4 o5 o6 o7 : Option LV), w = 100 - P.length ∧
    m' = ([("self", some (.inst B.bc b.x b.d)), ("row", some (.int row)), ("col", some (.int col)), ("points", some (.ref a1)), ("neighbouring_colours", some (.ref a4)), ("to_handle", some (.ref a2)), ("point", o1), ("r", o2), ("c", o3), ("neighbour", o4), ("r1", o5), ("c1", o6), ("neigh_colour", o7), ("region", none)] : Loc) ∧
    Ext H H' ∧ H' a1 = some (.pset P) ∧ H' a2 = some (.pset T) ∧ H' a4 = some (.sset ss) ∧ MR n g (row, col) P T ss (fun _ _ => True)) ?_ 100 ?_
  rotate_left
  · refine ⟨[], [(row, col)], [], none, none, none, none, none, none, none, rfl, rfl, by walk_at "ext", by walk_at "hp", ?_, by walk_at "hp", MR.init⟩
    simp
  rintro w m' H' ⟨P, T, ss, o1, o2, o3, o4, o5, o6, o7, rfl, rfl, hE, hP, hT, hS, hM⟩
  walk_at "go"
  refine ⟨fun hT0 => ?_, fun hT0 => ?_⟩
  · have hT1 : T ≠ [] := by rintro rfl; simp at hT0
    walk_at "go"
    refine CALL_set_pop (by walk_at "hp") hT1 fun t ht => ?_
    walk_at "go"
    refine CALL_set_add (by walk_at "hp") (by have := hM.len hn hon; omega) ?_
    rw [if_neg (hM.dis t ht)]
    walk_at "go"
    refine AS_pv (by walk_at "put") (by walk_at "put") B.hh ?_
    walk_at "go"
    refine EX_ForL B.hh ?_
    walk_at "go"
    intro a3 f3
    have n43 : a4 ≠ a3 := ne_of f3 (by walk_at "hp")
    refine ⟨a3, (nb4 t).map pv, rfl, hset_same _ _ _, fun i m' H'' => ∃ (T' : List Pt) (ss' : List Str) (o4 o5 o6 o7 : Option LV), 
      m' = ([("self", some (.inst B.bc b.x b.d)), ("row", some (.int row)), ("col", some (.int col)), ("points", some (.ref a1)), ("neighbouring_colours", some (.ref a4)), ("to_handle", some (.ref a2)), ("point", some (pv t)), ("r", some (.int t.1)), ("c", some (.int t.2)), ("neighbour", o4), ("r1", o5), ("c1", o6), ("neigh_colour", o7), ("region", none)] : Loc) ∧
      Ext H H'' ∧ H'' a1 = some (.pset (t :: P)) ∧ H'' a2 = some (.pset T') ∧ H'' a4 = some (.sset ss') ∧ H'' a3 = some (.lst ((nb4 t).map pv)) ∧ MR n g (row, col) (t :: P) T' ss' (tk t i), 
      ⟨_, _, _, _, _, _, rfl, by walk_at "ext", by walk_at "hp", by walk_at "hp", by walk_at "hp", hset_same _ _ _, hM.pop ht⟩, ?_⟩
    constructor
    · rintro i m' H'' ⟨_, _, _, _, _, _, _, _, _, _, _, h5, _⟩; exact h5
    · rintro i lv m' H'' hi ⟨T', ss', o4, o5, o6, o7, rfl, hE', hP', hT', hS', h3', hM'⟩
      have hBk := hB.ext hE'
      have n13 : a1 ≠ a3 := fun e => by rw [e, h3'] at hP'; cases hP'
      have n23 : a2 ≠ a3 := fun e => by rw [e, h3'] at hT'; cases hT'
      rw [List.getElem?_map] at hi
      obtain ⟨⟨r, c⟩, hr, rfl⟩ := Option.map_eq_some_iff.mp hi
      refine AS_Name (by walk_at "put") ?_
      walk_at "go"
      refine AS_pv (by walk_at "put") (by walk_at "put") B.hh ?_
      walk_at "go"
      refine ⟨fun hx => ?_, fun hx => ?_⟩
      · walk_at "go"
        exact ⟨_, _, _, _, _, _, rfl, hE', hP', hT', hS', h3', hM'.skip hr fun ho => by simp [ho] at hx⟩
      have ho : On n (r, c) := by simpa using hx
      walk_at "go"
      cases hgr : g (r, c) with
      | none =>
        dsimp only [cv]
        walk_at "go"
        refine ⟨fun hx => ?_, (fun hx => by cases hx)⟩
        walk_at "go"
        refine ⟨fun hx => ?_, fun hx => ?_⟩
        · have hnP : (r, c) ∉ t :: P := by simpa using hx
          walk_at "go"
          refine CALL_set_add (p := (r, c)) (by walk_at "hp") (by have := hM'.len hn hon; omega) ?_
          walk_at "go"
          exact ⟨_, _, _, _, _, _, rfl, by walk_at "ext", by walk_at "hp", by walk_at "hp", by walk_at "hp", by walk_at "hp", hM'.more hr List.mem_cons_self ho hgr hc hnP⟩
        · have hnP : (r, c) ∈ t :: P := by
            by_cases e : (r, c) ∈ t :: P
            · exact e
            · rw [decide_eq_false e] at hx; cases hx
          walk_at "go"
          exact ⟨_, _, _, _, _, _, rfl, hE', hP', hT', hS', h3', hM'.seen hr hgr hnP⟩
      | some cc =>
        dsimp only [cv]
        walk_at "go"
        refine ⟨(fun hx => by cases hx), fun hx => ?_⟩
        walk_at "go"
        refine CALL_sadd (by walk_at "hp") (by have := len2 hM'; omega) ?_
        walk_at "go"
        exact ⟨_, _, _, _, _, _, rfl, by walk_at "ext", by walk_at "hp", by walk_at "hp", by walk_at "hp", by walk_at "hp", hM'.col hr List.mem_cons_self ho hgr hc⟩
    · rintro m' H'' ⟨T', ss', o4, o5, o6, o7, rfl, hE', hP', hT', hS', h3', hM'⟩
      walk_at "go"
      refine ⟨100 - (t :: P).length, ?_, t :: P, T', ss', _, _, _, _, _, _, _, rfl, rfl, hE', hP', hT', hS', hM'.all⟩
      have := hM'.len hn hon
      simp only [List.length_cons] at this ⊢; omega
  · obtain rfl : T = [] := by simpa using hT0
    obtain ⟨l1, l2, l3⟩ := hM.last
    refine EXS_nil (EXS_cons (EX_Assign (EV_CallK (by decide +kernel) R.n_region.1 R.n_region.2 ?_)))
    walk_at "go"
    refine CALL_region R fun x d a e H3 e3 hd3 hd => ?_
    have hP3 := e3 _ _ hP
    have hS3 := e3 _ _ hS
    refine ⟨_, by walk_at "put", EXS_cons (EX_AssignAttr (EV_Name (by walk_at "mem") (EV_Name (by walk_at "mem") (SA_r3 R hd ?_))))⟩
    refine EXS_cons (EX_AssignAttr (EV_Name (by walk_at "mem") (EV_Name (by walk_at "mem") (SA_r4 R (hset_same _ _ _) ?_))))
    walk_at "go"
    have hd0 : H d = none := Ext.none hE hd3
    have nda : a1 ≠ d := ne_of hd3 hP
    have nds : a4 ≠ d := ne_of hd3 hS
    exact h x d a1 a4 P ss _ (((hE.trans e3).set hd0).set hd0) f1 hd0 (hset_same _ _ _) (by walk_at "hp") (by walk_at "hp") l1 l2 l3 (len2 hM)

end
section

theorem nbw : (sw == sb) = false := by decide +kernel
theorem nwb : (sb == sw) = false := by decide +kernel
theorem nbw' : ¬ sw = sb := fun e => by have := nbw; rw [e] at this; simp at this
theorem nwb' : ¬ sb = sw := fun e => nbw' e.symm
def scL (N : Str → Nat) : List (Str × LV) := [(sb, .int (N sb)), (sw, .int (N sw))]
theorem scL_at {N : Str → Nat} {c : Str} (hc : IsCol c) : (scL N).lookup c = some (.int (N c)) := by
  rcases hc with rfl | rfl
  · simp [scL]
  · simp [scL, List.lookup_cons, nbw]
theorem scL_put {N : Str → Nat} {c : Str} {x : Nat} (hc : IsCol c) : aput (scL N) c (.int x) = scL (fun d => if d = c then x else N d) := by
  rcases hc with rfl | rfl
  · simp [scL, aput, nbw']
  · simp [scL, aput, nwb', nbw']
def upd (N : Str → Nat) (c : Str) (ss : List Str) (p : Nat) : Str → Nat := if c ∈ ss then fun d => if d = c then N c + p else N d else N
theorem upd_at {N : Str → Nat} {c d : Str} {ss : List Str} {p : Nat} : upd N c ss p d = if c ∈ ss ∧ d = c then N d + p else N d := by
  unfold upd
  by_cases h : c ∈ ss
  · by_cases e : d = c
    · subst e; simp [h]
    · simp [h, e]
  · simp [h]
theorem scL_congr {N N' : Str → Nat} (h : ∀ c, IsCol c → N c = N' c) : scL N = scL N' := by
  rw [scL, scL, h sb (.inl rfl), h sw (.inr rfl)]
def pick3 {α : Type} : Nat → α → α → α → α
  | 0, a, _, _ => a
  | 1, _, b, _ => b
  | _, _, _, c => c
theorem EV_m_me {G : Gl} {B : BW G} (R : RW G B) {k : Nat} {fl : Bool} {sc : Scope} {m : Loc} {H : Hp} {Q : Qv} {X : Xc} {o : PySem.Expr} {apos pos : Pos} {es : List PySem.Expr}
    (h : EV G k fl sc o m H (fun lv H1 => ∃ x d n pl bl em, lv = .inst B.bc x d ∧ H1 d = some (.ns (bns n pl bl em)) ∧ AR G k fl sc es m H1 (fun lvs H2 => CALL G k (.ref R.fme) (.inst B.bc x d :: lvs) H2 Q X) X) X)
    {pl : Env → Sem Bool} (he : ∀ env, eval (.Call (.Attribute o (Str.ofString "_make_empty_region") apos) es [] pos) env = (do
      let ov ← eval o env
      standAt apos.atName
      let (f, first) ← holding [ov] (getMethod ov (Str.ofString "_make_empty_region") (pl env))
      callWith pos f first (backTo pos (starEach es env)) []) := by intro _; with_unfolding_all rfl) : EV G k fl sc (.Call (.Attribute o (Str.ofString "_make_empty_region") apos) es [] pos) m H Q X :=
  EV_bm B R.m_me (by decide +kernel) h he

theorem CALL_ar {G : Gl} {B : BW G} (R : RW G B) {k : Nat} {H : Hp} {Q : Qv} {X : Xc} {b : Bd} {n : Nat} {g : Grd} {em : Bool} (hB : BAt H b n g em) (hn : n ≤ 7)
    (h : ∀ H', Ext H H' → Q (.int ((cnt (pts n) (fun p => Area n g sb p) : Int) - (cnt (pts n) (fun p => Area n g sw p) : Nat))) H') : CALL G (k + 4) (.ref R.far) [.inst B.bc b.x b.d] H Q X := by
  refine CALL_of (CODE_fn R.m_ar.2.2.2 1 rfl (by decide +kernel) ?_)
  refine EXS_at (m' := [("self", some (.inst B.bc b.x b.d)), ("scores", none), ("handled", none), ("row", none), ("col", none), ("colour", none), ("point", none), ("region", none), ("region_size", none)]) rfl ?_
  refine EXS_cons ?_
  with_reducible refine EX_Assign ?_
  with_reducible refine EV_Dict2 fun sd fsd => ?_
  have e0 : aput [(sb, LV.int 0)] sw (.int 0) = scL (fun _ => 0) := by simp [aput, scL, nwb']
  rw [e0]
  walk_at "go"
  refine CALL_set fun hd fhd => ?_
  have nsh : sd ≠ hd := ne_of fhd (by walk_at "hp")
  walk_at "go"
  refine EX_ForL B.hh ?_
  have hpl0 := hB.pl
  have nlp : b.pl ≠ sd := ne_of fsd hpl0
  have nlh : b.pl ≠ hd := ne_of fhd (by walk_at "hp")
  walk_at "go"
  refine ⟨_, (pts n).map pv, rfl, by walk_at "hp", fun i m' H' => ∃ (N : Str → Nat) (hs : List Pt) (o1 o2 o3 o4 o5 o6 : Option LV), m' = ([("self", some (.inst B.bc b.x b.d)), ("scores", some (.ref sd)), ("handled", some (.ref hd)), ("row", o1), ("col", o2), ("colour", o3), ("point", o4), ("region", o5), ("region_size", o6)] : Loc) ∧
    Ext H H' ∧ H' sd = some (.sdict (scL N)) ∧ H' hd = some (.pset hs) ∧ AR7 n g ((pts n).take i) hs N, ⟨_, [], _, _, _, _, _, _, rfl, by walk_at "ext", by walk_at "hp", by walk_at "hp", AR7.init⟩, ?_⟩
  constructor
  · rintro i m' H' ⟨N, hs, o1, o2, o3, o4, o5, o6, rfl, hE, h1, h2, hA⟩; exact hE _ _ hpl0
  · rintro i lv m' H' hi ⟨N, hs, o1, o2, o3, o4, o5, o6, rfl, hE, h1, h2, hA⟩
    obtain ⟨⟨row, col⟩, hr, rfl⟩ := Option.map_eq_some_iff.mp (by rw [List.getElem?_map] at hi; exact hi)
    have ht : (pts n).take (i + 1) = (pts n).take i ++ [(row, col)] := by rw [List.take_add_one, hr]; rfl
    have hBk := hB.ext hE
    have ho : On n (row, col) := mem_pts.mp (List.mem_of_getElem? hr)
    refine AS_pv (by walk_at "put") (by walk_at "put") B.hh ?_
    walk_at "go"
    cases hg : g (row, col) with
    | some cc =>
      have hcc := hB.col _ _ hg
      dsimp only [cv]
      walk_at "go"
      refine ⟨fun _ => ?_, (fun hx => by cases hx)⟩
      walk_at "go"
      refine BO_itemsd h1 (scL_at hcc) ?_
      walk_at "go"
      have e : (((N cc : Nat) : Int) + 1) = ((N cc + 1 : Nat) : Int) := rfl
      rw [e]
      refine SO_sd h1 (by simp [scL]) ?_
      rw [scL_put hcc]
      walk_at "go"
      exact ⟨_, _, _, _, _, _, _, _, rfl, hE.set fsd, by walk_at "hp", by walk_at "hp", ht ▸ hA.stone hg⟩
    | none =>
      dsimp only [cv]
      walk_at "go"
      refine ⟨(fun hx => by cases hx), fun _ => ?_⟩
      walk_at "go"
      refine ⟨fun hx => ?_, fun hx => ?_⟩
      · have hin : (row, col) ∈ hs := of_decide_eq_true hx
        walk_at "go"
        exact ⟨_, _, _, _, _, _, _, _, rfl, hE, h1, h2, ht ▸ hA.skip hg ho hin⟩
      · have hin : (row, col) ∉ hs := of_decide_eq_false hx
        with_reducible refine EXS_nil (EXS_cons (EX_Assign (EV_m_me R ?_)))
        walk_at "st"
        refine ⟨_, _, _, _, _, _, rfl, hBk.ns, ?_⟩
        walk_at "go"
        refine CALL_me R hBk hn ho hg fun x d a e P ss H3 e3 na nd k1 k2 k3 ndP mP mS lS => ?_
        have hlP : P.length ≤ 49 := by
          have := on_length ndP fun q hq => ((mP q).mp hq).on ho
          have : n * n ≤ 7 * 7 := Nat.mul_le_mul hn hn
          omega
        have hsz : hs.length + P.length ≤ 60 := by
          have := on_length (n := n) (l := hs ++ P) (List.nodup_append.mpr ⟨hA.nd, ndP, fun q hq q' hq' e => hA.new_dis ho hin ((mP q').mp hq') (e ▸ hq)⟩) fun q hq => by
            rcases List.mem_append.mp hq with z | z
            · obtain ⟨p', _, o1, _, o3⟩ := (hA.mh q).mp z; exact o3.on o1
            · exact ((mP q).mp z).on ho
          have : n * n ≤ 7 * 7 := Nat.mul_le_mul hn hn
          rw [List.length_append] at *; omega
        have h13 := e3 _ _ h1
        have h23 := e3 _ _ h2
        have nha : hd ≠ a := ne_of na h2
        have nsa : sd ≠ a := ne_of na h1
        have nsd : sd ≠ d := ne_of nd h1
        have nse : sd ≠ e := fun q => by rw [q, k3] at h13; cases h13
        have nhe : hd ≠ e := fun q => by
          have : H' e ≠ none := fun z => by rw [q, z] at h2; cases h2
          rw [← q, h23] at k3; cases k3
        with_reducible refine ⟨_, by walk_at "put", EXS_cons (EX_Assign (EV_CallB (by decide +kernel) B.n_len (AR_cons (EV_rpts R ?_))))⟩
        walk_at "st"
        refine ⟨_, _, _, _, rfl, k1, ?_⟩
        walk_at "st"
        refine CALL_len_set k2 ?_
        walk_at "go"
        refine EX_ForT B.hh ?_
        walk_at "go"
        refine ⟨_, rfl, fun i' m' H'' => ∃ (o : Option LV), m' = ([("self", some (.inst B.bc b.x b.d)), ("scores", some (.ref sd)), ("handled", some (.ref hd)), ("row", some (.int row)), ("col", some (.int col)), ("colour", o), ("point", some (.tup [.int row, .int col])), ("region", some (.inst R.rc x d)), ("region_size", some (.int P.length))] : Loc) ∧
          (i' ≤ 2 ∧ H'' = Go.hset H3 sd (.sdict (scL (pick3 i' N (upd N sb ss P.length) (upd (upd N sb ss P.length) sw ss P.length))))), ⟨_, rfl, by omega, by rw [show pick3 0 N (upd N sb ss P.length) (upd (upd N sb ss P.length) sw ss P.length) = N from rfl, hset_id h13]⟩, ?_⟩
        constructor
        · intros; trivial
        · rintro i' lv m' H'' hi' ⟨o, rfl, hi2, rfl⟩
          have hlt := (List.getElem?_eq_some_iff.mp hi').1
          have hi3 : i' = 0 ∨ i' = 1 := by simp at hlt; omega
          rcases hi3 with rfl | rfl
          · cases hi'
            simp only [pick3]
            refine AS_Name (by walk_at "put") ?_
            walk_at "go"
            refine EV_rcol R ?_
            walk_at "st"
            refine ⟨_, _, _, _, rfl, (hset_ne _ _ nsd.symm).trans k1, ?_⟩
            refine BO_insset ((hset_ne _ _ nse.symm).trans k3) (by omega) ?_
            walk_at "go"
            refine ⟨fun q => ?_, fun q => ?_⟩
            · have q' : sb ∈ ss := of_decide_eq_true q
              walk_at "go"
              refine BO_itemsd (hset_same _ _ _) (scL_at (.inl rfl)) ?_
              walk_at "go"
              refine SO_sd (hset_same _ _ _) (by simp [scL]) ?_
              rw [hset_hset, show (((N sb : Nat) : Int) + (P.length : Nat)) = ((N sb + P.length : Nat) : Int) from rfl, scL_put (.inl rfl)]
              walk_at "go"
              exact ⟨_, rfl, by omega, by show _ = Go.hset H3 sd (.sdict (scL (upd N sb ss P.length))); rw [show upd N sb ss P.length = _ from if_pos q']⟩
            · have q' : sb ∉ ss := of_decide_eq_false q
              walk_at "go"
              exact ⟨_, rfl, by omega, by show _ = Go.hset H3 sd (.sdict (scL (upd N sb ss P.length))); rw [show upd N sb ss P.length = _ from if_neg q']⟩
          · cases hi'
            simp only [pick3]
            refine AS_Name (by walk_at "put") ?_
            walk_at "go"
            refine EV_rcol R ?_
            walk_at "st"
            refine ⟨_, _, _, _, rfl, (hset_ne _ _ nsd.symm).trans k1, ?_⟩
            refine BO_insset ((hset_ne _ _ nse.symm).trans k3) (by omega) ?_
            walk_at "go"
            refine ⟨fun q => ?_, fun q => ?_⟩
            · have q' : sw ∈ ss := of_decide_eq_true q
              walk_at "go"
              refine BO_itemsd (hset_same _ _ _) (scL_at (.inr rfl)) ?_
              walk_at "go"
              refine SO_sd (hset_same _ _ _) (by simp [scL]) ?_
              rw [hset_hset, show ((((upd N sb ss P.length) sw : Nat) : Int) + (P.length : Nat)) = (((upd N sb ss P.length) sw + P.length : Nat) : Int) from rfl, scL_put (.inr rfl)]
              walk_at "go"
              exact ⟨_, rfl, by omega, by show _ = Go.hset H3 sd (.sdict (scL (upd (upd N sb ss P.length) sw ss P.length))); rw [show upd (upd N sb ss P.length) sw ss P.length = _ from if_pos q']⟩
            · have q' : sw ∉ ss := of_decide_eq_false q
              walk_at "go"
              exact ⟨_, rfl, by omega, by show _ = Go.hset H3 sd (.sdict (scL (upd (upd N sb ss P.length) sw ss P.length))); rw [show upd (upd N sb ss P.length) sw ss P.length = _ from if_neg q']⟩
        · rintro m' H'' ⟨o, rfl, _, rfl⟩
          simp only [pick3, List.length_cons, List.length_nil]
          iterate 7 walk_at "st"
          with_reducible refine EV_rpts R ?_
          walk_at "st"
          refine ⟨_, _, _, _, rfl, (hset_ne _ _ nsd.symm).trans k1, ?_⟩
          walk_at "go"
          refine CALL_update nha (by walk_at "hp") (by walk_at "hp") hsz fun rs nrs mrs => ?_
          walk_at "go"
          have hA' := hA.region hg ho hin ndP mP mS nrs mrs
          refine ⟨_, rs, _, _, _, _, _, _, rfl, ((hE.trans e3).set fsd).set (by walk_at "none"), ?_, by walk_at "hp", ht ▸ hA'⟩
          rw [hset_ne _ _ nsh, hset_same]
          congr 2
          refine scL_congr fun c hc => ?_
          rcases hc with rfl | rfl
          · simp [upd_at, nwb', nbw']
          · simp [upd_at, nwb', nbw']
  · rintro m' H' ⟨N, hs, o1, o2, o3, o4, o5, o6, rfl, hE, h1, h2, hA⟩
    rw [List.length_map, List.take_length] at hA
    walk_at "go"
    refine BO_itemsd h1 (scL_at (.inl rfl)) ?_
    walk_at "go"
    refine BO_itemsd h1 (scL_at (.inr rfl)) ?_
    walk_at "go"
    rw [hA.done sb, hA.done sw]
    exact h _ hE

end
section

/-- a point, read off -/
def decP : LV → Option Pt
  | .tup [.int a, .int b] => some (a, b)
  | _ => none
theorem decP_pv {p : Pt} : decP (pv p) = some p := rfl
theorem pv_inj {p q : Pt} (h : pv p = pv q) : p = q := by
  have := congrArg decP h; rw [decP_pv, decP_pv] at this; exact Option.some.inj this
theorem fmP {F : Pt → Option LV} : ∀ {L : List Pt}, (L.map pv).filterMap (fun lv => (decP lv).bind F) = L.filterMap F
  | [] => rfl
  | p :: t => by rw [List.map_cons, List.filterMap_cons, List.filterMap_cons, fmP, decP_pv]; rfl
theorem fm_filter {P : Pt → Bool} : ∀ {L : List Pt}, L.filterMap (fun p => if P p = true then some (pv p) else none) = (L.filter P).map pv
  | [] => rfl
  | p :: t => by rw [List.filterMap_cons, List.filter_cons, fm_filter]; cases P p <;> simp

def pd (p : Pt) : PyData := .tuple [.int p.1, .int p.2]
theorem eqv_pd {p q : Pt} : PyData.eqv (pd p) (pd q) = decide (p = q) := by
  obtain ⟨a, b⟩ := p; obtain ⟨c, d⟩ := q
  simp only [pd, PyData.eqv, PyData.eqvAll, Bool.and_true]
  rw [Bool.eq_iff_iff]; simp
theorem isD_pv {H : Hp} {p : Pt} : IsD H (pv p) (pd p) := .tup (.cons (.int _) (.cons (.int _) .nil))
theorem isDs_pv {H : Hp} : ∀ {L : List Pt}, IsDs H (L.map pv) (L.map pd)
  | [] => .nil
  | p :: t => .cons isD_pv isDs_pv
theorem depth_pd {p : Pt} : (pd p).depth ≤ 2 := by simp [pd, PyData.depth, PyData.depthAll]
theorem any_pd {L : List Pt} {p : Pt} : ((L.map pd).any fun y => PyData.eqv y (pd p)) = decide (p ∈ L) := by
  rw [Bool.eq_iff_iff, List.any_eq_true, decide_eq_true_eq]
  constructor
  · rintro ⟨x, hx, h⟩
    obtain ⟨q, hq, rfl⟩ := List.mem_map.mp hx
    rw [eqv_pd, decide_eq_true_eq] at h; subst h; exact hq
  · intro h; exact ⟨pd p, List.mem_map_of_mem h, by rw [eqv_pd]; simp⟩
/-- a comprehension to a captured name -/
theorem EX_AssignCell {G : Gl} {k : Nat} {sc : Scope} {m : Loc} {H : Hp} {P : PQ} {x : Str} {xp p pos : Pos} {elt : PySem.Expr} {gens : List Comprehension} {scope : Scope} (h : EV G k true sc (.ListComp elt gens scope pos) m H (fun lv H1 => ∃ m', Put m x lv m' ∧ P.n m' H1) (fun c H' => P.x c m H')) (hx : sc.names.lookup x = some .cell) :
    EX G k sc (.Assign [.Name x xp] (.ListComp elt gens scope pos) p) m H P := fun env A C Z s hs I =>
  wpAny_Assign_Name (wpAny_mono (h env A C Z s hs I) (fun v s1 ⟨C1, lv, H1, c1, I1, v1, m', q1, q2⟩ => I1.store q1 v1 (.inl rfl) fun s2 I2 => ⟨C1, m', H1, c1, I2, q2⟩) fun _ _ x => x.xs fun _ _ q => q) (by
    have e2 : env.kindOf x = some .cell := by show env.scope.names.lookup x = _; rw [hs]; exact hx
    unfold swapsWith
    simp only [e2]
    have : (some NameKind.cell == some NameKind.local) = false := rfl
    rw [this]; simp)
theorem TS.mono {G : Gl} {k : Nat} {fl : Bool} {sc : Scope} {e : PySem.Expr} {m : Loc} {H : Hp} {Q Q' : Bool → Hp → Prop} {X : Xc} (h : TS G k fl sc e m H Q X) (hQ : ∀ b H', Q b H' → Q' b H') : TS G k fl sc e m H Q' X :=
  fun env A C Z s hs I => wpAny_mono (h env A C Z s hs I) (fun _ _ ⟨C', H', a, b, c⟩ => ⟨C', H', a, b, hQ _ _ c⟩) fun _ _ x => x
section
variable {G : Gl} {H : Hp} {Q : Qv} {X : Xc}
theorem bw0 : (⟨#[98]⟩ : Str) = sb := by decide +kernel
theorem bw1 : (⟨#[119]⟩ : Str) = sw := by decide +kernel
theorem bwc : (Str.ofString "bw").cps = #[98, 119] := by decide +kernel
theorem BO_bw {i : Int} (h0 : 0 ≤ i) (h1 : i < 2) (h : Q (.str (if i = 0 then sb else sw)) H) : BO G getItem (.str (Str.ofString "bw")) (.int i) H Q X := by
  have : i = 0 ∨ i = 1 := by omega
  rcases this with rfl | rfl
  · refine BO_item_str (c := 98) (by omega) (by omega) (by rw [bwc]; rfl) ?_
    rw [bw0]; exact h
  · refine BO_item_str (c := 119) (by omega) (by omega) (by rw [bwc]; rfl) ?_
    rw [bw1]; exact h
theorem BO_inL {a : Addr} {L : List Pt} {p : Pt} (hH : H a = some (.lst (L.map pv))) (h : Q (.bool (decide (p ∈ L))) H) : BO G (compareOp .In) (pv p) (.ref a) H Q X :=
  BO_in isD_pv (.ref hH isDs_pv) (by rw [any_pd]; exact h) (by have := @depth_pd p; omega)
theorem BO_notinL {a : Addr} {L : List Pt} {p : Pt} (hH : H a = some (.lst (L.map pv))) (h : Q (.bool (!decide (p ∈ L))) H) : BO G (compareOp .NotIn) (pv p) (.ref a) H Q X :=
  BO_notin isD_pv (.ref hH isDs_pv) (by rw [any_pd]; exact h) (by have := @depth_pd p; omega)
end

/-- the stones as a dict -/
structure Rep (n : Nat) (fs : List (Pt × LV)) (g : Grd) : Prop where
  at_ : ∀ p, fs.lookup p = (g p).map LV.str
  nd : (fs.map (·.1)).Nodup
  on : ∀ p, g p ≠ none → On n p
  col : ∀ p c, g p = some c → IsCol c
theorem mem_lookup {fs : List (Pt × LV)} (nd : (fs.map (·.1)).Nodup) {p : Pt} {v : LV} : (p, v) ∈ fs ↔ fs.lookup p = some v := by
  induction fs with
  | nil => simp
  | cons f r ih =>
    obtain ⟨q, w⟩ := f
    obtain ⟨h1, h2⟩ := List.nodup_cons.mp nd
    rw [List.mem_cons, List.lookup_cons, ih h2]
    by_cases e : p = q
    · subst e
      simp only [beq_self_eq_true, Prod.mk.injEq, true_and]
      constructor
      · rintro (z | z)
        · rw [z]
        · exact (h1 (List.mem_map.mpr ⟨_, (ih h2).mpr z, rfl⟩)).elim
      · intro z; exact .inl (Option.some.inj z).symm
    · have : (p == q) = false := by simpa using e
      simp only [this, Prod.mk.injEq, e, false_and, false_or]
theorem lookup_none {fs : List (Pt × LV)} {p : Pt} : fs.lookup p = none ↔ p ∉ fs.map (·.1) := by
  induction fs with
  | nil => simp
  | cons f r ih =>
    obtain ⟨q, w⟩ := f
    rw [List.lookup_cons]
    by_cases e : p = q
    · subst e; simp
    · have : (p == q) = false := by simpa using e
      rw [this]; simp only [ih, List.map_cons, List.mem_cons, e, false_or]
theorem Rep.keys {n : Nat} {fs : List (Pt × LV)} {g : Grd} (h : Rep n fs g) {p : Pt} : p ∈ fs.map (·.1) ↔ g p ≠ none := by
  have := @lookup_none fs p
  rw [h.at_] at this
  constructor
  · intro q e; exact (this.mp (by rw [e]; rfl)) q
  · intro q; refine Classical.byContradiction fun z => q ?_
    have := this.mpr z; cases e : g p with | none => rfl | some c => rw [e] at this; cases this
theorem Rep.len {n : Nat} {fs : List (Pt × LV)} {g : Grd} (h : Rep n fs g) (few : Few n g) : fs.length ≤ 49 := by
  have := few (fs.map (·.1)) h.nd fun p hp => ⟨h.on p (h.keys.mp hp), h.keys.mp hp⟩
  simpa using this
theorem Rep.is {n : Nat} {fs : List (Pt × LV)} {g : Grd} (h : Rep n fs g) {p : Pt} : (fs.lookup p).isSome = decide (g p ≠ none) := by
  rw [h.at_]; cases g p <;> simp
theorem Rep.val {n : Nat} {fs : List (Pt × LV)} {g : Grd} (h : Rep n fs g) {p : Pt} {c : Str} (hg : g p = some c) : fs.lookup p = some (.str c) := by
  rw [h.at_, hg]; rfl
theorem pput_lookup {fs : List (Pt × LV)} {p q : Pt} {v : LV} : (pput fs p v).lookup q = if q = p then some v else fs.lookup q := by
  induction fs with
  | nil =>
    rw [pput, List.lookup_cons]
    by_cases e : q = p
    · subst e; simp
    · have : (q == p) = false := by simpa using e
      simp [this, e]
  | cons f r ih =>
    obtain ⟨x, w⟩ := f
    rw [pput]
    split
    · rename_i e; subst e
      rw [List.lookup_cons, List.lookup_cons]
      by_cases e : q = x
      · subst e; simp
      · have : (q == x) = false := by simpa using e
        simp [this, e]
    · rename_i e
      rw [List.lookup_cons, List.lookup_cons, ih]
      by_cases e' : q = x
      · subst e'; simp [e]
      · have : (q == x) = false := by simpa using e'
        simp [this]
theorem pput_new {fs : List (Pt × LV)} {p : Pt} {v : LV} (h : p ∉ fs.map (·.1)) : pput fs p v = fs ++ [(p, v)] := by
  induction fs with
  | nil => rfl
  | cons f r ih =>
    obtain ⟨x, w⟩ := f
    simp only [List.map_cons, List.mem_cons, not_or] at h
    rw [pput, if_neg (Ne.symm h.1), ih h.2]; rfl
theorem Rep.put {n : Nat} {fs : List (Pt × LV)} {g : Grd} (h : Rep n fs g) {p : Pt} {c : Str} (hp : On n p) (hc : IsCol c) : Rep n (pput fs p (.str c)) (gset g p (some c)) := by
  refine ⟨fun q => ?_, pput_nodup h.nd, fun q hq => ?_, fun q d hd => ?_⟩
  · rw [pput_lookup]; unfold gset; split
    · rfl
    · exact h.at_ q
  · unfold gset at hq; split at hq
    · rename_i e; rw [e]; exact hp
    · exact h.on q hq
  · unfold gset at hd; split at hd
    · cases hd; exact hc
    · exact h.col q d hd
theorem lookup_filter {fs : List (Pt × LV)} {K : Pt → Bool} {p : Pt} : (fs.filter fun f => K f.1).lookup p = if K p = true then fs.lookup p else none := by
  induction fs with
  | nil => simp
  | cons f r ih =>
    obtain ⟨x, w⟩ := f
    rw [List.filter_cons]
    by_cases e : p = x
    · subst e
      by_cases e' : K p = true
      · simp [e', List.lookup_cons]
      · simp only [e', Bool.false_eq_true, if_false]; rw [ih]; simp [e']
    · have hn : (p == x) = false := by simpa using e
      split
      · rw [List.lookup_cons, hn, List.lookup_cons, hn]; exact ih
      · rw [List.lookup_cons, hn]; exact ih
theorem Rep.filter {n : Nat} {fs : List (Pt × LV)} {g : Grd} (h : Rep n fs g) (K : Pt → Bool) : Rep n (fs.filter fun f => K f.1) (fun p => if K p = true then g p else none) := by
  refine ⟨fun q => ?_, ?_, fun q hq => ?_, fun q d hd => ?_⟩
  · rw [lookup_filter]; split
    · exact h.at_ q
    · rfl
  · exact h.nd.sublist ((List.filter_sublist).map _)
  · split at hq
    · exact h.on q hq
    · exact (hq rfl).elim
  · split at hd
    · exact h.col q d hd
    · cases hd
/-- the functions of the law -/
structure LW (G : Gl) (B : BW G) where
  fnear : PySem.Addr
  fbrea : PySem.Addr
  fonly : PySem.Addr
  fmovd : PySem.Addr
  frows : PySem.Addr
  near : Fn G (Str.ofString "_law_near") fnear (top 8)
  brea : Fn G (Str.ofString "_law_breathing") fbrea (top 9)
  only : Fn G (Str.ofString "_law_only") fonly (top 10)
  movd : Fn G (Str.ofString "_law_moved") fmovd (top 11)
  rows : Fn G (Str.ofString "_law_rows") frows (top 12)

end
section

theorem CALL_near {G : Gl} {B : BW G} (W : LW G B) {k : Nat} {H : Hp} {Q : Qv} {X : Xc} {n : Nat} {p : Pt} (h : ∀ a H', Ext H H' → H a = none → H' a = some (.lst ((nbs n p).map pv)) → Q (.ref a) H') : CALL G (k + 1) (.ref W.fnear) [pv p, .int n] H Q X := by
  refine CALL_of (CODE_fn W.near.2.2 2 rfl (by decide +kernel) ?_)
  refine EXS_at (m' := [("point", some (pv p)), ("side", some (.int n)), ("row", none), ("col", none), ("around", none)]) rfl ?_
  refine EXS_cons ?_
  walk_at "go"
  refine AS_pv (by walk_at "put") (by walk_at "put") B.hh ?_
  walk_at "go"
  intro a fa
  walk_at "go"
  refine EV_LCl B.hh ?_ (by rfl)
  walk_at "go"
  refine ⟨a, (nb4 p).map pv, rfl, hset_same _ _ _, fun lv => (decP lv).bind fun q => if decide (On n q) = true then some (pv q) else none, by simp [nb4], ?_, ?_⟩
  · intro lv hlv
    obtain ⟨q, hq, rfl⟩ := List.mem_map.mp hlv
    intro m2 H2 hs he
    have hs : Sim [(Str.ofString ".0", none), (Str.ofString "one", none), (Str.ofString "side", some (.int n))] m2 := hs
    obtain ⟨o0, _, rfl, o1, _, rfl, _, rfl, rfl⟩ := hs
    refine AS_Name (by walk_at "put") ⟨⟨_, _, rfl, _, _, rfl, _, rfl, rfl⟩, TSs_one ?_⟩ (.inr (by decide +kernel))
    refine TS.mono (Q := fun b H4 => b = decide (On n q) ∧ H4 = H2) ?_ ?_
    · have key : decide (On n q) = (decide (0 ≤ q.1) && decide (q.1 < n) && (decide (0 ≤ q.2) && decide (q.2 < n))) := by rw [Bool.eq_iff_iff, decide_eq_true_eq]; simp [On, and_assoc]
      rw [key]
      walk_at "go"
      by_cases c1 : 0 ≤ q.1
      case neg => simp [c1]
      simp only [c1, decide_true, if_true]
      walk_at "go"
      by_cases c2 : q.1 < n
      case neg => simp [c2]
      simp only [c2, decide_true, if_true]
      walk_at "go"
      by_cases c3 : 0 ≤ q.2
      case neg => simp [c3]
      simp only [c3, decide_true, if_true]
      walk_at "go"
      by_cases c4 : q.2 < n
      case neg => simp [c4]
      simp only [c4, decide_true, if_true]
      walk_at "go"
      simp
    · rintro b H4 ⟨rfl, rfl⟩
      dsimp only
      rw [decP_pv]
      refine ⟨fun e => ?_, fun e => ?_⟩
      · exact ⟨by show (if decide (On n q) = true then some (pv q) else none) = none; rw [e]; rfl, Ext.refl _⟩
      · walk_at "go"
        exact ⟨by show (if decide (On n q) = true then some (pv q) else none) = _; rw [e]; rfl, Ext.refl _⟩
  · intro D H' hD he hL
    rw [fmP, fm_filter] at hL
    refine h D H' ((Ext.set (Ext.refl _) fa).trans he) ?_ hL
    exact Ext.none ((Ext.refl _).set fa) hD

end
section

theorem CALL_only {G : Gl} {B : BW G} (W : LW G B) {k : Nat} {H : Hp} {Q : Qv} {X : Xc} {d : PySem.Addr} {fs : List (Pt × LV)} {ep : Nat} {kept : LV} (K : Pt → Bool) (hd : H d = some (.pdict fs ep)) (nd : (fs.map (·.1)).Nodup) (hz : fs.length < 90)
    (hK : ∀ (Q : Qv) (X : Xc) p H', Ext H H' → p ∈ fs.map (·.1) → Q (.bool (K p)) H' → BO G (compareOp .In) (pv p) kept H' Q X)
    (h : ∀ a H' ep', Ext H H' → H a = none → H' a = some (.pdict (fs.filter fun f => K f.1) ep') → Q (.ref a) H') : CALL G (k + 1) (.ref W.fonly) [.ref d, kept] H Q X := by
  refine CALL_of (CODE_fn W.only.2.2 2 rfl (by decide +kernel) ?_)
  refine EXS_at (m' := [("stones", some (.ref d)), ("kept", some kept), ("left", none), ("point", none)]) rfl ?_
  refine EXS_cons ?_
  with_reducible refine EX_Assign ?_
  with_reducible refine EV_Dict0 fun a fa => ?_
  have nda : d ≠ a := ne_of fa hd
  walk_at "go"
  refine EX_ForD B.hh ?_
  walk_at "go"
  refine ⟨d, fs, ep, rfl, by walk_at "hp", fun i m' H' => ∃ (o : Option LV) (ep' : Nat), m' = ([("stones", some (.ref d)), ("kept", some kept), ("left", some (.ref a)), ("point", o)] : Loc) ∧ Ext H H' ∧ H' a = some (.pdict ((fs.take i).filter fun f => K f.1) ep'), ⟨_, _, rfl, by walk_at "ext", hset_same _ _ _⟩, ?_⟩
  constructor
  · rintro i m' H' ⟨o, ep', rfl, hE, h1⟩; exact hE _ _ hd
  · rintro i lv m' H' hi ⟨o, ep', rfl, hE, h1⟩
    obtain ⟨⟨p, v⟩, hf, rfl⟩ := Option.map_eq_some_iff.mp (by rw [List.getElem?_map] at hi; exact hi)
    have ht : fs.take (i + 1) = fs.take i ++ [(p, v)] := by rw [List.take_add_one, hf]; rfl
    have hm : (p, v) ∈ fs := List.mem_of_getElem? hf
    have hd' := hE _ _ hd
    refine AS_Name (by walk_at "put") ?_
    walk_at "go"
    refine hK _ _ p _ hE (List.mem_map.mpr ⟨_, hm, rfl⟩) ?_
    walk_at "go"
    refine ⟨fun q => ?_, fun q => ?_⟩
    · walk_at "go"
      refine BO_itempd hd' ((mem_lookup nd).mp hm) ?_
      walk_at "go"
      refine SO_pd h1 ?_ fun ep2 => ?_
      · exact Nat.lt_of_le_of_lt (List.length_filter_le _ _) (by rw [List.length_take]; omega)
      walk_at "go"
      refine ⟨_, ep2, rfl, by walk_at "ext", ?_⟩
      rw [hset_same, ht, List.filter_append, pput_new]
      · simp [q]
      · intro hp
        obtain ⟨f, f1, f2⟩ := List.mem_map.mp hp
        have f3 := (List.mem_filter.mp f1).1
        obtain ⟨j, hj⟩ := List.getElem?_of_mem f3
        have hji : j < i := by have := (List.getElem?_eq_some_iff.mp hj).1; rw [List.length_take] at this; omega
        rw [List.getElem?_take, if_pos hji] at hj
        have e1 : (fs.map (·.1))[j]? = some p := by rw [List.getElem?_map, hj]; simp [f2]
        have e2 : (fs.map (·.1))[i]? = some p := by rw [List.getElem?_map, hf]; rfl
        obtain ⟨b1, b2⟩ := List.getElem?_eq_some_iff.mp e1
        obtain ⟨b3, b4⟩ := List.getElem?_eq_some_iff.mp e2
        have := (List.getElem_inj nd).mp (b2.trans b4.symm)
        omega
    · walk_at "go"
      refine ⟨_, ep', rfl, hE, ?_⟩
      rw [h1, ht, List.filter_append]; simp [q]
  · rintro m' H' ⟨o, ep', rfl, hE, h1⟩
    rw [List.length_map, List.take_length] at h1
    walk_at "go"
    exact h a H' ep' hE fa h1

theorem CALL_rows {G : Gl} {B : BW G} (W : LW G B) {k : Nat} {H : Hp} {Q : Qv} {X : Xc} {n : Nat} {d pl : PySem.Addr} {fs : List (Pt × LV)} {ep : Nat} {g : Grd} (hd : H d = some (.pdict fs ep)) (R : Rep n fs g) (hp : H pl = some (.lst ((pts n).map pv))) (hn : n ≤ 9)
    (h : ∀ a H', Ext H H' → H a = none → H' a = some (.lst ((pts n).filterMap fun p => (g p).map fun c => .tup [.str c, pv p])) → Q (.ref a) H') : CALL G (k + 1) (.ref W.frows) [.ref d, .ref pl] H Q X := by
  refine CALL_of (CODE_fn W.rows.2.2 2 rfl (by decide +kernel) ?_)
  refine EXS_at (m' := [("stones", some (.ref d)), ("points", some (.ref pl))]) rfl ?_
  refine EXS_cons ?_
  walk_at "go"
  refine EV_LCl B.hh ?_ (by rfl)
  walk_at "go"
  refine ⟨pl, (pts n).map pv, rfl, hp, fun lv => (decP lv).bind fun p => (g p).map fun c => .tup [.str c, pv p], ?_, ?_, ?_⟩
  · have h1 : (pts n).length ≤ 81 := by rw [pts_length]; exact Nat.mul_le_mul hn hn
    rw [List.length_map]; omega
  · intro lv hlv
    obtain ⟨p, hp', rfl⟩ := List.mem_map.mp hlv
    intro m2 H2 hs he
    have hs : Sim [(Str.ofString ".0", none), (Str.ofString "point", none), (Str.ofString "stones", some (.ref d))] m2 := hs
    obtain ⟨o0, _, rfl, o1, _, rfl, _, rfl, rfl⟩ := hs
    have hd2 := he _ _ hd
    refine AS_Name (by walk_at "put") ⟨⟨_, _, rfl, _, _, rfl, _, rfl, rfl⟩, TSs_one ?_⟩ (.inr (by decide +kernel))
    walk_at "go"
    rw [R.is, decP_pv]
    cases hg : g p with
    | none => simp [hg, Ext.refl]
    | some c =>
      refine ⟨fun q => by simp at q, fun _ => ?_⟩
      walk_at "go"
      refine BO_itempd hd2 (R.val hg) ?_
      walk_at "go"
      exact ⟨by simp [hg], Ext.refl _⟩
  · intro D H' hD he hL
    rw [fmP] at hL
    exact h D H' he hD hL

end
section

theorem CALL_brea {G : Gl} {B : BW G} (W : LW G B) {k : Nat} {H : Hp} {Q : Qv} {X : Xc} {n : Nat} {d : PySem.Addr} {fs : List (Pt × LV)} {ep : Nat} {g : Grd} (hd : H d = some (.pdict fs ep)) (R : Rep n fs g) (few : Few n g)
    (h : ∀ a H' (L : List Pt), Ext H H' → H a = none → H' a = some (.lst (L.map pv)) → L.Nodup → (∀ p, p ∈ L ↔ Alive n g p) → Q (.ref a) H') : CALL G (k + 2) (.ref W.fbrea) [.ref d, .int n] H Q X := by
  have hlen := R.len few
  refine CALL_of (CODE_fn W.brea.2.2 2 rfl (by decide +kernel) ?_)
  refine EXS_at (m' := [("stones", some (.ref d)), ("side", some (.int n)), ("point", none), ("one", none), ("living", none)]) rfl ?_
  refine EXS_cons ?_
  refine EX_LCd B.hh ?_ (by rfl) (by rfl) (by decide +kernel)
  walk_at "go"
  refine ⟨d, fs, ep, rfl, hd, fun lv => (decP lv).bind fun p => if ((nbs n p).any fun r => decide (g r = none)) = true then some (pv p) else none, by rw [List.length_map]; omega, ?_, ?_⟩
  · intro lv hlv
    obtain ⟨⟨p, v⟩, hp, rfl⟩ := List.mem_map.mp hlv
    intro m2 H2 hs he
    have hs : Sim [(Str.ofString ".0", none), (Str.ofString "point", none), (Str.ofString "side", some (.int n)), (Str.ofString "stones", some (.ref d))] m2 := hs
    obtain ⟨o0, _, rfl, o1, _, rfl, _, rfl, _, rfl, rfl⟩ := hs
    have hd2 := he _ _ hd
    refine AS_Name (by walk_at "put") ⟨⟨_, _, rfl, _, _, rfl, _, rfl, _, rfl, rfl⟩, TSs_one ?_⟩ (.inr (by decide +kernel))
    refine TS.mono (Q := fun b H4 => b = ((nbs n p).any fun r => decide (g r = none)) ∧ Ext H2 H4) (TS_val ?_) ?_
    · refine EV_LCl B.hh ?_ (by rfl)
      refine EV_CallK (by decide +kernel) W.near.1 W.near.2.1 ?_
      walk_at "go"
      refine CALL_near W fun a H3 e3 f3 l3 => ?_
      refine ⟨a, (nbs n p).map pv, rfl, l3, fun lv => (decP lv).bind fun r => if decide (g r = none) = true then some (pv r) else none, ?_, ?_, ?_⟩
      · have := List.length_filter_le (fun q => decide (On n q)) (nb4 p)
        rw [List.length_map, nbs]; simp [nb4] at this ⊢; omega
      · intro lv hlv
        obtain ⟨r, hr, rfl⟩ := List.mem_map.mp hlv
        intro m4 H4 hs he4
        have hs : Sim [(Str.ofString ".0", none), (Str.ofString "one", none), (Str.ofString "stones", some (.ref d))] m4 := hs
        obtain ⟨o0, _, rfl, o1, _, rfl, _, rfl, rfl⟩ := hs
        have hd4 := he4 _ _ (e3 _ _ hd2)
        refine AS_Name (by walk_at "put") ⟨⟨_, _, rfl, _, _, rfl, _, rfl, rfl⟩, TSs_one ?_⟩ (.inr (by decide +kernel))
        walk_at "go"
        rw [R.is, decP_pv]
        cases hg : g r with
        | some c => exact ⟨fun _ => ⟨by simp [hg], Ext.refl _⟩, fun q => by simp at q⟩
        | none =>
          refine ⟨fun q => by simp at q, fun _ => ?_⟩
          walk_at "go"
          exact ⟨by simp [hg], Ext.refl _⟩
      · intro D H5 hD he5 hL
        rw [fmP, fm_filter] at hL
        refine ⟨_, truth_lst hL, ?_, e3.trans he5⟩
        rw [Bool.eq_iff_iff]
        simp [List.any_eq_true]
    · rintro b H4 ⟨rfl, he4⟩
      refine ⟨fun q => ⟨?_, he4⟩, fun q => ?_⟩
      · dsimp only; rw [decP_pv]; dsimp only [Option.bind]; rw [q]; rfl
      · walk_at "go"
        refine ⟨?_, he4⟩
        rw [decP_pv]; dsimp only [Option.bind]; rw [q]; rfl
  intro a H1 fa e1 l1
  have hmm : fs.map (fun f => pv f.1) = (fs.map (·.1)).map pv := by rw [List.map_map]; rfl
  rw [hmm, fmP, fm_filter] at l1
  have i1 : ((fs.map (·.1)).filter fun p => (nbs n p).any fun r => decide (g r = none)).Nodup := R.nd.filter _
  have i2 : ∀ p, p ∈ ((fs.map (·.1)).filter fun p => (nbs n p).any fun r => decide (g r = none)) → Alive n g p := fun p hp => by
    rw [List.mem_filter, List.any_eq_true] at hp
    obtain ⟨h1, r, h2, h3⟩ := hp
    exact .lib (R.keys.mp h1) h2 (of_decide_eq_true h3)
  have i3 : ∀ p, g p ≠ none → (∃ r, r ∈ nbs n p ∧ g r = none) → p ∈ ((fs.map (·.1)).filter fun p => (nbs n p).any fun r => decide (g r = none)) := fun p h1 ⟨r, h2, h3⟩ => by
    rw [List.mem_filter, List.any_eq_true]
    exact ⟨R.keys.mpr h1, r, h2, decide_eq_true h3⟩
  generalize ((fs.map (·.1)).filter fun p => (nbs n p).any fun r => decide (g r = none)) = L0 at l1 i1 i2 i3
  have lenL : ∀ L : List Pt, L.Nodup → (∀ p, p ∈ L → Alive n g p) → L.length ≤ 49 := fun L nd hA => few L nd fun p hp => ⟨R.on p (hA p hp).some, (hA p hp).some⟩
  walk_at "go"
  refine EX_ForG B.hh ?_
  walk_at "go"
  refine ⟨a, L0.map pv, 49, fun i m' H' => ∃ (L : List Pt) (o1 o2 : Option LV), m' = ([("stones", some (.ref d)), ("side", some (.int n)), ("point", o1), ("one", o2), ("living", some (.ref a))] : Loc) ∧ Ext H H' ∧ H' a = some (.lst (L.map pv)) ∧ L.Nodup ∧ (∀ p, p ∈ L → Alive n g p) ∧ (∀ p, g p ≠ none → (∃ r, r ∈ nbs n p ∧ g r = none) → p ∈ L) ∧ GD n (fun p r => g r = g p) L i 0, rfl, l1, ⟨L0, _, _, rfl, e1, l1, i1, i2, i3, GD.start⟩, ?_⟩
  rintro i m' H' ⟨L, o1, o2, rfl, hE, hL, nd, hA, h0, hG⟩
  refine ⟨L.map pv, hL, by rw [List.length_map]; exact lenL L nd hA, fun hi => ?_, fun lv hi => ?_⟩
  · rw [List.length_map] at hi
    walk_at "go"
    exact h a H' L hE fa hL nd fun p => ⟨hA p, fun al => alive_complete h0 R.on (hG.done hi) al⟩
  · obtain ⟨p, hp, rfl⟩ := Option.map_eq_some_iff.mp (by rw [List.getElem?_map] at hi; exact hi)
    have hap := hA p (List.mem_of_getElem? hp)
    refine AS_Name (by walk_at "put") ?_
    refine EXS_cons ?_
    refine EX_ForL B.hh ?_
    refine EV_CallK (by decide +kernel) W.near.1 W.near.2.1 ?_
    walk_at "go"
    refine CALL_near W fun b H3 e3 f3 l3 => ?_
    have nab : a ≠ b := ne_of f3 hL
    refine ⟨b, (nbs n p).map pv, rfl, l3, fun t m' H'' => ∃ (L' : List Pt) (o : Option LV), m' = ([("stones", some (.ref d)), ("side", some (.int n)), ("point", some (pv p)), ("one", o), ("living", some (.ref a))] : Loc) ∧ Ext H H'' ∧ H'' a = some (.lst (L'.map pv)) ∧ H'' b = some (.lst ((nbs n p).map pv)) ∧ L'.Nodup ∧ (∀ p, p ∈ L' → Alive n g p) ∧ (∀ p, g p ≠ none → (∃ r, r ∈ nbs n p ∧ g r = none) → p ∈ L') ∧ GD n (fun p r => g r = g p) L' i t ∧ L'[i]? = some p,
      ⟨L, _, rfl, hE.trans e3, e3 _ _ hL, l3, nd, hA, h0, hG, hp⟩, ?_⟩
    constructor
    · rintro t m' H'' ⟨L', o, rfl, hE', hL', hb', r⟩; exact hb'
    · rintro t lv m' H'' ht ⟨L', o, rfl, hE', hL', hb', nd', hA', h0', hG', hp'⟩
      obtain ⟨r, hr, rfl⟩ := Option.map_eq_some_iff.mp (by rw [List.getElem?_map] at ht; exact ht)
      have hd' := hE' _ _ hd
      have hrn := List.mem_of_getElem? hr
      refine AS_Name (by walk_at "put") ?_
      walk_at "go"
      rw [R.is]
      cases hgr : g r with
      | none =>
        simp only [ne_eq, not_true_eq_false, decide_false, Bool.false_eq_true, if_false]
        refine ⟨(fun q => by cases q), fun _ => ?_⟩
        walk_at "go"
        exact ⟨L', _, rfl, hE', hL', hb', nd', hA', h0', hG'.keep hp' hr fun e => (hap.some (by rw [← e]; exact hgr)).elim, hp'⟩
      | some c =>
        simp only [ne_eq, reduceCtorEq, not_false_eq_true, decide_true, if_true]
        obtain ⟨c', hgp⟩ : ∃ c', g p = some c' := by cases e : g p with | none => exact (hap.some e).elim | some c' => exact ⟨c', rfl⟩
        walk_at "go"
        refine BO_itempd hd' (R.val hgr) ?_
        walk_at "go"
        refine BO_itempd hd' (R.val hgp) ?_
        refine BO_eqs (R.col _ _ hgr) (R.col _ _ hgp) ?_
        walk_at "go"
        by_cases e : c = c'
        case neg =>
          simp only [e, decide_false, Bool.false_eq_true, if_false]
          refine ⟨(fun q => by cases q), fun _ => ?_⟩
          walk_at "go"
          exact ⟨L', _, rfl, hE', hL', hb', nd', hA', h0', hG'.keep hp' hr fun e' => by rw [hgr, hgp] at e'; cases e'; exact (e rfl).elim, hp'⟩
        subst e
        simp only [decide_true, if_true]
        walk_at "go"
        refine BO_notinL hL' ?_
        walk_at "go"
        by_cases e : r ∈ L'
        · simp only [e, decide_true, Bool.not_true, Bool.false_eq_true, if_false]
          refine ⟨(fun q => by cases q), fun _ => ?_⟩
          walk_at "go"
          exact ⟨L', _, rfl, hE', hL', hb', nd', hA', h0', hG'.keep hp' hr fun _ => e, hp'⟩
        · simp only [e, decide_false, Bool.not_false, if_true]
          walk_at "go"
          refine ⟨fun _ => ?_, (fun q => by cases q)⟩
          walk_at "go"
          · have hi' := (List.getElem?_eq_some_iff.mp hp').1
            refine ⟨L' ++ [r], _, rfl, by walk_at "ext", by rw [List.map_append]; exact hset_same _ _ _, (hset_ne _ _ nab.symm).trans hb', List.nodup_append.mpr ⟨nd', by simp, fun x hx y hy q => by rw [List.mem_singleton] at hy; subst hy; subst q; exact e hx⟩, fun q hq => ?_, fun q a b => List.mem_append_left _ (h0' q a b), hG'.add hp' hr, by rw [List.getElem?_append_left hi']; exact hp'⟩
            rcases List.mem_append.mp hq with z | z
            · exact hA' q z
            · rw [List.mem_singleton] at z; subst z
              exact .step (by rw [hgr]; simp) (nbs_symm (R.on p (by rw [hgp]; simp)) hrn) (by rw [hgr, hgp]) hap
          · have := lenL L' nd' hA'; rw [List.length_map]; omega
    · rintro m' H'' ⟨L', o, rfl, hE', hL', hb', nd', hA', h0', hG', hp'⟩
      walk_at "go"
      exact ⟨L', _, _, rfl, hE', hL', nd', hA', h0', hG'.next hp' (by simp)⟩

end
section

theorem CALL_movd {G : Gl} {B : BW G} (W : LW G B) {k : Nat} {H : Hp} {Q : Qv} {X : Xc} {n : Nat} {d : PySem.Addr} {fs : List (Pt × LV)} {ep : Nat} {g : Grd} {p : Pt} {c : Str} (hd : H d = some (.pdict fs ep)) (R : Rep n fs g) (hp : On n p) (hc : IsCol c) (few0 : Few n g) (few : Few n (gset g p (some c)))
    (h : ∀ a H' fs' ep' g2, Ext H H' → H a = none → H' a = some (.pdict fs' ep') → Rep n fs' g2 → Played n (gset g p (some c)) c g2 → Q (.ref a) H') : CALL G (k + 3) (.ref W.fmovd) [.ref d, .int n, pv p, .str c] H Q X := by
  have hlen := R.len few0
  refine CALL_of (CODE_fn W.movd.2.2 4 rfl (by decide +kernel) ?_)
  refine EXS_at (m' := [("stones", some (.ref d)), ("side", some (.int n)), ("point", some (pv p)), ("colour", some (.str c)), ("after", none), ("living", none), ("foes", none)]) rfl ?_
  refine EXS_cons (EX_Assign (EV_CallK (by decide +kernel) W.only.1 W.only.2.1 ?_))
  walk_at "go"
  refine CALL_only W (fun q => (fs.lookup q).isSome) hd R.nd (by omega) (fun Q X q H' he hq hb => BO_inpd (he _ _ hd) hb) fun a H1 ep1 e1 fa l1 => ?_
  have hfs : (fs.filter fun f => (fs.lookup f.1).isSome) = fs := List.filter_eq_self.mpr fun f hf => by
    rw [(mem_lookup R.nd (p := f.1) (v := f.2)).mp hf]; rfl
  rw [hfs] at l1
  walk_at "go"
  refine SO_pd l1 (by omega) fun ep2 => ?_
  have R1 := R.put hp hc
  have hfa1 : Go.hset H1 a (.pdict (pput fs p (.str c)) ep2) a = some (.pdict (pput fs p (.str c)) ep2) := hset_same _ _ _
  have eH : Ext H (Go.hset H1 a (.pdict (pput fs p (.str c)) ep2)) := e1.set fa
  generalize Go.hset H1 a (.pdict (pput fs p (.str c)) ep2) = H2 at hfa1 eH
  generalize pput fs p (.str c) = fs1 at R1 hfa1
  generalize hg1 : gset g p (some c) = g1 at *
  have hlen1 := R1.len few
  refine EXS_cons (EX_Assign (EV_CallK (by decide +kernel) W.brea.1 W.brea.2.1 ?_))
  walk_at "go"
  refine CALL_brea W hfa1 R1 few fun b H3 L e3 fb l3 ndL mL => ?_
  have hfa3 := e3 _ _ hfa1
  walk_at "go"
  refine EX_AssignCell ?_ (by decide +kernel)
  refine EV_LCd B.hh ?_ (by rfl)
  walk_at "go"
  refine ⟨a, fs1, ep2, rfl, hfa3, fun lv => (decP lv).bind fun q => if (decide (g1 q ≠ some c) && !decide (q ∈ L)) = true then some (pv q) else none, by rw [List.length_map]; omega, ?_, ?_⟩
  · intro lv hlv
    obtain ⟨⟨q, v⟩, hq, rfl⟩ := List.mem_map.mp hlv
    intro m2 H4 hs he
    have hs : Sim [(Str.ofString ".0", none), (Str.ofString "one", none), (Str.ofString "after", some (.ref a)), (Str.ofString "colour", some (.str c)), (Str.ofString "living", some (.ref b))] m2 := hs
    obtain ⟨o0, _, rfl, o1, _, rfl, _, rfl, _, rfl, _, rfl, rfl⟩ := hs
    have h4 := he _ _ hfa3
    have hb4 := he _ _ l3
    have hgq : ∃ c', g1 q = some c' := by
      have := R1.keys.mp (List.mem_map.mpr ⟨_, hq, rfl⟩)
      cases e : g1 q with
      | none => exact (this e).elim
      | some c' => exact ⟨c', rfl⟩
    obtain ⟨c', hgq⟩ := hgq
    refine AS_Name (by walk_at "put") ⟨⟨_, _, rfl, _, _, rfl, _, rfl, _, rfl, _, rfl, rfl⟩, TSs_one ?_⟩ (.inr (by decide +kernel))
    refine TS.mono (Q := fun b H5 => b = (decide (g1 q ≠ some c) && !decide (q ∈ L)) ∧ H5 = H4) ?_ ?_
    · walk_at "go"
      refine BO_itempd h4 (R1.val hgq) ?_
      walk_at "go"
      refine BO_nes (R1.col _ _ hgq) hc ?_
      walk_at "go"
      rw [hgq]
      by_cases e : c' = c
      · simp [e]
      · simp only [e, decide_false, Bool.not_false, if_true]
        walk_at "go"
        refine BO_notinL hb4 ?_
        walk_at "go"
        by_cases e' : q ∈ L
        · simp [e']
        · simp only [e', decide_false, Bool.not_false, if_true]
          walk_at "go"
          simp [e]
    · rintro bb H5 ⟨rfl, rfl⟩
      dsimp only
      rw [decP_pv]
      refine ⟨fun z => ⟨?_, Ext.refl _⟩, fun z => ?_⟩
      · dsimp only [Option.bind]; rw [z]; rfl
      · walk_at "go"
        exact ⟨by dsimp only [Option.bind]; rw [z]; rfl, Ext.refl _⟩
  intro f H4 hf e4 l4
  have hmm : fs1.map (fun f => pv f.1) = (fs1.map (·.1)).map pv := by rw [List.map_map]; rfl
  rw [hmm, fmP, fm_filter] at l4
  have mF : ∀ q, q ∈ ((fs1.map (·.1)).filter fun q => decide (g1 q ≠ some c) && !decide (q ∈ L)) ↔ (Dead n g1 q ∧ g1 q ≠ some c) := fun q => by
    rw [List.mem_filter, R1.keys]
    simp only [Bool.and_eq_true, decide_eq_true_eq, Bool.not_eq_true', decide_eq_false_iff_not, mL]
    exact ⟨fun ⟨a, b, e⟩ => ⟨⟨R1.on q a, a, e⟩, b⟩, fun ⟨⟨_, a, e⟩, b⟩ => ⟨a, b, e⟩⟩
  generalize ((fs1.map (·.1)).filter fun q => decide (g1 q ≠ some c) && !decide (q ∈ L)) = F at l4 mF
  have hfa4 := e4 _ _ hfa3
  have hb4 := e4 _ _ l3
  have eH4 := (eH.trans e3).trans e4
  walk_at "go"
  refine ⟨fun hF => ?_, fun hF => ?_⟩
  · have hne : F ≠ [] := by rintro rfl; simp at hF
    refine EXS_cons (EX_Return (EV_CallK (by decide +kernel) W.only.1 W.only.2.1 ?_))
    walk_at "go"
    refine EV_LCd B.hh ?_ (by rfl)
    walk_at "go"
    refine ⟨a, fs1, ep2, rfl, hfa4, fun lv => (decP lv).bind fun q => if (!decide (q ∈ F)) = true then some (pv q) else none, by rw [List.length_map]; omega, ?_, ?_⟩
    · intro lv hlv
      obtain ⟨⟨q, v⟩, hq, rfl⟩ := List.mem_map.mp hlv
      intro m2 H5 hs he
      have hs : Sim [(Str.ofString ".0", none), (Str.ofString "one", none), (Str.ofString "foes", some (.ref f))] m2 := hs
      obtain ⟨o0, _, rfl, o1, _, rfl, _, rfl, rfl⟩ := hs
      have h5 := he _ _ l4
      refine AS_Name (by walk_at "put") ⟨⟨_, _, rfl, _, _, rfl, _, rfl, rfl⟩, TSs_one ?_⟩ (.inr (by decide +kernel))
      walk_at "go"
      refine BO_notinL h5 ?_
      walk_at "go"
      rw [decP_pv]
      refine ⟨fun z => ⟨?_, Ext.refl _⟩, fun z => ?_⟩
      · dsimp only [Option.bind]; rw [z]; rfl
      · walk_at "go"
        exact ⟨by dsimp only [Option.bind]; rw [z]; rfl, Ext.refl _⟩
    intro x H5 hx e5 l5
    rw [hmm, fmP, fm_filter] at l5
    walk_at "go"
    refine CALL_only W (fun q => decide (q ∈ (fs1.map (·.1)).filter fun q => !decide (q ∈ F))) (e5 _ _ hfa4) R1.nd (by omega) (fun Q X q H' he hq hb => BO_inL (he _ _ l5) hb) fun y H6 ep6 e6 fy l6 => ?_
    refine h y H6 _ ep6 _ ((eH4.trans e5).trans e6) (Ext.none (eH4.trans e5) fy) l6 (R1.filter (fun q => decide (q ∈ (fs1.map (·.1)).filter fun q => !decide (q ∈ F)))) (.inl ⟨?_, fun q hq => ⟨fun z => ?_, fun z => ?_⟩⟩)
    · obtain ⟨q, hq⟩ := List.exists_mem_of_ne_nil F hne
      exact ⟨q, (mF q).mp hq⟩
    · rw [if_neg]; simp [(mF q).mpr z]
    · by_cases e : g1 q = none
      · split
        · rfl
        · exact e.symm
      · rw [if_pos]
        rw [decide_eq_true_eq, List.mem_filter]
        exact ⟨R1.keys.mpr e, by simp only [Bool.not_eq_true', decide_eq_false_iff_not]; exact fun w => z ((mF q).mp w)⟩
  · have hF0 : F = [] := by cases F with | nil => rfl | cons _ _ => simp at hF
    refine EXS_nil (EXS_cons (EX_Return (EV_CallK (by decide +kernel) W.only.1 W.only.2.1 ?_)))
    walk_at "go"
    refine CALL_only W (fun q => decide (q ∈ L)) hfa4 R1.nd (by omega) (fun Q X q H' he hq hb => BO_inL (he _ _ hb4) hb) fun y H6 ep6 e6 fy l6 => ?_
    refine h y H6 _ ep6 _ (eH4.trans e6) (Ext.none eH4 fy) l6 (R1.filter (fun q => decide (q ∈ L))) (.inr ⟨fun ⟨q, hq⟩ => by have := (mF q).mpr hq; rw [hF0] at this; simp at this, fun q hq => ⟨fun al => ?_, fun na => ?_⟩⟩)
    · dsimp only; rw [if_pos (decide_eq_true ((mL q).mpr al))]
    · dsimp only; rw [if_neg]; simp only [decide_eq_true_eq]; exact fun w => na ((mL q).mp w)

end
section

structure LA (G : Gl) where
  farea : PySem.Addr
  area : Fn G (Str.ofString "_law_area") farea (top 13)
theorem CALL_area {G : Gl} {B : BW G} (W : LW G B) (V : LA G) {k : Nat} {H : Hp} {Q : Qv} {X : Xc} {n : Nat} {d : PySem.Addr} {fs : List (Pt × LV)} {ep : Nat} {g : Grd} {c : Str} (hd : H d = some (.pdict fs ep)) (R : Rep n fs g) (hn : n ≤ 7) (hc : IsCol c)
    (h : ∀ H', Ext H H' → Q (.int (cnt (pts n) (fun p => Area n g c p) : Nat)) H') : CALL G (k + 2) (.ref V.farea) [.ref d, .int n, .str c] H Q X := by
  have hlen := R.len (few_of hn)
  refine CALL_of (CODE_fn V.area.2.2 3 rfl (by decide +kernel) ?_)
  refine EXS_at (m' := [("stones", some (.ref d)), ("side", some (.int n)), ("colour", some (.str c)), ("point", none), ("area", none), ("one", none)]) rfl ?_
  refine EXS_cons ?_
  refine EX_LCd B.hh ?_ (by rfl) (by rfl) (by decide +kernel)
  walk_at "go"
  refine ⟨d, fs, ep, rfl, hd, fun lv => (decP lv).bind fun p => if decide (g p = some c) = true then some (pv p) else none, by rw [List.length_map]; omega, ?_, ?_⟩
  · intro lv hlv
    obtain ⟨⟨p, v⟩, hp, rfl⟩ := List.mem_map.mp hlv
    intro m2 H2 hs he
    have hs : Sim [(Str.ofString ".0", none), (Str.ofString "point", none), (Str.ofString "colour", some (.str c)), (Str.ofString "stones", some (.ref d))] m2 := hs
    obtain ⟨o0, _, rfl, o1, _, rfl, _, rfl, _, rfl, rfl⟩ := hs
    have hd2 := he _ _ hd
    obtain ⟨c', hgp⟩ : ∃ c', g p = some c' := by
      have := R.keys.mp (List.mem_map.mpr ⟨_, hp, rfl⟩)
      cases e : g p with
      | none => exact (this e).elim
      | some c' => exact ⟨c', rfl⟩
    refine AS_Name (by walk_at "put") ⟨⟨_, _, rfl, _, _, rfl, _, rfl, _, rfl, rfl⟩, TSs_one ?_⟩ (.inr (by decide +kernel))
    walk_at "go"
    refine BO_itempd hd2 (R.val hgp) ?_
    walk_at "go"
    refine BO_eqs (R.col _ _ hgp) hc ?_
    walk_at "go"
    rw [decP_pv]
    dsimp only [Option.bind]
    rw [hgp]
    refine ⟨fun q => ⟨?_, Ext.refl _⟩, fun q => ?_⟩
    · rw [if_neg]; intro z; have z' := of_decide_eq_true z; cases z'; rw [decide_eq_true rfl] at q; cases q
    · walk_at "go"
      refine ⟨?_, Ext.refl _⟩
      rw [if_pos (decide_eq_true (by rw [of_decide_eq_true q]))]
  intro a H1 fa e1 l1
  have hmm : fs.map (fun f => pv f.1) = (fs.map (·.1)).map pv := by rw [List.map_map]; rfl
  rw [hmm, fmP, fm_filter] at l1
  have i1 : ((fs.map (·.1)).filter fun p => decide (g p = some c)).Nodup := R.nd.filter _
  have i2 : ∀ p, p ∈ ((fs.map (·.1)).filter fun p => decide (g p = some c)) → On n p ∧ Area n g c p := fun p hp => by
    rw [List.mem_filter, decide_eq_true_eq] at hp
    exact ⟨R.on p (by rw [hp.2]; simp), .stone hp.2⟩
  have i3 : ∀ p, g p = some c → p ∈ ((fs.map (·.1)).filter fun p => decide (g p = some c)) := fun p h1 => by
    rw [List.mem_filter, decide_eq_true_eq]
    exact ⟨R.keys.mpr (by rw [h1]; simp), h1⟩
  generalize ((fs.map (·.1)).filter fun p => decide (g p = some c)) = L0 at l1 i1 i2 i3
  have lenL : ∀ L : List Pt, L.Nodup → (∀ p, p ∈ L → On n p ∧ Area n g c p) → L.length ≤ 49 := fun L nd hA => by
    have := on_length nd fun p hp => (hA p hp).1
    have : n * n ≤ 7 * 7 := Nat.mul_le_mul hn hn
    omega
  walk_at "go"
  refine EX_ForG B.hh ?_
  walk_at "go"
  refine ⟨a, L0.map pv, 49, fun i m' H' => ∃ (L : List Pt) (o1 o2 : Option LV), m' = ([("stones", some (.ref d)), ("side", some (.int n)), ("colour", some (.str c)), ("point", o1), ("area", some (.ref a)), ("one", o2)] : Loc) ∧ Ext H H' ∧ H' a = some (.lst (L.map pv)) ∧ L.Nodup ∧ (∀ p, p ∈ L → On n p ∧ Area n g c p) ∧ (∀ p, g p = some c → p ∈ L) ∧ GD n (fun p r => g r = none) L i 0, rfl, l1, ⟨L0, _, _, rfl, e1, l1, i1, i2, i3, GD.start⟩, ?_⟩
  rintro i m' H' ⟨L, o1, o2, rfl, hE, hL, nd, hA, h0, hG⟩
  refine ⟨L.map pv, hL, by rw [List.length_map]; exact lenL L nd hA, fun hi => ?_, fun lv hi => ?_⟩
  · rw [List.length_map] at hi
    walk_at "go"
    refine CALL_len_list hL ?_
    have e : (L.map pv).length = cnt (pts n) (fun p => Area n g c p) := by
      rw [List.length_map, ← cnt_all (L := L) (p := fun p => Area n g c p) fun p hp => (hA p hp).2]
      refine cnt_eq nd pts_nodup fun p => ?_
      rw [mem_pts]
      exact ⟨fun ⟨x, y⟩ => ⟨(hA p x).1, y⟩, fun ⟨x, y⟩ => ⟨area_complete h0 (hG.done hi) x y, y⟩⟩
    rw [e]
    exact h H' hE
  · obtain ⟨p, hp, rfl⟩ := Option.map_eq_some_iff.mp (by rw [List.getElem?_map] at hi; exact hi)
    have hap := hA p (List.mem_of_getElem? hp)
    refine AS_Name (by walk_at "put") ?_
    refine EXS_cons ?_
    refine EX_ForL B.hh ?_
    refine EV_CallK (by decide +kernel) W.near.1 W.near.2.1 ?_
    walk_at "go"
    refine CALL_near W fun b H3 e3 f3 l3 => ?_
    have nab : a ≠ b := ne_of f3 hL
    refine ⟨b, (nbs n p).map pv, rfl, l3, fun t m' H'' => ∃ (L' : List Pt) (o : Option LV), m' = ([("stones", some (.ref d)), ("side", some (.int n)), ("colour", some (.str c)), ("point", some (pv p)), ("area", some (.ref a)), ("one", o)] : Loc) ∧ Ext H H'' ∧ H'' a = some (.lst (L'.map pv)) ∧ H'' b = some (.lst ((nbs n p).map pv)) ∧ L'.Nodup ∧ (∀ p, p ∈ L' → On n p ∧ Area n g c p) ∧ (∀ p, g p = some c → p ∈ L') ∧ GD n (fun p r => g r = none) L' i t ∧ L'[i]? = some p,
      ⟨L, _, rfl, hE.trans e3, e3 _ _ hL, l3, nd, hA, h0, hG, hp⟩, ?_⟩
    constructor
    · rintro t m' H'' ⟨L', o, rfl, hE', hL', hb', r⟩; exact hb'
    · rintro t lv m' H'' ht ⟨L', o, rfl, hE', hL', hb', nd', hA', h0', hG', hp'⟩
      obtain ⟨r, hr, rfl⟩ := Option.map_eq_some_iff.mp (by rw [List.getElem?_map] at ht; exact ht)
      have hd' := hE' _ _ hd
      have hrn := List.mem_of_getElem? hr
      refine AS_Name (by walk_at "put") ?_
      walk_at "go"
      rw [R.is]
      by_cases hgr : g r = none
      case neg =>
        simp only [ne_eq, hgr, not_false_eq_true, decide_true, Bool.not_true, Bool.false_eq_true, if_false]
        refine ⟨(fun q => by cases q), fun _ => ?_⟩
        walk_at "go"
        exact ⟨L', _, rfl, hE', hL', hb', nd', hA', h0', hG'.keep hp' hr fun e => (hgr e).elim, hp'⟩
      simp only [ne_eq, hgr, not_true_eq_false, decide_false, Bool.not_false, if_true]
      walk_at "go"
      refine BO_notinL hL' ?_
      walk_at "go"
      by_cases e : r ∈ L'
      · simp only [e, decide_true, Bool.not_true, Bool.false_eq_true, if_false]
        refine ⟨(fun q => by cases q), fun _ => ?_⟩
        walk_at "go"
        exact ⟨L', _, rfl, hE', hL', hb', nd', hA', h0', hG'.keep hp' hr fun _ => e, hp'⟩
      · simp only [e, decide_false, Bool.not_false, if_true]
        walk_at "go"
        refine ⟨fun _ => ?_, (fun q => by cases q)⟩
        walk_at "go"
        · have hi' := (List.getElem?_eq_some_iff.mp hp').1
          refine ⟨L' ++ [r], _, rfl, by walk_at "ext", by rw [List.map_append]; exact hset_same _ _ _, (hset_ne _ _ nab.symm).trans hb', List.nodup_append.mpr ⟨nd', by simp, fun x hx y hy q => by rw [List.mem_singleton] at hy; subst hy; subst q; exact e hx⟩, fun q hq => ?_, fun q a => List.mem_append_left _ (h0' q a), hG'.add hp' hr, by rw [List.getElem?_append_left hi']; exact hp'⟩
          rcases List.mem_append.mp hq with z | z
          · exact hA' q z
          · rw [List.mem_singleton] at z; subst z
            exact ⟨(mem_nbs.mp hrn).2, .free hgr (nbs_symm hap.1 hrn) hap.2⟩
        · have := lenL L' nd' hA'; rw [List.length_map]; omega
    · rintro m' H'' ⟨L', o, rfl, hE', hL', hb', nd', hA', h0', hG', hp'⟩
      walk_at "go"
      exact ⟨L', _, _, rfl, hE', hL', nd', hA', h0', hG'.next hp' (by simp)⟩

end
section

structure LB (G : Gl) where
  fbey : PySem.Addr
  bey : Fn G (Str.ofString "_law_beyond") fbey (top 14)
theorem EX_TryIE {G : Gl} (B : BW G) {k : Nat} {sc : Scope} {m : Loc} {H : Hp} {P : PQ} {body : List Stmt} {p1 p2 p3 p4 p5 : Pos} {kd : Nat} {b : Bool} (h : EXS G k sc body m H ⟨P.n, P.r, P.b, P.c, fun c m' H' => c = ("IndexError", true) ∧ P.r (.bool b) H'⟩) (hx : sc.names.lookup (Str.ofString "IndexError") = some .globalImplicit := by decide +kernel) :
    EX G k sc (.Try body [.ExceptHandler (some (.Name (Str.ofString "IndexError") p1)) none [.Return (some (.Constant (.bool b) kd p2)) p3] p4] [] [] p5) m H P := by
  refine EX_Try (T := "IndexError") hx B.n_ie (by decide +kernel) (by rfl) (by rfl) (EXS_mono h (fun m' H' q => EXS_nil q) (fun _ _ q => q) (fun _ _ q => q) (fun _ _ q => q) fun c m' H' q => ?_)
  obtain ⟨rfl, q⟩ := q
  exact ⟨rfl, by rfl, EXS_cons (EX_Return (EV_bool q))⟩

theorem CALL_bey {G : Gl} {B : BW G} (V : LB G) {k : Nat} {H : Hp} {Q : Qv} {X : Xc} {n : Nat} {b : Bd} {g : Grd} {em : Bool} {la l0 l1 l2 : PySem.Addr} {A0 A1 A2 : List Pt} {rest : Int} (hB : BAt H b n g em) (hl : Legal n g) (hn : n ≤ 7) (hla : H la = some (.lst [.ref l0, .ref l1, .ref l2])) (h0 : H l0 = some (.lst (A0.map pv))) (h1 : H l1 = some (.lst (A1.map pv))) (h2 : H l2 = some (.lst (A2.map pv)))
    (n01 : l0 ≠ l1) (n02 : l0 ≠ l2) (n12 : l1 ≠ l2) (na0 : la ≠ l0) (na1 : la ≠ l1) (na2 : la ≠ l2) (nl0 : l0 ≠ b.pl) (nl1 : l1 ≠ b.pl) (nl2 : l2 ≠ b.pl) (nm0 : l0 ≠ b.bl) (nm1 : l1 ≠ b.bl) (nm2 : l2 ≠ b.bl) (hz : A0.length ≤ 100 ∧ A1.length ≤ 100 ∧ A2.length ≤ 100)
    (h : ∀ H', Fr [l0, l1, l2] H H' → Q (.bool true) H') : CALL G (k + 6) (.ref V.fbey) [.inst B.bc b.x b.d, .ref la, .int rest] H Q X := by
  have h2n := hB.two
  have n10 := n01.symm
  have n20 := n02.symm
  have n21 := n12.symm
  refine CALL_of (CODE_fn V.bey.2.2 3 rfl (by decide +kernel) ?_)
  refine EXS_at (m' := [("board", some (.inst B.bc b.x b.d)), ("lists", some (.ref la)), ("rest", some (.int rest)), ("far", none), ("along", none), ("row", none), ("col", none), ("place", none)]) rfl ?_
  refine EXS_cons ?_
  walk_at "go"
  obtain ⟨far, f0, f1, hfar⟩ : ∃ x : Int, 0 ≤ x ∧ x < 30 ∧ (rest.fdiv 20).fmod 30 = x := ⟨_, Int.fmod_nonneg_of_pos _ (by decide), Int.fmod_lt_of_pos _ (by decide), rfl⟩
  rw [hfar]
  walk_at "go"
  refine BO_mod (by omega) ?_
  obtain ⟨along, a0, a1, hal⟩ : ∃ x : Int, 0 ≤ x ∧ x < n ∧ (rest.fdiv 600).fmod n = x := ⟨_, Int.fmod_nonneg_of_pos _ (by omega), Int.fmod_lt_of_pos _ (by omega), rfl⟩
  rw [hal]
  walk_at "go"
  intro ls fls
  obtain ⟨r4, r0, r1, hr4⟩ : ∃ x : Int, 0 ≤ x ∧ x < 4 ∧ rest.fmod 4 = x := ⟨_, Int.fmod_nonneg_of_pos _ (by decide), Int.fmod_lt_of_pos _ (by decide), rfl⟩
  walk_at "go"
  rw [hr4]
  obtain ⟨row, col, hrc, hoff, hb1, hb2⟩ : ∃ row col : Int, ([LV.tup [.int (-1 - far), .int along], .tup [.int (n + far), .int along], .tup [.int along, .int (-1 - far)], .tup [.int along, .int (n + far)]] : List LV)[r4.toNat]? = some (.tup [.int row, .int col]) ∧ ¬ On n (row, col) ∧ row < 2 ^ 63 ∧ col < 2 ^ 63 := by
    have : r4 = 0 ∨ r4 = 1 ∨ r4 = 2 ∨ r4 = 3 := by omega
    rcases this with rfl | rfl | rfl | rfl
    · exact ⟨_, _, rfl, by simp [On]; omega, by omega, by omega⟩
    · exact ⟨_, _, rfl, by simp [On]; omega, by omega, by omega⟩
    · exact ⟨_, _, rfl, by simp [On]; omega, by omega, by omega⟩
    · exact ⟨_, _, rfl, by simp [On]; omega, by omega, by omega⟩
  refine BO_item_list (hset_same _ _ _) r0 hrc ?_
  refine AS_tuple (ASs_cons (by walk_at "put") (ASs_cons (by walk_at "put") (ASs_nil ?_))) B.hh
  have eH0 : Ext H (Go.hset H ls (.lst [LV.tup [.int (-1 - far), .int along], .tup [.int (n + far), .int along], .tup [.int along, .int (-1 - far)], .tup [.int along, .int (n + far)]])) := (Ext.refl _).set fls
  generalize Go.hset H ls (.lst [LV.tup [.int (-1 - far), .int along], .tup [.int (n + far), .int along], .tup [.int along, .int (-1 - far)], .tup [.int along, .int (n + far)]]) = H9 at eH0
  replace h := fun H' (x : Fr [l0, l1, l2] H9 H') => h H' (Fr.trans (eH0.fr _) x)
  replace hB := hB.ext eH0
  replace hla := eH0 _ _ hla
  replace h0 := eH0 _ _ h0
  replace h1 := eH0 _ _ h1
  replace h2 := eH0 _ _ h2
  clear eH0 fls hrc
  revert H9
  intro H h hB hla h0 h1 h2
  walk_at "go"
  obtain ⟨pl, p0, p1, hpl⟩ : ∃ x : Int, 0 ≤ x ∧ x < 5 ∧ (rest.fdiv 4).fmod 5 = x := ⟨_, Int.fmod_nonneg_of_pos _ (by decide), Int.fmod_lt_of_pos _ (by decide), rfl⟩
  rw [hpl]
  have fin : ∀ (H' : Hp), Fr [l0, l1, l2] H H' → ("IndexError", true) = (("IndexError", true) : Xk) ∧ Q (.bool true) H' := fun H' e => ⟨rfl, h H' e⟩
  refine EX_TryIE B ?_
  refine EXS_cons ?_
  have : pl = 0 ∨ pl = 1 ∨ pl = 2 ∨ pl = 3 ∨ pl = 4 := by omega
  walk_at "go"
  rcases this with hp | hp | hp | hp | hp
  · rw [hp]
    refine ⟨(fun q => by cases q), fun _ => ?_⟩
    walk_at "go"
    refine ⟨(fun q => by cases q), fun _ => ?_⟩
    walk_at "go"
    refine BO_item_list hla (by decide) (lv := .ref l0) rfl ?_
    walk_at "go"
    refine BO_item_list hla (by decide) (lv := .ref l0) rfl ?_
    walk_at "go"
    refine CALL_len_list h0 ?_
    walk_at "go"
    have hpos : (0 : Int) < ((A0.map pv).length : Int) + 1 := by omega
    refine BO_mod (by omega) ?_
    obtain ⟨x, hx0, hx1, hx⟩ : ∃ x : Int, 0 ≤ x ∧ x ≤ (A0.map pv).length ∧ (rest.fdiv 600).fmod (((A0.map pv).length : Int) + 1) = x := ⟨_, Int.fmod_nonneg_of_pos _ hpos, by have := Int.fmod_lt_of_pos (rest.fdiv 600) hpos; omega, rfl⟩
    rw [hx]
    walk_at "go"
    refine CALL_insert h0 hx0 hx1 (by rw [List.length_map]; omega) ?_
    have hsp : (A0.map pv).take x.toNat ++ LV.tup [.int row, .int col] :: (A0.map pv).drop x.toNat = (A0.take x.toNat ++ (row, col) :: A0.drop x.toNat).map pv := by
      rw [List.map_append, List.map_cons, List.map_take, List.map_drop]; rfl
    rw [hsp]
    have hlen : (A0.take x.toNat ++ (row, col) :: A0.drop x.toNat).length = A0.length + 1 := by
      rw [List.length_append, List.length_cons, List.length_take, List.length_drop]; rw [List.length_map] at hx1; omega
    have nbo : l0 ∉ b.own := hB.notOwn h0 pv_notC
    have nlp : b.pl ≠ l0 := fun e => nl0 e.symm
    have hB2 : BAt (Go.hset H l0 (.lst ((A0.take x.toNat ++ (row, col) :: A0.drop x.toNat).map pv))) b n g em := hB.fr (F := [l0]) ((Fr.refl _ _).hset _ (.inl (by simp))) (by simp; intro e; exact nbo (e ▸ List.mem_cons_self)) (by simpa using nlp) (by simpa using fun e => nm0 e.symm) (fun a ha => by simp; rintro rfl; exact nbo (List.mem_cons_of_mem _ ha))
    walk_at "go"
    have hla2 := (hset_ne H (.lst ((A0.take x.toNat ++ (row, col) :: A0.drop x.toNat).map pv)) na0).trans hla
    refine BO_item_list hla2 (by decide) (lv := .ref l0) rfl ?_
    walk_at "go"
    refine BO_item_list hla2 (by decide) (lv := .ref l1) rfl ?_
    walk_at "go"
    refine BO_item_list hla2 (by decide) (lv := .ref l2) rfl ?_
    walk_at "go"
    refine CALL_as B (Lb := A0.take x.toNat ++ (row, col) :: A0.drop x.toNat) (Lw := A1) (Le := A2) hB2 (few_of hn) (hset_same _ _ _) ((hset_ne _ _ n10).trans h1) ((hset_ne _ _ n20).trans h2) (by simp only [hlen]; omega) (fun hall => (hoff (hall (row, col) (by simp))).elim) fun _ H' e' => ?_
    exact fin H' (fun a o ha ho => e' _ _ ((hset_ne _ _ (fun e => ha (by simp [e]))).trans ho))
  · rw [hp]
    refine ⟨(fun q => by cases q), fun _ => ?_⟩
    walk_at "go"
    refine ⟨(fun q => by cases q), fun _ => ?_⟩
    walk_at "go"
    refine BO_item_list hla (by decide) (lv := .ref l1) rfl ?_
    walk_at "go"
    refine BO_item_list hla (by decide) (lv := .ref l1) rfl ?_
    walk_at "go"
    refine CALL_len_list h1 ?_
    walk_at "go"
    have hpos : (0 : Int) < ((A1.map pv).length : Int) + 1 := by omega
    refine BO_mod (by omega) ?_
    obtain ⟨x, hx0, hx1, hx⟩ : ∃ x : Int, 0 ≤ x ∧ x ≤ (A1.map pv).length ∧ (rest.fdiv 600).fmod (((A1.map pv).length : Int) + 1) = x := ⟨_, Int.fmod_nonneg_of_pos _ hpos, by have := Int.fmod_lt_of_pos (rest.fdiv 600) hpos; omega, rfl⟩
    rw [hx]
    walk_at "go"
    refine CALL_insert h1 hx0 hx1 (by rw [List.length_map]; omega) ?_
    have hsp : (A1.map pv).take x.toNat ++ LV.tup [.int row, .int col] :: (A1.map pv).drop x.toNat = (A1.take x.toNat ++ (row, col) :: A1.drop x.toNat).map pv := by
      rw [List.map_append, List.map_cons, List.map_take, List.map_drop]; rfl
    rw [hsp]
    have hlen : (A1.take x.toNat ++ (row, col) :: A1.drop x.toNat).length = A1.length + 1 := by
      rw [List.length_append, List.length_cons, List.length_take, List.length_drop]; rw [List.length_map] at hx1; omega
    have nbo : l1 ∉ b.own := hB.notOwn h1 pv_notC
    have nlp : b.pl ≠ l1 := fun e => nl1 e.symm
    have hB2 : BAt (Go.hset H l1 (.lst ((A1.take x.toNat ++ (row, col) :: A1.drop x.toNat).map pv))) b n g em := hB.fr (F := [l1]) ((Fr.refl _ _).hset _ (.inl (by simp))) (by simp; intro e; exact nbo (e ▸ List.mem_cons_self)) (by simpa using nlp) (by simpa using fun e => nm1 e.symm) (fun a ha => by simp; rintro rfl; exact nbo (List.mem_cons_of_mem _ ha))
    walk_at "go"
    have hla2 := (hset_ne H (.lst ((A1.take x.toNat ++ (row, col) :: A1.drop x.toNat).map pv)) na1).trans hla
    refine BO_item_list hla2 (by decide) (lv := .ref l0) rfl ?_
    walk_at "go"
    refine BO_item_list hla2 (by decide) (lv := .ref l1) rfl ?_
    walk_at "go"
    refine BO_item_list hla2 (by decide) (lv := .ref l2) rfl ?_
    walk_at "go"
    refine CALL_as B (Lb := A0) (Lw := A1.take x.toNat ++ (row, col) :: A1.drop x.toNat) (Le := A2) hB2 (few_of hn) ((hset_ne _ _ n01).trans h0) (hset_same _ _ _) ((hset_ne _ _ n21).trans h2) (by simp only [hlen]; omega) (fun hall => (hoff (hall (row, col) (by simp))).elim) fun _ H' e' => ?_
    exact fin H' (fun a o ha ho => e' _ _ ((hset_ne _ _ (fun e => ha (by simp [e]))).trans ho))
  · rw [hp]
    refine ⟨(fun q => by cases q), fun _ => ?_⟩
    walk_at "go"
    refine ⟨(fun q => by cases q), fun _ => ?_⟩
    walk_at "go"
    refine BO_item_list hla (by decide) (lv := .ref l2) rfl ?_
    walk_at "go"
    refine BO_item_list hla (by decide) (lv := .ref l2) rfl ?_
    walk_at "go"
    refine CALL_len_list h2 ?_
    walk_at "go"
    have hpos : (0 : Int) < ((A2.map pv).length : Int) + 1 := by omega
    refine BO_mod (by omega) ?_
    obtain ⟨x, hx0, hx1, hx⟩ : ∃ x : Int, 0 ≤ x ∧ x ≤ (A2.map pv).length ∧ (rest.fdiv 600).fmod (((A2.map pv).length : Int) + 1) = x := ⟨_, Int.fmod_nonneg_of_pos _ hpos, by have := Int.fmod_lt_of_pos (rest.fdiv 600) hpos; omega, rfl⟩
    rw [hx]
    walk_at "go"
    refine CALL_insert h2 hx0 hx1 (by rw [List.length_map]; omega) ?_
    have hsp : (A2.map pv).take x.toNat ++ LV.tup [.int row, .int col] :: (A2.map pv).drop x.toNat = (A2.take x.toNat ++ (row, col) :: A2.drop x.toNat).map pv := by
      rw [List.map_append, List.map_cons, List.map_take, List.map_drop]; rfl
    rw [hsp]
    have hlen : (A2.take x.toNat ++ (row, col) :: A2.drop x.toNat).length = A2.length + 1 := by
      rw [List.length_append, List.length_cons, List.length_take, List.length_drop]; rw [List.length_map] at hx1; omega
    have nbo : l2 ∉ b.own := hB.notOwn h2 pv_notC
    have nlp : b.pl ≠ l2 := fun e => nl2 e.symm
    have hB2 : BAt (Go.hset H l2 (.lst ((A2.take x.toNat ++ (row, col) :: A2.drop x.toNat).map pv))) b n g em := hB.fr (F := [l2]) ((Fr.refl _ _).hset _ (.inl (by simp))) (by simp; intro e; exact nbo (e ▸ List.mem_cons_self)) (by simpa using nlp) (by simpa using fun e => nm2 e.symm) (fun a ha => by simp; rintro rfl; exact nbo (List.mem_cons_of_mem _ ha))
    walk_at "go"
    have hla2 := (hset_ne H (.lst ((A2.take x.toNat ++ (row, col) :: A2.drop x.toNat).map pv)) na2).trans hla
    refine BO_item_list hla2 (by decide) (lv := .ref l0) rfl ?_
    walk_at "go"
    refine BO_item_list hla2 (by decide) (lv := .ref l1) rfl ?_
    walk_at "go"
    refine BO_item_list hla2 (by decide) (lv := .ref l2) rfl ?_
    walk_at "go"
    refine CALL_as B (Lb := A0) (Lw := A1) (Le := A2.take x.toNat ++ (row, col) :: A2.drop x.toNat) hB2 (few_of hn) ((hset_ne _ _ n02).trans h0) ((hset_ne _ _ n12).trans h1) (hset_same _ _ _) (by simp only [hlen]; omega) (fun hall => (hoff (hall (row, col) (by simp))).elim) fun _ H' e' => ?_
    exact fin H' (fun a o ha ho => e' _ _ ((hset_ne _ _ (fun e => ha (by simp [e]))).trans ho))
  · rw [hp]
    refine ⟨fun _ => ?_, (fun q => by cases q)⟩
    walk_at "go"
    obtain ⟨x, x0, x1, hx⟩ : ∃ x : Int, 0 ≤ x ∧ x < 2 ∧ ((rest.fdiv 600).fdiv n).fmod 2 = x := ⟨_, Int.fmod_nonneg_of_pos _ (by decide), Int.fmod_lt_of_pos _ (by decide), rfl⟩
    refine BO_div (by omega) ?_ (PyProof.noPylong_small (by omega))
    walk_at "go"
    rw [hx]
    refine ⟨trivial, BO_bw x0 x1 ?_⟩
    walk_at "go"
    have hc : IsCol (if x = 0 then sb else sw) := by split; exact .inl rfl; exact .inr rfl
    exact CALL_pl B hB hc hl (fun o => (hoff o).elim) ⟨hb1, hb2⟩ (fun _ H' e => fin H' (e.fr _)) (fun o => (hoff o).elim) (fun o => (hoff o).elim)
  · rw [hp]
    refine ⟨(fun q => by cases q), fun _ => ?_⟩
    walk_at "go"
    refine ⟨fun _ => ?_, (fun q => by cases q)⟩
    walk_at "go"
    exact CALL_ge B hB (fun o => (hoff o).elim) (fun _ => fin H (Fr.refl _ _)) ⟨hb1, hb2⟩

end
section

def lawS : Stmt := top 15
theorem ints_of {l : List LV} (h : ∀ x, x ∈ l → ∃ i, x = .int i) : ∃ is : List Int, l = is.map .int := by
  induction l with
  | nil => exact ⟨[], rfl⟩
  | cons a t ih =>
    obtain ⟨i, rfl⟩ := h a (by simp)
    obtain ⟨is, rfl⟩ := ih fun x hx => h x (List.mem_cons_of_mem _ hx)
    exact ⟨i :: is, rfl⟩
theorem len_pts {n : Nat} (hn : n ≤ 7) : (pts n).length ≤ 49 := by
  rw [pts_length]; have : n * n ≤ 7 * 7 := Nat.mul_le_mul hn hn; omega

theorem LAW_a {G : Gl} {B : BW G} (R : RW G B) (W : LW G B) (n_min : GNm G (Str.ofString "min") (.builtin "min")) {k : Nat} {H : Hp} {P : PQ} {sa : PySem.Addr} {ns : List Int} (hns : ns.length ≤ 63)
    (h : ∀ (n : Nat) (h0 : Int) (pl gl ds al : PySem.Addr) (b : Bd) (gp : List Pt) (as : List Int) (ep : Nat) (o : Option LV) H', 2 ≤ n → n ≤ 7 → Ext H H' → BAt H' b n gEmpty true → H' pl = some (.lst ((pts n).map pv)) → H' gl = some (.lst (gp.map pv)) → (∀ p, p ∈ gp → On n p) → gp.length ≤ 49 → H' ds = some (.pdict [] ep) → H' al = some (.lst (as.map .int)) → as.length ≤ 100 → pl ≠ b.pl →
      EXS G (k + 9) (fscope lawS) ((fbody lawS).drop 9) ([("script", some (.ro sa (ns.map .int))), ("head", some (.int h0)), ("side", some (.int n)), ("points", some (.ref pl)), ("held", some (.inst B.bc b.x b.d)), ("ground", some (.ref gl)), ("stones", some (.ref ds)), ("acts", some (.ref al)), ("number", none), ("rest", none), ("digits", none), ("lists", none), ("point", none), ("black", none), ("white", none), ("bare", none), ("before", none), ("living", none), ("legal", none), ("again", none), ("colour", none), ("taken", none), ("looks", none)] : Loc) H' P) :
    EXS G (k + 9) (fscope lawS) (fbody lawS) ([("script", some (.ro sa (ns.map .int))), ("head", none), ("side", none), ("points", none), ("held", none), ("ground", none), ("stones", none), ("acts", none), ("number", none), ("rest", none), ("digits", none), ("lists", none), ("point", none), ("black", none), ("white", none), ("bare", none), ("before", none), ("living", none), ("legal", none), ("again", none), ("colour", none), ("taken", none), ("looks", none)] : Loc) H P := by
  refine EXS_cons ?_
  walk_at "go"
  intro z fz
  walk_at "go"
  refine BO_addl (vs := ns.map .int) (ws := [.int 0]) rfl (LstOf_ref (hset_same _ _ _)) (by rw [List.length_map]; simp; omega) fun y fy => ?_
  obtain ⟨h0, hh0⟩ : ∃ h0 : Int, (ns.map LV.int ++ [.int 0])[(0 : Int).toNat]? = some (.int h0) := by
    cases ns with
    | nil => exact ⟨0, rfl⟩
    | cons a t => exact ⟨a, rfl⟩
  walk_at "go"
  refine BO_item_list (hset_same _ _ _) (by decide) hh0 ?_
  have e1 : Ext H (Go.hset (Go.hset H z (.lst [.int 0])) y (.lst (ns.map LV.int ++ [.int 0]))) := by walk_at "ext"
  generalize Go.hset (Go.hset H z (.lst [.int 0])) y (.lst (ns.map LV.int ++ [.int 0])) = H1 at e1
  clear fz fy hh0
  walk_at "go"
  intro z fz
  obtain ⟨x, x0, x1, hx⟩ : ∃ x : Int, 0 ≤ x ∧ x < 5 ∧ h0.fmod 5 = x := ⟨_, Int.fmod_nonneg_of_pos _ (by decide), Int.fmod_lt_of_pos _ (by decide), rfl⟩
  obtain ⟨n, hn, h2, h7⟩ : ∃ n : Nat, ([LV.int 4, .int 3, .int 2, .int 5, .int 7] : List LV)[x.toNat]? = some (.int n) ∧ 2 ≤ n ∧ n ≤ 7 := by
    have : x = 0 ∨ x = 1 ∨ x = 2 ∨ x = 3 ∨ x = 4 := by omega
    rcases this with rfl | rfl | rfl | rfl | rfl
    · exact ⟨4, rfl, by omega, by omega⟩
    · exact ⟨3, rfl, by omega, by omega⟩
    · exact ⟨2, rfl, by omega, by omega⟩
    · exact ⟨5, rfl, by omega, by omega⟩
    · exact ⟨7, rfl, by omega, by omega⟩
  walk_at "go"
  rw [hx]
  refine BO_item_list (hset_same _ _ _) x0 hn ?_
  have e2 : Ext H (Go.hset H1 z (.lst [.int 4, .int 3, .int 2, .int 5, .int 7])) := e1.set (Ext.none e1 fz)
  generalize Go.hset H1 z (.lst [.int 4, .int 3, .int 2, .int 5, .int 7]) = H2 at e2
  clear fz hn e1 hx
  walk_at "st"
  refine EXS_cons ?_
  refine EX_grid (n := n) B.hh (by omega) B.n_range (by walk_at "mem") (by decide +kernel) (by decide +kernel) (by decide +kernel) (by decide +kernel) (by rfl) (by rfl) ?_ (by rfl) (by decide +kernel)
  intro pl H3 fpl e3 hpl
  walk_at "go"
  refine CALL_board B h2 (by omega) fun b H4 e4 nb hB => ?_
  have hpl4 := e4 _ _ hpl
  have npb : pl ≠ b.pl := fun q => by have := nb.2.1; rw [← q, hpl] at this; cases this
  walk_at "st"
  refine EXS_cons ?_
  refine EX_LCl B.hh ?_ (by rfl) (by rfl) (by decide +kernel)
  walk_at "go"
  refine ⟨pl, (pts n).map pv, rfl, hpl4, fun lv => (decP lv).bind fun p => if (decide ((n : Int) < 7) || decide ((if p.2 < p.1 then p.2 else p.1) > 3)) = true then some (pv p) else none, by rw [List.length_map]; have := len_pts h7; omega, ?_, ?_⟩
  · intro lv hlv
    obtain ⟨p, hp, rfl⟩ := List.mem_map.mp hlv
    intro m2 H5 hs he
    have hs : Sim [(Str.ofString ".0", none), (Str.ofString "one", none), (Str.ofString "side", some (.int n))] m2 := hs
    obtain ⟨o0, _, rfl, o1, _, rfl, _, rfl, rfl⟩ := hs
    refine AS_Name (by walk_at "put") ⟨⟨_, _, rfl, _, _, rfl, _, rfl, rfl⟩, TSs_one ?_⟩ (.inr (by decide +kernel))
    refine TS.mono (Q := fun b H6 => b = (decide ((n : Int) < 7) || decide ((if p.2 < p.1 then p.2 else p.1) > 3)) ∧ H6 = H5) ?_ ?_
    · walk_at "go"
      by_cases c : (n : Int) < 7
      · simp [c]
      simp only [c, decide_false, Bool.false_eq_true, if_false, Bool.false_or]
      refine AT_or (TS_Compare1 (EV_CallB (by decide +kernel) n_min ?_))
      walk_at "go"
      refine CALL_min2 B.hh ?_
      walk_at "go"
      by_cases c' : (if p.2 < p.1 then p.2 else p.1) > 3
      · simp [c']
      · simp only [c', decide_false, Bool.false_eq_true, if_false]
        walk_at "go"
        simp
    · rintro bb H6 ⟨rfl, rfl⟩
      dsimp only
      rw [decP_pv]
      refine ⟨fun q => ⟨?_, Ext.refl _⟩, fun q => ?_⟩
      · dsimp only [Option.bind]; rw [q]; rfl
      · walk_at "go"
        exact ⟨by dsimp only [Option.bind]; rw [q]; rfl, Ext.refl _⟩
  intro gl H5 fgl e5 hgl
  rw [fmP, fm_filter] at hgl
  have hgp : ∀ p, p ∈ ((pts n).filter fun p => (decide ((n : Int) < 7) || decide ((if p.2 < p.1 then p.2 else p.1) > 3))) → On n p := fun p hp => mem_pts.mp (List.mem_filter.mp hp).1
  have hgl2 : ((pts n).filter fun p => (decide ((n : Int) < 7) || decide ((if p.2 < p.1 then p.2 else p.1) > 3))).length ≤ 49 := Nat.le_trans (List.length_filter_le _ _) (len_pts h7)
  generalize ((pts n).filter fun p => (decide ((n : Int) < 7) || decide ((if p.2 < p.1 then p.2 else p.1) > 3))) = gp at hgl hgp hgl2
  have hB5 := hB.ext e5
  have hpl5 := e5 _ _ hpl4
  have eH5 := ((e2.trans e3).trans e4).trans e5
  refine ⟨_, by walk_at "put", EXS_cons (EX_Assign (EV_Dict0 fun ds fds => ?_))⟩
  walk_at "go"
  intro z fz
  have hpk : pickL (ns.map LV.int) (some 1) (some 3) none = ((ns.drop 1).take 2).map LV.int := (pick_nat (vs := ns.map LV.int) 1 3).trans (by rw [List.map_take, List.map_drop])
  have hpl2 : ((ns.drop 1).take 2).length ≤ 2 := by rw [List.length_take]; omega
  refine EV_Slice ?_
  walk_at "st"
  refine EP_some (EV_int ⟨1, rfl, EP_some (EV_int ⟨3, rfl, EP_none ⟨ns.map .int, rfl, by rw [List.length_map]; omega, by simp, by rw [hpk, List.length_map]; omega, trivial, fun y fy => ?_⟩⟩)⟩)
  rw [hpk]
  refine BO_addl (vs := [.int (h0.fdiv 5)]) (ws := ((ns.drop 1).take 2).map LV.int) (LstOf_ref (by walk_at "hp")) (LstOf_ref (hset_same _ _ _)) (by rw [List.length_map]; simp; omega) fun al fal => ?_
  have hcons : [LV.int (h0.fdiv 5)] ++ ((ns.drop 1).take 2).map LV.int = (h0.fdiv 5 :: (ns.drop 1).take 2).map LV.int := rfl
  rw [hcons]
  have hasl : (h0.fdiv 5 :: (ns.drop 1).take 2).length ≤ 3 := by rw [List.length_cons]; omega
  have hne0 : (h0.fdiv 5 :: (ns.drop 1).take 2) ≠ [] := by simp
  generalize (h0.fdiv 5 :: (ns.drop 1).take 2) = as0 at hasl hne0
  have hzd : z ≠ ds := (ne_of fz (hset_same _ _ _)).symm
  have hz5 : H5 z = none := by rw [hset_ne _ _ hzd] at fz; exact fz
  have hyz : y ≠ z := (ne_of fy (hset_same _ _ _)).symm
  have hyd : y ≠ ds := (ne_of fy ((hset_ne _ _ hzd.symm).trans (hset_same _ _ _))).symm
  have hy5 : H5 y = none := by rw [hset_ne _ _ hyz, hset_ne _ _ hyd] at fy; exact fy
  have hay : al ≠ y := (ne_of fal (hset_same _ _ _)).symm
  have haz : al ≠ z := (ne_of fal ((hset_ne _ _ hyz.symm).trans (hset_same _ _ _))).symm
  have had : al ≠ ds := (ne_of fal ((hset_ne _ _ hyd.symm).trans ((hset_ne _ _ hzd.symm).trans (hset_same _ _ _)))).symm
  have ha5 : H5 al = none := by rw [hset_ne _ _ hay, hset_ne _ _ haz, hset_ne _ _ had] at fal; exact fal
  have e6 : Ext H5 (Go.hset (Go.hset (Go.hset (Go.hset H5 ds (.pdict [] 0)) z (.lst [.int (h0.fdiv 5)])) y (.lst (((ns.drop 1).take 2).map LV.int))) al (.lst (as0.map LV.int))) := ((((Ext.refl _).set fds).set hz5).set hy5).set ha5
  have hds6 : (Go.hset (Go.hset (Go.hset (Go.hset H5 ds (.pdict [] 0)) z (.lst [.int (h0.fdiv 5)])) y (.lst (((ns.drop 1).take 2).map LV.int))) al (.lst (as0.map LV.int))) ds = some (.pdict [] 0) := (hset_ne _ _ had.symm).trans ((hset_ne _ _ hyd.symm).trans ((hset_ne _ _ hzd.symm).trans (hset_same _ _ _)))
  have hal6 : (Go.hset (Go.hset (Go.hset (Go.hset H5 ds (.pdict [] 0)) z (.lst [.int (h0.fdiv 5)])) y (.lst (((ns.drop 1).take 2).map LV.int))) al (.lst (as0.map LV.int))) al = some (.lst (as0.map LV.int)) := hset_same _ _ _
  generalize (Go.hset (Go.hset (Go.hset (Go.hset H5 ds (.pdict [] 0)) z (.lst [.int (h0.fdiv 5)])) y (.lst (((ns.drop 1).take 2).map LV.int))) al (.lst (as0.map LV.int))) = H6 at e6 hds6 hal6
  clear fz fy fal hz5 hy5 ha5 hyz hyd hay haz had hzd hpk fds
  walk_at "st"
  obtain ⟨NN, hNN⟩ : ∃ NN : Loc → Hp → Prop, ∀ m' H', NN m' H' ↔ ∃ (al : PySem.Addr) (as : List Int), m' = ([("script", some (.ro sa (ns.map .int))), ("head", some (.int h0)), ("side", some (.int n)), ("points", some (.ref pl)), ("held", some (.inst B.bc b.x b.d)), ("ground", some (.ref gl)), ("stones", some (.ref ds)), ("acts", some (.ref al)), ("number", none), ("rest", none), ("digits", none), ("lists", none), ("point", none), ("black", none), ("white", none), ("bare", none), ("before", none), ("living", none), ("legal", none), ("again", none), ("colour", none), ("taken", none), ("looks", none)] : Loc) ∧ Ext H6 H' ∧ H' al = some (.lst (as.map .int)) ∧ as.length ≤ 3 ∧ as ≠ [] := ⟨_, fun _ _ => Iff.rfl⟩
  refine EXS_cut NN ?_ ?_
  · refine EX_If ?_
    walk_at "go"
    refine ⟨fun _ => ?_, fun _ => ?_⟩
    · have hpk2 : pickL (as0.map LV.int) none (some 2) none = (as0.take 2).map LV.int := (pick_hi (vs := as0.map LV.int) 2).trans (by rw [List.map_take])
      refine EXS_cons (EX_Assign (EV_Slice ?_))
      walk_at "st"
      refine EP_none (EP_some (EV_int ⟨2, rfl, EP_none ⟨as0.map .int, hal6, by rw [List.length_map]; omega, by simp, by rw [hpk2, List.length_map, List.length_take]; omega, SubT_lst hal6, fun y fy => ?_⟩⟩))
      rw [hpk2]
      refine ⟨_, by walk_at "put", EXS_nil ((hNN _ _).mpr ⟨y, as0.take 2, rfl, (Ext.refl _).set fy, hset_same _ _ _, by rw [List.length_take]; omega, ?_⟩)⟩
      cases as0 with
      | nil => exact (hne0 rfl).elim
      | cons a t => simp
    · exact EXS_nil ((hNN _ _).mpr ⟨al, as0, rfl, Ext.refl _, hal6, hasl, hne0⟩)
  intro m' H7 hN
  obtain ⟨al, as, rfl, e7, hal, hasl, hne⟩ := (hNN _ _).mp hN
  clear hN hal6 hne0 hNN
  have fin : ∀ (al : PySem.Addr) (as : List Int) H', Ext H6 H' → H' al = some (.lst (as.map .int)) → as.length ≤ 100 → EXS G (k + 9) (fscope lawS) ((fbody lawS).drop 9) ([("script", some (.ro sa (ns.map .int))), ("head", some (.int h0)), ("side", some (.int n)), ("points", some (.ref pl)), ("held", some (.inst B.bc b.x b.d)), ("ground", some (.ref gl)), ("stones", some (.ref ds)), ("acts", some (.ref al)), ("number", none), ("rest", none), ("digits", none), ("lists", none), ("point", none), ("black", none), ("white", none), ("bare", none), ("before", none), ("living", none), ("legal", none), ("again", none), ("colour", none), ("taken", none), ("looks", none)] : Loc) H' P := fun al as H' e hal hl =>
    h n h0 pl gl ds al b gp as 0 none H' h2 h7 ((eH5.trans e6).trans e) (hB5.ext (e6.trans e)) ((e6.trans e) _ _ hpl5) ((e6.trans e) _ _ hgl) hgp hgl2 (e _ _ hds6) hal hl npb
  obtain ⟨a0, t, rfl⟩ : ∃ a0 t, as = a0 :: t := by cases as with | nil => exact (hne rfl).elim | cons a t => exact ⟨a, t, rfl⟩
  refine EXS_cons (EX_If ?_)
  walk_at "go"
  refine ⟨fun _ => ?_, fun _ => ?_⟩
  · refine EXS_cons (EX_Assign ?_)
    walk_at "go"
    refine BO_item_list hal (by decide) (lv := .int a0) rfl ?_
    refine BO_mul ?_ (IntMulOk.of_left (by decide +kernel))
    walk_at "go"
    intro u fu
    have nau : al ≠ u := ne_of fu hal
    have hpk3 : pickL ((a0 :: t).map LV.int) (some 1) (some 2) none = (((a0 :: t).drop 1).take 1).map LV.int := (pick_nat (vs := (a0 :: t).map LV.int) 1 2).trans (by rw [List.map_take, List.map_drop])
    have hal8 := (hset_ne H7 (.lst [.int (3 * a0)]) nau).trans hal
    refine EV_LCl B.hh (EV_Slice ?_) (by rfl)
    walk_at "st"
    refine EP_some (EV_int ⟨1, rfl, EP_some (EV_int ⟨2, rfl, EP_none ⟨(a0 :: t).map .int, hal8, by rw [List.length_map]; omega, by simp, by rw [hpk3, List.length_map, List.length_take]; omega, SubT_lst hal8, fun y fy => ?_⟩⟩)⟩)
    rw [hpk3]
    refine ⟨y, _, rfl, hset_same _ _ _, fun lv => match lv with | .int i => some (.int (if i.fmod 3 ≠ 0 then i else i + 1)) | _ => none, by rw [List.length_map, List.length_take]; omega, ?_, ?_⟩
    · intro lv hlv
      obtain ⟨i, hi, rfl⟩ := List.mem_map.mp hlv
      intro m2 H8 hs he
      have hs : Sim [(Str.ofString ".0", none), (Str.ofString "one", none)] m2 := hs
      obtain ⟨o0, _, rfl, o1, _, rfl, rfl⟩ := hs
      refine AS_Name (by walk_at "put") ⟨⟨_, _, rfl, _, _, rfl, rfl⟩, TSs_nil ⟨(fun q => by cases q), fun _ => ?_⟩⟩ (.inr (by decide +kernel))
      refine EV_IfExp ?_
      walk_at "go"
      by_cases c : i.fmod 3 = 0
      · simp only [c, bne_self_eq_false, Bool.false_eq_true, if_false]
        walk_at "go"
        exact ⟨by simp [c], Ext.refl _⟩
      · have c' : (i.fmod 3 != 0) = true := by simpa using c
        simp only [c', if_true]
        walk_at "go"
        exact ⟨by simp [c], Ext.refl _⟩
    intro w H8 fw e8 lw
    obtain ⟨is, his⟩ := ints_of (l := (((a0 :: t).drop 1).take 1).map LV.int |>.filterMap fun lv => match lv with | .int i => some (.int (if i.fmod 3 ≠ 0 then i else i + 1)) | _ => none) fun x hx => by
      obtain ⟨lv, h1, h2⟩ := List.mem_filterMap.mp hx
      obtain ⟨i, _, rfl⟩ := List.mem_map.mp h1
      simp only [Option.some.injEq] at h2
      exact ⟨_, h2.symm⟩
    have hlis : is.length ≤ 1 := by
      have h1 := congrArg List.length his
      have h2 := List.length_filterMap_le (fun lv => match lv with | LV.int i => some (LV.int (if i.fmod 3 ≠ 0 then i else i + 1)) | _ => none) ((((a0 :: t).drop 1).take 1).map LV.int)
      rw [h1, List.length_map, List.length_map, List.length_take] at h2; omega
    rw [his] at lw
    have hu8 : H8 u = some (.lst [.int (3 * a0)]) := e8 _ _ ((hset_ne _ _ (ne_of fy (hset_same _ _ _))).trans (hset_same _ _ _))
    refine BO_addl (vs := [.int (3 * a0)]) (ws := is.map .int) (LstOf_ref hu8) (LstOf_ref lw) (by rw [List.length_map]; simp; omega) fun v fv => ?_
    have e9 : Ext H7 H8 := (((Ext.refl _).set fu).set (by have := (ne_of fy (hset_same _ _ _) : u ≠ y); rw [hset_ne _ _ this.symm] at fy; exact fy)).trans e8
    refine ⟨_, by walk_at "put", EXS_nil (fin v (3 * a0 :: is) _ ((e7.trans e9).set (Ext.none (e7.trans e9) fv)) (hset_same _ _ _) (by rw [List.length_cons]; omega))⟩
  · exact EXS_nil (fin al (a0 :: t) H7 e7 hal (by omega))

end
section

def forB : Stmt → List Stmt
  | .For _ _ b _ _ => b
  | _ => []
def ifB : Stmt → List Stmt
  | .If _ b _ _ => b
  | _ => []
def bodS : List Stmt := forB (((fbody lawS).drop 9).headD (top 0))

theorem LAW_fill {G : Gl} {B : BW G} (W : LW G B) {k : Nat} {H : Hp} {P : PQ} {sa : PySem.Addr} {ns : List Int} {n : Nat} {h0 num : Int} {pl gl ds al : PySem.Addr} {b : Bd} {gp : List Pt} {fs : List (Pt × LV)} {ep : Nat} {g : Grd} {q9 q10 q11 q12 q13 q14 q15 q16 q17 q18 q19 q20 q21 : Option LV} (hn : n ≤ 7)
    (hpl : H pl = some (.lst ((pts n).map pv))) (hgl : H gl = some (.lst (gp.map pv))) (hgp : ∀ p, p ∈ gp → On n p) (hlen : gp.length ≤ 49) (hds : H ds = some (.pdict fs ep)) (R : Rep n fs g)
    (h : ∀ (A0 A1 A2 : List Pt) (la l0 l1 l2 bf : PySem.Addr) (dg : Int) (qp : Option LV) H', Ext H H' → H l0 = none → H l1 = none → H l2 = none → H' la = some (.lst [.ref l0, .ref l1, .ref l2]) → H' l0 = some (.lst (A0.map pv)) → H' l1 = some (.lst (A1.map pv)) → H' l2 = some (.lst (A2.map pv)) →
      l0 ≠ l1 → l0 ≠ l2 → l1 ≠ l2 → la ≠ l0 → la ≠ l1 → la ≠ l2 → (∀ p, p ∈ A0 → On n p) → (∀ p, p ∈ A1 → On n p) → (∀ p, p ∈ A2 → On n p) → A0.length ≤ 49 → A1.length ≤ 49 → A2.length ≤ 49 →
      H' bf = some (.lst ((pts n).filterMap fun p => (g p).map fun c => .tup [.str c, pv p])) → 
      EXS G (k + 9) (fscope lawS) (bodS.drop 6) ([("script", some (.ro sa (ns.map .int))), ("head", some (.int h0)), ("side", some (.int n)), ("points", some (.ref pl)), ("held", some (.inst B.bc b.x b.d)), ("ground", some (.ref gl)), ("stones", some (.ref ds)), ("acts", some (.ref al)), ("number", some (.int num)), ("rest", some (.int (num.fdiv 3))), ("digits", some (.int dg)), ("lists", some (.ref la)), ("point", qp), ("black", some (.ref l0)), ("white", some (.ref l1)), ("bare", some (.ref l2)), ("before", some (.ref bf)), ("living", q17), ("legal", q18), ("again", q19), ("colour", q20), ("taken", q21), ("looks", none)] : Loc) H' P) :
    EXS G (k + 9) (fscope lawS) bodS ([("script", some (.ro sa (ns.map .int))), ("head", some (.int h0)), ("side", some (.int n)), ("points", some (.ref pl)), ("held", some (.inst B.bc b.x b.d)), ("ground", some (.ref gl)), ("stones", some (.ref ds)), ("acts", some (.ref al)), ("number", some (.int num)), ("rest", q9), ("digits", q10), ("lists", q11), ("point", q12), ("black", q13), ("white", q14), ("bare", q15), ("before", q16), ("living", q17), ("legal", q18), ("again", q19), ("colour", q20), ("taken", q21), ("looks", none)] : Loc) H P := by
  refine EXS_cons ?_
  walk_at "go"
  refine BO_mul ?_ (IntMulOk.of_right (by decide +kernel))
  walk_at "go"
  obtain ⟨dg, hdg⟩ : ∃ d : Int, ((num.fdiv 3 + 1) * 648082323026433).fmod 1125899906842624 = d := ⟨_, rfl⟩
  rw [hdg]
  clear hdg
  intro l0 f0
  walk_at "go"
  intro l1 f1
  walk_at "go"
  intro l2 f2
  walk_at "go"
  intro la fla
  have n01 : l0 ≠ l1 := ne_of f1 (hset_same _ _ _)
  have n12 : l1 ≠ l2 := ne_of f2 (hset_same _ _ _)
  have n02 : l0 ≠ l2 := ne_of f2 ((hset_ne _ _ n01).trans (hset_same _ _ _))
  have na2 : la ≠ l2 := (ne_of fla (hset_same _ _ _)).symm
  have na1 : la ≠ l1 := (ne_of fla ((hset_ne _ _ n12).trans (hset_same _ _ _))).symm
  have na0 : la ≠ l0 := (ne_of fla ((hset_ne _ _ n02).trans ((hset_ne _ _ n01).trans (hset_same _ _ _)))).symm
  rw [hset_ne _ _ n01.symm] at f1
  rw [hset_ne _ _ n12.symm, hset_ne _ _ n02.symm] at f2
  rw [hset_ne _ _ na2, hset_ne _ _ na1, hset_ne _ _ na0] at fla
  have e1 : Ext H (Go.hset (Go.hset (Go.hset (Go.hset H l0 (.lst [])) l1 (.lst [])) l2 (.lst [])) la (.lst [.ref l0, .ref l1, .ref l2])) := ((((Ext.refl _).set f0).set f1).set f2).set fla
  have hl0 : (Go.hset (Go.hset (Go.hset (Go.hset H l0 (.lst [])) l1 (.lst [])) l2 (.lst [])) la (.lst [.ref l0, .ref l1, .ref l2])) l0 = some (.lst (([] : List Pt).map pv)) := (hset_ne _ _ na0.symm).trans ((hset_ne _ _ n02).trans ((hset_ne _ _ n01).trans (hset_same _ _ _)))
  have hl1 : (Go.hset (Go.hset (Go.hset (Go.hset H l0 (.lst [])) l1 (.lst [])) l2 (.lst [])) la (.lst [.ref l0, .ref l1, .ref l2])) l1 = some (.lst (([] : List Pt).map pv)) := (hset_ne _ _ na1.symm).trans ((hset_ne _ _ n12).trans (hset_same _ _ _))
  have hl2 : (Go.hset (Go.hset (Go.hset (Go.hset H l0 (.lst [])) l1 (.lst [])) l2 (.lst [])) la (.lst [.ref l0, .ref l1, .ref l2])) l2 = some (.lst (([] : List Pt).map pv)) := (hset_ne _ _ na2.symm).trans (hset_same _ _ _)
  have hla : (Go.hset (Go.hset (Go.hset (Go.hset H l0 (.lst [])) l1 (.lst [])) l2 (.lst [])) la (.lst [.ref l0, .ref l1, .ref l2])) la = some (.lst [.ref l0, .ref l1, .ref l2]) := hset_same _ _ _
  generalize (Go.hset (Go.hset (Go.hset (Go.hset H l0 (.lst [])) l1 (.lst [])) l2 (.lst [])) la (.lst [.ref l0, .ref l1, .ref l2])) = H1 at e1 hl0 hl1 hl2 hla
  walk_at "go"
  refine EX_ForL B.hh ?_
  walk_at "go"
  obtain ⟨I, hI⟩ : ∃ I : Nat → Loc → Hp → Prop, ∀ i m' H', I i m' H' ↔ ∃ (A0 A1 A2 : List Pt) (dg : Int) (qp : Option LV), m' = ([("script", some (.ro sa (ns.map .int))), ("head", some (.int h0)), ("side", some (.int n)), ("points", some (.ref pl)), ("held", some (.inst B.bc b.x b.d)), ("ground", some (.ref gl)), ("stones", some (.ref ds)), ("acts", some (.ref al)), ("number", some (.int num)), ("rest", some (.int (num.fdiv 3))), ("digits", some (.int dg)), ("lists", some (.ref la)), ("point", qp), ("black", q13), ("white", q14), ("bare", q15), ("before", q16), ("living", q17), ("legal", q18), ("again", q19), ("colour", q20), ("taken", q21), ("looks", none)] : Loc) ∧ Ext H H' ∧ H' la = some (.lst [.ref l0, .ref l1, .ref l2]) ∧ H' l0 = some (.lst (A0.map pv)) ∧ H' l1 = some (.lst (A1.map pv)) ∧ H' l2 = some (.lst (A2.map pv)) ∧ (∀ p, p ∈ A0 → On n p) ∧ (∀ p, p ∈ A1 → On n p) ∧ (∀ p, p ∈ A2 → On n p) ∧ A0.length ≤ i ∧ A1.length ≤ i ∧ A2.length ≤ i := ⟨_, fun _ _ _ => Iff.rfl⟩
  refine ⟨gl, gp.map pv, rfl, e1 _ _ hgl, I, (hI _ _ _).mpr ⟨[], [], [], dg, _, rfl, e1, hla, hl0, hl1, hl2, by simp, by simp, by simp, by simp, by simp, by simp⟩, ?_⟩
  clear hl0 hl1 hl2 hla e1
  clear dg
  refine ⟨fun i m' H' q => ?_, fun i lv m' H' hi q => ?_, fun m' H' q => ?_⟩
  · obtain ⟨A0, A1, A2, dg, qp, rfl, e, hla, hl0, hl1, hl2, o0, o1, o2, s0, s1, s2⟩ := (hI _ _ _).mp q
    exact e _ _ hgl
  · obtain ⟨A0, A1, A2, dg, qp, rfl, e, hla, hl0, hl1, hl2, o0, o1, o2, s0, s1, s2⟩ := (hI _ _ _).mp q
    rw [List.getElem?_map] at hi
    cases hg : gp[i]? with
    | none => rw [hg] at hi; cases hi
    | some p =>
      rw [hg] at hi
      cases hi
      have hp : On n p := hgp p (List.mem_of_getElem? hg)
      have hi49 : i < 49 := Nat.lt_of_lt_of_le (List.getElem?_eq_some_iff.mp hg).1 hlen
      refine AS_Name (by walk_at "put") ?_ (.inr (by decide +kernel))
      obtain ⟨N2, hN2⟩ : ∃ N2 : Loc → Hp → Prop, ∀ m' H', N2 m' H' ↔ ∃ (A0 A1 A2 : List Pt), m' = ([("script", some (.ro sa (ns.map .int))), ("head", some (.int h0)), ("side", some (.int n)), ("points", some (.ref pl)), ("held", some (.inst B.bc b.x b.d)), ("ground", some (.ref gl)), ("stones", some (.ref ds)), ("acts", some (.ref al)), ("number", some (.int num)), ("rest", some (.int (num.fdiv 3))), ("digits", some (.int dg)), ("lists", some (.ref la)), ("point", some (pv p)), ("black", q13), ("white", q14), ("bare", q15), ("before", q16), ("living", q17), ("legal", q18), ("again", q19), ("colour", q20), ("taken", q21), ("looks", none)] : Loc) ∧ Ext H H' ∧ H' la = some (.lst [.ref l0, .ref l1, .ref l2]) ∧ H' l0 = some (.lst (A0.map pv)) ∧ H' l1 = some (.lst (A1.map pv)) ∧ H' l2 = some (.lst (A2.map pv)) ∧ (∀ p, p ∈ A0 → On n p) ∧ (∀ p, p ∈ A1 → On n p) ∧ (∀ p, p ∈ A2 → On n p) ∧ A0.length ≤ i + 1 ∧ A1.length ≤ i + 1 ∧ A2.length ≤ i + 1 := ⟨_, fun _ _ => Iff.rfl⟩
      refine EXS_cut N2 ?_ ?_
      · refine EX_If ?_
        walk_at "go"
        obtain ⟨r, r0, r1, hr⟩ : ∃ x : Int, 0 ≤ x ∧ x < 4 ∧ dg.fmod 4 = x := ⟨_, Int.fmod_nonneg_of_pos _ (by decide), Int.fmod_lt_of_pos _ (by decide), rfl⟩
        rw [hr]
        refine ⟨fun q => ?_, fun q => EXS_nil ((hN2 _ _).mpr ⟨A0, A1, A2, rfl, e, hla, hl0, hl1, hl2, o0, o1, o2, by omega, by omega, by omega⟩)⟩
        walk_at "go"
        rw [hr]
        have : r = 1 ∨ r = 2 ∨ r = 3 := by simp at q; omega
        rcases this with rfl | rfl | rfl
        · refine BO_item_list hla (by decide) (lv := .ref l0) rfl ?_
          walk_at "go"
          rotate_right 1
          · rw [List.length_map]; omega
          refine (hN2 _ _).mpr ⟨A0 ++ [p], A1, A2, rfl, e.set f0, (hset_ne _ _ na0).trans hla, by rw [List.map_append]; exact hset_same _ _ _, (hset_ne _ _ n01.symm).trans hl1, (hset_ne _ _ n02.symm).trans hl2, fun x hx => ?_, o1, o2, by rw [List.length_append]; simpa using s0, by omega, by omega⟩
          rcases List.mem_append.mp hx with z | z
          · exact o0 x z
          · rw [List.mem_singleton.mp z]; exact hp
        · refine BO_item_list hla (by decide) (lv := .ref l1) rfl ?_
          walk_at "go"
          rotate_right 1
          · rw [List.length_map]; omega
          refine (hN2 _ _).mpr ⟨A0, A1 ++ [p], A2, rfl, e.set f1, (hset_ne _ _ na1).trans hla, (hset_ne _ _ n01).trans hl0, by rw [List.map_append]; exact hset_same _ _ _, (hset_ne _ _ n12.symm).trans hl2, o0, fun x hx => ?_, o2, by omega, by rw [List.length_append]; simpa using s1, by omega⟩
          rcases List.mem_append.mp hx with z | z
          · exact o1 x z
          · rw [List.mem_singleton.mp z]; exact hp
        · refine BO_item_list hla (by decide) (lv := .ref l2) rfl ?_
          walk_at "go"
          rotate_right 1
          · rw [List.length_map]; omega
          refine (hN2 _ _).mpr ⟨A0, A1, A2 ++ [p], rfl, e.set f2, (hset_ne _ _ na2).trans hla, (hset_ne _ _ n02).trans hl0, (hset_ne _ _ n12).trans hl1, by rw [List.map_append]; exact hset_same _ _ _, o0, o1, fun x hx => ?_, by omega, by omega, by rw [List.length_append]; simpa using s2⟩
          rcases List.mem_append.mp hx with z | z
          · exact o2 x z
          · rw [List.mem_singleton.mp z]; exact hp
      · intro m2 H2 q2
        obtain ⟨A0, A1, A2, rfl, e, hla, hl0, hl1, hl2, o0, o1, o2, s0, s1, s2⟩ := (hN2 _ _).mp q2
        walk_at "go"
        exact (hI _ _ _).mpr ⟨A0, A1, A2, _, _, rfl, e, hla, hl0, hl1, hl2, o0, o1, o2, s0, s1, s2⟩
  · obtain ⟨A0, A1, A2, dg, qp, rfl, e, hla, hl0, hl1, hl2, o0, o1, o2, s0, s1, s2⟩ := (hI _ _ _).mp q
    rw [List.length_map] at s0 s1 s2
    refine EXS_nil ?_
    refine EXS_cons ?_
    walk_at "go"
    refine AS_list hla (ASs_cons (by walk_at "put") (ASs_cons (by walk_at "put") (ASs_cons (by walk_at "put") (ASs_nil ?_)))) B.hh
    refine EXS_cons (EX_Assign (EV_CallK (by decide +kernel) W.rows.1 W.rows.2.1 ?_))
    walk_at "go"
    refine CALL_rows W (e _ _ hds) R (e _ _ hpl) (by omega) fun bf H3 e3 fb hb => ?_
    refine ⟨_, by walk_at "put", ?_⟩
    exact h A0 A1 A2 la l0 l1 l2 bf dg qp H3 (e.trans e3) f0 f1 f2 (e3 _ _ hla) (e3 _ _ hl0) (e3 _ _ hl1) (e3 _ _ hl2) n01 n02 n12 na0 na1 na2 o0 o1 o2 (by omega) (by omega) (by omega) hb

end
section

def setS : List Stmt := ifB ((bodS.drop 6).headD (top 0))
theorem setAll_take {g : Grd} {A : List Pt} {i : Nat} {p : Pt} {o : Option Str} (h : A[i]? = some p) : gset (setAll g (A.take i) o) p o = setAll g (A.take (i + 1)) o := by
  rw [setAll_snoc, List.take_add_one, h]; rfl

theorem LAW_put {G : Gl} {B : BW G} {k : Nat} {H : Hp} {P : PQ} {sa : PySem.Addr} {ns : List Int} {n : Nat} {h0 num rs dg : Int} {pl gl ds al la l0 l1 l2 bf : PySem.Addr} {b : Bd} {A0 A1 A2 : List Pt} {fs0 : List (Pt × LV)} {ep0 : Nat} {g : Grd} {q12 q17 q18 q19 q20 q21 : Option LV} (hn : n ≤ 7)
    (hd0 : H ds = some (.pdict fs0 ep0)) (R0 : Rep n fs0 g) (hA0 : H l0 = some (.lst (A0.map pv))) (hA1 : H l1 = some (.lst (A1.map pv))) (hA2 : H l2 = some (.lst (A2.map pv))) (o0 : ∀ p, p ∈ A0 → On n p) (o1 : ∀ p, p ∈ A1 → On n p)
    (h : ∀ fs' ep' qp H', Fr [ds] H H' → H' ds = some (.pdict fs' ep') → Rep n fs' (putG g A0 A1 A2) → 
      EXS G (k + 9) (fscope lawS) (setS.drop 3) ([("script", some (.ro sa (ns.map .int))), ("head", some (.int h0)), ("side", some (.int n)), ("points", some (.ref pl)), ("held", some (.inst B.bc b.x b.d)), ("ground", some (.ref gl)), ("stones", some (.ref ds)), ("acts", some (.ref al)), ("number", some (.int num)), ("rest", some (.int rs)), ("digits", some (.int dg)), ("lists", some (.ref la)), ("point", qp), ("black", some (.ref l0)), ("white", some (.ref l1)), ("bare", some (.ref l2)), ("before", some (.ref bf)), ("living", q17), ("legal", q18), ("again", q19), ("colour", q20), ("taken", q21), ("looks", none)] : Loc) H' P) :
    EXS G (k + 9) (fscope lawS) setS ([("script", some (.ro sa (ns.map .int))), ("head", some (.int h0)), ("side", some (.int n)), ("points", some (.ref pl)), ("held", some (.inst B.bc b.x b.d)), ("ground", some (.ref gl)), ("stones", some (.ref ds)), ("acts", some (.ref al)), ("number", some (.int num)), ("rest", some (.int rs)), ("digits", some (.int dg)), ("lists", some (.ref la)), ("point", q12), ("black", some (.ref l0)), ("white", some (.ref l1)), ("bare", some (.ref l2)), ("before", some (.ref bf)), ("living", q17), ("legal", q18), ("again", q19), ("colour", q20), ("taken", q21), ("looks", none)] : Loc) H P := by
  have nd0 : l0 ≠ ds := by rintro rfl; rw [hA0] at hd0; cases hd0
  have nd1 : l1 ≠ ds := by rintro rfl; rw [hA1] at hd0; cases hd0
  have nd2 : l2 ≠ ds := by rintro rfl; rw [hA2] at hd0; cases hd0
  have fr0 : Fr [ds] H H := Fr.refl _ _
  refine EXS_cons ?_
  refine EX_ForL B.hh ?_
  walk_at "go"
  obtain ⟨I0, hI0⟩ : ∃ I : Nat → Loc → Hp → Prop, ∀ i m' H', I i m' H' ↔ ∃ fs' ep' qp, m' = ([("script", some (.ro sa (ns.map .int))), ("head", some (.int h0)), ("side", some (.int n)), ("points", some (.ref pl)), ("held", some (.inst B.bc b.x b.d)), ("ground", some (.ref gl)), ("stones", some (.ref ds)), ("acts", some (.ref al)), ("number", some (.int num)), ("rest", some (.int rs)), ("digits", some (.int dg)), ("lists", some (.ref la)), ("point", qp), ("black", some (.ref l0)), ("white", some (.ref l1)), ("bare", some (.ref l2)), ("before", some (.ref bf)), ("living", q17), ("legal", q18), ("again", q19), ("colour", q20), ("taken", q21), ("looks", none)] : Loc) ∧ Fr [ds] H H' ∧ H' ds = some (.pdict fs' ep') ∧ Rep n fs' (setAll g (A0.take i) (some sb)) := ⟨_, fun _ _ _ => Iff.rfl⟩
  refine ⟨l0, A0.map pv, rfl, fr0 _ _ (by simpa using nd0) hA0, I0, (hI0 _ _ _).mpr ⟨fs0, ep0, _, rfl, fr0, hd0, by rw [List.take_zero, setAll_nil]; exact R0⟩, ?_⟩
  refine ⟨fun i m' H' q => ?_, fun i lv m' H' hi q => ?_, fun m' H' q => ?_⟩
  · obtain ⟨fs', ep', qp, rfl, fr', hd', R'⟩ := (hI0 _ _ _).mp q
    exact fr' _ _ (by simpa using nd0) hA0
  · obtain ⟨fs', ep', qp, rfl, fr', hd', R'⟩ := (hI0 _ _ _).mp q
    rw [List.getElem?_map] at hi
    cases hg : A0[i]? with
    | none => rw [hg] at hi; cases hi
    | some p =>
      rw [hg] at hi
      cases hi
      have hp : On n p := o0 p (List.mem_of_getElem? hg)
      have hl49 := R'.len (few_of hn)
      refine AS_Name (by walk_at "put") ?_ (.inr (by decide +kernel))
      walk_at "go"
      refine SO_pd hd' (by omega) fun ep2 => ?_
      walk_at "go"
      refine (hI0 _ _ _).mpr ⟨_, _, _, rfl, fr'.hset _ (.inl (by simp)), hset_same _ _ _, ?_⟩
      rw [← setAll_take hg]
      exact R'.put hp (.inl rfl)
  obtain ⟨fs1, ep1, qp1, rfl, fr1, hd1, R1⟩ := (hI0 _ _ _).mp q
  rw [List.length_map, List.take_length] at R1
  refine EXS_nil ?_
  clear hI0 q I0
  refine EXS_cons ?_
  refine EX_ForL B.hh ?_
  walk_at "go"
  obtain ⟨I1, hI1⟩ : ∃ I : Nat → Loc → Hp → Prop, ∀ i m' H', I i m' H' ↔ ∃ fs' ep' qp, m' = ([("script", some (.ro sa (ns.map .int))), ("head", some (.int h0)), ("side", some (.int n)), ("points", some (.ref pl)), ("held", some (.inst B.bc b.x b.d)), ("ground", some (.ref gl)), ("stones", some (.ref ds)), ("acts", some (.ref al)), ("number", some (.int num)), ("rest", some (.int rs)), ("digits", some (.int dg)), ("lists", some (.ref la)), ("point", qp), ("black", some (.ref l0)), ("white", some (.ref l1)), ("bare", some (.ref l2)), ("before", some (.ref bf)), ("living", q17), ("legal", q18), ("again", q19), ("colour", q20), ("taken", q21), ("looks", none)] : Loc) ∧ Fr [ds] H H' ∧ H' ds = some (.pdict fs' ep') ∧ Rep n fs' (setAll (setAll g A0 (some sb)) (A1.take i) (some sw)) := ⟨_, fun _ _ _ => Iff.rfl⟩
  refine ⟨l1, A1.map pv, rfl, fr1 _ _ (by simpa using nd1) hA1, I1, (hI1 _ _ _).mpr ⟨fs1, ep1, _, rfl, fr1, hd1, by rw [List.take_zero, setAll_nil]; exact R1⟩, ?_⟩
  refine ⟨fun i m' H' q => ?_, fun i lv m' H' hi q => ?_, fun m' H' q => ?_⟩
  · obtain ⟨fs', ep', qp, rfl, fr', hd', R'⟩ := (hI1 _ _ _).mp q
    exact fr' _ _ (by simpa using nd1) hA1
  · obtain ⟨fs', ep', qp, rfl, fr', hd', R'⟩ := (hI1 _ _ _).mp q
    rw [List.getElem?_map] at hi
    cases hg : A1[i]? with
    | none => rw [hg] at hi; cases hi
    | some p =>
      rw [hg] at hi
      cases hi
      have hp : On n p := o1 p (List.mem_of_getElem? hg)
      have hl49 := R'.len (few_of hn)
      refine AS_Name (by walk_at "put") ?_ (.inr (by decide +kernel))
      walk_at "go"
      refine SO_pd hd' (by omega) fun ep2 => ?_
      walk_at "go"
      refine (hI1 _ _ _).mpr ⟨_, _, _, rfl, fr'.hset _ (.inl (by simp)), hset_same _ _ _, ?_⟩
      rw [← setAll_take hg]
      exact R'.put hp (.inr rfl)
  obtain ⟨fs2, ep2, qp2, rfl, fr2, hd2, R2⟩ := (hI1 _ _ _).mp q
  rw [List.length_map, List.take_length] at R2
  refine EXS_nil ?_
  clear hI1 q I1
  refine EXS_cons ?_
  refine EX_ForL B.hh ?_
  walk_at "go"
  obtain ⟨I2, hI2⟩ : ∃ I : Nat → Loc → Hp → Prop, ∀ i m' H', I i m' H' ↔ ∃ fs' ep' qp, m' = ([("script", some (.ro sa (ns.map .int))), ("head", some (.int h0)), ("side", some (.int n)), ("points", some (.ref pl)), ("held", some (.inst B.bc b.x b.d)), ("ground", some (.ref gl)), ("stones", some (.ref ds)), ("acts", some (.ref al)), ("number", some (.int num)), ("rest", some (.int rs)), ("digits", some (.int dg)), ("lists", some (.ref la)), ("point", qp), ("black", some (.ref l0)), ("white", some (.ref l1)), ("bare", some (.ref l2)), ("before", some (.ref bf)), ("living", q17), ("legal", q18), ("again", q19), ("colour", q20), ("taken", q21), ("looks", none)] : Loc) ∧ Fr [ds] H H' ∧ H' ds = some (.pdict fs' ep') ∧ Rep n fs' (setAll (setAll (setAll g A0 (some sb)) A1 (some sw)) (A2.take i) none) := ⟨_, fun _ _ _ => Iff.rfl⟩
  refine ⟨l2, A2.map pv, rfl, fr2 _ _ (by simpa using nd2) hA2, I2, (hI2 _ _ _).mpr ⟨fs2, ep2, _, rfl, fr2, hd2, by rw [List.take_zero, setAll_nil]; exact R2⟩, ?_⟩
  refine ⟨fun i m' H' q => ?_, fun i lv m' H' hi q => ?_, fun m' H' q => ?_⟩
  · obtain ⟨fs', ep', qp, rfl, fr', hd', R'⟩ := (hI2 _ _ _).mp q
    exact fr' _ _ (by simpa using nd2) hA2
  · obtain ⟨fs', ep', qp, rfl, fr', hd', R'⟩ := (hI2 _ _ _).mp q
    rw [List.getElem?_map] at hi
    cases hg : A2[i]? with
    | none => rw [hg] at hi; cases hi
    | some p =>
      rw [hg] at hi
      cases hi
      refine AS_Name (by walk_at "put") ?_ (.inr (by decide +kernel))
      walk_at "go"
      refine ⟨fun q => ?_, fun q => ?_⟩
      · obtain ⟨l, hl⟩ := Option.isSome_iff_exists.mp q
        obtain ⟨j, hj⟩ := List.getElem?_of_mem ((mem_lookup R'.nd).mpr hl)
        refine EXS_cons (EX_Expr (EV_dpop ?_) (by decide +kernel))
        walk_at "go"
        refine CALL_dpop hd' hj fun ep3 => ?_
        refine EXS_nil (EXS_nil ((hI2 _ _ _).mpr ⟨_, _, _, rfl, fr'.hset _ (.inl (by simp)), hset_same _ _ _, ?_⟩))
        rw [← setAll_take hg]
        have R3 := R'.filter (fun r => !decide (r = p))
        have e : (fun r => if (!decide (r = p)) = true then (setAll (setAll (setAll g A0 (some sb)) A1 (some sw)) (A2.take i) none) r else none) = gset (setAll (setAll (setAll g A0 (some sb)) A1 (some sw)) (A2.take i) none) p none := by
          funext r
          by_cases z : r = p
          · simp [gset, z]
          · simp [gset, z]
        rw [e] at R3
        exact R3
      · refine EXS_nil (EXS_nil ((hI2 _ _ _).mpr ⟨_, _, _, rfl, fr', hd', ?_⟩))
        have hn0 : fs'.lookup p = none := by cases z : fs'.lookup p with | none => rfl | some l => rw [z] at q; cases q
        have hgn : (setAll (setAll (setAll g A0 (some sb)) A1 (some sw)) (A2.take i) none) p = none := by
          have := R'.at_ p
          rw [hn0] at this
          cases z : (setAll (setAll (setAll g A0 (some sb)) A1 (some sw)) (A2.take i) none) p with
          | none => rfl
          | some c => rw [z] at this; cases this
        rw [← setAll_take hg]
        have e : gset (setAll (setAll (setAll g A0 (some sb)) A1 (some sw)) (A2.take i) none) p none = setAll (setAll (setAll g A0 (some sb)) A1 (some sw)) (A2.take i) none := by
          funext r
          by_cases z : r = p
          · rw [z, gset_same, hgn]
          · rw [gset_ne z]
        rw [e]
        exact R'
  obtain ⟨fs3, ep3, qp3, rfl, fr3, hd3, R3⟩ := (hI2 _ _ _).mp q
  rw [List.length_map, List.take_length] at R3
  exact EXS_nil (h fs3 ep3 qp3 H' fr3 hd3 R3)

end
section

def rowsV (n : Nat) (g : Grd) : List LV := (pts n).filterMap fun p => (g p).map fun c => .tup [.str c, pv p]
def rowsD (n : Nat) (g : Grd) : List PyData := (pts n).filterMap fun p => (g p).map fun c => .tuple [.str c, pd p]
theorem lay_col {c : Str} (h : IsCol c) : PyData.canLay0 (.str c) = true := by
  rcases h with rfl | rfl
  · decide +kernel
  · decide +kernel
theorem isDs_rows {H : Hp} {n : Nat} {g : Grd} (hc : ∀ p c, g p = some c → IsCol c) : IsDs H (rowsV n g) (rowsD n g) := by
  unfold rowsV rowsD
  generalize pts n = L
  induction L with
  | nil => exact .nil
  | cons p L ih =>
    cases h : g p with
    | none => simp only [List.filterMap_cons, h, Option.map_none]; exact ih
    | some c => simp only [List.filterMap_cons, h, Option.map_some]; exact .cons (.tup (.cons (.str (lay_col (hc _ _ h))) (.cons isD_pv .nil))) ih
theorem eqv_rows {n : Nat} {g : Grd} : PyData.eqv (.list (rowsD n g)) (.list (rowsD n g)) = true := by
  unfold rowsD
  generalize pts n = L
  induction L with
  | nil => simp [PyData.eqv, PyData.eqvAll]
  | cons p L ih =>
    cases h : g p with
    | none => simpa [List.filterMap_cons, h] using ih
    | some c => simp only [PyData.eqv] at ih; simp only [List.filterMap_cons, h, Option.map_some, PyData.eqv, PyData.eqvAll, pd]; simp only [pd] at ih; rw [ih]; simp
theorem eqv_rows0 {n : Nat} {g : Grd} : PyData.eqv (.list (rowsD n g)) (.list []) = (rowsD n g).isEmpty := by
  cases rowsD n g <;> simp [PyData.eqv, PyData.eqvAll]
theorem rows_empty {n : Nat} {g : Grd} : (rowsD n g).isEmpty = true ↔ ∀ p, On n p → g p = none := by
  rw [List.isEmpty_iff]
  unfold rowsD
  rw [List.filterMap_eq_nil_iff]
  constructor
  · intro h p hp
    have := h p (mem_pts.mpr hp)
    cases e : g p with
    | none => rfl
    | some c => rw [e] at this; cases this
  · intro h p hp
    rw [h p (mem_pts.mp hp)]; rfl
theorem depth_rows {n : Nat} {g : Grd} : (PyData.list (rowsD n g)).depth ≤ 6 := by
  have : PyData.depthAll (rowsD n g) ≤ 5 := by
    unfold rowsD
    generalize pts n = L
    induction L with
    | nil => simp [PyData.depthAll]
    | cons p L ih =>
      cases h : g p with
      | none => simpa [List.filterMap_cons, h] using ih
      | some c => simp only [List.filterMap_cons, h, Option.map_some, PyData.depthAll]; refine Nat.max_le.mpr ⟨?_, ih⟩; simp [pd, PyData.depth, PyData.depthAll]
  simp only [PyData.depth]; omega
theorem fm_congr {α : Type} {F F' : Pt → Option α} : ∀ {L : List Pt}, (∀ p, p ∈ L → F p = F' p) → L.filterMap F = L.filterMap F'
  | [], _ => rfl
  | p :: L, h => by rw [List.filterMap_cons, List.filterMap_cons, h p (by simp), fm_congr fun q hq => h q (List.mem_cons_of_mem _ hq)]
theorem rows_congr {n : Nat} {g g' : Grd} (h : ∀ p, On n p → g p = g' p) : rowsD n g = rowsD n g' ∧ rowsV n g = rowsV n g' :=
  ⟨fm_congr fun p hp => by rw [h p (mem_pts.mp hp)], fm_congr fun p hp => by rw [h p (mem_pts.mp hp)]⟩
theorem BO_rows {G : Gl} {H : Hp} {Q : Qv} {X : Xc} {a c : PySem.Addr} {n : Nat} {g g' : Grd} (ha : H a = some (.lst (rowsV n g))) (hb : H c = some (.lst (rowsV n g'))) (hc : ∀ p c, g p = some c → IsCol c) (hc' : ∀ p c, g' p = some c → IsCol c) (e : ∀ p, On n p → g p = g' p) (h : Q (.bool false) H) : BO G (compareOp .NotEq) (.ref a) (.ref c) H Q X := by
  refine BO_ne (.ref ha (isDs_rows hc)) (.ref hb (isDs_rows hc')) ?_ (Nat.lt_of_le_of_lt (Nat.min_le_left _ _) (Nat.lt_of_le_of_lt depth_rows (by decide)))
  rw [(rows_congr e).1, eqv_rows]; exact h
theorem BO_rows0 {G : Gl} {H : Hp} {Q : Qv} {X : Xc} {a c : PySem.Addr} {n : Nat} {g : Grd} {em : Bool} (ha : H a = some (.lst (rowsV n g))) (hb : H c = some (.lst [])) (hc : ∀ p c, g p = some c → IsCol c) (e : em = true ↔ ∀ p, On n p → g p = none) (h : Q (.bool em) H) : BO G (compareOp .Eq) (.ref a) (.ref c) H Q X := by
  refine BO_eq (.ref ha (isDs_rows hc)) (.ref hb .nil) ?_ (Nat.lt_of_le_of_lt (Nat.min_le_left _ _) (Nat.lt_of_le_of_lt depth_rows (by decide)))
  rw [eqv_rows0]
  have : (rowsD n g).isEmpty = em := by
    rw [Bool.eq_iff_iff, rows_empty, e]
  rw [this]; exact h
theorem legal_len {n : Nat} {g : Grd} {L : List Pt} {fs : List (Pt × LV)} (R : Rep n fs g) (nd : L.Nodup) (mL : ∀ p, p ∈ L ↔ Alive n g p) : ((L.length : Int) == (fs.length : Int)) = true ↔ Legal n g := by
  rw [beq_iff_eq]
  have hk : (fs.map (·.1)).length = fs.length := List.length_map _
  have sub : ∀ p, p ∈ L → p ∈ fs.map (·.1) := fun p hp => R.keys.mpr ((mL p).mp hp).some
  have le := nodup_le _ _ nd sub
  constructor
  · intro e p hp hg
    refine Classical.byContradiction fun na => ?_
    have := nodup_le (p :: L) (fs.map (·.1)) (List.nodup_cons.mpr ⟨fun h => na ((mL p).mp h), nd⟩) fun x hx => by
      rcases List.mem_cons.mp hx with rfl | hx
      · exact R.keys.mpr hg
      · exact sub x hx
    rw [List.length_cons] at this; omega
  · intro hl
    have := nodup_le (fs.map (·.1)) L R.nd fun p hp => (mL p).mpr (hl p (R.on p (R.keys.mp hp)) (R.keys.mp hp))
    omega
theorem setAll_congr {g : Grd} {L L' : List Pt} {o : Option Str} (h : ∀ p, p ∈ L ↔ p ∈ L') : setAll g L o = setAll g L' o := by
  funext p; simp only [setAll, h p]
theorem putG_congr {g : Grd} {A B C A' B' C' : List Pt} (h1 : ∀ p, p ∈ A ↔ p ∈ A') (h2 : ∀ p, p ∈ B ↔ p ∈ B') (h3 : ∀ p, p ∈ C ↔ p ∈ C') : putG g A B C = putG g A' B' C' := by
  unfold putG; rw [setAll_congr h1, setAll_congr h2, setAll_congr h3]
theorem pick_revP {A : List Pt} : ∃ L : List Pt, pickL (A.map pv) none none (some (-1)) = L.map pv ∧ (∀ p, p ∈ L ↔ p ∈ A) ∧ L.length ≤ A.length := by
  obtain ⟨h1, h2⟩ := pick_rev (vs := A.map pv)
  generalize pickL (A.map pv) none none (some (-1)) = vs at h1 h2
  obtain ⟨L, rfl⟩ : ∃ L : List Pt, vs = L.map pv := by
    have hall : ∀ x, x ∈ vs → ∃ p, x = pv p := fun x hx => by obtain ⟨p, _, rfl⟩ := List.mem_map.mp ((h1 x).mp hx); exact ⟨p, rfl⟩
    clear h1 h2
    induction vs with
    | nil => exact ⟨[], rfl⟩
    | cons a t ih =>
      obtain ⟨p, rfl⟩ := hall a (by simp)
      obtain ⟨L, rfl⟩ := ih fun x hx => hall x (List.mem_cons_of_mem _ hx)
      exact ⟨p :: L, rfl⟩
  rw [List.length_map, List.length_map] at h2
  refine ⟨L, rfl, fun p => ?_, h2⟩
  have := h1 (pv p)
  constructor
  · intro h
    obtain ⟨q, hq, e⟩ := List.mem_map.mp (this.mp (List.mem_map.mpr ⟨p, h, rfl⟩))
    rw [← pv_inj e]; exact hq
  · intro h
    obtain ⟨q, hq, e⟩ := List.mem_map.mp (this.mpr (List.mem_map.mpr ⟨p, h, rfl⟩))
    rw [← pv_inj e]; exact hq
theorem BAt.apart {H0 H H' : Hp} {b b' : Bd} {n : Nat} {g : Grd} {em : Bool} (h : BAt H0 b n g em) (nb : BNew H0 b') (h1 : BAt H b n g em) (f : Fr b'.own H H') : BAt H' b n g em := by
  have ni : ∀ a o, H0 a = some o → a ∉ b'.own := fun a o ha hm => by
    rcases List.mem_cons.mp hm with rfl | hm
    · rw [nb.1] at ha; cases ha
    · rw [nb.2.2.2 a hm] at ha; cases ha
  refine h1.fr f (ni _ _ h.ns) (ni _ _ h.pl) (ni _ _ h.bl) fun a ha => ?_
  obtain ⟨i, hi⟩ := List.getElem?_of_mem ha
  exact ni _ _ (h.row i a hi)
theorem BAt.apart' {H0 H H' : Hp} {b b' : Bd} {n n' : Nat} {g g' : Grd} {em em' : Bool} (h : BAt H0 b n' g' em') (nb : BNew H0 b') (h1 : BAt H b' n g em) (f : Fr b.own H H') : BAt H' b' n g em := by
  have ni : ∀ a, H0 a = none → a ∉ b.own := fun a ha hm => by
    rcases List.mem_cons.mp hm with rfl | hm
    · rw [h.ns] at ha; cases ha
    · obtain ⟨i, hi⟩ := List.getElem?_of_mem hm
      rw [h.row i a hi] at ha; cases ha
  exact h1.fr f (ni _ nb.1) (ni _ nb.2.1) (ni _ nb.2.2.1) fun a ha => ni _ (nb.2.2.2 a ha)

end
section

theorem LAW_set {G : Gl} {B : BW G} (W : LW G B) {k : Nat} {H : Hp} {P : PQ} {sa : PySem.Addr} {ns : List Int} {n : Nat} {h0 num rs dg : Int} {pl gl ds al la l0 l1 l2 bf : PySem.Addr} {b : Bd} {A0 A1 A2 : List Pt} {fs : List (Pt × LV)} {ep : Nat} {g : Grd} {em : Bool} {q12 q17 q18 q19 q20 q21 : Option LV} (hn : n ≤ 7)
    (hB : BAt H b n g em) (hem : em = true ↔ ∀ p, On n p → g p = none) (hd : H ds = some (.pdict fs ep)) (R : Rep n fs (putG g A0 A1 A2)) (hA0 : H l0 = some (.lst (A0.map pv))) (hA1 : H l1 = some (.lst (A1.map pv))) (hA2 : H l2 = some (.lst (A2.map pv))) (hbf : H bf = some (.lst (rowsV n g)))
    (o0 : ∀ p, p ∈ A0 → On n p) (o1 : ∀ p, p ∈ A1 → On n p) (o2 : ∀ p, p ∈ A2 → On n p) (s0 : A0.length ≤ 49) (s1 : A1.length ≤ 49) (s2 : A2.length ≤ 49)
    (h : ∀ lv lg ds' ag fs' ep' g2 em' H', Fr b.own H H' → BAt H' b n g2 em' → (em' = true ↔ ∀ p, On n p → g2 p = none) → H' ds' = some (.pdict fs' ep') → Rep n fs' g2 → Legal n g2 → 
      P.n ([("script", some (.ro sa (ns.map .int))), ("head", some (.int h0)), ("side", some (.int n)), ("points", some (.ref pl)), ("held", some (.inst B.bc b.x b.d)), ("ground", some (.ref gl)), ("stones", some (.ref ds')), ("acts", some (.ref al)), ("number", some (.int num)), ("rest", some (.int rs)), ("digits", some (.int dg)), ("lists", some (.ref la)), ("point", q12), ("black", some (.ref l0)), ("white", some (.ref l1)), ("bare", some (.ref l2)), ("before", some (.ref bf)), ("living", lv), ("legal", lg), ("again", ag), ("colour", q20), ("taken", q21), ("looks", none)] : Loc) H') :
    EXS G (k + 9) (fscope lawS) (setS.drop 3) ([("script", some (.ro sa (ns.map .int))), ("head", some (.int h0)), ("side", some (.int n)), ("points", some (.ref pl)), ("held", some (.inst B.bc b.x b.d)), ("ground", some (.ref gl)), ("stones", some (.ref ds)), ("acts", some (.ref al)), ("number", some (.int num)), ("rest", some (.int rs)), ("digits", some (.int dg)), ("lists", some (.ref la)), ("point", q12), ("black", some (.ref l0)), ("white", some (.ref l1)), ("bare", some (.ref l2)), ("before", some (.ref bf)), ("living", q17), ("legal", q18), ("again", q19), ("colour", q20), ("taken", q21), ("looks", none)] : Loc) H P := by
  refine EXS_cons (EX_Assign (EV_CallK (by decide +kernel) W.brea.1 W.brea.2.1 ?_))
  walk_at "go"
  refine CALL_brea W hd R (few_of hn) fun li H1 L e1 fli hli ndL mL => ?_
  have hd1 := e1 _ _ hd
  walk_at "go"
  refine CALL_len_list hli ?_
  walk_at "go"
  refine CALL_len_pd hd1 ?_
  walk_at "go"
  rw [List.length_map]
  have hleg := legal_len R ndL mL
  obtain ⟨leg, hleq⟩ : ∃ leg : Bool, ((L.length : Int) == (fs.length : Int)) = leg := ⟨_, rfl⟩
  rw [hleq] at hleg ⊢
  refine EV_CallK (by decide +kernel) W.only.1 W.only.2.1 ?_
  walk_at "go"
  have hl49 := R.len (few_of hn)
  refine CALL_only W (fun q => decide (q ∈ L)) hd1 R.nd (by omega) (fun Q X q H' he hq hb => BO_inL (he _ _ hli) hb) fun d2 H2 ep2 e2 fd2 hd2 => ?_
  have R2 := R.filter (fun q => decide (q ∈ L))
  have br2 : Breathed n (putG g A0 A1 A2) (fun p => if decide (p ∈ L) = true then (putG g A0 A1 A2) p else none) := fun q hq => ⟨fun al => by dsimp only; rw [if_pos (decide_eq_true ((mL q).mpr al))], fun na => by dsimp only; rw [if_neg]; simp only [decide_eq_true_eq]; exact fun w => na ((mL q).mp w)⟩
  generalize (fs.filter fun f => decide (f.1 ∈ L)) = fs2 at hd2 R2
  generalize (fun p => if decide (p ∈ L) = true then (putG g A0 A1 A2) p else none) = gB at R2 br2
  have e12 := e1.trans e2
  have hB2 := hB.ext e12
  walk_at "go"
  refine CALL_cp B hB2 fun b' H3 e3 nb hB' => ?_
  have hB3 := hB2.ext e3
  have hbf3 := (e12.trans e3) _ _ hbf
  have hA03 := (e12.trans e3) _ _ hA0
  have hA13 := (e12.trans e3) _ _ hA1
  have hA23 := (e12.trans e3) _ _ hA2
  have hd3 := e3 _ _ hd2
  have fH3 : Ext H H3 := e12.trans e3
  walk_at "go"
  refine CALL_ie B hB' ?_
  walk_at "go"
  intro z fz
  refine BO_rows0 ((hset_ne _ _ (ne_of fz hbf3)).trans hbf3) (hset_same _ _ _) hB.col hem ?_
  refine BO_isNotBool ?_
  walk_at "go"
  refine ⟨fun q => by simp at q, fun _ => EXS_nil ?_⟩
  have e4 : Ext H3 (Go.hset H3 z (.lst [])) := (Ext.refl _).set fz
  generalize Go.hset H3 z (.lst []) = H4 at e4
  clear fz
  have hB'4 := hB'.ext e4
  have hB4 := hB3.ext e4
  have hbf4 := e4 _ _ hbf3
  have hA04 := e4 _ _ hA03
  have hA14 := e4 _ _ hA13
  have hA24 := e4 _ _ hA23
  have hd4 := e4 _ _ hd3
  have fH4 := fH3.trans e4
  obtain ⟨B0, hp0, hm0, hs0⟩ := pick_revP (A := A0)
  obtain ⟨B1, hp1, hm1, hs1⟩ := pick_revP (A := A1)
  obtain ⟨B2, hp2, hm2, hs2⟩ := pick_revP (A := A2)
  have hph : pickL (A1.map pv) none (some 1) none = (A1.take 1).map pv := (pick_hi (vs := A1.map pv) 1).trans (by rw [List.map_take])
  refine EXS_cons ?_
  walk_at "go"
  refine EV_Slice ?_
  walk_at "st"
  refine EP_none (EP_none (EP_some (EV_Neg (EV_int ⟨1, rfl, -1, rfl, A0.map pv, hA04, by rw [List.length_map]; omega, by simp, by rw [hp0, List.length_map]; omega, SubT_lst hA04, fun y1 fy1 => ?_⟩))))
  rw [hp0]
  walk_at "go"
  refine BO_addl (vs := B0.map pv) (ws := A0.map pv) (LstOf_ref (hset_same _ _ _)) (LstOf_ref ((hset_ne _ _ (ne_of fy1 hA04)).trans hA04)) (by rw [List.length_map, List.length_map]; omega) fun y2 fy2 => ?_
  rw [← List.map_append]
  have hy2 : (Go.hset (Go.hset H4 y1 (.lst (B0.map pv))) y2 (.lst ((B0 ++ A0).map pv))) y2 = some (.lst ((B0 ++ A0).map pv)) := hset_same _ _ _
  have e5 : Ext H4 (Go.hset (Go.hset H4 y1 (.lst (B0.map pv))) y2 (.lst ((B0 ++ A0).map pv))) := ((Ext.refl _).set fy1).set (Ext.none ((Ext.refl _).set fy1) fy2)
  generalize (Go.hset (Go.hset H4 y1 (.lst (B0.map pv))) y2 (.lst ((B0 ++ A0).map pv))) = H5 at hy2 e5
  clear fy1 fy2
  have hA15 := e5 _ _ hA14
  have hA25 := e5 _ _ hA24
  walk_at "go"
  refine EV_Slice ?_
  walk_at "st"
  refine EP_none (EP_none (EP_some (EV_Neg (EV_int ⟨1, rfl, -1, rfl, A1.map pv, hA15, by rw [List.length_map]; omega, by simp, by rw [hp1, List.length_map]; omega, SubT_lst hA15, fun y3 fy3 => ?_⟩))))
  rw [hp1]
  refine EV_Slice ?_
  walk_at "st"
  have hA15' := (hset_ne H5 (.lst (B1.map pv)) (ne_of fy3 hA15)).trans hA15
  refine EP_none (EP_some (EV_int ⟨1, rfl, EP_none ⟨A1.map pv, hA15', by rw [List.length_map]; omega, by simp, by rw [hph, List.length_map, List.length_take]; omega, SubT_lst hA15', fun y4 fy4 => ?_⟩⟩))
  rw [hph]
  have n43 : y3 ≠ y4 := ne_of fy4 (hset_same _ _ _)
  refine BO_addl (vs := B1.map pv) (ws := (A1.take 1).map pv) (LstOf_ref ((hset_ne _ _ n43).trans (hset_same _ _ _))) (LstOf_ref (hset_same _ _ _)) (by rw [List.length_map, List.length_map, List.length_take]; omega) fun y5 fy5 => ?_
  rw [← List.map_append]
  have hy5 : (Go.hset (Go.hset (Go.hset H5 y3 (.lst (B1.map pv))) y4 (.lst ((A1.take 1).map pv))) y5 (.lst ((B1 ++ A1.take 1).map pv))) y5 = some (.lst ((B1 ++ A1.take 1).map pv)) := hset_same _ _ _
  have e6 : Ext H5 (Go.hset (Go.hset (Go.hset H5 y3 (.lst (B1.map pv))) y4 (.lst ((A1.take 1).map pv))) y5 (.lst ((B1 ++ A1.take 1).map pv))) := by
    have x1 : Ext H5 _ := (Ext.refl H5).set (o := .lst (B1.map pv)) fy3
    have x2 := x1.set (o := .lst ((A1.take 1).map pv)) (Ext.none x1 fy4)
    exact x2.set (Ext.none x2 fy5)
  generalize (Go.hset (Go.hset (Go.hset H5 y3 (.lst (B1.map pv))) y4 (.lst ((A1.take 1).map pv))) y5 (.lst ((B1 ++ A1.take 1).map pv))) = H6 at hy5 e6
  clear fy3 fy4 fy5 n43 hA15'
  have hA26 := e6 _ _ hA25
  have hy26 := e6 _ _ hy2
  walk_at "go"
  refine EV_Slice ?_
  walk_at "st"
  refine EP_none (EP_none (EP_some (EV_Neg (EV_int ⟨1, rfl, -1, rfl, A2.map pv, hA26, by rw [List.length_map]; omega, by simp, by rw [hp2, List.length_map]; omega, SubT_lst hA26, fun y6 fy6 => ?_⟩))))
  rw [hp2]
  have e7 : Ext H6 (Go.hset H6 y6 (.lst (B2.map pv))) := (Ext.refl _).set fy6
  have hy6 : (Go.hset H6 y6 (.lst (B2.map pv))) y6 = some (.lst (B2.map pv)) := hset_same _ _ _
  generalize Go.hset H6 y6 (.lst (B2.map pv)) = H7 at e7 hy6
  clear fy6
  have e47 := (e5.trans e6).trans e7
  have hB'7 := hB'4.ext e47
  have hB7 := hB4.ext e47
  have pG : putG g (B0 ++ A0) (B1 ++ A1.take 1) B2 = putG g A0 A1 A2 := by
    refine putG_congr (fun p => ?_) (fun p => ?_) hm2
    · rw [List.mem_append, hm0]; simp
    · rw [List.mem_append, hm1]; exact ⟨fun x => x.elim id List.mem_of_mem_take, .inl⟩
  have onall : ∀ p, p ∈ (B0 ++ A0) ++ (B1 ++ A1.take 1) ++ B2 → On n p := fun p hp => by
    simp only [List.mem_append, hm0, hm1, hm2] at hp
    rcases hp with ((x | x) | (x | x)) | x
    · exact o0 p x
    · exact o0 p x
    · exact o1 p x
    · exact o1 p (List.mem_of_mem_take x)
    · exact o2 p x
  walk_at "go"
  refine CALL_as B (Lb := B0 ++ A0) (Lw := B1 ++ A1.take 1) (Le := B2) hB'7 (few_of hn) (e7 _ _ hy26) (e7 _ _ hy5) hy6 (by simp only [List.length_append, List.length_take]; omega) (fun _ H8 g8 em8 leg8 fr8 hB'8 br8 hem8 hleg8 => ?_) fun no => (no onall).elim
  rw [pG] at br8 hleg8
  have hll : leg8 = leg := by rw [Bool.eq_iff_iff, hleg8, hleg]
  walk_at "go"
  refine BO_isNotBool ?_
  walk_at "go"
  refine ⟨fun q => by rw [hll] at q; simp at q, fun _ => EXS_nil ?_⟩
  have hB8 : BAt H8 b n g em := hB2.apart nb hB7 fr8
  have nown : ∀ a o, H2 a = some o → a ∉ b'.own := fun a o ha hm => by
    rcases List.mem_cons.mp hm with rfl | hm
    · rw [nb.1] at ha; cases ha
    · rw [nb.2.2.2 a hm] at ha; cases ha
  have e37 := (e3.trans e4).trans e47
  have stay8 : ∀ a o, H2 a = some o → H8 a = some o := fun a o ha => fr8 a o (nown a o ha) (e37 _ _ ha)
  have hbf8 := stay8 _ _ (e12 _ _ hbf)
  have hA08 := stay8 _ _ (e12 _ _ hA0)
  have hA18 := stay8 _ _ (e12 _ _ hA1)
  have hA28 := stay8 _ _ (e12 _ _ hA2)
  have hd8 := stay8 _ _ hd2
  have e28 : Ext H2 H8 := stay8
  refine EXS_cons ?_
  walk_at "go"
  refine CALL_lo B hB8 fun r1 H9 e9 fr1 hr1 => ?_
  have hbf9 := e9 _ _ hbf8
  walk_at "go"
  refine BO_rows hr1 hbf9 hB.col hB.col (fun _ _ => rfl) ?_
  walk_at "go"
  have hB9 := hB8.ext e9
  simp only [Bool.false_eq_true, if_false]
  walk_at "go"
  refine CALL_as B (Lb := A0) (Lw := A1) (Le := A2) hB9 (few_of hn) (e9 _ _ hA08) (e9 _ _ hA18) (e9 _ _ hA28) (by omega) (fun _ H10 g10 em10 leg10 fr10 hB10 br10 hem10 hleg10 => ?_) fun no => (no fun p hp => by
    simp only [List.mem_append] at hp
    rcases hp with (x | x) | x
    · exact o0 p x
    · exact o1 p x
    · exact o2 p x).elim
  have hl2 : leg10 = leg := by rw [Bool.eq_iff_iff, hleg10, hleg]
  walk_at "go"
  refine BO_isNotBool ?_
  walk_at "go"
  simp only [hl2, beq_self_eq_true, Bool.not_true, Bool.false_eq_true, if_false]
  walk_at "go"
  refine ⟨(fun q => by cases q), fun _ => EXS_nil ?_⟩
  have hB'10 : BAt H10 b' n g8 em8 := hB2.apart' nb (hB'8.ext e9) fr10
  refine EXS_cons ?_
  walk_at "go"
  refine CALL_lo B hB'10 fun r2 H11 e11 fr2 hr2 => ?_
  walk_at "go"
  refine CALL_lo B (hB10.ext e11) fun r3 H12 e12' fr3 hr3 => ?_
  walk_at "go"
  refine BO_rows (e12' _ _ hr2) hr3 hB'8.col hB10.col (fun p hp => br8.unique br10 hp) ?_
  walk_at "go"
  refine ⟨(fun q => by cases q), fun _ => EXS_nil ?_⟩
  have hB12 := (hB10.ext e11).ext e12'
  have gg : ∀ p, On n p → g10 p = gB p := fun p hp => br10.unique br2 hp
  have ndo : d2 ∉ b.own := fun hm => by
    rcases List.mem_cons.mp hm with x | hm
    · rw [x] at hd2; rw [hB2.ns] at hd2; cases hd2
    · obtain ⟨i, hi⟩ := List.getElem?_of_mem hm
      rw [hB2.row i d2 hi] at hd2; cases hd2
  refine EXS_nil (h _ _ d2 _ fs2 ep2 gB em10 H12 ?_ (hB12.congr (fun p hp => (gg p hp).symm) fun p c hc => R2.col p c hc) ?_ (e12' _ _ (e11 _ _ (fr10 _ _ ndo (e9 _ _ hd8)))) R2 br2.legal)
  · exact (((e12.trans e28).trans e9).fr _).trans (fr10.trans ((e11.trans e12').fr _))
  · rw [hem10]; exact ⟨fun x p hp => by rw [← gg p hp]; exact x p hp, fun x p hp => by rw [gg p hp]; exact x p hp⟩

end
section

def elseB : Stmt → List Stmt
  | .If _ _ o _ => o
  | _ => []
def els1 : List Stmt := elseB ((bodS.drop 6).headD (top 0))
def playB : List Stmt := ifB (els1.headD (top 0))
theorem Played.unique {n : Nat} {g1 g2 g2' : Grd} {c : Str} (h : Played n g1 c g2) (h' : Played n g1 c g2') : ∀ p, On n p → g2 p = g2' p := fun p hp => by
  rcases h with ⟨e, h⟩ | ⟨e, h⟩
  · rcases h' with ⟨_, h'⟩ | ⟨e', _⟩
    · by_cases z : Dead n g1 p ∧ g1 p ≠ some c
      · rw [(h p hp).1 z, (h' p hp).1 z]
      · rw [(h p hp).2 z, (h' p hp).2 z]
    · exact (e' e).elim
  · rcases h' with ⟨e', _⟩ | ⟨_, h'⟩
    · exact (e e').elim
    · exact h.unique h' hp

theorem LAW_play {G : Gl} {B : BW G} (W : LW G B) {k : Nat} {H : Hp} {P : PQ} {sa : PySem.Addr} {ns : List Int} {n : Nat} {h0 num rs dg : Int} {pl gl ds al la l0 l1 l2 bf : PySem.Addr} {b : Bd} {fs : List (Pt × LV)} {ep : Nat} {g : Grd} {em : Bool} {q12 q17 q18 q19 q20 q21 : Option LV} (hn : n ≤ 7) (h2 : 2 ≤ n)
    (hB : BAt H b n g em) (hem : em = true ↔ ∀ p, On n p → g p = none) (hl : Legal n g) (hd : H ds = some (.pdict fs ep)) (R : Rep n fs g) (hpl : H pl = some (.lst ((pts n).map pv)))
    (h : ∀ qp ql qt ds' fs' ep' g2 em' H', Fr b.own H H' → BAt H' b n g2 em' → (em' = true ↔ ∀ p, On n p → g2 p = none) → H' ds' = some (.pdict fs' ep') → Rep n fs' g2 → Legal n g2 → 
      P.n ([("script", some (.ro sa (ns.map .int))), ("head", some (.int h0)), ("side", some (.int n)), ("points", some (.ref pl)), ("held", some (.inst B.bc b.x b.d)), ("ground", some (.ref gl)), ("stones", some (.ref ds')), ("acts", some (.ref al)), ("number", some (.int num)), ("rest", some (.int rs)), ("digits", some (.int dg)), ("lists", some (.ref la)), ("point", qp), ("black", some (.ref l0)), ("white", some (.ref l1)), ("bare", some (.ref l2)), ("before", some (.ref bf)), ("living", q17), ("legal", q18), ("again", q19), ("colour", ql), ("taken", qt), ("looks", none)] : Loc) H') :
    EXS G (k + 9) (fscope lawS) playB ([("script", some (.ro sa (ns.map .int))), ("head", some (.int h0)), ("side", some (.int n)), ("points", some (.ref pl)), ("held", some (.inst B.bc b.x b.d)), ("ground", some (.ref gl)), ("stones", some (.ref ds)), ("acts", some (.ref al)), ("number", some (.int num)), ("rest", some (.int rs)), ("digits", some (.int dg)), ("lists", some (.ref la)), ("point", q12), ("black", some (.ref l0)), ("white", some (.ref l1)), ("bare", some (.ref l2)), ("before", some (.ref bf)), ("living", q17), ("legal", q18), ("again", q19), ("colour", q20), ("taken", q21), ("looks", none)] : Loc) H P := by
  have hlen : ((pts n).map pv).length = n * n := by rw [List.length_map, pts_length]
  have hnn : 4 ≤ n * n ∧ n * n ≤ 49 := ⟨Nat.mul_le_mul h2 h2, Nat.mul_le_mul hn hn⟩
  obtain ⟨N, hNN⟩ : ∃ N, n * n = N := ⟨_, rfl⟩
  rw [hNN] at hlen hnn
  refine EXS_cons ?_
  walk_at "go"
  refine CALL_len_list hpl ?_
  rw [hlen]
  walk_at "go"
  refine BO_mod (by omega) ?_
  obtain ⟨x, x0, x1, hx⟩ : ∃ x : Int, 0 ≤ x ∧ x < (N : Int) ∧ rs.fmod (N : Int) = x := ⟨_, Int.fmod_nonneg_of_pos _ (by omega), Int.fmod_lt_of_pos _ (by omega), rfl⟩
  rw [hx]
  walk_at "go"
  obtain ⟨p, hp⟩ : ∃ p, (pts n)[x.toNat]? = some p := ⟨_, List.getElem?_eq_getElem (by rw [pts_length, hNN]; omega)⟩
  have hon : On n p := mem_pts.mp (List.mem_of_getElem? hp)
  refine BO_item_list hpl x0 (lv := pv p) (by rw [List.getElem?_map, hp]; rfl) ?_
  walk_at "go"
  refine CALL_len_list hpl ?_
  rw [hlen]
  walk_at "go"
  refine BO_div (by omega) ?_ (PyProof.noPylong_small (by omega))
  walk_at "go"
  obtain ⟨y, y0, y1, hy⟩ : ∃ y : Int, 0 ≤ y ∧ y < 2 ∧ (rs.fdiv (N : Int)).fmod 2 = y := ⟨_, Int.fmod_nonneg_of_pos _ (by decide), Int.fmod_lt_of_pos _ (by decide), rfl⟩
  rw [hy]
  refine ⟨trivial, BO_bw y0 y1 ?_⟩
  have hc : IsCol (if y = 0 then sb else sw) := by split; exact .inl rfl; exact .inr rfl
  generalize (if y = 0 then sb else sw) = c at hc
  clear hy hx
  walk_at "go"
  refine EX_Try (T := "ValueError") (by decide +kernel) B.n_ve (by decide +kernel) (by rfl) (by rfl) ?_
  refine EXS_cons ?_
  walk_at "go"
  refine CALL_pl B hB hc hl (fun _ => few_of hn) ⟨?_, ?_⟩ (fun no => (no hon).elim) (fun _ hg H1 e1 => ?_) (fun _ hg H1 g2 em2 ko fr1 hB1 pd1 hem1 hko => ?_)
  · have := hon.2.1; omega
  · have := hon.2.2.2; omega
  · refine ⟨rfl, by rfl, ?_⟩
    have hd1 := e1 _ _ hd
    walk_at "go"
    have hin : (fs.lookup p).isSome = true := by rw [R.is]; simpa using hg
    rw [hin]
    refine BO_ne (.bool true) (.bool true) ?_
    walk_at "go"
    refine ⟨(fun q => by simp [PyData.eqv] at q), fun _ => EXS_nil ?_⟩
    refine EXS_cons ?_
    walk_at "go"
    refine ⟨(fun q => by cases q), fun _ => EXS_nil (EXS_nil ?_)⟩
    exact h _ _ _ ds fs ep g em H1 (e1.fr _) (hB.ext e1) hem hd1 R hl
  · have ndo : ds ∉ b.own := hB.notOwn' hd rfl
    have hd1 := fr1 _ _ ndo hd
    walk_at "go"
    have hin : (fs.lookup p).isSome = false := by rw [R.is]; simpa using hg
    rw [hin]
    refine BO_ne (.bool false) (.bool false) ?_
    walk_at "go"
    refine ⟨(fun q => by simp [PyData.eqv] at q), fun _ => EXS_nil ?_⟩
    refine EXS_cons ?_
    walk_at "go"
    refine ⟨fun _ => ?_, (fun q => by cases q)⟩
    refine EXS_cons (EX_Assign (EV_CallK (by decide +kernel) W.movd.1 W.movd.2.1 ?_))
    walk_at "go"
    refine CALL_movd W hd1 R hon hc (few_of hn) (few_of hn) fun a H2 fs2 ep2 g3 e2 fa ha R3 pd3 => ?_
    have gg := pd1.unique pd3
    refine ⟨_, by walk_at "put", EXS_nil (EXS_nil ?_)⟩
    refine h _ _ _ a fs2 ep2 g3 em2 H2 (fr1.trans (e2.fr _)) ((hB1.ext e2).congr (fun p hp => (gg p hp).symm) fun p c hc => R3.col p c hc) ?_ ha R3 (pd3.legal hl hon hg)
    rw [hem1]; exact ⟨fun x p hp => by rw [← gg p hp]; exact x p hp, fun x p hp => by rw [gg p hp]; exact x p hp⟩

end
section

theorem BAt.frA {H H' : Hp} {b : Bd} {n : Nat} {g : Grd} {em : Bool} {a : PySem.Addr} {o : LO} (h : BAt H b n g em) (ha : H a = some o) (hk : Alien o = true) (f : Fr [a] H H') : BAt H' b n g em := by
  have hn := h.notOwn' ha hk
  refine h.fr f ?_ ?_ ?_ fun c hc => ?_
  · simp; intro e; exact hn (e ▸ List.mem_cons_self)
  · simp; intro e; have := h.pl; rw [e, ha] at this; cases this; cases hk
  · simp; intro e; have := h.bl; rw [e, ha] at this; cases this; cases hk
  · simp; rintro rfl; exact hn (List.mem_cons_of_mem _ hc)
theorem Rep.empty {n : Nat} {fs : List (Pt × LV)} {g : Grd} (R : Rep n fs g) : fs.isEmpty = true ↔ ∀ p, On n p → g p = none := by
  rw [List.isEmpty_iff]
  constructor
  · rintro rfl p hp
    have := R.at_ p
    cases e : g p with
    | none => rfl
    | some c => rw [e] at this; cases this
  · intro h
    cases fs with
    | nil => rfl
    | cons f t =>
      have hk : f.1 ∈ ((f :: t).map (·.1)) := by simp
      have := R.keys.mp hk
      exact (this (h _ (R.on _ this))).elim
theorem LAW_turn {G : Gl} {B : BW G} (W : LW G B) (V : LB G) {k : Nat} {H : Hp} {P : PQ} {sa : PySem.Addr} {ns : List Int} {n : Nat} {h0 num : Int} {pl gl ds al : PySem.Addr} {b : Bd} {gp : List Pt} {fs : List (Pt × LV)} {ep : Nat} {g : Grd} {em : Bool} {q9 q10 q11 q12 q13 q14 q15 q16 q17 q18 q19 q20 q21 : Option LV} (hn : n ≤ 7) (h2 : 2 ≤ n)
    (hpl : H pl = some (.lst ((pts n).map pv))) (hgl : H gl = some (.lst (gp.map pv))) (hgp : ∀ p, p ∈ gp → On n p) (hlen : gp.length ≤ 49)
    (hB : BAt H b n g em) (hem : em = true ↔ ∀ p, On n p → g p = none) (hl : Legal n g) (hd : H ds = some (.pdict fs ep)) (R : Rep n fs g)
    (h : ∀ q9 q10 q11 q12 q13 q14 q15 q16 q17 q18 q19 q20 q21 ds' fs' ep' g2 em' H', Fr (ds :: b.own) H H' → BAt H' b n g2 em' → (em' = true ↔ ∀ p, On n p → g2 p = none) → H' ds' = some (.pdict fs' ep') → Rep n fs' g2 → Legal n g2 → 
      P.n ([("script", some (.ro sa (ns.map .int))), ("head", some (.int h0)), ("side", some (.int n)), ("points", some (.ref pl)), ("held", some (.inst B.bc b.x b.d)), ("ground", some (.ref gl)), ("stones", some (.ref ds')), ("acts", some (.ref al)), ("number", some (.int num)), ("rest", q9), ("digits", q10), ("lists", q11), ("point", q12), ("black", q13), ("white", q14), ("bare", q15), ("before", q16), ("living", q17), ("legal", q18), ("again", q19), ("colour", q20), ("taken", q21), ("looks", none)] : Loc) H') :
    EXS G (k + 9) (fscope lawS) bodS ([("script", some (.ro sa (ns.map .int))), ("head", some (.int h0)), ("side", some (.int n)), ("points", some (.ref pl)), ("held", some (.inst B.bc b.x b.d)), ("ground", some (.ref gl)), ("stones", some (.ref ds)), ("acts", some (.ref al)), ("number", some (.int num)), ("rest", q9), ("digits", q10), ("lists", q11), ("point", q12), ("black", q13), ("white", q14), ("bare", q15), ("before", q16), ("living", q17), ("legal", q18), ("again", q19), ("colour", q20), ("taken", q21), ("looks", none)] : Loc) H P := by
  refine LAW_fill W hn hpl hgl hgp hlen hd R fun A0 A1 A2 la l0 l1 l2 bf dg qp H1 e1 f0 f1 f2 hla hA0 hA1 hA2 n01 n02 n12 na0 na1 na2 o0 o1 o2 s0 s1 s2 hbf => ?_
  have hB1 := hB.ext e1
  have hd1 := e1 _ _ hd
  have hpl1 := e1 _ _ hpl
  have ndo : ds ∉ b.own := hB.notOwn' hd rfl
  obtain ⟨NN, hNN⟩ : ∃ NN : Loc → Hp → Prop, ∀ m' H', NN m' H' ↔ ∃ q9 q10 q11 q12 q13 q14 q15 q16 q17 q18 q19 q20 q21 ds' fs' ep' g2 em', m' = ([("script", some (.ro sa (ns.map .int))), ("head", some (.int h0)), ("side", some (.int n)), ("points", some (.ref pl)), ("held", some (.inst B.bc b.x b.d)), ("ground", some (.ref gl)), ("stones", some (.ref ds')), ("acts", some (.ref al)), ("number", some (.int num)), ("rest", q9), ("digits", q10), ("lists", q11), ("point", q12), ("black", q13), ("white", q14), ("bare", q15), ("before", q16), ("living", q17), ("legal", q18), ("again", q19), ("colour", q20), ("taken", q21), ("looks", none)] : Loc) ∧ Fr (ds :: b.own) H H' ∧ BAt H' b n g2 em' ∧ (em' = true ↔ ∀ p, On n p → g2 p = none) ∧ H' ds' = some (.pdict fs' ep') ∧ Rep n fs' g2 ∧ Legal n g2 := ⟨_, fun _ _ => Iff.rfl⟩
  refine EXS_cut NN ?_ ?_
  · refine EX_If ?_
    walk_at "go"
    refine ⟨fun _ => ?_, fun _ => ?_⟩
    · change EXS G (k + 9) (fscope lawS) setS _ _ _
      refine LAW_put hn hd1 R hA0 hA1 hA2 o0 o1 fun fs2 ep2 qp2 H2 fr2 hd2 R2 => ?_
      have st : ∀ a o, a ≠ ds → H1 a = some o → H2 a = some o := fun a o na ha => fr2 a o (by simpa using na) ha
      have nl : ∀ {a : PySem.Addr} {vs : List LV}, H1 a = some (.lst vs) → a ≠ ds := fun ha e => by rw [e, hd1] at ha; cases ha
      refine LAW_set W hn (hB1.frA hd1 rfl fr2) hem hd2 R2 (st _ _ (nl hA0) hA0) (st _ _ (nl hA1) hA1) (st _ _ (nl hA2) hA2) (st _ _ (nl hbf) hbf) o0 o1 o2 s0 s1 s2 fun lv lg ds' ag fs' ep' g2 em' H' fr' hB' hem' hd' R' hl' => ?_
      exact (hNN _ _).mpr ⟨_, _, _, _, _, _, _, _, _, _, _, _, _, ds', fs', ep', g2, em', rfl, fun a o ha ho => fr' a o (fun z => ha (List.mem_cons_of_mem _ z)) (fr2 a o (fun z => ha (by simp at z; simp [z])) (e1 a o ho)), hB', hem', hd', R', hl'⟩
    · change EXS G (k + 9) (fscope lawS) els1 _ _ _
      refine EXS_cons ?_
      walk_at "go"
      refine ⟨fun _ => ?_, fun _ => ?_⟩
      · change EXS G (k + 9) (fscope lawS) playB _ _ _
        refine LAW_play W hn h2 hB1 hem hl hd1 R hpl1 fun qp ql qt ds' fs' ep' g2 em' H' fr' hB' hem' hd' R' hl' => ?_
        exact EXS_nil ((hNN _ _).mpr ⟨_, _, _, _, _, _, _, _, _, _, _, _, _, ds', fs', ep', g2, em', rfl, fun a o ha ho => fr' a o (fun z => ha (List.mem_cons_of_mem _ z)) (e1 a o ho), hB', hem', hd', R', hl'⟩)
      · refine EXS_cons ?_
        walk_at "go"
        refine EV_CallK (by decide +kernel) V.bey.1 V.bey.2.1 ?_
        walk_at "go"
        have np : ∀ {l : PySem.Addr}, H l = none → l ≠ b.pl := fun z e => by rw [e, hB.pl] at z; cases z
        have nb : ∀ {l : PySem.Addr}, H l = none → l ≠ b.bl := fun z e => by rw [e, hB.bl] at z; cases z
        refine CALL_bey V hB1 hl hn hla hA0 hA1 hA2 n01 n02 n12 na0 na1 na2 (np f0) (np f1) (np f2) (nb f0) (nb f1) (nb f2) ⟨by omega, by omega, by omega⟩ fun H2 fr2 => ?_
        have e2 : Ext H H2 := fun a o ha => fr2 a o (fun z => by
          simp only [List.mem_cons, List.not_mem_nil, or_false] at z
          rcases z with rfl | rfl | rfl
          · rw [f0] at ha; cases ha
          · rw [f1] at ha; cases ha
          · rw [f2] at ha; cases ha) (e1 a o ha)
        walk_at "go"
        refine ⟨(fun q => by cases q), fun _ => EXS_nil (EXS_nil (EXS_nil ?_))⟩
        exact (hNN _ _).mpr ⟨_, _, _, _, _, _, _, _, _, _, _, _, _, ds, fs, ep, g, em, rfl, e2.fr _, hB.ext e2, hem, e2 _ _ hd, R, hl⟩
  · intro m' H' q
    obtain ⟨q9, q10, q11, q12, q13, q14, q15, q16, q17, q18, q19, q20, q21, ds', fs', ep', g2, em', rfl, fr', hB', hem', hd', R', hl'⟩ := (hNN _ _).mp q
    clear q hNN
    have npl : pl ∉ ds :: b.own := fun z => by
      rcases List.mem_cons.mp z with z | z
      · rw [z, hd] at hpl; cases hpl
      · exact hB.notOwn hpl pv_notC z
    have hpl' := fr' _ _ npl hpl
    refine EXS_cons ?_
    walk_at "go"
    refine CALL_lo B hB' fun r1 H3 e3 fr1 hr1 => ?_
    refine EV_CallK (by decide +kernel) W.rows.1 W.rows.2.1 ?_
    walk_at "go"
    refine CALL_rows W (e3 _ _ hd') R' (e3 _ _ hpl') (by omega) fun r2 H4 e4 fr2 hr2 => ?_
    refine BO_rows (e4 _ _ hr1) hr2 hB'.col hB'.col (fun _ _ => rfl) ?_
    walk_at "go"
    simp only [Bool.false_eq_true, if_false]
    have hB4 := (hB'.ext e3).ext e4
    have hd4 := e4 _ _ (e3 _ _ hd')
    walk_at "go"
    refine CALL_ie B hB4 ?_
    walk_at "go"
    refine EV_Dict0 fun z fz => ?_
    refine BO_eqd0 ((hset_ne _ _ (ne_of fz hd4)).trans hd4) (hset_same _ _ _) ?_
    refine BO_isNotBool ?_
    have hee : fs'.isEmpty = em' := by rw [Bool.eq_iff_iff, R'.empty, hem']
    rw [hee]
    walk_at "go"
    simp only [beq_self_eq_true, Bool.not_true, Bool.false_eq_true, if_false]
    walk_at "go"
    refine ⟨(fun q => by cases q), fun _ => EXS_nil (EXS_nil ?_)⟩
    have e5 : Ext H4 (Go.hset H4 z (.pdict [] 0)) := (Ext.refl _).set fz
    exact h _ _ _ _ _ _ _ _ _ _ _ _ _ ds' fs' ep' g2 em' _ (fr'.trans (((e3.trans e4).trans e5).fr _)) (hB4.ext e5) hem' (e5 _ _ hd4) R' hl'

end
section

theorem ints_notC {L : List Int} : L.map LV.int = [] ∨ ∃ v, v ∈ L.map LV.int ∧ ∀ o, v ≠ cv o := by
  cases L with
  | nil => exact .inl rfl
  | cons p r => exact .inr ⟨.int p, by simp, fun o => by cases o <;> simp [cv]⟩
theorem LAW_loop {G : Gl} {B : BW G} (W : LW G B) (V : LB G) {k : Nat} {H : Hp} {P : PQ} {sa : PySem.Addr} {ns as : List Int} {n : Nat} {h0 : Int} {pl gl ds al : PySem.Addr} {b : Bd} {gp : List Pt} {fs : List (Pt × LV)} {ep : Nat} {g : Grd} {em : Bool} {q8 q9 q10 q11 q12 q13 q14 q15 q16 q17 q18 q19 q20 q21 : Option LV} (hn : n ≤ 7) (h2 : 2 ≤ n)
    (hpl : H pl = some (.lst ((pts n).map pv))) (hgl : H gl = some (.lst (gp.map pv))) (hgp : ∀ p, p ∈ gp → On n p) (hlen : gp.length ≤ 49) (hal : H al = some (.lst (as.map .int)))
    (hB : BAt H b n g em) (hem : em = true ↔ ∀ p, On n p → g p = none) (hl : Legal n g) (hd : H ds = some (.pdict fs ep)) (R : Rep n fs g)
    (h : ∀ q8 q9 q10 q11 q12 q13 q14 q15 q16 q17 q18 q19 q20 q21 ds' fs' ep' g2 em' H', H' pl = some (.lst ((pts n).map pv)) → BAt H' b n g2 em' → H' ds' = some (.pdict fs' ep') → Rep n fs' g2 → 
      EXS G (k + 9) (fscope lawS) ((fbody lawS).drop 10) ([("script", some (.ro sa (ns.map .int))), ("head", some (.int h0)), ("side", some (.int n)), ("points", some (.ref pl)), ("held", some (.inst B.bc b.x b.d)), ("ground", some (.ref gl)), ("stones", some (.ref ds')), ("acts", some (.ref al)), ("number", q8), ("rest", q9), ("digits", q10), ("lists", q11), ("point", q12), ("black", q13), ("white", q14), ("bare", q15), ("before", q16), ("living", q17), ("legal", q18), ("again", q19), ("colour", q20), ("taken", q21), ("looks", none)] : Loc) H' P) :
    EXS G (k + 9) (fscope lawS) ((fbody lawS).drop 9) ([("script", some (.ro sa (ns.map .int))), ("head", some (.int h0)), ("side", some (.int n)), ("points", some (.ref pl)), ("held", some (.inst B.bc b.x b.d)), ("ground", some (.ref gl)), ("stones", some (.ref ds)), ("acts", some (.ref al)), ("number", q8), ("rest", q9), ("digits", q10), ("lists", q11), ("point", q12), ("black", q13), ("white", q14), ("bare", q15), ("before", q16), ("living", q17), ("legal", q18), ("again", q19), ("colour", q20), ("taken", q21), ("looks", none)] : Loc) H P := by
  refine EXS_cons ?_
  refine EX_ForL B.hh ?_
  walk_at "go"
  obtain ⟨I, hI⟩ : ∃ I : Nat → Loc → Hp → Prop, ∀ i m' H', I i m' H' ↔ ∃ q8 q9 q10 q11 q12 q13 q14 q15 q16 q17 q18 q19 q20 q21 ds' fs' ep' g2 em', m' = ([("script", some (.ro sa (ns.map .int))), ("head", some (.int h0)), ("side", some (.int n)), ("points", some (.ref pl)), ("held", some (.inst B.bc b.x b.d)), ("ground", some (.ref gl)), ("stones", some (.ref ds')), ("acts", some (.ref al)), ("number", q8), ("rest", q9), ("digits", q10), ("lists", q11), ("point", q12), ("black", q13), ("white", q14), ("bare", q15), ("before", q16), ("living", q17), ("legal", q18), ("again", q19), ("colour", q20), ("taken", q21), ("looks", none)] : Loc) ∧ H' pl = some (.lst ((pts n).map pv)) ∧ H' gl = some (.lst (gp.map pv)) ∧ H' al = some (.lst (as.map .int)) ∧ BAt H' b n g2 em' ∧ (em' = true ↔ ∀ p, On n p → g2 p = none) ∧ Legal n g2 ∧ H' ds' = some (.pdict fs' ep') ∧ Rep n fs' g2 := ⟨_, fun _ _ _ => Iff.rfl⟩
  refine ⟨al, as.map .int, rfl, hal, I, (hI _ _ _).mpr ⟨_, _, _, _, _, _, _, _, _, _, _, _, _, _, ds, fs, ep, g, em, rfl, hpl, hgl, hal, hB, hem, hl, hd, R⟩, ?_⟩
  clear hpl hgl hal hB hem hl hd R
  refine ⟨fun i m' H' q => ?_, fun i lv m' H' hi q => ?_, fun m' H' q => ?_⟩
  · obtain ⟨q8, q9, q10, q11, q12, q13, q14, q15, q16, q17, q18, q19, q20, q21, ds, fs, ep, g, em, rfl, hpl, hgl, hal, hB, hem, hl, hd, R⟩ := (hI _ _ _).mp q
    exact hal
  · obtain ⟨q8, q9, q10, q11, q12, q13, q14, q15, q16, q17, q18, q19, q20, q21, ds, fs, ep, g, em, rfl, hpl, hgl, hal, hB, hem, hl, hd, R⟩ := (hI _ _ _).mp q
    obtain ⟨num, _, rfl⟩ := List.mem_map.mp (List.mem_of_getElem? hi)
    refine AS_Name (by walk_at "put") ?_ (.inr (by decide +kernel))
    change EXS G (k + 9) (fscope lawS) bodS _ _ _
    have st : ∀ {H'}, Fr (ds :: b.own) H' H' → True := fun _ => trivial
    have no : ∀ {a : PySem.Addr} {vs : List LV}, H' a = some (.lst vs) → (vs = [] ∨ ∃ v, v ∈ vs ∧ ∀ o, v ≠ cv o) → a ∉ ds :: b.own := fun ha hv z => by
      rcases List.mem_cons.mp z with z | z
      · rw [z, hd] at ha; cases ha
      · exact hB.notOwn ha hv z
    refine LAW_turn W V hn h2 hpl hgl hgp hlen hB hem hl hd R fun q9 q10 q11 q12 q13 q14 q15 q16 q17 q18 q19 q20 q21 ds' fs' ep' g2 em' H2 fr' hB' hem' hd' R' hl' => ?_
    exact (hI _ _ _).mpr ⟨_, _, _, _, _, _, _, _, _, _, _, _, _, _, ds', fs', ep', g2, em', rfl, fr' _ _ (no hpl pv_notC) hpl, fr' _ _ (no hgl pv_notC) hgl, fr' _ _ (no hal ints_notC) hal, hB', hem', hl', hd', R'⟩
  · obtain ⟨q8, q9, q10, q11, q12, q13, q14, q15, q16, q17, q18, q19, q20, q21, ds, fs, ep, g, em, rfl, hpl, hgl, hal, hB, hem, hl, hd, R⟩ := (hI _ _ _).mp q
    exact EXS_nil (h _ _ _ _ _ _ _ _ _ _ _ _ _ _ ds fs ep g em H' hpl hB hd R)

end
section

theorem EV_m_ar {G : Gl} {B : BW G} (R : RW G B) {k : Nat} {fl : Bool} {sc : Scope} {m : Loc} {H : Hp} {Q : Qv} {X : Xc} {o : PySem.Expr} {apos pos : Pos} {es : List PySem.Expr}
    (h : EV G k fl sc o m H (fun lv H1 => ∃ x d n pl bl em, lv = .inst B.bc x d ∧ H1 d = some (.ns (bns n pl bl em)) ∧ AR G k fl sc es m H1 (fun lvs H2 => CALL G k (.ref R.far) (.inst B.bc x d :: lvs) H2 Q X) X) X)
    {pl : Env → Sem Bool} (he : ∀ env, eval (.Call (.Attribute o (Str.ofString "area_score") apos) es [] pos) env = (do
      let ov ← eval o env
      standAt apos.atName
      let (f, first) ← holding [ov] (getMethod ov (Str.ofString "area_score") (pl env))
      callWith pos f first (backTo pos (starEach es env)) []) := by intro _; with_unfolding_all rfl) : EV G k fl sc (.Call (.Attribute o (Str.ofString "area_score") apos) es [] pos) m H Q X :=
  EV_bm B R.m_ar (by decide +kernel) h he
def cd : Option Str → PyData
  | none => .none
  | some x => .str x
theorem isD_cv {H : Hp} {o : Option Str} (h : ∀ c, o = some c → IsCol c) : IsD H (cv o) (cd o) := by
  cases o with
  | none => exact .none
  | some c => exact .str (lay_col (h c rfl))
theorem isDs_cv {H : Hp} {g : Grd} (hc : ∀ p c, g p = some c → IsCol c) : ∀ {L : List Pt}, IsDs H (L.map fun p => cv (g p)) (L.map fun p => cd (g p))
  | [] => .nil
  | p :: L => .cons (isD_cv (hc p)) (isDs_cv hc)
theorem eqv_cv {g : Grd} : ∀ {L : List Pt}, PyData.eqvAll (L.map fun p => cd (g p)) (L.map fun p => cd (g p)) = true
  | [] => by simp [PyData.eqvAll]
  | p :: L => by
    rw [List.map_cons, PyData.eqvAll, eqv_cv (L := L), Bool.and_true]
    cases g p <;> simp [cd, PyData.eqv]
theorem depth_cv {g : Grd} : ∀ {L : List Pt}, PyData.depthAll (L.map fun p => cd (g p)) ≤ 3
  | [] => by simp [PyData.depthAll]
  | p :: L => by
    rw [List.map_cons, PyData.depthAll]
    refine Nat.max_le.mpr ⟨?_, depth_cv (L := L)⟩
    cases g p <;> simp [cd, PyData.depth]
theorem eqv_pts : ∀ {L : List Pt}, PyData.eqvAll (L.map pd) (L.map pd) = true
  | [] => by simp [PyData.eqvAll]
  | p :: L => by rw [List.map_cons, PyData.eqvAll, eqv_pts (L := L), Bool.and_true, eqv_pd]; simp
theorem depth_pts : ∀ {L : List Pt}, PyData.depthAll (L.map pd) ≤ 3
  | [] => by simp [PyData.depthAll]
  | p :: L => by
    rw [List.map_cons, PyData.depthAll]
    exact Nat.max_le.mpr ⟨Nat.le_trans depth_pd (by decide), depth_pts (L := L)⟩
theorem fm_some {α : Type} {F : Pt → α} : ∀ {L : List Pt}, L.filterMap (fun p => some (F p)) = L.map F
  | [] => rfl
  | p :: L => by rw [List.filterMap_cons, List.map_cons]; exact congrArg _ fm_some

theorem LAW_end {G : Gl} {B : BW G} (RR : RW G B) (W : LW G B) (V : LA G) {k : Nat} {H : Hp} {P : PQ} {sa : PySem.Addr} {ns : List Int} {n : Nat} {h0 : Int} {pl gl ds al : PySem.Addr} {b : Bd} {fs : List (Pt × LV)} {ep : Nat} {g : Grd} {em : Bool} {q8 q9 q10 q11 q12 q13 q14 q15 q16 q17 q18 q19 q20 q21 : Option LV} (hn : n ≤ 7) (h2 : 2 ≤ n)
    (hpl : H pl = some (.lst ((pts n).map pv))) (hB : BAt H b n g em) (hd : H ds = some (.pdict fs ep)) (R : Rep n fs g)
    (h : ∀ H', P.r (.bool true) H') :
    EXS G (k + 9) (fscope lawS) ((fbody lawS).drop 10) ([("script", some (.ro sa (ns.map .int))), ("head", some (.int h0)), ("side", some (.int n)), ("points", some (.ref pl)), ("held", some (.inst B.bc b.x b.d)), ("ground", some (.ref gl)), ("stones", some (.ref ds)), ("acts", some (.ref al)), ("number", q8), ("rest", q9), ("digits", q10), ("lists", q11), ("point", q12), ("black", q13), ("white", q14), ("bare", q15), ("before", q16), ("living", q17), ("legal", q18), ("again", q19), ("colour", q20), ("taken", q21), ("looks", none)] : Loc) H P := by
  refine EXS_cons ?_
  refine EX_If (TS_Compare1 (EV_m_ar RR ?_))
  walk_at "go"
  refine CALL_ar RR hB hn fun H1 e1 => ?_
  walk_at "go"
  refine EV_CallK (by decide +kernel) V.area.1 V.area.2.1 ?_
  walk_at "go"
  refine CALL_area W V (c := sb) (e1 _ _ hd) R hn (.inl rfl) fun H2 e2 => ?_
  refine EV_CallK (by decide +kernel) V.area.1 V.area.2.1 ?_
  walk_at "go"
  refine CALL_area W V (c := sw) (e2 _ _ (e1 _ _ hd)) R hn (.inr rfl) fun H3 e3 => ?_
  walk_at "go"
  refine ⟨fun q => by simp at q, fun _ => EXS_nil ?_⟩
  have e := (e1.trans e2).trans e3
  have hpl3 := e _ _ hpl
  have hB3 := hB.ext e
  have hd3 := e _ _ hd
  refine EXS_cons ?_
  refine EX_LCl B.hh ?_ (by rfl) (by rfl) (by decide +kernel)
  walk_at "go"
  refine ⟨pl, (pts n).map pv, rfl, hpl3, fun lv => (decP lv).bind fun p => some (cv (g p)), by rw [List.length_map]; have := len_pts hn; omega, ?_, ?_⟩
  · intro lv hlv
    obtain ⟨p, hp, rfl⟩ := List.mem_map.mp hlv
    have hon := mem_pts.mp hp
    intro m2 H4 hs he
    have hs : Sim [(Str.ofString ".0", none), (Str.ofString "row", none), (Str.ofString "col", none), (Str.ofString "held", some (.inst B.bc b.x b.d))] m2 := hs
    obtain ⟨o0, _, rfl, o1, _, rfl, o2, _, rfl, _, rfl, rfl⟩ := hs
    have hB4 := hB3.ext he
    refine AS_pv (by walk_at "put") (by walk_at "put") B.hh ⟨⟨_, _, rfl, _, _, rfl, _, _, rfl, _, rfl, rfl⟩, TSs_nil ⟨(fun q => by cases q), fun _ => ?_⟩⟩ (.inr ⟨by decide +kernel, by decide +kernel⟩)
    walk_at "go"
    refine CALL_ge B hB4 (fun _ => ⟨by rw [decP_pv]; rfl, Ext.refl _⟩) (fun no => (no hon).elim) ⟨?_, ?_⟩
    · have := hon.2.1; omega
    · have := hon.2.2.2; omega
  intro lk H4 flk e4 hlk
  rw [fmP, fm_some] at hlk
  refine ⟨_, by walk_at "put", ?_⟩
  have hpl4 := e4 _ _ hpl3
  have hB4 := hB3.ext e4
  have hd4 := e4 _ _ hd3
  refine EXS_cons (EX_Return (EV_and ?_))
  walk_at "go"
  refine EV_LCl B.hh ?_ (by rfl)
  walk_at "go"
  refine ⟨pl, (pts n).map pv, rfl, hpl4, fun lv => (decP lv).bind fun p => some (cv (g p)), by rw [List.length_map]; have := len_pts hn; omega, ?_, ?_⟩
  · intro lv hlv
    obtain ⟨p, hp, rfl⟩ := List.mem_map.mp hlv
    intro m2 H5 hs he
    have hs : Sim [(Str.ofString ".0", none), (Str.ofString "point", none), (Str.ofString "stones", some (.ref ds))] m2 := hs
    obtain ⟨o0, _, rfl, o1, _, rfl, _, rfl, rfl⟩ := hs
    have hd5 := he _ _ hd4
    refine AS_Name (by walk_at "put") ⟨⟨_, _, rfl, _, _, rfl, _, rfl, rfl⟩, TSs_nil ⟨(fun q => by cases q), fun _ => ?_⟩⟩ (.inr (by decide +kernel))
    refine EV_dget ?_
    walk_at "go"
    refine CALL_get hd5 ⟨?_, Ext.refl _⟩
    rw [decP_pv, R.at_]
    dsimp only [Option.bind]
    cases g p <;> rfl
  intro l2 H5 fl2 e5 hl2
  rw [fmP, fm_some] at hl2
  refine BO_eq (.ref (e5 _ _ hlk) (isDs_cv hB.col)) (.ref hl2 (isDs_cv hB.col)) ?_ (Nat.lt_of_le_of_lt (Nat.min_le_left _ _) (by simp only [PyData.depth]; have := depth_cv (g := g) (L := pts n); omega))
  rw [PyData.eqv, eqv_cv]
  refine ⟨true, rfl, ?_⟩
  rw [if_pos rfl]
  have hpl5 := e5 _ _ hpl4
  have hB5 := hB4.ext e5
  refine EV_and ?_
  walk_at "go"
  refine BO_eq (.ref hB5.pl isDs_pv) (.ref hpl5 isDs_pv) ?_ (Nat.lt_of_le_of_lt (Nat.min_le_left _ _) (by simp only [PyData.depth]; have := depth_pts (L := pts n); omega))
  rw [PyData.eqv, eqv_pts]
  refine ⟨true, rfl, ?_⟩
  rw [if_pos rfl]
  refine EV_one ?_
  walk_at "go"
  rw [beq_self_eq_true]
  exact h _

end
section

theorem LAW_all {G : Gl} {B : BW G} (RR : RW G B) (W : LW G B) (VA : LA G) (VB : LB G) (n_min : GNm G (Str.ofString "min") (.builtin "min")) {k : Nat} {H : Hp} {P : PQ} {sa : PySem.Addr} {ns : List Int} (hns : ns.length ≤ 63) (h : ∀ H', P.r (.bool true) H') :
    EXS G (k + 9) (fscope lawS) (fbody lawS) ([("script", some (.ro sa (ns.map .int))), ("head", none), ("side", none), ("points", none), ("held", none), ("ground", none), ("stones", none), ("acts", none), ("number", none), ("rest", none), ("digits", none), ("lists", none), ("point", none), ("black", none), ("white", none), ("bare", none), ("before", none), ("living", none), ("legal", none), ("again", none), ("colour", none), ("taken", none), ("looks", none)] : Loc) H P := by
  refine LAW_a RR W n_min hns fun n h0 pl gl ds al b gp as ep o H1 h2 hn e1 hB hpl hgl hgp hlen hd hal hal2 npl => ?_
  refine LAW_loop W VB hn h2 hpl hgl hgp hlen hal hB ⟨fun _ _ _ => rfl, fun _ => rfl⟩ (fun p hp hg => (hg rfl).elim) hd ⟨fun _ => rfl, List.nodup_nil, fun p hg => (hg rfl).elim, fun p c hg => by cases hg⟩ fun q8 q9 q10 q11 q12 q13 q14 q15 q16 q17 q18 q19 q20 q21 ds' fs' ep' g2 em' H' hpl' hB' hd' R' => ?_
  exact LAW_end RR W VA hn h2 hpl' hB' hd' R' h

end
section

def Wf (f : PySem.Addr) (st : Stmt) : Prop := ∀ P : Params, ∃ oc od osl qual kV doc pm an cdv ct, (hd.heap_39 P).lookup f = some ⟨oc, od, .func (fnOf (fname st) qual (fparams st) (fbody st) (fscope st) .none kV doc pm an cdv ct), osl⟩ ∧ codeIn (hd.heap_39 P) cdv qual = true
theorem isfn {G : Gl} (hK : G.K = hd.heap_39 G.w.params) {f : PySem.Addr} {st : Stmt} (h : Wf f st) : IsFn G f st := by
  unfold IsFn; rw [hK]; exact h _
theorem wf_22 : Wf 22 opS := fun P => ⟨_, _, _, _, _, _, _, _, _, _, rfl, by kernel_rfl⟩
theorem wf_69 : Wf 69 inS := fun P => ⟨_, _, _, _, _, _, _, _, _, _, rfl, by kernel_rfl⟩
theorem wf_50 : Wf 50 rgS := fun P => ⟨_, _, _, _, _, _, _, _, _, _, rfl, by kernel_rfl⟩
theorem wf_88 : Wf 88 meS := fun P => ⟨_, _, _, _, _, _, _, _, _, _, rfl, by kernel_rfl⟩
theorem wf_142 : Wf 142 arS := fun P => ⟨_, _, _, _, _, _, _, _, _, _, rfl, by kernel_rfl⟩
theorem wf_74 : Wf 74 cpS := fun P => ⟨_, _, _, _, _, _, _, _, _, _, rfl, by kernel_rfl⟩
theorem wf_81 : Wf 81 mgS := fun P => ⟨_, _, _, _, _, _, _, _, _, _, rfl, by kernel_rfl⟩
theorem wf_95 : Wf 95 fsS := fun P => ⟨_, _, _, _, _, _, _, _, _, _, rfl, by kernel_rfl⟩
theorem wf_102 : Wf 102 faS := fun P => ⟨_, _, _, _, _, _, _, _, _, _, rfl, by kernel_rfl⟩
theorem wf_109 : Wf 109 ieS := fun P => ⟨_, _, _, _, _, _, _, _, _, _, rfl, by kernel_rfl⟩
theorem wf_116 : Wf 116 geS := fun P => ⟨_, _, _, _, _, _, _, _, _, _, rfl, by kernel_rfl⟩
theorem wf_121 : Wf 121 plS := fun P => ⟨_, _, _, _, _, _, _, _, _, _, rfl, by kernel_rfl⟩
theorem wf_128 : Wf 128 asS := fun P => ⟨_, _, _, _, _, _, _, _, _, _, rfl, by kernel_rfl⟩
theorem wf_135 : Wf 135 loS := fun P => ⟨_, _, _, _, _, _, _, _, _, _, rfl, by kernel_rfl⟩
theorem wf_154 : Wf 154 (top 8) := fun P => ⟨_, _, _, _, _, _, _, _, _, _, rfl, by kernel_rfl⟩
theorem wf_159 : Wf 159 (top 9) := fun P => ⟨_, _, _, _, _, _, _, _, _, _, rfl, by kernel_rfl⟩
theorem wf_166 : Wf 166 (top 10) := fun P => ⟨_, _, _, _, _, _, _, _, _, _, rfl, by kernel_rfl⟩
theorem wf_171 : Wf 171 (top 11) := fun P => ⟨_, _, _, _, _, _, _, _, _, _, rfl, by kernel_rfl⟩
theorem wf_176 : Wf 176 (top 12) := fun P => ⟨_, _, _, _, _, _, _, _, _, _, rfl, by kernel_rfl⟩
theorem wf_181 : Wf 181 (top 13) := fun P => ⟨_, _, _, _, _, _, _, _, _, _, rfl, by kernel_rfl⟩
theorem wf_188 : Wf 188 (top 14) := fun P => ⟨_, _, _, _, _, _, _, _, _, _, rfl, by kernel_rfl⟩

def WB {G : Gl} (hh : G.hn = true) (hK : G.K = hd.heap_39 G.w.params) : BW G where
  bc := 145
  gc := 32
  rc := 53
  fin := 69
  fcp := 74
  fmg := 81
  fme := 88
  ffs := 95
  ffa := 102
  fie := 109
  fge := 116
  fpl := 121
  fas := 128
  flo := 135
  far := 142
  fop := 22
  frg := 50
  aop := 15
  hh := hh
  n_set := .inr ⟨mg_none_of (hK ▸ G.kin) G.gns (by kernel_rfl), (G.blt _ (by decide +kernel)).trans (by kernel_rfl)⟩
  n_list := .inr ⟨mg_none_of (hK ▸ G.kin) G.gns (by kernel_rfl), (G.blt _ (by decide +kernel)).trans (by kernel_rfl)⟩
  n_range := .inr ⟨mg_none_of (hK ▸ G.kin) G.gns (by kernel_rfl), (G.blt _ (by decide +kernel)).trans (by kernel_rfl)⟩
  n_len := .inr ⟨mg_none_of (hK ▸ G.kin) G.gns (by kernel_rfl), (G.blt _ (by decide +kernel)).trans (by kernel_rfl)⟩
  n_ie := .inr ⟨mg_none_of (hK ▸ G.kin) G.gns (by kernel_rfl), (G.blt _ (by decide +kernel)).trans (by kernel_rfl)⟩
  n_ve := .inr ⟨mg_none_of (hK ▸ G.kin) G.gns (by kernel_rfl), (G.blt _ (by decide +kernel)).trans (by kernel_rfl)⟩
  n_ke := .inr ⟨mg_none_of (hK ▸ G.kin) G.gns (by kernel_rfl), (G.blt _ (by decide +kernel)).trans (by kernel_rfl)⟩
  n_board := ⟨.inl (mg_of (hK ▸ G.kin) G.gns (by kernel_rfl)), by rw [hK]; kernel_rfl⟩
  n_group := ⟨.inl (mg_of (hK ▸ G.kin) G.gns (by kernel_rfl)), by rw [hK]; kernel_rfl⟩
  n_op := ⟨.inl (mg_of (hK ▸ G.kin) G.gns (by kernel_rfl)), by rw [hK]; kernel_rfl, isfn hK wf_22⟩
  n_opd := .inl (mg_of (hK ▸ G.kin) G.gns (by kernel_rfl))
  opd := by
    unfold ODict; rw [hK]
    exact ⟨_, _, _, rfl, rfl, rfl, rfl, rfl, ⟨_, _, rfl, rfl, ⟨_, rfl⟩, ⟨_, rfl⟩, _, _, rfl, rfl, ⟨_, rfl⟩, ⟨_, rfl⟩, rfl⟩, by decide +kernel⟩
  ob := by rw [hK]; kernel_rfl
  og := by rw [hK]; kernel_rfl
  mb := by rw [hK]; kernel_rfl
  mgr := by rw [hK]; kernel_rfl
  ib := ⟨by rw [hK]; kernel_rfl, by rw [hK]; kernel_rfl, isfn hK wf_69⟩
  ig := by rw [hK]; kernel_rfl
  m_cp := ⟨by rw [hK]; kernel_rfl, by rw [hK]; kernel_rfl, by rw [hK]; kernel_rfl, isfn hK wf_74⟩
  m_mg := ⟨by rw [hK]; kernel_rfl, by rw [hK]; kernel_rfl, by rw [hK]; kernel_rfl, isfn hK wf_81⟩
  m_fs := ⟨by rw [hK]; kernel_rfl, by rw [hK]; kernel_rfl, by rw [hK]; kernel_rfl, isfn hK wf_95⟩
  m_fa := ⟨by rw [hK]; kernel_rfl, by rw [hK]; kernel_rfl, by rw [hK]; kernel_rfl, isfn hK wf_102⟩
  m_ie := ⟨by rw [hK]; kernel_rfl, by rw [hK]; kernel_rfl, by rw [hK]; kernel_rfl, isfn hK wf_109⟩
  m_ge := ⟨by rw [hK]; kernel_rfl, by rw [hK]; kernel_rfl, by rw [hK]; kernel_rfl, isfn hK wf_116⟩
  m_pl := ⟨by rw [hK]; kernel_rfl, by rw [hK]; kernel_rfl, by rw [hK]; kernel_rfl, isfn hK wf_121⟩
  m_as := ⟨by rw [hK]; kernel_rfl, by rw [hK]; kernel_rfl, by rw [hK]; kernel_rfl, isfn hK wf_128⟩
  m_lo := ⟨by rw [hK]; kernel_rfl, by rw [hK]; kernel_rfl, by rw [hK]; kernel_rfl, isfn hK wf_135⟩
  a_side := by rw [hK]; kernel_rfl
  a_pts := by rw [hK]; kernel_rfl
  a_brd := by rw [hK]; kernel_rfl
  a_emp := by rw [hK]; kernel_rfl
  g_col := by rw [hK]; kernel_rfl
  g_pts := by rw [hK]; kernel_rfl
  g_sur := by rw [hK]; kernel_rfl

def WRr {G : Gl} (hh : G.hn = true) (hK : G.K = hd.heap_39 G.w.params) : RW G (WB hh hK) where
  rc := 53
  fme := 88
  far := 142
  frg := 50
  n_region := ⟨.inl (mg_of (hK ▸ G.kin) G.gns (by kernel_rfl)), by rw [hK]; kernel_rfl⟩
  mr := by rw [hK]; kernel_rfl
  or := by rw [hK]; kernel_rfl
  ir := ⟨by rw [hK]; kernel_rfl, by rw [hK]; kernel_rfl, isfn hK wf_50⟩
  m_me := ⟨by rw [hK]; kernel_rfl, by rw [hK]; kernel_rfl, by rw [hK]; kernel_rfl, isfn hK wf_88⟩
  m_ar := ⟨by rw [hK]; kernel_rfl, by rw [hK]; kernel_rfl, by rw [hK]; kernel_rfl, isfn hK wf_142⟩
  r_pts := by rw [hK]; kernel_rfl
  r_col := by rw [hK]; kernel_rfl
def WLw {G : Gl} (hh : G.hn = true) (hK : G.K = hd.heap_39 G.w.params) : LW G (WB hh hK) where
  fnear := 154
  fbrea := 159
  fonly := 166
  fmovd := 171
  frows := 176
  near := ⟨.inl (mg_of (hK ▸ G.kin) G.gns (by kernel_rfl)), by rw [hK]; kernel_rfl, isfn hK wf_154⟩
  brea := ⟨.inl (mg_of (hK ▸ G.kin) G.gns (by kernel_rfl)), by rw [hK]; kernel_rfl, isfn hK wf_159⟩
  only := ⟨.inl (mg_of (hK ▸ G.kin) G.gns (by kernel_rfl)), by rw [hK]; kernel_rfl, isfn hK wf_166⟩
  movd := ⟨.inl (mg_of (hK ▸ G.kin) G.gns (by kernel_rfl)), by rw [hK]; kernel_rfl, isfn hK wf_171⟩
  rows := ⟨.inl (mg_of (hK ▸ G.kin) G.gns (by kernel_rfl)), by rw [hK]; kernel_rfl, isfn hK wf_176⟩
def WLA {G : Gl} (hK : G.K = hd.heap_39 G.w.params) : LA G where
  farea := 181
  area := ⟨.inl (mg_of (hK ▸ G.kin) G.gns (by kernel_rfl)), by rw [hK]; kernel_rfl, isfn hK wf_181⟩
def WLB {G : Gl} (hK : G.K = hd.heap_39 G.w.params) : LB G where
  fbey := 188
  bey := ⟨.inl (mg_of (hK ▸ G.kin) G.gns (by kernel_rfl)), by rw [hK]; kernel_rfl, isfn hK wf_188⟩
theorem WMin {G : Gl} (hK : G.K = hd.heap_39 G.w.params) : GNm G (Str.ofString "min") (.builtin "min") := .inr ⟨mg_none_of (hK ▸ G.kin) G.gns (by kernel_rfl), (G.blt _ (by decide +kernel)).trans (by kernel_rfl)⟩

end
section

theorem vrs_ints {C : Cm} : ∀ {vs : List Value} {ns : List Int}, IntsAre vs ns → VRs C (ns.map .int) vs
  | _, _, .nil => rfl
  | _, _, .cons n t h => ⟨_, _, rfl, ⟨t, rfl⟩, vrs_ints h⟩
def frS (sa : PySem.Addr) (ns : List Int) : Loc := [("script", some (.ro sa (ns.map .int))), ("head", none), ("side", none), ("points", none), ("held", none), ("ground", none), ("stones", none), ("acts", none), ("number", none), ("rest", none), ("digits", none), ("lists", none), ("point", none), ("black", none), ("white", none), ("bare", none), ("before", none), ("living", none), ("legal", none), ("again", none), ("colour", none), ("taken", none), ("looks", none)]
def envS (L fa : PySem.Addr) (cd : Value) : Env := envOfC (fname lawS) (fscope lawS) L fa cd
theorem frS_some {sa : PySem.Addr} {ns : List Int} {x : Str} {lv : LV} (h : (x, some lv) ∈ frS sa ns) : x = Str.ofString "script" ∧ lv = .ro sa (ns.map .int) := by
  unfold frS at h
  simp only [List.mem_cons, Prod.mk.injEq, Option.some.injEq, reduceCtorEq, and_false, or_false, List.not_mem_nil] at h
  exact h
theorem frS_names {sa : PySem.Addr} {ns : List Int} : (frS sa ns).map (·.1) = (frS 0 []).map (·.1) := rfl
theorem kinds_ok : ((frS 0 []).map (·.1)).all (fun x => ((fscope lawS).names.lookup x == some .local) || ((fscope lawS).names.lookup x == some .cell && (x == Str.ofString "side" || x == Str.ofString "held" || x == Str.ofString "stones"))) = true := by decide +kernel
theorem kinds_of {L fa : PySem.Addr} {cd : Value} {sa : PySem.Addr} {ns : List Int} {x : Str} {o : Option LV} (h : (x, o) ∈ frS sa ns) : (envS L fa cd).kindOf x = some .local ∨ ((envS L fa cd).kindOf x = some .cell ∧ (x = Str.ofString "side" ∨ x = Str.ofString "held" ∨ x = Str.ofString "stones")) := by
  have hm : x ∈ (frS 0 []).map (·.1) := by rw [← frS_names (sa := sa) (ns := ns)]; exact List.mem_map.mpr ⟨_, h, rfl⟩
  have := List.all_eq_true.mp kinds_ok x hm
  simp only [Bool.or_eq_true, Bool.and_eq_true, beq_iff_eq] at this
  rcases this with h | ⟨h, z⟩
  · exact .inl h
  · exact .inr ⟨h, by rcases z with (z | z) | z; exact .inl z; exact .inr (.inl z); exact .inr (.inr z)⟩
theorem cellsS {L fa : PySem.Addr} {cd : Value} : (envS L fa cd).cells = [(Str.ofString "stones", L + 1 + 1 + 1), (Str.ofString "held", L + 1 + 1), (Str.ofString "side", L + 1)] := by
  show cellsFrom (L + 1) (fscope lawS).names [] = _
  kernel_rfl
theorem lkS {L : Nat} {x : Str} {c : PySem.Addr} (h : List.lookup x [(Str.ofString "stones", L + 1 + 1 + 1), (Str.ofString "held", L + 1 + 1), (Str.ofString "side", L + 1)] = some c) : (x = Str.ofString "stones" ∧ c = L + 1 + 1 + 1) ∨ (x = Str.ofString "held" ∧ c = L + 1 + 1) ∨ (x = Str.ofString "side" ∧ c = L + 1) := by
  simp only [List.lookup] at h
  split at h
  · rename_i e; exact .inl ⟨beq_iff_eq.mp e, (Option.some.inj h).symm⟩
  · split at h
    · rename_i e; exact .inr (.inl ⟨beq_iff_eq.mp e, (Option.some.inj h).symm⟩)
    · split at h
      · rename_i e; exact .inr (.inr ⟨beq_iff_eq.mp e, (Option.some.inj h).symm⟩)
      · cases h

theorem law_entry {prog : Program} {w : World} {s : Shared} {h₀ h₁ : Heap} {L tk fa : Nat} {cd : Value} {sa : PySem.Addr} {vs : List Value} {ns : List Int} {mg mb m : Str → Option Value} {o1 o2 o3 : Obj}
    (kin : (hd.heap_39 w.params).In h₀) (gns : h₀.Ns mainGlobals mg) (bns : h₀.Ns builtinsNs mb) (nl : h₀.NoLimit) (seer : h₀.NoSeer) (blt : ∀ x : Str, x ≠ "__name__" → mb x = bootBuiltins x)
    (hg : s.gens = #[]) (hL : h₀.IsList sa vs.toArray) (hI : IntsAre vs ns) (hns : ns.length ≤ 63) (F : PyProof.Rows.Fr h₀ L h₁ m) (hm : m (Str.ofString "script") = some (.ref sa))
    (N : News h₀ L h₁ [(L + 1 + 1 + 1, o1), (L + 1 + 1, o2), (L + 1, o3)]) (c1 : o1.data = .cell none) (c2 : o2.data = .cell none) (c3 : o3.data = .cell none) {E : Value → Shared → Prop} {Q : Flow → Shared → Prop}
    (h : ∀ s' m', PyProof.Rows.Fr h₀ L s'.heap m' → s'.gens = #[] → s'.os = s.os → Q (.ret (.bool true)) s') :
    wpAny (model prog w) (callerA.deeper (envS L fa cd)) (execs (fbody lawS) (envS L fa cd)) Q E { s with heap := h₁, toks := tk } := by
  have sysm : ∃ o, h₀.get? sysModules = some o := by
    obtain ⟨mm, ⟨o, es, ep, ho, _⟩, _⟩ := seer.mods
    exact ⟨o, ho⟩
  have main := LAW_all (G := ⟨prog, w, h₀, s.os, hd.heap_39 w.params, mg, mb, kin, gns, bns, nl, blt, sysm, true⟩) (WRr rfl rfl) (WLw rfl rfl) (WLA rfl) (WLB rfl) (WMin rfl) (k := 0) (H := fun _ => none) (P := ⟨fun _ _ => False, fun lv _ => lv = .bool true, fun _ _ => False, fun _ _ => False, fun _ _ _ => False⟩) (sa := sa) hns (fun _ => rfl)
  have i1 : (L + 1 + 1 + 1, o1) ∈ [(L + 1 + 1 + 1, o1), (L + 1 + 1, o2), (L + 1, o3)] := by simp
  have i2 : (L + 1 + 1, o2) ∈ [(L + 1 + 1 + 1, o1), (L + 1 + 1, o2), (L + 1, o3)] := by simp
  have i3 : (L + 1, o3) ∈ [(L + 1 + 1 + 1, o1), (L + 1 + 1, o2), (L + 1, o3)] := by simp
  refine wpAny_mono (main (envS L fa cd) _ (fun a => h₀.get? a) [] _ rfl ?_) ?_ ?_
  · refine ⟨rfl, rfl, rfl, ⟨by show 1 + claimMargin + 1 + 2 * (0 + 9) < 1000; decide +kernel, by show 4 + 3 + 20 * (0 + 9) < 9000; decide +kernel⟩, rfl, fun _ => rfl, .inl rfl, fun _ => rfl, ⟨fun a o e => F.keep a o e, (fun _ _ e => by cases e), (fun _ _ e => by cases e), fun _ _ e => e, hg, rfl, (fun z hz => by cases hz)⟩, ?_⟩
    refine ⟨⟨m, F.ns, fun x lv hx hk => ?_⟩, fun x o hx hk => ?_, fun x o hx => ?_, (by show ((frS sa ns).map (·.1)).Nodup; rw [frS_names]; decide +kernel), fun x y c hx hy => ?_, ⟨Heap.get?_none_of_le F.above, rfl, (fun z hz => by cases hz)⟩, fun x c hx => ?_⟩
    · obtain ⟨rfl, rfl⟩ := frS_some hx
      obtain ⟨o, ho, hc, n, hd⟩ := hL
      exact ⟨_, hm, rfl, o, n, vs, ho, hc, hd, vrs_ints hI⟩
    · have ho : o = none := by
        cases o with
        | none => rfl
        | some lv =>
          obtain ⟨rfl, _⟩ := frS_some hx
          exact (hk (by show (fscope lawS).names.lookup (Str.ofString "script") = some .local; decide +kernel)).elim
      subst ho
      rcases kinds_of (L := L) (fa := fa) (cd := cd) hx with z | ⟨_, z⟩
      · exact (hk z).elim
      · rw [cellsS]
        rcases z with rfl | rfl | rfl
        · exact ⟨L + 1, none, by rfl, ⟨o3, N.get i3, c3⟩, fun lv q => by cases q⟩
        · exact ⟨L + 1 + 1, none, by rfl, ⟨o2, N.get i2, c2⟩, fun lv q => by cases q⟩
        · exact ⟨L + 1 + 1 + 1, none, by rfl, ⟨o1, N.get i1, c1⟩, fun lv q => by cases q⟩
    · rcases kinds_of (L := L) (fa := fa) (cd := cd) hx with z | ⟨z, _⟩
      · exact .inl z
      · exact .inr (.inl z)
    · rw [cellsS] at hx hy
      rcases lkS hx with ⟨a1, b1⟩ | ⟨a1, b1⟩ | ⟨a1, b1⟩ <;> rcases lkS hy with ⟨a2, b2⟩ | ⟨a2, b2⟩ | ⟨a2, b2⟩ <;> first | (rw [a1, a2]; done) | (exfalso; have := b1.symm.trans b2; simp at this; done) | (exfalso; have := b1.symm.trans b2; exact absurd this (by show ¬ ((_ : Nat) = _); omega))
    · rw [cellsS] at hx
      rcases lkS hx with ⟨_, rfl⟩ | ⟨_, rfl⟩ | ⟨_, rfl⟩
      · exact ⟨fun _ => N.fresh i1, rfl, (N _ i1).2.1, (fun z hz => by cases hz), _, o1, N.get i1, c1⟩
      · exact ⟨fun _ => N.fresh i2, rfl, (N _ i2).2.1, (fun z hz => by cases hz), _, o2, N.get i2, c2⟩
      · exact ⟨fun _ => N.fresh i3, rfl, (N _ i3).2.1, (fun z hz => by cases hz), _, o3, N.get i3, c3⟩
  · rintro f s' ⟨C', m', H', cle, I', q⟩
    cases f with
    | next => exact q.elim
    | brk => exact q.elim
    | cont => exact q.elim
    | ret v =>
      obtain ⟨lv, hv, rfl⟩ := q
      cases hv
      obtain ⟨mm, hmm, _⟩ := I'.fr.ns
      exact h s' mm ⟨hmm, I'.keep, F.above⟩ I'.st.gens I'.st.os
  · rintro e s' ⟨C', cls, m', H', cle, I', q⟩
    exact q.elim

end
end Go
open PySem PySem.W PyProof.Rows
set_option maxRecDepth 100000 in
set_option maxHeartbeats 8000000 in
theorem PySem.Challenge.cw_im0127_06_holds : PySem.Challenge.rw_im0127_06.Holds := by
  refine hd (by
    k_go0
    rename_i w s₀ s₁ mg mb G Y fa o pm doc ho hg KX X V GL T B TE TW v12 v11 M v10 v9 hcd ns hs hlay0 hL1 hr1 hl2 v7 v6 sa vs v3 hL ra w1 r0 hI hr hc1 hc2 K0 hD h₁ tk₁ F o1 o2 o3 c1 c2 c3 N0 X0
    refine Go.law_entry (ns := ns) (vs := vs) KX GL.g GL.b GL.nolimit GL.seer GL.builtins hg hL hI (by have := hc1; omega) F ?_ N0 c1 c2 c3 (fun s' m' F' hg' hos' => ?_)
    · rfl
    · refine goodW_bool F' hg' ?_ ?_ hos'
      · intro cls; rfl
      · wrow_post)
  
