import PyProof.Rows.All
import Wide.All
import OpenK.AllK
import Wide.FinOn
import Lean
import PySem.Challenge.RW_im0127_05
set_option autoImplicit false
set_option linter.all false
set_option linter.unusedVariables false
set_option Elab.async false
set_option pp.deepTerms false
set_option pp.deepTerms.threshold 3
set_option genSizeOf false
set_option genSizeOfSpec false
set_option bootstrap.genMatcherCode false
set_option compiler.extract_closed false
set_option maxRecDepth 1000000
set_option maxHeartbeats 8000000
set_option genInjectivity false
set_option tactic.hygienic false
noncomputable section
open PySem.Str (ofString)
section
namespace Go
open PySem
section
noncomputable def MaskOk (m:Nat) : Prop := m = 7 ∨ m = 15 ∨ m = 31 ∨ m = 63 ∨ m = 127 ∨ m = 255
noncomputable def lcg (m i:Nat) : Nat := (i * 5 + 1) % (m + 1)
noncomputable def lcgN (m:Nat) : Nat → Nat → Nat
  | 0, i => i
  | n + 1, i => lcgN m n (lcg m i)
theorem lcgN_succ (m n i:Nat) : lcgN m (n + 1) i = lcg m (lcgN m n i) := by
  induction n generalizing i with
  | zero => rfl
  | succ n ih => rw [lcgN, ih]; rfl
theorem lcgN_add (m a b i:Nat) : lcgN m (a + b) i = lcgN m a (lcgN m b i) := by
  induction b generalizing i with
  | zero => rfl
  | succ b ih => rw [← Nat.add_assoc, lcgN, ih, lcgN]
noncomputable def lcgList (m:Nat) : Nat → Nat → List Nat
  | 0, _ => []
  | n + 1, i => i :: lcgList m n (lcg m i)
theorem mem_lcgList {m:Nat} : ∀ {n i x:Nat}, x ∈ lcgList m n i → ∃ k, k < n ∧ lcgN m k i = x
  | n + 1, i, x, h => by
    rcases List.mem_cons.mp h with rfl | h
    · exact ⟨0, Nat.succ_pos _, rfl⟩
    · obtain ⟨k, hk, e⟩ := mem_lcgList h;exact ⟨k + 1, Nat.succ_lt_succ hk, e⟩
noncomputable def lcgCheck (m:Nat) : Bool := lcgN m (m + 1) 0 == 0 && (let l := lcgList m (m + 1) 0; (List.range (m + 1)).all fun x => l.contains x)
theorem lcgCheck_ok {m:Nat} (h:MaskOk m) : lcgCheck m = true := by
  rcases h with rfl | rfl | rfl | rfl | rfl | rfl <;> decide +kernel
theorem lcg_from0 {m x:Nat} (h:MaskOk m) (hx:x ≤ m) : ∃ k, k < m + 1 ∧ lcgN m k 0 = x := by
  have c : (_ && _) = true := lcgCheck_ok h;exact mem_lcgList (List.contains_iff_mem.mp (List.all_eq_true.mp (Bool.and_eq_true_iff.mp c).2 x (List.mem_range.mpr (Nat.lt_succ_of_le hx))))
theorem lcg_period {m:Nat} (h:MaskOk m) : lcgN m (m + 1) 0 = 0 := by
  have c : (_ && _) = true := lcgCheck_ok h;exact eq_of_beq (Bool.and_eq_true_iff.mp c).1
theorem lcg_cover {m i x:Nat} (h:MaskOk m) (hi:i ≤ m) (hx:x ≤ m) : ∃ k, k < m + 1 ∧ lcgN m k i = x := by
  obtain ⟨a, ha, ea⟩ := lcg_from0 h hi;obtain ⟨b, hb, eb⟩ := lcg_from0 h hx
  by_cases hab : a ≤ b
  · refine ⟨b - a, Nat.lt_of_le_of_lt (Nat.sub_le b a) hb, ?_⟩;rw [← ea, ← lcgN_add, Nat.sub_add_cancel hab]; exact eb
  · refine ⟨b + (m + 1 - a), Nat.lt_of_lt_of_eq (Nat.add_lt_add_right (Nat.lt_of_not_le hab) _) (Nat.add_sub_cancel' (Nat.le_of_lt ha)), ?_⟩;rw [← ea, ← lcgN_add, Nat.add_assoc b, Nat.sub_add_cancel (Nat.le_of_lt ha), lcgN_add, lcg_period h]; exact eb
noncomputable def adv (m:Nat) (p:SetTable.Probe) : SetTable.Probe :=
  if p.more > 0 then { p with j := p.j + 1, more := p.more - 1 } else
  let q := SetTable.leap m p.i p.perturb
  { p with j := q.1, more := SetTable.runEnd m q.1 - q.1, i := q.1, perturb := q.2 }
theorem advance_eq (t:SetTable) (p:SetTable.Probe) : t.advance p = adv t.mask p := rfl
noncomputable def advN (m:Nat) : Nat → SetTable.Probe → SetTable.Probe
  | 0, p => p
  | n + 1, p => advN m n (adv m p)
theorem advN_succ (m n:Nat) (p:SetTable.Probe) : advN m (n + 1) p = adv m (advN m n p) := by
  induction n generalizing p with
  | zero => rfl
  | succ n ih => rw [advN, ih]; rfl
theorem advN_add (m a b:Nat) (p:SetTable.Probe) : advN m (a + b) p = advN m a (advN m b p) := by
  induction b generalizing p with
  | zero => rfl
  | succ b ih => rw [← Nat.add_assoc, advN, ih, advN]
structure POk (m:Nat) (p:SetTable.Probe) : Prop where
  i : p.i ≤ m
  j : p.j + p.more ≤ m
  more : p.more ≤ 9
  pert : p.perturb < 2 ^ 64
theorem runEnd_le {m i:Nat} (h:i ≤ m) : i ≤ SetTable.runEnd m i ∧ SetTable.runEnd m i ≤ m ∧ SetTable.runEnd m i - i ≤ 9 := by
  unfold SetTable.runEnd
  by_cases q : i + 9 ≤ m
  · rw [if_pos q]; exact ⟨Nat.le_add_right i 9, q, Nat.le_of_eq (Nat.add_sub_cancel_left ..)⟩
  · rw [if_neg q]; exact ⟨Nat.le_refl i, h, (Nat.sub_self i).symm ▸ Nat.zero_le 9⟩
theorem POk.adv {m:Nat} {p:SetTable.Probe} (h:POk m p) : POk m (adv m p) := by
  unfold Go.adv
  by_cases q : p.more > 0
  · rw [if_pos q];exact ⟨h.i, Nat.le_trans (Nat.le_of_eq ((Nat.add_assoc ..).trans (congrArg _ (Nat.add_sub_cancel' q)))) h.j, Nat.le_trans (Nat.sub_le ..) h.more, h.pert⟩
  · rw [if_neg q];have hq : (SetTable.leap m p.i p.perturb).1 ≤ m := Nat.le_of_lt_succ (Nat.mod_lt _ (Nat.succ_pos m));obtain ⟨r1, r2, r3⟩ := runEnd_le hq;exact ⟨hq, Nat.le_trans (Nat.le_of_eq (Nat.add_sub_cancel' r1)) r2, r3, Nat.lt_of_le_of_lt (Nat.div_le_self ..) h.pert⟩
theorem POk.advN {m:Nat} {p:SetTable.Probe} (h:POk m p) : ∀ n, POk m (advN m n p)
  | 0 => h
  | n + 1 => by rw [advN_succ]; exact (POk.advN h n).adv
theorem advN_more {m:Nat} : ∀ (n:Nat) (p:SetTable.Probe), p.more = n → ∃ q, advN m (n + 1) p = q ∧ q.i = (SetTable.leap m p.i p.perturb).1 ∧ q.j = q.i ∧ q.perturb = p.perturb / 32
  | 0, p, e => by
    refine ⟨_, rfl, ?_⟩;show (adv m p).i = _ ∧ (adv m p).j = (adv m p).i ∧ (adv m p).perturb = _;unfold adv; rw [if_neg (e ▸ Nat.lt_irrefl 0)]; exact ⟨rfl, rfl, rfl⟩
  | n + 1, p, e => by
    have h1 : adv m p = { p with j := p.j + 1, more := p.more - 1 } := by unfold adv; rw [if_pos (e ▸ Nat.succ_pos n)]
    obtain ⟨q, e1, e2, e3, e4⟩ := advN_more n (adv m p) (by rw [h1]; exact congrArg (· - 1) e);refine ⟨q, e1, ?_, e3, ?_⟩
    · rw [e2, h1]
    · rw [e4, h1]
theorem step10 {a d k:Nat} (h:a ≤ 9) (hd:d ≤ 10 * k) : a + 1 + d ≤ 10 * (k + 1) := Nat.le_trans (Nat.add_le_add (Nat.succ_le_succ h) hd) (Nat.le_of_eq (Nat.add_comm ..))
theorem run_head {m:Nat} : ∀ (k:Nat) {p:SetTable.Probe}, POk m p → ∃ d q, d ≤ 10 * (k + 1) ∧ advN m d p = q ∧ q.j = q.i ∧ q.perturb = p.perturb / 32 ^ (k + 1)
  | 0, p, h => by
    obtain ⟨q, e1, e2, e3, e4⟩ := advN_more (m := m) p.more p rfl;exact ⟨p.more + 1, q, Nat.succ_le_succ h.more, e1, e3, e4⟩
  | k + 1, p, h => by
    obtain ⟨d, q, hd, e1, e2, e3⟩ := run_head k h;have hq : POk m q := e1 ▸ h.advN d;obtain ⟨q', f1, f2, f3, f4⟩ := advN_more (m := m) q.more q rfl;refine ⟨(q.more + 1) + d, q', step10 hq.more hd, by rw [advN_add, e1, f1], f3, ?_⟩;rw [f4, e3, Nat.div_div_eq_div_mul, ← Nat.pow_succ]
theorem heads_lcg {m:Nat} : ∀ (k:Nat) {p:SetTable.Probe}, POk m p → p.perturb = 0 → p.j = p.i → ∃ d q, d ≤ 10 * k ∧ advN m d p = q ∧ q.j = lcgN m k p.i ∧ q.i = q.j ∧ q.perturb = 0
  | 0, p, _, hz, hj => ⟨0, p, Nat.le_refl 0, rfl, hj, hj.symm, hz⟩
  | k + 1, p, h, hz, hj => by
    obtain ⟨d, q, hd, e1, e2, e3, e4⟩ := heads_lcg k h hz hj;have hq : POk m q := e1 ▸ h.advN d;obtain ⟨q', f1, f2, f3, f4⟩ := advN_more (m := m) q.more q rfl;refine ⟨(q.more + 1) + d, q', step10 hq.more hd, by rw [advN_add, e1, f1], ?_, f3.symm, by rw [f4, e4]⟩;rw [f3, f2, lcgN_succ, ← e2, ← e3];unfold SetTable.leap lcg;dsimp only;rw [e4]
theorem cover {m:Nat} (hm:MaskOk m) {p:SetTable.Probe} (h:POk m p) {x:Nat} (hx:x ≤ m) : ∃ d, d < 10 * SetTable.turns m ∧ (advN m d p).j = x := by
  obtain ⟨d, q, hd, e1, e2, e3⟩ := run_head 12 h;have hq : POk m q := e1 ▸ h.advN d;have hz : q.perturb = 0 := by rw [e3]; apply Nat.div_eq_of_lt; exact Nat.lt_of_lt_of_le h.pert (by decide)
  obtain ⟨k, hk, ek⟩ := lcg_cover hm hq.i hx;obtain ⟨d', q', hd', f1, f2, _, _⟩ := heads_lcg k hq hz e2;refine ⟨d' + d, ?_, ?_⟩
  · exact Nat.lt_of_le_of_lt (Nat.add_le_add (Nat.le_trans hd' (Nat.mul_le_mul_left 10 (Nat.le_of_lt_succ hk))) hd) ((Nat.mul_add 10 m 13).symm ▸ Nat.mul_lt_mul_of_pos_left (Nat.add_lt_add_left (by decide) m) (by decide))
  rw [advN_add, e1, f1, f2, ek]
theorem bits_lt (h:Int) : SetTable.bits h < 2 ^ 64 := by
  unfold SetTable.bits;exact (Int.toNat_lt (Int.emod_nonneg h (by decide))).mpr (Int.emod_lt_of_pos h (by decide))
noncomputable def pstart (m:Nat) (h:Int) : SetTable.Probe :=
  let i := SetTable.bits h % (m + 1)
  { j := i, more := SetTable.runEnd m i - i, i, perturb := SetTable.bits h, dummy := none }
theorem pstart_ok (m:Nat) (h:Int) : POk m (pstart m h) := by
  have hi : SetTable.bits h % (m + 1) ≤ m := Nat.le_of_lt_succ (Nat.mod_lt _ (Nat.succ_pos m));obtain ⟨r1, r2, r3⟩ := runEnd_le hi;exact ⟨hi, Nat.le_trans (Nat.le_of_eq (Nat.add_sub_cancel' r1)) r2, r3, bits_lt h⟩
end
section
noncomputable def Rise (xs:Array Nat) : Prop := xs.toList.Pairwise (· < ·)
theorem Rise.lt {xs:Array Nat} (h:Rise xs) {i k x y:Nat} (hik:i < k) (hx:xs[i]? = some x) (hy:xs[k]? = some y) : x < y := by
  obtain ⟨hi, rfl⟩ := Array.getElem?_eq_some_iff.mp hx;obtain ⟨hk, rfl⟩ := Array.getElem?_eq_some_iff.mp hy;exact (List.pairwise_iff_getElem.mp h) i k hi hk hik
theorem mid_lt {lo hi:Nat} (h:lo < hi) : (lo + hi) / 2 < hi := Nat.div_lt_of_lt_mul (Nat.two_mul hi ▸ Nat.add_lt_add_right h hi)
theorem le_mid {lo hi:Nat} (h:lo < hi) : lo ≤ (lo + hi) / 2 := (Nat.le_div_iff_mul_le (by decide)).mpr (Nat.mul_two lo ▸ Nat.add_le_add_left (Nat.le_of_lt h) lo)
theorem below_go {xs:Array Nat} (h:Rise xs) (j:Nat) : ∀ (f lo hi:Nat), hi - lo ≤ f → lo ≤ hi → hi ≤ xs.size →
    (∀ i x, i < lo → xs[i]? = some x → x < j) → (∀ i x, hi ≤ i → xs[i]? = some x → j ≤ x) →
    ∃ p, SetTable.below.go xs j f lo hi = p ∧ p ≤ xs.size ∧ (∀ i x, i < p → xs[i]? = some x → x < j) ∧ (∀ i x, p ≤ i → xs[i]? = some x → j ≤ x)
  | 0, lo, hi, hf, hl, hs, h1, h2 => ⟨lo, rfl, Nat.le_trans hl hs, h1, fun i x hi' => h2 i x (Nat.le_trans (Nat.le_of_sub_eq_zero (Nat.le_zero.mp hf)) hi')⟩
  | f + 1, lo, hi, hf, hl, hs, h1, h2 => by
    unfold SetTable.below.go
    by_cases hlt : lo < hi
    · rw [if_pos hlt];have ml := mid_lt hlt;have lm := le_mid hlt;generalize (lo + hi) / 2 = mid at ml lm;have hm : mid < xs.size := Nat.lt_of_lt_of_le ml hs;have hmx : xs[mid]? = some (xs.getD mid j) := by
        rw [Array.getD_eq_getD_getElem?, Array.getElem?_eq_getElem hm]; rfl
      dsimp only;generalize xs.getD mid j = y at hmx ⊢
      by_cases hc : y < j
      · rw [if_pos hc];refine below_go h j f (mid + 1) hi (Nat.le_trans (Nat.sub_le_sub_left (Nat.succ_le_succ lm) hi) (Nat.pred_le_pred hf)) ml hs (fun i x hi' hx => ?_) h2;rcases Nat.lt_succ_iff_lt_or_eq.mp hi' with q | q
        · exact Nat.lt_trans (h.lt q hx hmx) hc
        · rw [q, hmx] at hx; cases hx; exact hc
      · rw [if_neg hc];refine below_go h j f lo mid (Nat.le_of_lt_succ (Nat.lt_of_lt_of_le (Nat.sub_lt_sub_right lm ml) hf)) lm (Nat.le_of_lt hm) h1 (fun i x hi' hx => ?_);rcases Nat.lt_or_eq_of_le hi' with q | q
        · exact Nat.le_trans (Nat.le_of_not_lt hc) (Nat.le_of_lt (h.lt q hmx hx))
        · rw [← q, hmx] at hx; cases hx; exact Nat.le_of_not_lt hc
    · rw [if_neg hlt];exact ⟨lo, rfl, Nat.le_trans hl hs, h1, fun i x hi' => h2 i x (Nat.le_trans (Nat.le_of_not_lt hlt) hi')⟩
theorem below_spec {xs:Array Nat} (h:Rise xs) (j:Nat) : SetTable.below xs j ≤ xs.size ∧ (∀ i x, i < SetTable.below xs j → xs[i]? = some x → x < j) ∧ (∀ i x, SetTable.below xs j ≤ i → xs[i]? = some x → j ≤ x) := by
  obtain ⟨p, e, r⟩ := below_go h j xs.size 0 xs.size (Nat.le_refl _) (Nat.zero_le _) (Nat.le_refl _) (fun i ww q => absurd q (Nat.not_lt_zero i)) (fun i x q hx => absurd (Array.getElem?_eq_some_iff.mp hx).1 (Nat.not_lt.mpr q));have : SetTable.below xs j = p := e;rw [this]; exact r
theorem below_mem {xs:Array Nat} (h:Rise xs) {j i:Nat} (hx:xs[i]? = some j) : SetTable.below xs j = i := by
  obtain ⟨_, h2, h3⟩ := below_spec h j
  by_cases hlt : i < SetTable.below xs j
  · exact absurd (h2 i j hlt hx) (Nat.lt_irrefl _)
  · by_cases e : SetTable.below xs j = i
    · exact e
    · have hb : SetTable.below xs j < i := Nat.lt_of_le_of_ne (Nat.le_of_not_lt hlt) e;have hbs : SetTable.below xs j < xs.size := Nat.lt_trans hb (Array.getElem?_eq_some_iff.mp hx).1;exact absurd (h.lt hb (Array.getElem?_eq_getElem hbs) hx) (Nat.not_lt.mpr (h3 _ _ (Nat.le_refl _) (Array.getElem?_eq_getElem hbs)))
theorem has_iff {xs:Array Nat} (h:Rise xs) (j:Nat) : SetTable.has xs j = true ↔ j ∈ xs.toList := by
  unfold SetTable.has;rw [beq_iff_eq];constructor
  · intro e; exact Array.mem_toList_iff.mpr (Array.mem_of_getElem? e)
  · intro hm;obtain ⟨i, hi⟩ := Array.getElem?_of_mem (Array.mem_toList_iff.mp hm);rw [below_mem h hi]; exact hi
theorem slot_live {t:SetTable} (h:Rise t.place) {i j:Nat} (hx:t.place[i]? = some j) : t.slot j = .live i := by
  unfold SetTable.slot;rw [below_mem h hx];exact if_pos (beq_iff_eq.mpr hx)
theorem slot_not {t:SetTable} (h:Rise t.place) {j:Nat} (hx:j ∉ t.place.toList) : t.slot j = if SetTable.has t.dummies j then .dummy else .empty := by
  unfold SetTable.slot;have : ¬ (t.place[SetTable.below t.place j]? == some j) = true := by
    intro e;exact hx ((has_iff h j).mp e)
  exact if_neg this
noncomputable def NonE (t:SetTable) (j:Nat) : Prop := j ∈ t.place.toList ∨ j ∈ t.dummies.toList
noncomputable def Rch (t:SetTable) (j:Nat) (h:Int) : Prop := ∃ N, (advN t.mask N (pstart t.mask h)).j = j ∧ ∀ n, n < N → NonE t (advN t.mask n (pstart t.mask h)).j
structure TOk (t:SetTable) (es:List (Int × Value)) : Prop where
  len : t.place.size = es.length
  mask : MaskOk t.mask
  rp : Rise t.place
  rd : Rise t.dummies
  disj : ∀ j, j ∈ t.place.toList → j ∉ t.dummies.toList
  lep : ∀ j, j ∈ t.place.toList → j ≤ t.mask
  led : ∀ j, j ∈ t.dummies.toList → j ≤ t.mask
  fill : t.fill * 5 < t.mask * 3
  reach : ∀ (i j:Nat) (e:Int × Value), t.place[i]? = some j → es[i]? = some e → Rch t j e.1
theorem pigeon : ∀ (m:Nat) (l:List Nat), l.length ≤ m → ∃ x, x ≤ m ∧ x ∉ l
  | m, l, h => by
    apply Classical.byContradiction;intro hn;have hall : ∀ x, x ∈ List.range (m + 1) → x ∈ l := fun x hx => by
      rw [List.mem_range] at hx;apply Classical.byContradiction;intro hc; exact hn ⟨x, Nat.le_of_lt_succ hx, hc⟩
    have := (List.nodup_range (n := m + 1)).length_le_of_subset hall;rw [List.length_range] at this;exact Nat.not_succ_le_self m (Nat.le_trans this h)
theorem lt_of_53 {a m:Nat} (h:a * 5 < m * 3) : a < m := Nat.lt_of_mul_lt_mul_right (a := 3) (Nat.lt_of_le_of_lt (Nat.mul_le_mul_left _ (by decide:3 ≤ 5)) h)
theorem TOk.exists_empty {t:SetTable} {es:List (Int × Value)} (T:TOk t es) : ∃ j, j ≤ t.mask ∧ ¬ NonE t j := by
  obtain ⟨j, h1, h2⟩ := pigeon t.mask (t.place.toList ++ t.dummies.toList) (by
    rw [List.length_append]
    exact Nat.le_of_lt (lt_of_53 T.fill))
  exact ⟨j, h1, fun hc => h2 (List.mem_append.mpr hc)⟩
end
section
noncomputable def setD (q:SetTable.Probe) (d:Option Nat) : SetTable.Probe := { q with dummy := d }
theorem adv_setD (m:Nat) (q:SetTable.Probe) (d:Option Nat) : adv m (setD q d) = setD (adv m q) d := by
  unfold adv setD; dsimp only; split <;> rfl
theorem setD_j (q:SetTable.Probe) (d:Option Nat) : (setD q d).j = q.j := rfl
noncomputable def Hit (t:SetTable) (hashAt:Nat → Int) (h:Int) (j:Nat) : Prop := t.slot j = .empty ∨ ∃ i, t.slot j = .live i ∧ hashAt i = h
noncomputable def PSpec (t:SetTable) (hashAt:Nat → Int) (h:Int) (fuel:Nat) (p:SetTable.Probe) (x:Option Nat) : Prop :=
  ∃ d dm, (∀ n, n < d → ¬ Hit t hashAt h (advN t.mask n p).j) ∧
      (dm = x ∨ ∃ n, n < d ∧ dm = some (advN t.mask n p).j ∧ t.slot (advN t.mask n p).j = .dummy) ∧
      ((t.slot (advN t.mask d p).j = .empty ∧ SetTable.probe.go t hashAt h fuel (setD p x) = some (.empty (advN t.mask d p).j dm)) ∨
       (∃ i, t.slot (advN t.mask d p).j = .live i ∧ hashAt i = h ∧ SetTable.probe.go t hashAt h fuel (setD p x) = some (.candidate (advN t.mask d p).j i (setD (advN t.mask (d + 1) p) dm))))
theorem probe_go (t:SetTable) (hashAt:Nat → Int) (h:Int) : ∀ (fuel:Nat) (p:SetTable.Probe) (x:Option Nat),
    (∃ d, d < fuel ∧ Hit t hashAt h (advN t.mask d p).j) → PSpec t hashAt h fuel p x
  | 0, _, _, ⟨d, hd, _⟩ => absurd hd (Nat.not_lt_zero d)
  | fuel + 1, p, x, ⟨d, hd, hh⟩ => by
    have rest : ∀ y, ¬ Hit t hashAt h p.j → SetTable.probe.go t hashAt h (fuel + 1) (setD p x) = SetTable.probe.go t hashAt h fuel (setD (adv t.mask p) y) →
        (y = x ∨ (y = some p.j ∧ t.slot p.j = .dummy)) → PSpec t hashAt h (fuel + 1) p x := fun y hn e hy => by
      have hd0 : d ≠ 0 := fun q => by subst q; exact hn hh
      obtain ⟨d', rfl⟩ : ∃ d', d = d' + 1 := ⟨d - 1, (Nat.succ_pred hd0).symm⟩;obtain ⟨d₁, dm, h1, h2, h3⟩ := probe_go t hashAt h fuel (adv t.mask p) y ⟨d', Nat.lt_of_succ_lt_succ hd, hh⟩;refine ⟨d₁ + 1, dm, fun n hn' => ?_, ?_, ?_⟩
      · cases n with
        | zero => exact hn
        | succ n => exact h1 n (Nat.lt_of_succ_lt_succ hn')
      · rcases h2 with e2 | ⟨n, hn', e2⟩
        · rcases hy with e3 | ⟨e3, e4⟩
          · exact .inl (e2.trans e3)
          · exact .inr ⟨0, Nat.succ_pos _, e2.trans e3, e4⟩
        · exact .inr ⟨n + 1, Nat.succ_lt_succ hn', e2⟩
      · rw [e]; exact h3
    cases hs : t.slot p.j with
    | empty =>
      refine ⟨0, x, fun n hn => absurd hn (Nat.not_lt_zero n), .inl rfl, .inl ⟨hs, ?_⟩⟩;rw [SetTable.probe.go, setD_j, hs]; rfl
    | dummy =>
      refine rest (some p.j) (fun q => ?_) ?_ (.inr ⟨rfl, hs⟩)
      · rcases q with q | ⟨i, q, _⟩ <;> rw [hs] at q <;> cases q
      · rw [SetTable.probe.go, setD_j, hs];dsimp only;rw [advance_eq];show _ = SetTable.probe.go t hashAt h fuel (setD (adv t.mask p) (some p.j));rw [← adv_setD]; rfl
    | live i =>
      by_cases hi : hashAt i = h
      · refine ⟨0, x, fun n hn => absurd hn (Nat.not_lt_zero n), .inl rfl, .inr ⟨i, hs, hi, ?_⟩⟩;rw [SetTable.probe.go, setD_j, hs];dsimp only;rw [if_pos (by rw [beq_iff_eq]; exact hi), advance_eq, adv_setD]; rfl
      · refine rest x (fun q => ?_) ?_ (.inl rfl)
        · rcases q with q | ⟨i', q, q'⟩ <;> rw [hs] at q <;> cases q
          exact hi q'
        · rw [SetTable.probe.go, setD_j, hs];dsimp only;rw [if_neg (by rw [beq_iff_eq]; exact hi), advance_eq, adv_setD]
theorem slot_cases {t:SetTable} {es:List (Int × Value)} (T:TOk t es) (j:Nat) :
    (t.slot j = .empty ∧ ¬ NonE t j) ∨ (t.slot j = .dummy ∧ j ∉ t.place.toList ∧ j ∈ t.dummies.toList) ∨ (∃ i, t.slot j = .live i ∧ t.place[i]? = some j) := by
  by_cases h : j ∈ t.place.toList
  · obtain ⟨i, hi⟩ := Array.getElem?_of_mem (Array.mem_toList_iff.mp h);exact .inr (.inr ⟨i, slot_live T.rp hi, hi⟩)
  · by_cases hd : j ∈ t.dummies.toList
    · refine .inr (.inl ⟨?_, h, hd⟩);rw [slot_not T.rp h, (has_iff T.rd j).mpr hd]; rfl
    · refine .inl ⟨?_, fun q => q.elim h hd⟩;rw [slot_not T.rp h, if_neg (fun e => hd ((has_iff T.rd j).mp e))]
theorem TOk.nonE_of {t:SetTable} {es:List (Int × Value)} (T:TOk t es) {j:Nat} (h:t.slot j ≠ .empty) : NonE t j := by
  rcases slot_cases T j with ⟨e, _⟩ | ⟨_, _, hd⟩ | ⟨i, _, hi⟩
  · exact absurd e h
  · exact .inr hd
  · exact .inl (Array.mem_toList_iff.mpr (Array.mem_of_getElem? hi))
noncomputable abbrev jAt (t:SetTable) (h:Int) (k:Nat) : Nat := (advN t.mask k (pstart t.mask h)).j
inductive Dq (t:SetTable) (h:Int) (n:Nat) (x:Option Nat) (d:Nat) : Option Nat → Prop
  | old : Dq t h n x d x
  | new (k:Nat) (l:n ≤ k) (hk:k < d) (e:t.slot (jAt t h k) = .dummy) : Dq t h n x d (some (jAt t h k))
inductive Pq (t:SetTable) (hashAt:Nat → Int) (h:Int) (d:Nat) (dm:Option Nat) (r:Option SetTable.Met) : Prop
  | emp (e:¬ NonE t (jAt t h d)) (q:r = some (.empty (jAt t h d) dm))
  | hit (i:Nat) (e:t.place[i]? = some (jAt t h d)) (e1:t.slot (jAt t h d) = .live i) (e2:hashAt i = h) (q:r = some (.candidate (jAt t h d) i (setD (advN t.mask (d + 1) (pstart t.mask h)) dm)))
structure PqR (t:SetTable) (hashAt:Nat → Int) (h:Int) (n:Nat) (x:Option Nat) (d:Nat) (dm:Option Nat) : Prop where
  l : n ≤ d
  v : ∀ k, n ≤ k → k < d → NonE t (jAt t h k)
  w : ∀ k, n ≤ k → k < d → ∀ i, t.place[i]? = some (jAt t h k) → hashAt i ≠ h
  m : Dq t h n x d dm
  r : Pq t hashAt h d dm (t.probe hashAt h (setD (advN t.mask n (pstart t.mask h)) x))
theorem TOk.empty_of {t:SetTable} {es:List (Int × Value)} (T:TOk t es) {j:Nat} (h:¬ NonE t j) : t.slot j = .empty := by
  rcases slot_cases T j with ⟨e, _⟩ | ⟨_, _, hd⟩ | ⟨i, _, hi⟩
  · exact e
  · exact absurd (.inr hd) h
  · exact absurd (.inl (Array.mem_toList_iff.mpr (Array.mem_of_getElem? hi))) h
theorem TOk.not_of {t:SetTable} {es:List (Int × Value)} (T:TOk t es) {j:Nat} (h:t.slot j = .empty) : ¬ NonE t j := by
  rcases slot_cases T j with ⟨_, q⟩ | ⟨q, _⟩ | ⟨i, q, _⟩
  · exact q
  · exact nomatch h.symm.trans q
  · exact nomatch h.symm.trans q
theorem TOk.live_of {t:SetTable} {es:List (Int × Value)} (T:TOk t es) {j i:Nat} (h:t.slot j = .live i) : t.place[i]? = some j := by
  rcases slot_cases T j with ⟨q, _⟩ | ⟨q, _⟩ | ⟨i', q, hi⟩
  · exact nomatch h.symm.trans q
  · exact nomatch h.symm.trans q
  · have := h.symm.trans q; cases this; exact hi
theorem TOk.probe {t:SetTable} {es:List (Int × Value)} (T:TOk t es) (hashAt:Nat → Int) (h:Int) (n:Nat) (x:Option Nat) : ∃ d dm, PqR t hashAt h n x d dm := by
  obtain ⟨j, hj, hne⟩ := T.exists_empty;obtain ⟨d₀, hd₀, e₀⟩ := cover T.mask ((pstart_ok t.mask h).advN n) hj;obtain ⟨d, dm, h1, h2, h3⟩ := probe_go t hashAt h (10 * SetTable.turns t.mask) (advN t.mask n (pstart t.mask h)) x ⟨d₀, hd₀, .inl (e₀.symm ▸ T.empty_of hne)⟩;have sh : ∀ k, (advN t.mask k (advN t.mask n (pstart t.mask h))) = advN t.mask (k + n) (pstart t.mask h) := fun k => (advN_add _ _ _ _).symm;have hh : ∀ k, n ≤ k → k < d + n → ¬ Hit t hashAt h (jAt t h k) := fun k hk hkd => by
    have := h1 (k - n) (Nat.sub_lt_right_of_lt_add hk hkd)
    rwa [sh, Nat.sub_add_cancel hk] at this
  refine ⟨d + n, dm, Nat.le_add_left n d, fun k hk hkd => T.nonE_of fun e => hh k hk hkd (.inl e), fun k hk hkd i hi e => hh k hk hkd (.inr ⟨i, slot_live T.rp hi, e⟩), ?_, ?_⟩
  · rcases h2 with e | ⟨k, hk, e1, e2⟩
    · rw [e]; exact .old
    · rw [sh] at e1 e2; rw [e1]; exact .new (k + n) (Nat.le_add_left n k) (Nat.add_lt_add_right hk n) e2
  · rw [sh] at h3;rcases h3 with ⟨e1, e2⟩ | ⟨i, e1, e2, e3⟩
    · exact .emp (T.not_of e1) e2
    · rw [sh, Nat.add_right_comm d 1 n] at e3; exact .hit i (T.live_of e1) e1 e2 e3
end
section
structure TB (t:SetTable) (es:List (Int × Value)) : Prop where
  len : t.place.size = es.length
  mask : MaskOk t.mask
  rp : Rise t.place
  rd : Rise t.dummies
  disj : ∀ j, j ∈ t.place.toList → j ∉ t.dummies.toList
  lep : ∀ j, j ∈ t.place.toList → j ≤ t.mask
  led : ∀ j, j ∈ t.dummies.toList → j ≤ t.mask
  reach : ∀ (i j:Nat) (e:Int × Value), t.place[i]? = some j → es[i]? = some e → Rch t j e.1
theorem TOk.tb {t:SetTable} {es:List (Int × Value)} (T:TOk t es) : TB t es := ⟨T.len, T.mask, T.rp, T.rd, T.disj, T.lep, T.led, T.reach⟩
theorem TB.tok {t:SetTable} {es:List (Int × Value)} (T:TB t es) (h:t.fill * 5 < t.mask * 3) : TOk t es := ⟨T.len, T.mask, T.rp, T.rd, T.disj, T.lep, T.led, h, T.reach⟩
theorem getElem?_ins {α:Type} (l:List α) (p:Nat) (x:α) (hp:p ≤ l.length) (i:Nat) :
    (l.take p ++ x :: l.drop p)[i]? = if i < p then l[i]? else if i = p then some x else l[i - 1]? := by
  have hl : (l.take p).length = p := List.length_take_of_le hp
  by_cases h : i < p
  · rw [if_pos h, List.getElem?_append_left (Nat.lt_of_lt_of_eq h hl.symm), List.getElem?_take_of_lt h]
  · have hle := Nat.le_of_not_lt h;rw [if_neg h, List.getElem?_append_right (Nat.le_trans (Nat.le_of_eq hl) hle), hl];obtain ⟨k, rfl⟩ := Nat.exists_eq_add_of_le hle;rw [Nat.add_sub_cancel_left];cases k with
    | zero => exact (if_pos rfl).symm
    | succ k => rw [if_neg (Nat.ne_of_gt (Nat.lt_add_of_pos_right (Nat.succ_pos k))), List.getElem?_cons_succ, List.getElem?_drop]; rfl
theorem getElem?_del {α:Type} (l:List α) (p:Nat) (i:Nat) : (l.take p ++ l.drop (p + 1))[i]? = if i < p then l[i]? else l[i + 1]? := by
  rw [← List.eraseIdx_eq_take_drop_succ]; exact List.getElem?_eraseIdx
theorem length_ins {α:Type} (l:List α) (p:Nat) (x:α) : (l.take p ++ x :: l.drop p).length = l.length + 1 := by
  rw [List.length_append, List.length_cons, ← Nat.add_assoc, ← List.length_append, List.take_append_drop]
theorem length_del {α:Type} (l:List α) {p:Nat} (hp:p < l.length) : (l.take p ++ l.drop (p + 1)).length = l.length - 1 := by
  rw [← List.eraseIdx_eq_take_drop_succ]; exact List.length_eraseIdx_of_lt hp
theorem size_ins (xs:Array Nat) (p x:Nat) : (SetTable.insertAt xs p x).size = xs.size + 1 := by
  rw [← Array.length_toList, SetTable.toList_insertAt]; exact length_ins _ _ _
theorem toList_eraseAt {α:Type} (xs:Array α) (p:Nat) : (SetTable.eraseAt xs p).toList = xs.toList.take p ++ xs.toList.drop (p + 1) := by
  unfold SetTable.eraseAt;rw [Array.toList_append, Array.toList_extract, Array.toList_extract];simp [List.extract];exact List.take_of_length_le (by simp)
theorem size_del (xs:Array Nat) {p:Nat} (hp:p < xs.size) : (SetTable.eraseAt xs p).size = xs.size - 1 := by
  rw [← Array.length_toList, toList_eraseAt]; exact length_del _ hp
theorem rise_insert {xs:Array Nat} (h:Rise xs) {j:Nat} (hn:j ∉ xs.toList) : Rise (SetTable.insertAt xs (SetTable.below xs j) j) := by
  obtain ⟨h1, h2, h3⟩ := below_spec h j;unfold Rise;rw [SetTable.toList_insertAt];have hp := h;unfold Rise at hp;rw [← List.take_append_drop (SetTable.below xs j) xs.toList, List.pairwise_append] at hp;rw [List.pairwise_append];refine ⟨hp.1, List.pairwise_cons.mpr ⟨fun y hy => ?_, hp.2.1⟩, fun x hx y hy => ?_⟩
  · obtain ⟨i, hi⟩ := List.getElem?_of_mem hy;rw [List.getElem?_drop] at hi;exact Nat.lt_of_le_of_ne (h3 (SetTable.below xs j + i) y (Nat.le_add_right ..) (Array.getElem?_toList ▸ hi)) fun e => hn (e ▸ List.mem_of_mem_drop hy)
  · have hxj : x < j := by
      obtain ⟨i, hi⟩ := List.getElem?_of_mem hx;have hil : i < SetTable.below xs j := Nat.lt_of_lt_of_le (List.getElem?_eq_some_iff.mp hi).1 (List.length_take_le ..);rw [List.getElem?_take_of_lt hil] at hi;exact h2 i x hil (Array.getElem?_toList ▸ hi)
    rcases List.mem_cons.mp hy with rfl | hy
    · exact hxj
    · exact hp.2.2 x hx y hy
theorem rise_erase {xs:Array Nat} (h:Rise xs) (p:Nat) : Rise (SetTable.eraseAt xs p) := by
  unfold Rise;rw [toList_eraseAt];refine List.Pairwise.sublist ?_ h
  conv => rhs; rw [← List.take_append_drop p xs.toList]
  exact List.Sublist.append (List.Sublist.refl _) (by rw [← List.drop_drop]; exact List.drop_sublist _ _)
theorem mem_insertAt {α:Type} (xs:Array α) (p:Nat) (x y:α) : y ∈ (SetTable.insertAt xs p x).toList ↔ y = x ∨ y ∈ xs.toList := by
  rw [SetTable.toList_insertAt];constructor
  · intro h;rcases List.mem_append.mp h with h | h
    · exact .inr (List.mem_of_mem_take h)
    · rcases List.mem_cons.mp h with h | h
      · exact .inl h
      · exact .inr (List.mem_of_mem_drop h)
  · rintro (rfl | h)
    · exact List.mem_append_right _ List.mem_cons_self
    · rw [← List.take_append_drop p xs.toList] at h;rcases List.mem_append.mp h with h | h
      · exact List.mem_append_left _ h
      · exact List.mem_append_right _ (List.mem_cons_of_mem _ h)
theorem mem_eraseAt {xs:Array Nat} (h:Rise xs) {p j:Nat} (hj:xs[p]? = some j) (y:Nat) : y ∈ (SetTable.eraseAt xs p).toList ↔ y ≠ j ∧ y ∈ xs.toList := by
  have hp : p < xs.toList.length := (Array.getElem?_eq_some_iff.mp hj).1;have hj' : xs.toList[p]? = some j := Array.getElem?_toList.trans hj;rw [toList_eraseAt];have split : xs.toList = xs.toList.take p ++ j :: xs.toList.drop (p + 1) := by
    conv => lhs; rw [← List.take_append_drop p xs.toList]
    congr 1
    rw [List.drop_eq_getElem_cons hp]
    congr 1
    rw [List.getElem?_eq_getElem hp] at hj'; exact Option.some.inj hj'
  have nd : (xs.toList).Nodup := List.Pairwise.imp (fun h => Nat.ne_of_lt h) h;rw [split] at nd;have nd' := List.perm_middle.nodup_iff.mp nd;rw [List.nodup_cons] at nd';constructor
  · intro hy;refine ⟨fun e => nd'.1 (e ▸ hy), ?_⟩;rw [split];rcases List.mem_append.mp hy with hy | hy
    · exact List.mem_append_left _ hy
    · exact List.mem_append_right _ (List.mem_cons_of_mem _ hy)
  · rintro ⟨hne, hy⟩;rw [split] at hy;rcases List.mem_append.mp hy with hy | hy
    · exact List.mem_append_left _ hy
    · rcases List.mem_cons.mp hy with e | hy
      · exact absurd e hne
      · exact List.mem_append_right _ hy
theorem Rch.mono {t t':SetTable} {j:Nat} {h:Int} (r:Rch t j h) (hm:t'.mask = t.mask) (k:∀ j, NonE t j → NonE t' j) : Rch t' j h := by
  obtain ⟨N, e, a⟩ := r;unfold Rch;rw [hm];exact ⟨N, e, fun n hn => k _ (a n hn)⟩
theorem TB.put {t:SetTable} {es:List (Int × Value)} (T:TB t es) {j:Nat} {h:Int} {x:Value} (hj:j ≤ t.mask) (hn:j ∉ t.place.toList) (r:Rch t j h) :
    TB (t.put j).1 (es.take (t.put j).2 ++ (h, x) :: es.drop (t.put j).2) ∧ (t.put j).1.mask = t.mask ∧ (t.put j).1.plain = t.plain ∧ (t.put j).1.led = t.led ∧
      (t.put j).2 ≤ es.length ∧ ((t.put j).1.fill = if j ∈ t.dummies.toList then t.fill else t.fill + 1) := by
  have hb := (below_spec T.rp j).1;have hsz : SetTable.below t.place j ≤ es.length := by rw [← T.len]; exact hb
  have hdum : ∀ y, y ∈ (if SetTable.has t.dummies j then SetTable.eraseAt t.dummies (SetTable.below t.dummies j) else t.dummies).toList ↔ y ≠ j ∧ y ∈ t.dummies.toList := by
    intro y
    by_cases hd : j ∈ t.dummies.toList
    · rw [if_pos ((has_iff T.rd j).mpr hd)];have : t.dummies[SetTable.below t.dummies j]? = some j := by
        have := (has_iff T.rd j).mpr hd;unfold SetTable.has at this;exact beq_iff_eq.mp this
      exact mem_eraseAt T.rd this y
    · rw [if_neg (fun e => hd ((has_iff T.rd j).mp e))];exact ⟨fun hy => ⟨fun e => hd (e ▸ hy), hy⟩, fun hy => hy.2⟩
  have keep : ∀ y, NonE t y → NonE (t.put j).1 y := by
    intro y hy
    by_cases e : y = j
    · subst e; exact .inl ((mem_insertAt _ _ _ _).mpr (.inl rfl))
    · rcases hy with hy | hy
      · exact .inl ((mem_insertAt _ _ _ _).mpr (.inr hy))
      · exact .inr ((hdum y).mpr ⟨e, hy⟩)
  refine ⟨⟨?_, T.mask, rise_insert T.rp hn, ?_, fun y hy hy' => ?_, fun y hy => ?_, fun y hy => T.led y ((hdum y).mp hy).2, fun i j' e hi he => ?_⟩, rfl, rfl, rfl, hsz, ?_⟩
  · show (SetTable.insertAt t.place (SetTable.below t.place j) j).size = _;rw [size_ins, length_ins, T.len]
  · show Rise (if SetTable.has t.dummies j then _ else _)
    split
    · exact rise_erase T.rd _
    · exact T.rd
  · have h2 := (hdum y).mp hy';rcases (mem_insertAt _ _ _ _).mp hy with e | hy
    · exact h2.1 e
    · exact T.disj y hy h2.2
  · rcases (mem_insertAt _ _ _ _).mp hy with e | hy
    · subst e; exact hj
    · exact T.lep y hy
  · have hi' : (t.place.toList.take (SetTable.below t.place j) ++ j :: t.place.toList.drop (SetTable.below t.place j))[i]? = some j' := by
      rw [← SetTable.toList_insertAt, Array.getElem?_toList]; exact hi
    rw [getElem?_ins _ _ _ hb] at hi';rw [show (t.put j).2 = SetTable.below t.place j from rfl, getElem?_ins _ _ _ hsz] at he
    by_cases h1 : i < SetTable.below t.place j
    · rw [if_pos h1] at hi' he;exact (T.reach i j' e (Array.getElem?_toList ▸ hi') he).mono rfl keep
    · rw [if_neg h1] at hi' he
      by_cases h2 : i = SetTable.below t.place j
      · rw [if_pos h2] at hi' he;cases hi'; cases he;exact r.mono rfl keep
      · rw [if_neg h2] at hi' he;exact (T.reach (i - 1) j' e (Array.getElem?_toList ▸ hi') he).mono rfl keep
  · show (SetTable.insertAt t.place (SetTable.below t.place j) j).size + (if SetTable.has t.dummies j then SetTable.eraseAt t.dummies (SetTable.below t.dummies j) else t.dummies).size = _;rw [size_ins]
    by_cases hd : j ∈ t.dummies.toList
    · rw [if_pos hd, if_pos ((has_iff T.rd j).mpr hd)];have hbd : t.dummies[SetTable.below t.dummies j]? = some j := by
        have := (has_iff T.rd j).mpr hd;unfold SetTable.has at this;exact beq_iff_eq.mp this
      have hlt := (Array.getElem?_eq_some_iff.mp hbd).1;rw [size_del _ hlt, Nat.add_right_comm, Nat.add_assoc, Nat.sub_add_cancel (Nat.lt_of_le_of_lt (Nat.zero_le _) hlt)]; rfl
    · rw [if_neg hd, if_neg (fun e => hd ((has_iff T.rd j).mp e)), Nat.add_right_comm]; rfl
theorem TB.drop {t:SetTable} {es:List (Int × Value)} (T:TB t es) {i:Nat} (hi:i < es.length) :
    TB (t.drop i) (es.take i ++ es.drop (i + 1)) ∧ (t.drop i).mask = t.mask ∧ (t.drop i).plain = t.plain ∧ (t.drop i).led = t.led ∧ (t.drop i).fill = t.fill := by
  have hip : i < t.place.size := by rw [T.len]; exact hi
  have hj := Array.getElem?_eq_getElem hip;have e : t.drop i = { t with place := SetTable.eraseAt t.place i, dummies := SetTable.insertAt t.dummies (SetTable.below t.dummies t.place[i]) t.place[i] } := by
    unfold SetTable.drop; rw [hj]
  have hjm : t.place[i] ∈ t.place.toList := Array.mem_toList_iff.mpr (Array.mem_of_getElem? hj);have hnd := T.disj _ hjm;have keep : ∀ y, NonE t y → NonE (t.drop i) y := by
    intro y hy;rw [e]
    by_cases q : y = t.place[i]
    · exact .inr ((mem_insertAt _ _ _ _).mpr (.inl q))
    · rcases hy with hy | hy
      · exact .inl ((mem_eraseAt T.rp hj y).mpr ⟨q, hy⟩)
      · exact .inr ((mem_insertAt _ _ _ _).mpr (.inr hy))
  refine ⟨⟨?_, by rw [e]; exact T.mask, by rw [e]; exact rise_erase T.rp i, by rw [e]; exact rise_insert T.rd hnd, fun y hy hy' => ?_, fun y hy => ?_, fun y hy => ?_, fun k j' en hk he => ?_⟩, by rw [e], by rw [e], by rw [e], ?_⟩
  · rw [e];show (SetTable.eraseAt t.place i).size = _;rw [size_del _ hip, length_del _ hi, T.len]
  · rw [e] at hy hy';have h1 := (mem_eraseAt T.rp hj y).mp hy;rcases (mem_insertAt _ _ _ _).mp hy' with q | q
    · exact h1.1 q
    · exact T.disj y h1.2 q
  · rw [e] at hy ⊢;exact T.lep y ((mem_eraseAt T.rp hj y).mp hy).2
  · rw [e] at hy ⊢;rcases (mem_insertAt _ _ _ _).mp hy with q | q
    · rw [q]; exact T.lep _ hjm
    · exact T.led y q
  · have hk' : (t.place.toList.take i ++ t.place.toList.drop (i + 1))[k]? = some j' := by
      rw [e] at hk;rw [← toList_eraseAt, Array.getElem?_toList]; exact hk
    rw [getElem?_del] at hk' he
    by_cases h1 : k < i
    · rw [if_pos h1] at hk' he;exact (T.reach k j' en (Array.getElem?_toList ▸ hk') he).mono (by rw [e]) keep
    · rw [if_neg h1] at hk' he;exact (T.reach (k + 1) j' en (Array.getElem?_toList ▸ hk') he).mono (by rw [e]) keep
  · rw [e];show (SetTable.eraseAt t.place i).size + (SetTable.insertAt t.dummies (SetTable.below t.dummies t.place[i]) t.place[i]).size = _;rw [size_del _ hip, size_ins, ← Nat.add_assoc, Nat.add_right_comm, Nat.sub_add_cancel (Nat.lt_of_le_of_lt (Nat.zero_le _) hip)]; rfl
end
section
noncomputable def hd (m i pt:Nat) : SetTable.Probe := { j := i, more := SetTable.runEnd m i - i, i, perturb := pt, dummy := none }
theorem adv_run {m i pt:Nat} : ∀ k, k ≤ SetTable.runEnd m i - i → advN m k (hd m i pt) = { hd m i pt with j := i + k, more := SetTable.runEnd m i - i - k }
  | 0, _ => rfl
  | k + 1, h => by
    rw [advN_succ, adv_run k (Nat.le_of_succ_le h)];unfold adv;rw [if_pos (Nat.sub_pos_of_lt h)];rfl
theorem adv_next (m i pt:Nat) : advN m (SetTable.runEnd m i - i + 1) (hd m i pt) = hd m (SetTable.leap m i pt).1 (SetTable.leap m i pt).2 := by
  rw [advN_succ, adv_run _ (Nat.le_refl _)];unfold adv;rw [if_neg (Nat.not_lt.mpr (Nat.le_of_eq (Nat.sub_self _)))];rfl
noncomputable def leapN (m:Nat) : Nat → Nat × Nat → Nat × Nat
  | 0, x => x
  | n + 1, x => leapN m n (SetTable.leap m x.1 x.2)
theorem leapN_succ (m n:Nat) (x:Nat × Nat) : leapN m (n + 1) x = SetTable.leap m (leapN m n x).1 (leapN m n x).2 := by
  induction n generalizing x with
  | zero => rfl
  | succ n ih => rw [leapN, ih]; rfl
theorem leapN_add (m a b:Nat) (x:Nat × Nat) : leapN m (a + b) x = leapN m a (leapN m b x) := by
  induction b generalizing x with
  | zero => rfl
  | succ b ih => rw [← Nat.add_assoc, leapN, ih, leapN]
theorem leapN_le {m:Nat} {x:Nat × Nat} (h:x.1 ≤ m) : ∀ n, (leapN m n x).1 ≤ m
  | 0 => h
  | n + 1 => by
    rw [leapN_succ]; exact Nat.le_of_lt_succ (Nat.mod_lt _ (Nat.succ_pos m))
theorem leapN_pert (m:Nat) (x:Nat × Nat) : ∀ n, (leapN m n x).2 = x.2 / 32 ^ n
  | 0 => (Nat.div_one _).symm
  | n + 1 => by rw [leapN_succ]; show (leapN m n x).2 / 32 = _; rw [leapN_pert m x n, Nat.div_div_eq_div_mul, Nat.pow_succ]
theorem leapN_lcg {m i:Nat} : ∀ n, leapN m n (i, 0) = (lcgN m n i, 0)
  | 0 => rfl
  | n + 1 => by rw [leapN_succ, leapN_lcg n, lcgN_succ]; unfold SetTable.leap lcg; rw [Nat.zero_div]
theorem leap_cover {m:Nat} (hm:MaskOk m) {i pt:Nat} (hi:i ≤ m) (hp:pt < 2 ^ 64) {x:Nat} (hx:x ≤ m) : ∃ r, r < SetTable.turns m ∧ (leapN m r (i, pt)).1 = x := by
  have h13 : (leapN m 13 (i, pt)).2 = 0 := by rw [leapN_pert]; exact Nat.div_eq_of_lt (Nat.lt_of_lt_of_le hp (by decide))
  obtain ⟨k, hk, ek⟩ := lcg_cover hm (leapN_le (x := (i, pt)) hi 13) hx;refine ⟨k + 13, Nat.lt_of_lt_of_le (Nat.add_lt_add_right hk 13) (Nat.le_succ (m + 14)), ?_⟩;rw [leapN_add, show leapN m 13 (i, pt) = ((leapN m 13 (i, pt)).1, 0) from Prod.ext rfl h13, leapN_lcg, ek]
noncomputable def Full (owner:Array (Option Nat)) (j:Nat) : Prop := (owner.getD j (some 0)).isSome = true
theorem le_runEnd (m i:Nat) : i ≤ SetTable.runEnd m i := by
  unfold SetTable.runEnd
  by_cases q : i + 9 ≤ m
  · rw [if_pos q]; exact Nat.le_add_right ..
  · rw [if_neg q]; exact Nat.le_refl i
inductive Fr1 (m:Nat) (owner:Array (Option Nat)) (i pt:Nat) (r:Option Nat) : Prop
  | mk (j N:Nat) (e:r = some j) (f:¬ Full owner j) (a:(advN m N (hd m i pt)).j = j) (b:∀ n, n < N → Full owner (advN m n (hd m i pt)).j)
theorem free_spec {m:Nat} (owner:Array (Option Nat)) : ∀ (fuel i pt:Nat), (∃ r, r < fuel ∧ ¬ Full owner (leapN m r (i, pt)).1) → Fr1 m owner i pt (SetTable.layClean.free m owner fuel i pt) := by
  intro fuel
  induction fuel with
  | zero => exact fun i pt ⟨r, hr, _⟩ => absurd hr (Nat.not_lt_zero r)
  | succ fuel ih =>
    intro i pt ⟨r, hr, hf⟩;have hL : SetTable.runEnd m i + 1 - i = SetTable.runEnd m i - i + 1 := Nat.succ_sub (le_runEnd m i);unfold SetTable.layClean.free;cases hfind : (List.range (SetTable.runEnd m i + 1 - i)).find? (fun k => (owner.getD (i + k) (some 0)).isNone) with
    | some k =>
      obtain ⟨h1, h2, h3⟩ := List.find?_range_eq_some.mp hfind;have hk : k ≤ SetTable.runEnd m i - i := Nat.le_of_lt_succ (Nat.lt_of_lt_of_eq (List.mem_range.mp h2) hL);refine .mk (i + k) k rfl (fun q => ?_) (by rw [adv_run k hk]) fun n hn => ?_
      · unfold Full at q; rw [Option.isNone_iff_eq_none.mp h1] at q; cases q
      · rw [adv_run n (Nat.le_trans (Nat.le_of_lt hn) hk)];exact (Option.not_isNone _).symm.trans (h3 n hn)
    | none =>
      have hall : ∀ k, k < SetTable.runEnd m i - i + 1 → Full owner (i + k) := fun k hk => (Option.not_isNone _).symm.trans (List.find?_range_eq_none.mp hfind k (hL ▸ hk));cases r with
      | zero => exact absurd (hall 0 (Nat.succ_pos _)) hf
      | succ r' =>
        obtain ⟨j, N, e1, e2, e3, e4⟩ := ih (SetTable.leap m i pt).1 (SetTable.leap m i pt).2 ⟨r', Nat.lt_of_succ_lt_succ hr, hf⟩;refine .mk j (N + (SetTable.runEnd m i - i + 1)) e1 e2 (by rw [advN_add, adv_next]; exact e3) fun n hn => ?_
        by_cases hlt : n < SetTable.runEnd m i - i + 1
        · rw [adv_run n (Nat.le_of_lt_succ hlt)];exact hall n hlt
        · obtain ⟨q, rfl⟩ := Nat.exists_eq_add_of_le' (Nat.le_of_not_lt hlt);rw [advN_add, adv_next];exact e4 q (Nat.lt_of_add_lt_add_right hn)
structure LOk (m:Nat) (pl:List Nat) (hashes:List Int) (owner:Array (Option Nat)) : Prop where
  size : owner.size = m + 1
  nd : pl.Nodup
  le : ∀ j, j ∈ pl → j ≤ m
  own : ∀ (k j:Nat), pl[k]? = some j → owner[j]? = some (some k)
  emp : ∀ j, j ≤ m → j ∉ pl → owner[j]? = some none
  reach : ∀ (k j:Nat) (h:Int), pl[k]? = some j → hashes[k]? = some h → ∃ N, (advN m N (pstart m h)).j = j ∧ ∀ n, n < N → (advN m n (pstart m h)).j ∈ pl
theorem LOk.full {m:Nat} {pl:List Nat} {hashes:List Int} {owner:Array (Option Nat)} (L:LOk m pl hashes owner) {j:Nat} (hj:j ≤ m) : Full owner j ↔ j ∈ pl := by
  unfold Full;constructor
  · intro h;apply Classical.byContradiction;intro hn;have := L.emp j hj hn;rw [Array.getD_eq_getD_getElem?, this] at h;cases h
  · intro h;obtain ⟨k, hk⟩ := List.getElem?_of_mem h;rw [Array.getD_eq_getD_getElem?, L.own k j hk]; rfl
noncomputable def layStep (m:Nat) (acc:Option (Array (Option Nat) × Nat)) (h:Int) : Option (Array (Option Nat) × Nat) := do
  let (owner, k) ← acc;let j ← SetTable.layClean.free m owner (SetTable.turns m) (SetTable.bits h % (m + 1)) (SetTable.bits h)
  pure (owner.setIfInBounds j (some k), k + 1)
theorem layClean_eq (m:Nat) (hashes:Array Int) : SetTable.layClean m hashes = (hashes.toList.foldl (layStep m) (some (Array.replicate (m + 1) none, 0))).map (·.1) := by
  unfold SetTable.layClean;rw [← Array.foldl_toList]; rfl
theorem get_snoc {α:Type} {l:List α} {x y:α} {k:Nat} (h:(l ++ [x])[k]? = some y) : l[k]? = some y ∨ (k = l.length ∧ x = y) := by
  by_cases hk : k < l.length
  · rw [List.getElem?_append_left hk] at h; exact .inl h
  · obtain ⟨d, rfl⟩ := Nat.exists_eq_add_of_le (Nat.le_of_not_lt hk);rw [List.getElem?_append_right (Nat.le_add_right ..), Nat.add_sub_cancel_left] at h;cases d with
    | zero => exact .inr ⟨rfl, Option.some.inj h⟩
    | succ d => cases h
theorem pstart_le (m:Nat) (h:Int) (n:Nat) : (advN m n (pstart m h)).j ≤ m := Nat.le_trans (Nat.le_add_right _ _) ((pstart_ok m h).advN n).j
theorem LOk.add {m:Nat} {pl:List Nat} {done todo:List Int} {h:Int} {owner:Array (Option Nat)} (L:LOk m pl (done ++ h :: todo) owner) (hl:pl.length = done.length) {j N:Nat} (hj:j ≤ m) (hjn:j ∉ pl) (e3:(advN m N (pstart m h)).j = j) (e4:∀ n, n < N → Full owner (advN m n (pstart m h)).j) :
    LOk m (pl ++ [j]) (done ++ h :: todo) (owner.setIfInBounds j (some pl.length)) := by
  refine ⟨Array.size_setIfInBounds.trans L.size, List.nodup_append.mpr ⟨L.nd, List.nodup_cons.mpr ⟨(fun q => nomatch q), List.nodup_nil⟩, fun a ha b hb e => hjn (List.mem_singleton.mp hb ▸ e ▸ ha)⟩, fun y hy => ?_, fun k y hk => ?_, fun y hy hyn => ?_, fun k y g hk hg => ?_⟩
  · rcases List.mem_append.mp hy with hy | hy
    · exact L.le y hy
    · rw [List.mem_singleton.mp hy]; exact hj
  · rcases get_snoc hk with hk | ⟨rfl, rfl⟩
    · rw [Array.getElem?_setIfInBounds_ne (fun q:j = y => hjn (q ▸ List.mem_of_getElem? hk))];exact L.own k y hk
    · exact Array.getElem?_setIfInBounds_self_of_lt (L.size ▸ Nat.lt_succ_of_le hj)
  · rw [Array.getElem?_setIfInBounds_ne (fun q:j = y => hyn (List.mem_append_right _ (q ▸ .head _)))];exact L.emp y hy fun q => hyn (List.mem_append_left _ q)
  · rcases get_snoc hk with hk | ⟨rfl, rfl⟩
    · obtain ⟨N', f1, f2⟩ := L.reach k y g hk hg;exact ⟨N', f1, fun n hn => List.mem_append_left _ (f2 n hn)⟩
    · rw [hl, List.getElem?_append_right (Nat.le_refl _), Nat.sub_self] at hg;cases hg;exact ⟨N, e3, fun n hn => List.mem_append_left _ ((L.full (pstart_le ..)).mp (e4 n hn))⟩
theorem lay_all {m:Nat} (hm:MaskOk m) : ∀ (todo done:List Int) (pl:List Nat) (owner:Array (Option Nat)), LOk m pl (done ++ todo) owner → pl.length = done.length → done.length + todo.length ≤ m →
    ∃ pl' owner', todo.foldl (layStep m) (some (owner, done.length)) = some (owner', (done ++ todo).length) ∧ LOk m pl' (done ++ todo) owner' ∧ pl'.length = (done ++ todo).length := by
  intro todo
  induction todo with
  | nil =>
    intro done pl owner L hl _;rw [List.append_nil] at L ⊢;exact ⟨pl, owner, rfl, L, hl⟩
  | cons h todo ih =>
    intro done pl owner L hl hle;obtain ⟨x, hx1, hx2⟩ := pigeon m pl (Nat.le_trans (Nat.le_of_eq hl) (Nat.le_trans (Nat.le_add_right ..) hle));obtain ⟨r, hr, er⟩ := leap_cover hm (Nat.le_of_lt_succ (Nat.mod_lt (SetTable.bits h) (Nat.succ_pos m))) (bits_lt h) hx1;obtain ⟨j, N, e1, e2, e3, e4⟩ := free_spec owner (SetTable.turns m) (SetTable.bits h % (m + 1)) (SetTable.bits h) ⟨r, hr, er.symm ▸ fun q => hx2 ((L.full hx1).mp q)⟩;have hj : j ≤ m := e3 ▸ pstart_le m h N;have L' := L.add hl hj (fun q => e2 ((L.full hj).mpr q)) e3 e4;have ap : done ++ h :: todo = (done ++ [h]) ++ todo := (List.append_assoc done [h] todo).symm;have st : layStep m (some (owner, done.length)) h = some (owner.setIfInBounds j (some pl.length), (done ++ [h]).length) := by
      rw [List.length_append, hl];show (SetTable.layClean.free m owner _ _ _ >>= _) = _;rw [e1]; rfl
    rw [List.foldl_cons, st, ap];rw [ap] at L';refine ih (done ++ [h]) (pl ++ [j]) _ L' (by rw [List.length_append, List.length_append, hl]; rfl) ?_;rw [List.length_append, Nat.add_assoc, Nat.add_comm [h].length]; exact hle
theorem lay_clean {m:Nat} (hm:MaskOk m) (hashes:Array Int) (hle:hashes.size ≤ m) :
    ∃ pl owner, SetTable.layClean m hashes = some owner ∧ LOk m pl hashes.toList owner ∧ pl.length = hashes.size := by
  obtain ⟨pl, owner, h1, h2, h3⟩ := lay_all hm hashes.toList [] [] (Array.replicate (m + 1) none)
    ⟨Array.size_replicate, List.nodup_nil, (fun j q => nomatch q), (fun k j q => nomatch List.getElem?_nil.symm.trans q), fun j hj ww => by rw [Array.getElem?_replicate, if_pos (Nat.lt_succ_of_le hj)], fun k j h q => nomatch List.getElem?_nil.symm.trans q⟩ rfl ((Nat.zero_add _).symm ▸ hle)
  have h1 : hashes.toList.foldl (layStep m) (some (Array.replicate (m + 1) none, 0)) = some (owner, ([] ++ hashes.toList).length) := h1;exact ⟨pl, owner, by rw [layClean_eq, h1]; rfl, h2, h3⟩
end
section
theorem filterMap_range_get {α:Type} : ∀ (l:List α), (List.range l.length).filterMap (l[·]?) = l
  | [] => rfl
  | a :: l => by
    rw [List.length_cons, List.range_succ_eq_map, List.filterMap_cons];simp only [List.getElem?_cons_zero, List.filterMap_map]
    congr 1
    exact filterMap_range_get l
theorem filterMap_all {α β:Type} (f:α → Option β) : ∀ (l:List α), (∀ x, x ∈ l → (f x).isSome = true) → ∀ (i:Nat) (x:α), l[i]? = some x → (l.filterMap f)[i]? = f x
  | a :: l, h, 0, x, e => by
    simp at e; subst e;obtain ⟨b, hb⟩ := Option.isSome_iff_exists.mp (h a List.mem_cons_self);rw [List.filterMap_cons_some hb, hb]; rfl
  | a :: l, h, i + 1, x, e => by
    obtain ⟨b, hb⟩ := Option.isSome_iff_exists.mp (h a List.mem_cons_self);rw [List.filterMap_cons_some hb, List.getElem?_cons_succ];exact filterMap_all f l (fun y hy => h y (List.mem_cons_of_mem _ hy)) i x (by simpa using e)
theorem filterMap_all_len {α β:Type} (f:α → Option β) : ∀ (l:List α), (∀ x, x ∈ l → (f x).isSome = true) → (l.filterMap f).length = l.length
  | [], _ => rfl
  | a :: l, h => by
    obtain ⟨b, hb⟩ := Option.isSome_iff_exists.mp (h a List.mem_cons_self);rw [List.filterMap_cons_some hb, List.length_cons, List.length_cons, filterMap_all_len f l (fun y hy => h y (List.mem_cons_of_mem _ hy))]
theorem laid_ok {m:Nat} (hm:MaskOk m) (finger moves:Nat) (led plain:Bool) (es:Array (Int × Value)) (hf:es.size * 5 < m * 3) :
    ∃ t order, SetTable.laid m finger moves led plain (es.map (·.1)) = some (t, order) ∧ t.mask = m ∧ t.plain = plain ∧ t.led = led ∧
      (order.filterMap (es[·]?)).toList.Perm es.toList ∧ TOk t (order.filterMap (es[·]?)).toList := by
  obtain ⟨pl, owner, h1, L, h3⟩ := lay_clean hm (es.map (·.1)) (by rw [Array.size_map]; exact Nat.le_of_lt (lt_of_53 hf));have hpl : pl.length = es.toList.length := by rw [h3]; simp
  have fm : ∀ j, j ≤ m → (owner.getD j none).map (fun k => (j, k)) = (pl.zipIdx.find? (fun x => x.1 == j)) := by
    intro j hj
    by_cases hp : j ∈ pl
    · obtain ⟨k, hk⟩ := List.getElem?_of_mem hp;rw [Array.getD_eq_getD_getElem?, L.own k j hk]
      symm
      have hmem : (j, k) ∈ pl.zipIdx := List.mem_zipIdx_iff_getElem?.mpr hk;cases hq : pl.zipIdx.find? (fun x => x.1 == j) with
      | none => exact absurd (List.find?_eq_none.mp hq _ hmem) (by simp)
      | some y =>
        have y1 := List.find?_some hq;have y2 := List.mem_of_find?_eq_some hq;obtain ⟨y1', y2'⟩ := y;have y1 : y1' = j := by simpa using y1
        subst y1;have hk2 := List.mem_zipIdx_iff_getElem?.mp y2;have e1 := L.own k y1' hk;have e2 := L.own y2' y1' hk2;rw [e1] at e2; cases e2; rfl
    · rw [Array.getD_eq_getD_getElem?, L.emp j hj hp]
      symm
      apply List.find?_eq_none.mpr;rintro ⟨a, b⟩ hab;have := List.mem_zipIdx_iff_getElem?.mp hab;simp only [beq_iff_eq];rintro rfl;exact hp (List.mem_of_getElem? this)
  let live := (List.range (m + 1)).filterMap fun j => (owner.getD j none).map (fun k => (j, k));have mlive : ∀ x, x ∈ live ↔ x ∈ pl.zipIdx := by
    rintro ⟨j, k⟩;rw [List.mem_filterMap];constructor
    · rintro ⟨j', hj', e⟩;rw [fm j' (Nat.le_of_lt_succ (List.mem_range.mp hj'))] at e;exact List.mem_of_find?_eq_some e
    · intro h;have hk := List.mem_zipIdx_iff_getElem?.mp h;have hj : j ≤ m := L.le j (List.mem_of_getElem? hk);refine ⟨j, List.mem_range.mpr (Nat.lt_succ_of_le hj), ?_⟩;rw [Array.getD_eq_getD_getElem?, L.own k j hk]; rfl
  have rlive : live.Pairwise (fun a b => a.1 < b.1) := by
    refine List.Pairwise.filterMap _ (R := (· < ·)) ?_ List.pairwise_lt_range;intro a a' haa b hb b' hb';obtain ⟨x, _, rfl⟩ := Option.map_eq_some_iff.mp hb;obtain ⟨x', _, rfl⟩ := Option.map_eq_some_iff.mp hb';exact haa
  have nlive : live.Nodup := List.Pairwise.imp (fun {a b} (h:a.1 < b.1) (e:a = b) => by rw [e] at h; exact Nat.lt_irrefl _ h) rlive;have nzip : pl.zipIdx.Nodup := by
    have : (pl.zipIdx.map Prod.fst).Nodup := by rw [List.zipIdx_map_fst]; exact L.nd
    exact List.Pairwise.of_map Prod.fst (fun a b h e => h (by rw [e])) this
  have perm : live.Perm pl.zipIdx := (List.perm_ext_iff_of_nodup nlive nzip).mpr mlive;have hsome : ∀ x, x ∈ live.map (·.2) → (es.toList[x]?).isSome = true := by
    intro x hx;obtain ⟨⟨j, k⟩, hy, rfl⟩ := List.mem_map.mp hx;have := (List.getElem?_eq_some_iff.mp (List.mem_zipIdx_iff_getElem?.mp ((mlive _).mp hy))).1;have : k < es.toList.length := by rw [← hpl]; exact this
    simp only [List.getElem?_eq_getElem this]; rfl
  have eorder : ((live.map (·.2)).toArray.filterMap (es[·]?)).toList = (live.map (·.2)).filterMap (es.toList[·]?) := by
    rw [Array.toList_filterMap]
    congr 1
    funext x; simp
  refine ⟨_, (live.map (·.2)).toArray, by unfold SetTable.laid; rw [h1]; rfl, rfl, rfl, rfl, ?_, ?_⟩
  · rw [eorder];refine (List.Perm.filterMap _ (perm.map (·.2))).trans ?_;rw [List.zipIdx_map_snd, hpl, ← List.range_eq_range', filterMap_range_get]
  · rw [eorder];have hplace : ∀ (i j:Nat), (live.map (·.1)).toArray[i]? = some j → ∃ k, live[i]? = some (j, k) ∧ pl[k]? = some j := by
      intro i j hi;rw [List.getElem?_toArray, List.getElem?_map] at hi;obtain ⟨⟨j', k⟩, hk, rfl⟩ := Option.map_eq_some_iff.mp hi;exact ⟨k, hk, List.mem_zipIdx_iff_getElem?.mp ((mlive _).mp (List.mem_of_getElem? hk))⟩
    have hmem : ∀ j, j ∈ live.map (·.1) ↔ j ∈ pl := by
      intro j;rw [List.mem_map];constructor
      · rintro ⟨⟨j', k⟩, hx, rfl⟩; exact List.mem_of_getElem? (List.mem_zipIdx_iff_getElem?.mp ((mlive _).mp hx))
      · intro h;obtain ⟨k, hk⟩ := List.getElem?_of_mem h;exact ⟨(j, k), (mlive _).mpr (List.mem_zipIdx_iff_getElem?.mpr hk), rfl⟩
    refine ⟨?_, hm, ?_, List.Pairwise.nil, (fun ww ww h => (nomatch h)), fun j hj => L.le j ((hmem j).mp hj), (fun ww h => (nomatch h)), ?_, ?_⟩
    · show (live.map (·.1)).toArray.size = _;rw [filterMap_all_len _ _ hsome]; simp
    · exact List.pairwise_map.mpr rlive
    · show ((live.map (·.1)).toArray.size + 0) * 5 < m * 3;have : live.length = es.size := by rw [perm.length_eq, List.length_zipIdx, hpl, Array.length_toList]
      simp [this]; exact hf
    · intro i j e hi he;obtain ⟨k, hk1, hk2⟩ := hplace i j hi;rw [filterMap_all _ _ hsome i k (by rw [List.getElem?_map, hk1]; rfl)] at he;obtain ⟨N, r1, r2⟩ := L.reach k j e.1 hk2 (by simp at he ⊢; exact ⟨_, he⟩);exact ⟨N, r1, fun n hn => .inl ((hmem _).mpr (r2 n hn))⟩
theorem sizeAbove_all : ∀ n : Fin 256, (SetTable.sizeAbove n - 1 = 7 ∨ SetTable.sizeAbove n - 1 = 15 ∨ SetTable.sizeAbove n - 1 = 31 ∨ SetTable.sizeAbove n - 1 = 63 ∨ SetTable.sizeAbove n - 1 = 127 ∨ SetTable.sizeAbove n - 1 = 255) ∧ n ≤ SetTable.sizeAbove n - 1 ∧ SetTable.sizeAbove n ≤ 256 := by decide +kernel
theorem sizeAbove_ok {n:Nat} (h:n < 256) : MaskOk (SetTable.sizeAbove n - 1) ∧ n ≤ SetTable.sizeAbove n - 1 ∧ SetTable.sizeAbove n ≤ 256 := sizeAbove_all ⟨n, h⟩
theorem MaskOk.pos {m:Nat} (h:MaskOk m) : 0 < m := by
  rcases h with rfl | rfl | rfl | rfl | rfl | rfl <;> decide
theorem room_of {a w m:Nat} (h:a * 2 ≤ w) (hw:w ≤ m) (hm:0 < m) : a * 5 < m * 3 := by
  refine Nat.lt_of_mul_lt_mul_right (a := 2) ?_;rw [Nat.mul_right_comm, Nat.mul_assoc m];exact Nat.lt_of_le_of_lt (Nat.mul_le_mul_right 5 (Nat.le_trans h hw)) (Nat.mul_lt_mul_of_pos_left (by decide) hm)
theorem relaid_ok {t:SetTable} (es:Array (Int × Value)) {wanted:Nat} (hw:wanted < 256) (h:es.size * 2 ≤ wanted) :
    ∃ t' order, t.relaid (es.map (·.1)) wanted = some (t', order) ∧ t'.plain = t.plain ∧ t'.led = t.led ∧
      (order.filterMap (es[·]?)).toList.Perm es.toList ∧ TOk t' (order.filterMap (es[·]?)).toList ∧ wanted ≤ t'.mask := by
  obtain ⟨h1, h2, _⟩ := sizeAbove_ok hw;obtain ⟨t', order, e1, e2, e3, e4, e5, e6⟩ := laid_ok h1 t.finger (t.movedTo (SetTable.sizeAbove wanted - 1)) t.led t.plain es (room_of h h2 h1.pos);exact ⟨t', order, e1, e3, e4, e5, e6, e2.symm ▸ h2⟩
end
end Go
end
section
namespace Go
open PySem
theorem wp_ifn {α:Type} {M:Model} {A:Around} {E:Value → Shared → Prop} {s:Shared} {c:Prop} [Decidable c] {X Y:Sem α} {Q:α → Shared → Prop} (h:¬ c) (k:wpAny M A Y Q E s) : wpAny M A (if c then X else Y) Q E s := by rw [if_neg h]; exact k
theorem wp_ifp {α:Type} {M:Model} {A:Around} {E:Value → Shared → Prop} {s:Shared} {c:Prop} [Decidable c] {X Y:Sem α} {Q:α → Shared → Prop} (h:c) (k:wpAny M A X Q E s) : wpAny M A (if c then X else Y) Q E s := by rw [if_pos h]; exact k
theorem wp_led {α:Type} {M:Model} {A:Around} {E:Value → Shared → Prop} {s:Shared} {b:Bool} {X Y:Sem α} {Q:α → Shared → Prop} (hX:wpAny M A Y Q E s → wpAny M A X Q E s) (hY:wpAny M A Y Q E s) : wpAny M A (if b = true then X else Y) Q E s := by
  cases b with
  | false => exact hY
  | true => exact hX hY
section
variable (prog:Program) (w:World)
noncomputable abbrev PKey (h:Heap) (p:Int × Int) (x:Value) : Prop := ∃ a, x = .ref a ∧ IsTupleKey (intKind prog w) h [p.1, p.2] a
noncomputable def phash (p:Int × Int) : Int := tupleKeyHash (intKind prog w) [p.1, p.2]
open Classical in
noncomputable def ptOf (h:Heap) (x:Value) : Int × Int := if q : ∃ p, PKey prog w h p x then q.choose else (0, 0)
variable {prog w}
theorem PKey.inj {h:Heap} {p q:Int × Int} {x:Value} (a:PKey prog w h p x) (b:PKey prog w h q x) : p = q := by
  obtain ⟨a1, rfl, ha⟩ := a;obtain ⟨b1, e, hb⟩ := b;cases e;have := ha.inj hb;injection this with h1 h2
  injection h2 with h2 _
  exact Prod.ext h1 h2
theorem PKey.pt {h:Heap} {p:Int × Int} {x:Value} (a:PKey prog w h p x) : ptOf prog w h x = p := by
  unfold ptOf;rw [dif_pos ⟨p, a⟩];exact PKey.inj (Exists.choose_spec (⟨p, a⟩ : ∃ p, PKey prog w h p x)) a
noncomputable def TK (h h':Heap) : Prop := ∀ b o items n, h.get? b = some o → o.cls = .type "tuple" → o.data = .seq items n → h'.get? b = some o
theorem TK.of_keeps {h h':Heap} (k:∀ b o, h.get? b = some o → h'.get? b = some o) : TK h h' := fun b o ww ww e ww ww => k b o e
theorem PKey.keeps {h h':Heap} {p:Int × Int} {x:Value} (k:PKey prog w h p x) (hk:TK h h') : PKey prog w h' p x := by
  obtain ⟨a, rfl, o, items, n, ho, hc, hd, hi⟩ := k;exact ⟨a, rfl, o, items, n, hk _ _ _ _ ho hc hd, hc, hd, hi⟩
structure SetAt (prog:Program) (w:World) (h:Heap) (vs:List (Int × Int)) (es:Array (Int × Value)) (t:SetTable) : Prop where
  nd : vs.Nodup
  tok : TOk t es.toList
  plain : t.plain = true
  led : w.params.followText "set-order" = false → t.led = true
  perm : (es.toList.map (fun e => ptOf prog w h e.2)).Perm vs
  ent : ∀ e, e ∈ es.toList → ∃ p, PKey prog w h p e.2 ∧ e.1 = phash prog w p
namespace SetAt
variable {h h':Heap} {vs:List (Int × Int)} {es:Array (Int × Value)} {t:SetTable}
theorem fits (S:SetAt prog w h vs es t) : t.fits es.size = true := by
  unfold SetTable.fits;rw [Bool.and_eq_true, beq_iff_eq, decide_eq_true_eq];exact ⟨S.tok.len, Nat.le_of_lt (lt_of_53 S.tok.fill)⟩
theorem size (S:SetAt prog w h vs es t) : es.size = vs.length := by
  rw [← S.perm.length_eq, List.length_map, Array.length_toList]
theorem keeps (S:SetAt prog w h vs es t) (hk:TK h h') : SetAt prog w h' vs es t := by
  refine ⟨S.nd, S.tok, S.plain, S.led, ?_, fun e he => ?_⟩
  · have : es.toList.map (fun e => ptOf prog w h' e.2) = es.toList.map (fun e => ptOf prog w h e.2) := by
      apply List.map_congr_left;intro e he;obtain ⟨p, hp, _⟩ := S.ent e he;rw [hp.pt, (hp.keeps hk).pt]
    rw [this]; exact S.perm
  · obtain ⟨p, hp, e1⟩ := S.ent e he;exact ⟨p, hp.keeps hk, e1⟩
theorem gave (S:SetAt prog w h vs es t) : t.gaveWay = false := by
  unfold SetTable.gaveWay;rcases S.tok.mask with e | e | e | e | e | e <;> rw [e] <;> rfl
theorem at_ (S:SetAt prog w h vs es t) {i:Nat} {e:Int × Value} (hi:es.toList[i]? = some e) : ∃ p, PKey prog w h p e.2 ∧ e.1 = phash prog w p ∧ p ∈ vs := by
  obtain ⟨p, hp, e1⟩ := S.ent e (List.mem_of_getElem? hi);refine ⟨p, hp, e1, S.perm.mem_iff.mp (List.mem_map.mpr ⟨e, List.mem_of_getElem? hi, hp.pt⟩)⟩
theorem has (S:SetAt prog w h vs es t) {p:Int × Int} (hp:p ∈ vs) : ∃ (i:Nat) (e:Int × Value), es.toList[i]? = some e ∧ PKey prog w h p e.2 ∧ e.1 = phash prog w p := by
  obtain ⟨e, he, e1⟩ := List.mem_map.mp (S.perm.mem_iff.mpr hp);obtain ⟨q, hq, e2⟩ := S.ent e he;rw [hq.pt] at e1; subst e1;obtain ⟨i, hi⟩ := List.getElem?_of_mem he;exact ⟨i, e, hi, hq, e2⟩
end SetAt
end
section
variable {prog:Program} {w:World} {A:Around} {E:Value → Shared → Prop} {s:Shared}
theorem ofAClass_false {p:Int × Int} {x:Value} {Q:Bool → Shared → Prop} (k:PKey prog w s.heap p x) (h:Q false s) : wpAny (model prog w) A (ofAClassStatement 8 x) Q E s := by
  obtain ⟨a, rfl, o, items, n, ho, hc, hd, hi⟩ := k;unfold ofAClassStatement;refine wpAny_bind (m := typeOf (.ref a)) ?_;refine wpAny_bind (wpAny_loadPart ho (wpAny_pure ?_));rw [hc];refine wpAny_bind (wpAny_pure (wp_ifn (by decide) (wpAny_bind (wpAny_seqItems ho hd (wpAny_bind ?_)))));rw [← Array.forIn_toList];refine wpAny_forIn_list _ (fun rest r s' => r.1 = none ∧ s' = s ∧ ∀ v ∈ rest, carriedByValue v = true) _ ?_ ?_ _ _ ⟨rfl, rfl, hi.byValue⟩
  · rintro v rest r s' ⟨hr, rfl, hall⟩;have hv := hall v List.mem_cons_self;have : ofAClassStatement 7 v = pure false := by
      cases v <;> first | rfl | (simp [carriedByValue] at hv)
    rw [this];exact wpAny_bind (wpAny_pure (wp_ifn Bool.noConfusion (wpAny_pure ⟨rfl, rfl, fun u hu' => hall u (List.mem_cons_of_mem _ hu')⟩)))
  · rintro ⟨r1, r2⟩ s' ⟨hr, rfl, _⟩;obtain rfl : r1 = none := hr;exact wpAny_pure h
theorem quiet_pk {p:Int × Int} {x:Value} {Q:Bool → Shared → Prop} (k:PKey prog w s.heap p x) (h:Q true s) : wpAny (model prog w) A (eqIsQuiet 8 x) Q E s := by
  obtain ⟨a, rfl, hk⟩ := k;exact wpAny_eqIsQuiet_tuple hk h
theorem seen_false {p:Int × Int} {x:Value} {Q:Bool → Shared → Prop} (k:PKey prog w s.heap p x) (l:List Value) (hl:∀ y, y ∈ l → ∃ q, PKey prog w s.heap q y) (h:Q false s) :
    wpAny (model prog w) A (searchCouldBeSeen x l) Q E s := by
  unfold searchCouldBeSeen;refine wpAny_bind ?_;refine wpAny_forIn_list _ (fun rest r s' => r.1 = none ∧ s' = s ∧ ∀ y, y ∈ rest → ∃ q, PKey prog w s.heap q y) _ ?_ ?_ _ _ ⟨rfl, rfl, hl⟩
  · rintro y rest r s' ⟨hr, rfl, hall⟩;obtain ⟨q, hq⟩ := hall y List.mem_cons_self;have hrest : ∀ z, z ∈ rest → ∃ q, PKey prog w s'.heap q z := fun z hz => hall z (List.mem_cons_of_mem _ hz);have k0 := k;have hq0 := hq;obtain ⟨a, rfl, _⟩ := k;obtain ⟨b, rfl, _⟩ := hq;dsimp only
    by_cases hab : (a == b || carriedByValue (Value.ref a) && carriedByValue (Value.ref b)) = true
    · exact wp_ifp hab (wpAny_pure ⟨rfl, rfl, hrest⟩)
    · exact wp_ifn hab (wpAny_bind (quiet_pk k0 (wp_ifn (by decide) (wpAny_bind (quiet_pk hq0 (wp_ifn (by decide) (wpAny_bind (ofAClass_false k0 (wp_ifn (by decide) (wpAny_bind (ofAClass_false hq0 (wp_ifn (by decide) (wpAny_pure ⟨rfl, rfl, hrest⟩)))))))))))))
  · rintro ⟨r1, r2⟩ s' ⟨hr, rfl, _⟩;obtain rfl : r1 = none := hr;exact wpAny_pure h
theorem pk_hash {p:Int × Int} {x:Value} {Q:Int → Shared → Prop} (hu:A.units < cLine) (k:PKey prog w s.heap p x) (h:Q (phash prog w p) { s with toks := s.toks + 3 }) : wpAny (model prog w) A (pyHash x) Q E s := by
  obtain ⟨a, rfl, hk⟩ := k;exact wpAny_pyHash_tuple hu hk h
theorem pk_eq {p q:Int × Int} {x y:Value} {Q:Bool → Shared → Prop} (hu:A.units < cLine) (k:PKey prog w s.heap p x) (k':PKey prog w s.heap q y) (h:Q (decide (p = q)) s) : wpAny (model prog w) A (eqBool x y) Q E s := by
  obtain ⟨a, rfl, hk⟩ := k;obtain ⟨b, rfl, hk'⟩ := k';refine wpAny_eqBool_tuple hu hk hk' ?_;have : decide ([p.1, p.2] = [q.1, q.2]) = decide (p = q) := by
    obtain ⟨p1, p2⟩ := p; obtain ⟨q1, q2⟩ := q;simp
  rw [this]; exact h
end
end Go
end
section
namespace Go
open PySem
section
section
variable {prog:Program} {w:World} {A:Around} {E:Value → Shared → Prop} {s:Shared}
variable {a:Addr} {o:Obj} {es:Array (Int × Value)} {ep:Nat} {t:SetTable} {vs:List (Int × Int)} {p:Int × Int} {x:Value}
structure Sn (prog:Program) (w:World) (H:Heap) (es:Array (Int × Value)) (t:SetTable) (p:Int × Int) (k:Nat) : Prop where
  ne : NonE t (jAt t (phash prog w p) k)
  no : ∀ (i:Nat) (e:Int × Value), t.place[i]? = some (jAt t (phash prog w p) k) → es.toList[i]? = some e → ¬ PKey prog w H p e.2
inductive Dm (t:SetTable) (h:Int) (n:Nat) : Option Nat → Prop
  | no : Dm t h n none
  | yes (k:Nat) (hk:k < n) (e:t.slot (jAt t h k) = .dummy) : Dm t h n (some (jAt t h k))
theorem Dm.up {t:SetTable} {h:Int} {n m:Nat} (l:n ≤ m) : ∀ {x:Option Nat}, Dm t h n x → Dm t h m x
  | _, .no => .no
  | _, .yes k hk e => .yes k (Nat.lt_of_lt_of_le hk l) e
theorem same_self {M:Model} {b:Addr} {Q:Bool → Shared → Prop} (h:Q true s) : wpAny M A (isSame (.ref b) (.ref b)) Q E s := by
  unfold isSame;dsimp only;rw [if_pos (by rw [beq_self_eq_true])];exact wpAny_pure h
theorem SetAt.absent (S:SetAt prog w s.heap vs es t) {d:Nat} (hv:∀ k, k < d → Sn prog w s.heap es t p k) (hemp:¬ NonE t (jAt t (phash prog w p) d)) : p ∉ vs := fun hp => by
  obtain ⟨i, e, he, hk, e1⟩ := S.has hp;have hi : i < t.place.size := by rw [S.tok.len]; exact (List.getElem?_eq_some_iff.mp he).1
  obtain ⟨N, n1, n2⟩ := S.tok.reach i _ e (Array.getElem?_eq_getElem hi) he;rw [e1] at n1 n2;rcases Nat.lt_trichotomy N d with h | h | h
  · exact (hv N h).no i e (by rw [jAt, n1]; exact Array.getElem?_eq_getElem hi) he hk
  · exact hemp (h ▸ .inl (by rw [jAt, n1]; exact Array.mem_toList_iff.mpr (Array.getElem_mem hi)))
  · exact hemp (n2 d h)
theorem SetAt.jle (S:SetAt prog w s.heap vs es t) (k:Nat) : jAt t (phash prog w p) k ≤ t.mask := Nat.le_trans (Nat.le_add_right _ _) ((pstart_ok t.mask (phash prog w p)).advN k).j
theorem SetAt.dmy (S:SetAt prog w s.heap vs es t) {k:Nat} (e2:t.slot (jAt t (phash prog w p) k) = .dummy) : jAt t (phash prog w p) k ∉ t.place.toList ∧ jAt t (phash prog w p) k ∈ t.dummies.toList := by
  rcases slot_cases S.tok (jAt t (phash prog w p) k) with ⟨q, _⟩ | ⟨_, q⟩ | ⟨i, q, _⟩
  · rw [e2] at q; cases q
  · exact q
  · rw [e2] at q; cases q
theorem SetAt.hashE (S:SetAt prog w s.heap vs es t) {i:Nat} {e:Int × Value} (h:es.toList[i]? = some e) : (es[i]?.map (·.1)).getD 0 = e.1 := by
  rw [← Array.getElem?_toList, h]; rfl
theorem SetAt.stored (S:SetAt prog w s.heap vs es t) {y:Value} (hy:y ∈ (es.filter (fun x => x.1 == phash prog w p)).toList.map (·.2)) : ∃ q, PKey prog w s.heap q y := by
  obtain ⟨e, he, rfl⟩ := List.mem_map.mp hy;obtain ⟨q, hq, _⟩ := S.ent e (Array.mem_toList_iff.mpr (Array.mem_filter.mp (Array.mem_toList_iff.mp he)).1);exact ⟨q, hq⟩
theorem search_from (hu:A.units < cLine) (ho:s.heap.get? a = some o) (hd:o.data = .set es ep t) (S:SetAt prog w s.heap vs es t) (hx:PKey prog w s.heap p x) (adding:Bool) {Q:SetFound → Shared → Prop}
    (hin:∀ (i:Nat) (e:Int × Value), p ∈ vs → es.toList[i]? = some e → PKey prog w s.heap p e.2 → Q (.there (if adding then none else some i)) s)
    (hout:p ∉ vs → ∀ slot wd, slot ≤ t.mask → slot ∉ t.place.toList → Rch t slot (phash prog w p) → (wd = true ↔ slot ∈ t.dummies.toList) → Q (.free slot wd) s) :
    ∀ (fuel n:Nat) (dm:Option Nat) (stand:Option SetTable.Probe), stand.getD (t.probeStart (phash prog w p)) = setD (advN t.mask n (pstart t.mask (phash prog w p))) dm →
      (∀ k, k < n → Sn prog w s.heap es t p k) → Dm t (phash prog w p) n dm → (∃ Ne, ¬ NonE t (jAt t (phash prog w p) Ne) ∧ Ne < n + fuel) →
      wpAny (model prog w) A (setSearchFrom a x (phash prog w p) adding fuel stand) Q E s := by
  intro fuel
  induction fuel with
  | zero => exact fun n dm stand _ hvis _ ⟨Ne, h1, h2⟩ => absurd (hvis Ne h2).ne h1
  | succ fuel ih =>
    intro n dm stand hst hvis hdm ⟨Ne, hne, hNe⟩;have sts : ∀ {Q':(Array (Int × Value) × Nat × SetTable) → Shared → Prop}, Q' (es, ep, t) s → wpAny (model prog w) A (setState a) Q' E s := fun h => wpAny_setState_of ho hd S.fits h;refine wpAny_bind (sts (wp_ifn (c := t.gaveWay = true) (by rw [S.gave]; exact Bool.noConfusion) ?_));rw [hst];obtain ⟨d, dm', hnd, hv, hw, hdm', hres⟩ := S.tok.probe (fun i => (es[i]?.map (·.1)).getD 0) (phash prog w p) n dm;have hvis' : ∀ k, k < d → Sn prog w s.heap es t p k := fun k hk => by
      by_cases hkn : k < n
      · exact hvis k hkn
      · refine ⟨hv k (Nat.le_of_not_lt hkn) hk, fun i e hi he hp => ?_⟩;obtain ⟨q, hq, e1, _⟩ := S.at_ he;obtain rfl := hq.inj hp;exact hw k (Nat.le_of_not_lt hkn) hk i hi ((S.hashE he).trans e1)
    have hdm2 : Dm t (phash prog w p) d dm' := by
      cases hdm' with
      | old => exact hdm.up hnd
      | new k l hk e2 => exact .yes k hk e2
    clear hv hw hdm' hdm hvis hst;generalize hF : t.probe _ (phash prog w p) (setD (advN t.mask n (pstart t.mask (phash prog w p))) dm) = r;rcases hres with ⟨hemp, hpr⟩ | ⟨i, hpl, hsl, hh, hpr⟩
    · obtain rfl := hF.symm.trans hpr;have hnot := S.absent hvis' hemp;cases hdm2 with
      | no => exact wpAny_pure (hout hnot _ false (S.jle d) (fun q => hemp (.inl q)) ⟨d, rfl, fun k hk => (hvis' k hk).ne⟩ ⟨fun q => (nomatch q), fun q => absurd (.inr q) hemp⟩)
      | yes k hk e2 =>
        have h3 := S.dmy e2;refine wp_ifn (by rw [e2]; cases adding <;> exact Bool.noConfusion) ?_;exact wpAny_pure (hout hnot _ true (S.jle k) h3.1 ⟨k, rfl, fun k' hk' => (hvis' k' (Nat.lt_trans hk' hk)).ne⟩ ⟨fun ww => h3.2, fun ww => rfl⟩)
    · obtain rfl := hF.symm.trans hpr;clear hF hpr;have hi : i < es.toList.length := by rw [← S.tok.len]; exact (Array.getElem?_eq_some_iff.mp hpl).1
      have he := List.getElem?_eq_getElem hi;generalize es.toList[i] = e at he;obtain ⟨q, hq, e1, hqv⟩ := S.at_ he;have he' : es[i]? = some e := by rw [← Array.getElem?_toList]; exact he
      have same : t.sameMemory t.moves t.mask = some true := by unfold SetTable.sameMemory; simp
      obtain ⟨b, eb, _⟩ := id hq;dsimp only;refine wp_led (fun hY => wpAny_bind (seen_false hx _ (fun y hy => S.stored hy) (wp_ifn Bool.noConfusion hY))) ?_;rw [he'];dsimp only;refine wpAny_bind (wpAny_holding (pk_eq hu hq hx (wpAny_bind (sts ?_))));dsimp only
      by_cases hc : (adding && decide (q = p)) = true
      · refine wp_ifp hc ?_;obtain ⟨ha, hp⟩ := (Bool.and_eq_true ..).mp hc;have hp := of_decide_eq_true hp;have := hin i e (hp ▸ hqv) he (hp ▸ hq);rw [if_pos ha] at this;exact wpAny_pure this
      refine wp_ifn hc ?_;rw [same];dsimp only;rw [if_pos rfl, hsl];dsimp only;rw [he'];dsimp only;rw [eb];refine wpAny_bind (same_self ?_);rw [if_pos rfl];refine wpAny_bind (wpAny_pure ?_)
      by_cases hqp : q = p
      · have hd : decide (q = p) = true := decide_eq_true hqp;have := hin i e (hqp ▸ hqv) he (hqp ▸ hq);rw [if_neg fun z => hc ((Bool.and_eq_true ..).mpr ⟨z, hd⟩)] at this;exact wp_ifp hd (wpAny_pure this)
      · refine wp_ifn (fun z => hqp (of_decide_eq_true z)) (ih (d + 1) dm' _ rfl (fun k hk => ?_) (hdm2.up (Nat.le_succ d)) ⟨Ne, hne, Nat.lt_of_lt_of_le hNe (by rw [Nat.add_right_comm, ← Nat.add_assoc]; exact Nat.succ_le_succ (Nat.add_le_add_right hnd _))⟩);rcases Nat.lt_succ_iff_lt_or_eq.mp hk with hk | rfl
        · exact hvis' k hk
        · refine ⟨.inl (Array.mem_toList_iff.mpr (Array.mem_of_getElem? hpl)), fun i' e' hi' he2 hp' => ?_⟩;have h1 := slot_live S.tok.rp hi';rw [jAt, hsl] at h1; cases h1;cases he.symm.trans he2;exact hqp (hq.inj hp')
theorem set_search (hu:A.units < cLine) (ho:s.heap.get? a = some o) (hd:o.data = .set es ep t) (S:SetAt prog w s.heap vs es t) (hx:PKey prog w s.heap p x) (adding:Bool) {Q:SetFound → Shared → Prop}
    (hin:∀ (i:Nat) (e:Int × Value), p ∈ vs → es.toList[i]? = some e → PKey prog w s.heap p e.2 → Q (.there (if adding then none else some i)) s)
    (hout:p ∉ vs → ∀ slot wd, slot ≤ t.mask → slot ∉ t.place.toList → Rch t slot (phash prog w p) → (wd = true ↔ slot ∈ t.dummies.toList) → Q (.free slot wd) s) :
    wpAny (model prog w) A (setSearch a x (phash prog w p) adding) Q E s := by
  unfold setSearch;obtain ⟨j, hj, hne⟩ := S.tok.exists_empty;obtain ⟨Ne, hNe, e⟩ := cover S.tok.mask (pstart_ok t.mask (phash prog w p)) hj;refine search_from hu ho hd S hx adding hin hout 100000 0 none none rfl (fun k hk => absurd hk (Nat.not_lt_zero k)) .no ⟨Ne, by rw [jAt, e]; exact hne, ?_⟩;unfold SetTable.turns at hNe;rcases S.tok.mask with e | e | e | e | e | e <;> rw [e] at hNe <;> omega
end
end
section
section
variable {prog:Program} {w:World} {A:Around} {E:Value → Shared → Prop} {s:Shared}
variable {a:Addr} {o:Obj} {es:Array (Int × Value)} {ep:Nat} {t:SetTable} {vs:List (Int × Int)} {p:Int × Int} {x:Value}
theorem obj_self (hd:o.data = .set es ep t) : { o with data := .set es ep t } = o := by
  obtain ⟨c, d, dt, sl⟩ := o; dsimp only at hd; subst hd; rfl
theorem byScan_pk {h:Heap} (hx:PKey prog w h p x) (es:Array (Int × Value)) : byScan x es = false := by
  obtain ⟨a, rfl, _⟩ := hx; rfl
theorem set_contains (hu:A.units < cLine) (ho:s.heap.get? a = some o) (hd:o.data = .set es ep t) (S:SetAt prog w s.heap vs es t) (hx:PKey prog w s.heap p x) {Q:Bool → Shared → Prop}
    (h:Q (decide (p ∈ vs)) { s with toks := s.toks + 3 }) : wpAny (model prog w) A (setContains a x) Q E s := by
  unfold setContains;refine wpAny_holding (wpAny_bind (pk_hash hu hx (wpAny_bind ?_)));unfold setFind setFindIn;refine wpAny_bind (wpAny_setState_of ho hd S.fits ?_);refine wp_ifn (by rw [byScan_pk hx]; exact Bool.noConfusion) ?_;refine wpAny_bind (set_search (s := { s with toks := s.toks + 3 }) hu ho hd S hx false ?_ ?_)
  · intro i e hp _ _;dsimp only;refine wpAny_pure (wpAny_pure ?_);rw [decide_eq_true hp] at h; exact h
  · intro hp slot wd _ _ _ _;dsimp only;refine wpAny_pure (wpAny_pure ?_);rw [decide_eq_false hp] at h; exact h
theorem hashByValue_pk {Q:Bool → Shared → Prop} (hx:PKey prog w s.heap p x) (h:Q true s) : wpAny (model prog w) A (hashByValue 8 x) Q E s := by
  obtain ⟨b, rfl, hk⟩ := hx;have hT := hk.typeIs;obtain ⟨o, items, n, ho, hc, hd, hi⟩ := hk;unfold hashByValue;refine wpAny_bind (wpAny_specialOf hT F.slot_tuple_hash.lookup ?_);show wpAny _ _ (seqItems? (.ref b) >>= _) _ _ s;refine wpAny_bind (wpAny_seqItems ho hd ?_);refine wpAny_bind ?_;show wpAny _ _ (forIn items _ _) _ _ s;rw [← Array.forIn_toList];refine wpAny_forIn_list _ (fun rest r s' => r.1 = none ∧ s' = s ∧ ∃ ks, ItemsAre (intKind prog w) ks rest) _ ?_ ?_ _ _ ⟨rfl, rfl, _, hi⟩
  · rintro v rest r s' ⟨hr, rfl, ks, hks⟩;cases hks with
    | cons h1 h2 =>
      have : hashByValue 7 v = pure true := by
        cases v <;> first | rfl | (simp [intKind, Value.isInt] at h1)
      rw [this];exact wpAny_bind (wpAny_pure (wp_ifn (by decide) (wpAny_pure ⟨rfl, rfl, _, h2⟩)))
  · rintro ⟨r1, r2⟩ s' ⟨hr, rfl, _⟩;obtain rfl : r1 = none := hr;exact wpAny_pure h
theorem upd_set {h:Heap} (ho:h.get? a = some o) (hd:o.data = .set es ep t) (es':Array (Int × Value)) (t':SetTable) :
    (h.update a (Obj.putSet es' t')).get? a = some { o with data := .set es' (ep + 1) t' } := by
  rw [← putSet_of es' t' hd];exact Heap.get?_update_self _ ho (by rw [putSet_of es' t' hd]; rfl)
theorem tup_keeps {h h':Heap} (ho:h.get? a = some o) (hc:o.cls = .type "set") (hs:Heap.SameBut a h h') : TK h h' := by
  intro b ob _ _ hb hcb _
  by_cases e : b = a
  · subst e; rw [ho] at hb; cases hb; rw [hc] at hcb; simp at hcb
  · rw [hs.2 b e]; exact hb
structure EntsAt (prog:Program) (w:World) (h:Heap) (vs:List (Int × Int)) (es:List (Int × Value)) : Prop where
  perm : (es.map (fun e => ptOf prog w h e.2)).Perm vs
  ent : ∀ e, e ∈ es → ∃ p, PKey prog w h p e.2 ∧ e.1 = phash prog w p
theorem SetAt.ents {h:Heap} (S:SetAt prog w h vs es t) : EntsAt prog w h vs es.toList := ⟨S.perm, S.ent⟩
theorem EntsAt.of_perm {h:Heap} {l l':List (Int × Value)} (X:EntsAt prog w h vs l) (k:l'.Perm l) : EntsAt prog w h vs l' :=
  ⟨(k.map _).trans X.perm, fun e he => X.ent e (k.mem_iff.mp he)⟩
theorem EntsAt.keeps {h h':Heap} {l:List (Int × Value)} (X:EntsAt prog w h vs l) (hk:TK h h') : EntsAt prog w h' vs l := by
  refine ⟨?_, fun e he => ?_⟩
  · have : l.map (fun e => ptOf prog w h' e.2) = l.map (fun e => ptOf prog w h e.2) := by
      apply List.map_congr_left;intro e he;obtain ⟨p, hp, _⟩ := X.ent e he;rw [hp.pt, (hp.keeps hk).pt]
    rw [this]; exact X.perm
  · obtain ⟨p, hp, e1⟩ := X.ent e he;exact ⟨p, hp.keeps hk, e1⟩
theorem EntsAt.ins {h:Heap} {l:List (Int × Value)} (X:EntsAt prog w h vs l) (hx:PKey prog w h p x) (k:Nat) : EntsAt prog w h (p :: vs) (l.take k ++ (phash prog w p, x) :: l.drop k) := by
  have hp : (l.take k ++ (phash prog w p, x) :: l.drop k).Perm ((phash prog w p, x) :: l) := by
    refine List.perm_middle.trans ?_;rw [List.take_append_drop]
  refine EntsAt.of_perm ⟨?_, ?_⟩ hp
  · rw [List.map_cons, hx.pt]; exact X.perm.cons _
  · intro e he;rcases List.mem_cons.mp he with rfl | he
    · exact ⟨p, hx, rfl⟩
    · exact X.ent e he
theorem set_relay {wanted:Nat} (ho:s.heap.get? a = some o) (hd:o.data = .set es ep t) (hf:t.fits es.size = true) (hw:wanted < 256) (h2:es.size * 2 ≤ wanted) {Q:Unit → Shared → Prop}
    (h:∀ es' t', es'.toList.Perm es.toList → TOk t' es'.toList → t'.plain = t.plain → t'.led = t.led → wanted ≤ t'.mask → Q () { s with heap := s.heap.update a (Obj.putSet es' t') }) :
    wpAny (model prog w) A (setRelay a wanted) Q E s := by
  obtain ⟨t', order, e1, e2, e3, e4, e5, e6⟩ := relaid_ok (t := t) es hw h2;have hz : (order.filterMap (es[·]?)).size = es.size := by rw [← Array.length_toList, e4.length_eq, Array.length_toList]
  unfold setRelay;refine wpAny_bind (wpAny_setState_of ho hd hf ?_);dsimp only;rw [if_neg (by have := (sizeAbove_ok hw).2.2; rw [sizeLine_eq]; omega)];rw [e1];refine wpAny_bind (wp_ifn (c := ((order.filterMap (es[·]?)).size != es.size) = true) (by rw [hz]; simp) (wpAny_pure ?_));exact wpAny_storeSet_of ho hd (h _ _ e4 e5 e2 e3 e6) (by rw [hz]; have := hf; simp only [SetTable.fits, Bool.and_eq_true, beq_iff_eq] at this; rw [sizeLine_eq]; omega)
theorem set_addH (hu:A.units < cLine) (ho:s.heap.get? a = some o) (hc:o.cls = .type "set") (hd:o.data = .set es ep t) (S:SetAt prog w s.heap vs es t) (hx:PKey prog w s.heap p x) (sz:vs.length ≤ 60) {Q:Bool → Shared → Prop}
    (h:∀ h' es' ep' t' tk, Heap.SameBut a s.heap h' → h'.get? a = some { o with data := .set es' ep' t' } → SetAt prog w h' (if p ∈ vs then vs else p :: vs) es' t' → Q (!decide (p ∈ vs)) { s with heap := h', toks := tk }) :
    wpAny (model prog w) A (setAddHashed a x (phash prog w p)) Q E s := by
  unfold setAddHashed;refine wpAny_holding ?_;unfold setAddHashedIn;refine wpAny_bind (wpAny_setState_of ho hd S.fits ?_);refine wp_ifn (by rw [byScan_pk hx]; exact Bool.noConfusion) ?_;refine wpAny_bind (set_search (s := s) hu ho hd S hx true ?_ ?_)
  · intro i e hp _ _;dsimp only;refine wpAny_pure ?_;have := h s.heap es ep t s.toks (.refl ..) (by rw [obj_self hd]; exact ho) (by rw [if_pos hp]; exact S);rw [decide_eq_true hp] at this;exact this
  · intro hp slot wd hle hnp hr hwd;dsimp only;refine wpAny_bind (wpAny_setState_of (s := s) ho hd S.fits ?_);refine wp_ifp (show (t.put slot).1.plain = true from S.plain) (wpAny_bind (hashByValue_pk (s := s) hx ?_));rw [if_pos rfl];dsimp only;obtain ⟨T, hm, hpl, hl, hle2, hfill⟩ := S.tok.tb.put (x := x) hle hnp hr;have hsz : es.size = vs.length := S.size;have hins : (SetTable.insertAt es (t.put slot).2 (phash prog w p, x)).toList = es.toList.take (t.put slot).2 ++ (phash prog w p, x) :: es.toList.drop (t.put slot).2 := SetTable.toList_insertAt ..;have hisz : (SetTable.insertAt es (t.put slot).2 (phash prog w p, x)).size = es.size + 1 := by
      rw [← Array.length_toList, hins]; exact length_ins ..
    refine wpAny_bind (wpAny_storeSet_of (s := s) ho hd ?_ (by rw [hisz, hsz, sizeLine_eq]; omega));have hs1 : Heap.SameBut a s.heap (s.heap.update a (Obj.putSet (SetTable.insertAt es (t.put slot).2 (phash prog w p, x)) (t.put slot).1)) := .update ..;have hk1 := tup_keeps ho hc hs1;have X1 : EntsAt prog w (s.heap.update a (Obj.putSet (SetTable.insertAt es (t.put slot).2 (phash prog w p, x)) (t.put slot).1)) (p :: vs) (SetTable.insertAt es (t.put slot).2 (phash prog w p, x)).toList := by
      rw [hins]; exact ((S.ents).keeps hk1).ins (hx.keeps hk1) _
    have hg1 := upd_set ho hd (SetTable.insertAt es (t.put slot).2 (phash prog w p, x)) (t.put slot).1;have nd : (p :: vs).Nodup := List.nodup_cons.mpr ⟨hp, S.nd⟩;have hput : (t.put slot).1.plain = true := by rw [hpl]; exact S.plain
    have hfin : ∀ h' es' ep' t' tk, Heap.SameBut a s.heap h' → h'.get? a = some { o with data := .set es' ep' t' } → SetAt prog w h' (p :: vs) es' t' → Q true { s with heap := h', toks := tk } := by
      intro h' es' ep' t' tk q1 q2 q3;have := h h' es' ep' t' tk q1 q2 (by rw [if_neg hp]; exact q3);rw [decide_eq_false hp] at this;exact this
    by_cases hrel : (!wd && (t.put slot).1.tooFull) = true
    · rw [if_pos hrel];have hf1 : (t.put slot).1.fits (SetTable.insertAt es (t.put slot).2 (phash prog w p, x)).size = true := by
        unfold SetTable.fits;rw [Bool.and_eq_true, beq_iff_eq, decide_eq_true_eq];refine ⟨by rw [T.len, hisz]; exact length_ins .., ?_⟩;rw [hfill, hm];have := lt_of_53 S.tok.fill
        split
        · exact Nat.le_of_lt this
        · exact this
      refine wpAny_bind (set_relay (s := { s with heap := s.heap.update a (Obj.putSet (SetTable.insertAt es (t.put slot).2 (phash prog w p, x)) (t.put slot).1), toks := s.toks }) hg1 rfl hf1 ?_ ?_ ?_)
      · unfold SetTable.grown; rw [if_neg (by omega)]; omega
      · rw [hisz]; unfold SetTable.grown; rw [if_neg (by omega)]; omega
      · intro es' t' k1 k2 k3 k4 _;refine wpAny_pure ?_;have hs2 := hs1.trans (Heap.SameBut.update (s.heap.update a (Obj.putSet (SetTable.insertAt es (t.put slot).2 (phash prog w p, x)) (t.put slot).1)) a (Obj.putSet es' t'));have hk2 := tup_keeps hg1 hc (Heap.SameBut.update (s.heap.update a (Obj.putSet (SetTable.insertAt es (t.put slot).2 (phash prog w p, x)) (t.put slot).1)) a (Obj.putSet es' t'));have X2 := (X1.of_perm k1).keeps hk2;exact hfin _ es' _ t' _ hs2 (upd_set hg1 rfl es' t') ⟨nd, k2, k3.trans hput, fun q => (k4.trans hl).trans (S.led q), X2.perm, X2.ent⟩
    · rw [if_neg hrel];refine wpAny_pure ?_;have hfl : (t.put slot).1.fill * 5 < (t.put slot).1.mask * 3 := by
        by_cases hw : wd = true
        · rw [hfill, if_pos (hwd.mp hw), hm]; exact S.tok.fill
        · have : (t.put slot).1.tooFull = false := by
            cases q : (t.put slot).1.tooFull with
            | false => rfl
            | true => exact absurd (by rw [q, Bool.eq_false_iff.mpr hw]; rfl) hrel
          exact Nat.lt_of_not_le (of_decide_eq_false this)
      exact hfin _ _ _ _ _ hs1 hg1 ⟨nd, by rw [hins]; exact T.tok hfl, hput, fun q => hl.trans (S.led q), X1.perm, X1.ent⟩
theorem set_add (hu:A.units < cLine) (ho:s.heap.get? a = some o) (hc:o.cls = .type "set") (hd:o.data = .set es ep t) (S:SetAt prog w s.heap vs es t) (hx:PKey prog w s.heap p x) (sz:vs.length ≤ 60) {Q:Bool → Shared → Prop}
    (h:∀ h' es' ep' t' tk, Heap.SameBut a s.heap h' → h'.get? a = some { o with data := .set es' ep' t' } → SetAt prog w h' (if p ∈ vs then vs else p :: vs) es' t' → Q (!decide (p ∈ vs)) { s with heap := h', toks := tk }) :
    wpAny (model prog w) A (setAdd a x) Q E s := by
  unfold setAdd;exact wpAny_holding (wpAny_bind (pk_hash hu hx (set_addH (s := { s with toks := s.toks + 3 }) hu ho hc hd S hx sz h)))
end
theorem len_ins {rs:List (Int × Int)} {p:Int × Int} : (if p ∈ rs then rs else p :: rs).length ≤ rs.length + 1 := by
  split
  · exact Nat.le_succ _
  · exact Nat.le_refl _
end
section
section
variable {prog:Program} {w:World} {A:Around} {E:Value → Shared → Prop} {s:Shared} {a:Addr} {o:Obj} {es:Array (Int × Value)} {ep:Nat} {t:SetTable} {vs:List (Int × Int)} {p:Int × Int} {x:Value}
theorem setAt_fresh (h:Heap) : SetAt prog w h [] #[] (.fresh 0 0 (!w.params.followText "set-order")) := by
  refine ⟨List.nodup_nil, ⟨rfl, .inl rfl, List.Pairwise.nil, List.Pairwise.nil, (fun j h => nomatch h), (fun j h => nomatch h), (fun j h => nomatch h), (by show (0:Nat) + 0 < 7 * 3; decide), fun i j e h => nomatch (Array.getElem?_empty.symm.trans h)⟩, rfl, fun q => ?_, .refl _, (fun e h => nomatch h)⟩;show (!w.params.followText "set-order") = true;rw [q]; rfl
theorem EntsAt.del {h:Heap} {l:List (Int × Value)} (X:EntsAt prog w h vs l) (nd:vs.Nodup) {i:Nat} {e:Int × Value} (hi:l[i]? = some e) : ∃ q, PKey prog w h q e.2 ∧ q ∈ vs ∧ EntsAt prog w h (vs.erase q) (l.take i ++ l.drop (i + 1)) := by
  have hlt := (List.getElem?_eq_some_iff.mp hi).1;have hm : e ∈ l := List.mem_of_getElem? hi;obtain ⟨q, hq, he⟩ := X.ent e hm;have hl : l.Perm (e :: (l.take i ++ l.drop (i + 1))) := by
    have h1 : l = l.take i ++ e :: l.drop (i + 1) := by
      have h2 := List.drop_eq_getElem_cons hlt;rw [List.getElem?_eq_getElem hlt, Option.some.injEq] at hi;rw [hi] at h2;rw [← h2, List.take_append_drop]
    exact (List.Perm.of_eq h1).trans List.perm_middle
  have hp : (q :: (l.take i ++ l.drop (i + 1)).map (fun e => ptOf prog w h e.2)).Perm vs := by
    have := (hl.map (fun e => ptOf prog w h e.2)).symm.trans X.perm;rw [List.map_cons, hq.pt] at this;exact this
  refine ⟨q, hq, hp.mem_iff.mp List.mem_cons_self, ?_, fun e' h' => X.ent e' (hl.mem_iff.mpr (List.mem_cons_of_mem _ h'))⟩;have := hp.erase q
  rwa [List.erase_cons_head] at this
set_option tactic.hygienic true in
theorem set_pop (ho:s.heap.get? a = some o) (hc:o.cls = .type "set") (hd:o.data = .set es ep t) (S:SetAt prog w s.heap vs es t) (hne:vs ≠ []) (sz:vs.length ≤ 60) {Q:Option Value → Shared → Prop}
    (h:∀ h' es' ep' t' q x d, q ∈ vs → PKey prog w h' q x → Heap.SameBut a s.heap h' → h'.get? a = some { o with data := .set es' ep' t' } → SetAt prog w h' (vs.erase q) es' t' → Q (some x) { s with heap := h', drawn := d }) :
    wpAny (model prog w) A (setPop a) Q E s := by
  have hsz := S.size;have hlen := S.tok.len;have hpos : 0 < es.size := by rw [hsz]; exact List.length_pos_iff.mpr hne
  have hps : t.place.size = es.size := by rw [hlen, Array.length_toList]
  -- taking out one entry
  have fin : ∀ (i:Nat) (dd:Drawn) (hi:i < es.size), wpAny (model prog w) A (storeSet a (SetTable.eraseAt es i) (t.popped i)) (fun ww s' => Q (some es[i].2) s') E { s with drawn := dd } := by
    intro i dd hi;have hi' : es.toList[i]? = some es[i] := List.getElem?_eq_getElem hi;obtain ⟨q, hq, hm, X⟩ := S.ents.del S.nd hi';have her : (SetTable.eraseAt es i).toList = es.toList.take i ++ es.toList.drop (i + 1) := toList_eraseAt ..;obtain ⟨T, k1, k2, k3, k4⟩ := S.tok.tb.drop (i := i) hi;have hs1 : Heap.SameBut a s.heap (s.heap.update a (Obj.putSet (SetTable.eraseAt es i) (t.popped i))) := .update ..;have hk1 := tup_keeps ho hc hs1;have X1 := X.keeps hk1;have Tp : TOk (t.popped i) (es.toList.take i ++ es.toList.drop (i + 1)) := by
      have T' := T.tok (by rw [k4, k1]; exact S.tok.fill);exact ⟨T'.len, T'.mask, T'.rp, T'.rd, T'.disj, T'.lep, T'.led, T'.fill, T'.reach⟩
    exact wpAny_storeSet_of (s := { s with drawn := dd }) ho hd (h _ _ _ _ q _ dd hm (hq.keeps hk1) hs1 (upd_set ho hd _ _) ⟨S.nd.erase q, by rw [her]; exact Tp, k2.trans S.plain, fun z => k3.trans (S.led z), by rw [her]; exact X1.perm, by rw [her]; exact X1.ent⟩)
      (by rw [← Array.length_toList, her, sizeLine_eq, length_del _ hi]; exact Nat.le_trans (Nat.sub_le ..) (Nat.le_trans (Nat.le_of_eq hsz) (Nat.le_trans sz (by decide))))
  unfold setPop;refine wpAny_bind (wpAny_setState_of ho hd S.fits ?_);dsimp only;have hpp : t.popPlace = some (if SetTable.below t.place (t.finger % (t.mask + 1)) < t.place.size then SetTable.below t.place (t.finger % (t.mask + 1)) else 0) := by
    unfold SetTable.popPlace;rw [if_neg (by rw [Array.isEmpty_iff_size_eq_zero, hps]; exact Nat.ne_of_gt hpos)]
  rw [hpp];dsimp only;have hbi : (if SetTable.below t.place (t.finger % (t.mask + 1)) < t.place.size then SetTable.below t.place (t.finger % (t.mask + 1)) else 0) < es.size := by
    split
    · rename_i z; exact hps ▸ z
    · exact hpos
  generalize (if SetTable.below t.place (t.finger % (t.mask + 1)) < t.place.size then SetTable.below t.place (t.finger % (t.mask + 1)) else 0) = j at hbi ⊢;have hdr : (!t.plain && decide (es.size > 1)) = false := by rw [S.plain]; rfl
  unfold setsByText;refine wpAny_bind (wpAny_bind (wpAny_askSetting (wpAny_pure ?_)));cases q : w.params.followText "set-order" with
  | true =>
    refine wp_ifp (c := (w.params.followText "set-order" || (!t.plain && decide (es.size > 1))) = true) (by rw [q]; rfl) (wpAny_bind (fun Γ pp hΓ => ?_));unfold choose;rw [Sem.wp_choose];refine ⟨Nat.ne_of_gt hpos, ?_⟩;rw [Sem.wp];dsimp only;rw [Array.getElem?_eq_getElem (Nat.mod_lt _ hpos)];exact wpAny_bind (wpAny_mono (fin _ (s.drawn.bump .order) (Nat.mod_lt _ hpos)) (fun ww ww q => wpAny_pure q) fun ww ww e => e)
  | false =>
    refine wp_ifn (c := (w.params.followText "set-order" || (!t.plain && decide (es.size > 1))) = true) (by rw [q, hdr]; exact Bool.noConfusion) (wpAny_bind (wp_ifn (c := (!t.led && decide (es.size > 1)) = true) (by rw [S.led q]; exact Bool.noConfusion) (wpAny_pure (wpAny_bind (wpAny_pure ?_)))));rw [Array.getElem?_eq_getElem hbi];exact wpAny_bind (wpAny_mono (fin j s.drawn hbi) (fun ww ww q => wpAny_pure q) fun ww ww e => e)
end
end
end Go
end
section
namespace Go
open PySem
theorem bne_self_ne {α:Type} [BEq α] [LawfulBEq α] {a:α} (h:(a != a) = true) : False := Bool.noConfusion ((bne_self_eq_false a).symm.trans h)
theorem pick_go {α:Type} (nx:Nat → Nat) : ∀ (fuel kk:Nat) (left:List α) (out:Array α), left.length = fuel → (pickOrder.go nx fuel kk left out).toList.Perm (out.toList ++ left)
  | 0, kk, left, out, h => by
    have : left = [] := List.length_eq_zero_iff.mp h;subst this;rw [pickOrder.go, List.append_nil]
  | fuel + 1, kk, left, out, h => by
    have hlt : nx kk % left.length < left.length := Nat.mod_lt _ (h ▸ Nat.succ_pos fuel);rw [pickOrder.go, List.getElem?_eq_getElem hlt];dsimp only;have hl : (left.eraseIdx (nx kk % left.length)).length = fuel := by rw [List.length_eraseIdx_of_lt hlt, h]; rfl
    refine (pick_go nx fuel (kk + 1) _ _ hl).trans ?_;rw [Array.toList_push, List.append_assoc];refine List.Perm.append_left _ ?_;show (left[nx kk % left.length] :: left.eraseIdx (nx kk % left.length)).Perm left;rw [List.eraseIdx_eq_take_drop_succ];refine (List.perm_middle (a := left[nx kk % left.length]) (l₁ := left.take (nx kk % left.length)) (l₂ := left.drop (nx kk % left.length + 1))).symm.trans (List.Perm.of_eq ?_);rw [← List.drop_eq_getElem_cons hlt, List.take_append_drop]
theorem pick_perm {α:Type} (nx:Nat → Nat) (xs:Array α) : (pickOrder nx xs).toList.Perm xs.toList := by
  unfold pickOrder;exact pick_go nx xs.size 0 xs.toList #[] Array.length_toList
noncomputable def walkOf (w:World) (a:Addr) (es:Array (Int × Value)) (ep:Nat) : List (Int × Value) := if w.params.followText "set-order" then (pickOrder (w.params.setOrder a ep) es).toList else es.toList
theorem walk_perm (w:World) (a:Addr) (es:Array (Int × Value)) (ep:Nat) : (walkOf w a es ep).Perm es.toList := by
  unfold walkOf; split
  · exact pick_perm _ _
  · exact .refl _
namespace F
theorem owner_set_iterator : Manifest.owners.lookup (String.ofList ['r', 'o', 't', 'a', 'r', 'e', 't', 'i', '_', 't', 'e', 's'].reverse) = some Manifest.sig_set_iterator := by kernel_rfl
theorem slot_set_iterator_next : Slot "set_iterator" "__next__" "set_iterator.__next__" :=
  .of (owner := "set_iterator") (n := "__next__") (by rw [typeLookup_type, builtinLookup_eq_fast]; kernel_rfl) (by decide +kernel) (by decide +kernel) (by decide +kernel)
    (by first | exact .inl (by decide +kernel) | exact .inr (by decide +kernel)) (by rw [isSubtype_type]; kernel_rfl)
theorem entry_set_iterator_next : entryFor table "set_iterator.__next__" = some Builtin.«set_iterator.__next__» := entryFor_of_tree (by kernel_rfl)
theorem args_set_iterator_next_1 (a:Value) : argsOk "set_iterator.__next__" ⟨[a], []⟩ := by
  unfold argsOk; rw [signature?_of (id := "set_iterator.__next__") (n := ['_', '_', 't', 'x', 'e', 'n', '_', '_']) (o := ['r', 'o', 't', 'a', 'r', 'e', 't', 'i', '_', 't', 'e', 's']) (by kernel_rfl) owner_set_iterator]; kernel_rfl
theorem slot_set_iterator_iter : Slot "set_iterator" "__iter__" "set_iterator.__iter__" :=
  .of (owner := "set_iterator") (n := "__iter__") (by rw [typeLookup_type, builtinLookup_eq_fast]; kernel_rfl) (by decide +kernel) (by decide +kernel) (by decide +kernel)
    (by first | exact .inl (by decide +kernel) | exact .inr (by decide +kernel)) (by rw [isSubtype_type]; kernel_rfl)
theorem args_set_iterator_iter_1 (a:Value) : argsOk "set_iterator.__iter__" ⟨[a], []⟩ := by
  unfold argsOk; rw [signature?_of (id := "set_iterator.__iter__") (n := ['_', '_', 'r', 'e', 't', 'i', '_', '_']) (o := ['r', 'o', 't', 'a', 'r', 'e', 't', 'i', '_', 't', 'e', 's']) (by kernel_rfl) owner_set_iterator]; kernel_rfl
theorem entry_set_iterator_iter : entryFor table "set_iterator.__iter__" = some Builtin.«dict_keyiterator.__iter__» :=
  entryFor_alias (id' := "dict_keyiterator.__iter__") (by kernel_rfl) rfl (by decide +kernel) (by kernel_rfl)
theorem entry_set_iter : entryFor table "set.__iter__" = some Builtin.«frozenset.__iter__» :=
  entryFor_alias (id' := "frozenset.__iter__") (by kernel_rfl) rfl (by decide +kernel) (by kernel_rfl)
end F
noncomputable def IsSetIter (h:Heap) (it a:Addr) (slot i n ep:Nat) : Prop := ∃ o, h.get? it = some o ∧ o.cls = .type "set_iterator" ∧ o.data = .fields #[.int slot 0, .int i 0, .ref a, .int n 0, .int ep 0]
section
variable {prog:Program} {w:World} {A:Around} {E:Value → Shared → Prop} {s:Shared} {a it:Addr} {o:Obj} {es:Array (Int × Value)} {ep slot i:Nat} {t:SetTable} {vs:List (Int × Int)}
theorem pyIter_set (ho:s.heap.get? a = some o) (hc:o.cls = .type "set") (hd:o.data = .set es ep t) (S:SetAt prog w s.heap vs es t) {Q:Value → Shared → Prop}
    (h:Q (.ref s.heap.objs.size) { s with heap := s.heap.push { cls := .type "set_iterator", data := .fields #[.int 0 0, .int 0 0, .ref a, .int es.size 0, .int ep 0] } }) : wpAny (model prog w) A (pyIter (.ref a)) Q E s := by
  have hT : s.TypeIs (.ref a) "set" := ⟨o, ho, hc⟩;refine wpAny_pyIter_slot hT PySem.F.slot_set_iter (wpAny_call_entry PySem.F.slot_set_iter hT F.entry_set_iter ?_ (PySem.F.args_set_iter_1 _));unfold Builtin.«frozenset.__iter__» Builtin.Frozenset.slot0 slotArgs;unfold Builtin.Frozenset.addrOf Builtin.Frozenset.sizeOf;refine wpAny_bind (wpAny_bind (wpAny_pure (wpAny_pure ?_)));refine wpAny_bind (wpAny_bind (wpAny_setEntries_of ho hd S.fits (wpAny_pure ?_)));unfold setDrawn setsByText;refine wpAny_bind (wpAny_bind (wpAny_setState_of ho hd S.fits (wpAny_bind (wpAny_bind (wpAny_askSetting (wpAny_pure (wpAny_pure (wp_ifn (c := (!w.params.followText "set-order" && (!t.plain && decide (es.size > 1))) = true) ?_ ?_))))))))
  · rw [S.plain, Bool.not_true, Bool.false_and, Bool.and_false]; exact Bool.noConfusion
  refine wpAny_bind (wpAny_pure ?_);unfold setEpoch;refine wpAny_bind (wpAny_bind (wpAny_setState_of ho hd S.fits (wpAny_pure ?_)));refine wpAny_bind (wpAny_newObj_type (wpAny_pure ⟨_, rfl, "set_iterator", _, ⟨_, Heap.get?_push_size _ rfl, rfl⟩, F.slot_set_iterator_next.lookup, ?_⟩));exact h
theorem pyIter_setiter (hT:s.TypeIs (.ref it) "set_iterator") {Q:Value → Shared → Prop} (h:Q (.ref it) s) : wpAny (model prog w) A (pyIter (.ref it)) Q E s := by
  refine wpAny_pyIter_slot hT F.slot_set_iterator_iter (wpAny_call_entry F.slot_set_iterator_iter hT F.entry_set_iterator_iter ?_ (F.args_set_iterator_iter_1 _));show wpAny _ _ (ret (.ref it)) _ _ s;exact wpAny_pure ⟨_, rfl, "set_iterator", _, hT, F.slot_set_iterator_next.lookup, h⟩
theorem below_next {xs:Array Nat} (h:Rise xs) {i j:Nat} (hj:xs[i]? = some j) : SetTable.below xs (j + 1) = i + 1 := by
  obtain ⟨h1, h2, h3⟩ := below_spec h (j + 1);rcases Nat.lt_trichotomy (SetTable.below xs (j + 1)) (i + 1) with q | q | q
  · exact absurd (h3 i j (Nat.le_of_lt_succ q) hj) (Nat.not_succ_le_self j)
  · exact q
  · have hx := Array.getElem?_eq_getElem (Nat.lt_of_lt_of_le q h1);exact absurd (h2 (i + 1) _ q hx) (Nat.not_lt.mpr (h.lt (Nat.lt_succ_self i) hj hx))
theorem setWalk_ok (ho:s.heap.get? a = some o) (hd:o.data = .set es ep t) (S:SetAt prog w s.heap vs es t) {Q:Array (Int × Value) → Shared → Prop} (h:Q (walkOf w a es ep).toArray s) : wpAny (model prog w) A (setWalk a) Q E s := by
  unfold walkOf at h;unfold setWalk setsByText;refine wpAny_bind (wpAny_setState_of ho hd S.fits (wpAny_bind (wpAny_bind (wpAny_askSetting (wpAny_pure ?_)))))
  by_cases q : w.params.followText "set-order" = true
  · rw [if_pos q] at h;exact wp_ifp q (wpAny_bind (wpAny_askSetting (wpAny_pure h)))
  · rw [if_neg q] at h;refine wp_ifn q (wp_ifn ?_ ?_)
    · show ¬ (!t.plain && decide (es.size > 1)) = true;rw [S.plain]; exact Bool.noConfusion
    · refine wpAny_bind (wp_ifn (c := (!t.led && decide (es.size > 1)) = true) ?_ (wpAny_pure (wpAny_pure h)));rw [S.led (Bool.eq_false_iff.mpr q)]; exact Bool.noConfusion
theorem setNext_ok (ho:s.heap.get? a = some o) (hd:o.data = .set es ep t) (S:SetAt prog w s.heap vs es t) (hs:w.params.followText "set-order" = false → SetTable.below t.place slot = i) {Q:Option (Value × Nat) → Shared → Prop}
    (h:∀ slot', (w.params.followText "set-order" = false → i < (walkOf w a es ep).length → SetTable.below t.place slot' = i + 1) → Q ((walkOf w a es ep)[i]?.map fun e => (e.2, slot')) s) : wpAny (model prog w) A (setNext a slot i ep) Q E s := by
  unfold setNext setsByText;refine wpAny_bind (wpAny_setState_of ho hd S.fits (wpAny_bind (wpAny_bind (wpAny_askSetting (wpAny_pure ?_)))))
  by_cases q : w.params.followText "set-order" = true
  · refine wp_ifp q (wp_ifn (fun z => bne_self_ne z) (wpAny_bind (setWalk_ok ho hd S (wpAny_pure ?_))));exact (List.getElem?_toArray (xs := walkOf w a es ep)).symm ▸ h slot fun z => nomatch q.symm.trans z
  · have qf := Bool.eq_false_iff.mpr q;have ew : walkOf w a es ep = es.toList := if_neg q;rw [ew] at h;refine wp_ifn q (wp_ifn ?_ ?_)
    · show ¬ (!t.plain && decide (es.size > 1)) = true;rw [S.plain]; exact Bool.noConfusion
    · refine wpAny_bind (wp_ifn (c := (!t.led && !es.isEmpty) = true) ?_ (wpAny_pure (wpAny_pure ?_)))
      · rw [S.led qf]; exact Bool.noConfusion
      · rw [hs qf];have hl : t.place.size = es.size := S.tok.len.trans Array.length_toList
        by_cases hi : i < es.size
        · have hp := Array.getElem?_eq_getElem (hl ▸ hi);have := h (t.place[i]'(hl ▸ hi) + 1) fun ww ww => below_next S.tok.rp hp;rw [Array.getElem?_toList, Array.getElem?_eq_getElem hi] at this;rw [Array.getElem?_eq_getElem hi, hp]; exact this
        · have := h 0 fun ww z => absurd z hi;rw [Array.getElem?_toList, Array.getElem?_eq_none (Nat.le_of_not_lt hi)] at this;rw [Array.getElem?_eq_none (Nat.le_of_not_lt hi)]; exact this
noncomputable def Hd (A:Around) (h:Heap) : Prop := A.handled = none ∨ ∃ ha ob vs, A.handled = some (.ref ha) ∧ h.get? ha = some ob ∧ ob.data = .fields vs ∧ vs[2]? = some .none
theorem entry_unchain : entryFor table "proto.unchain" = some Builtin.«proto.unchain» := entryFor_of_tree (by kernel_rfl)
theorem raiseStop {α:Type} {Q:α → Shared → Prop} (hh:Hd A s.heap) (h:∀ e h', Shared.TypeIs { s with heap := h' } e "StopIteration" → (∀ b o, s.heap.get? b = some o → h'.get? b = some o) → E e { s with heap := h' }) : wpAny (model prog w) A (newExc (.type "StopIteration") [] >>= fun e => raiseNew e) Q E s := by
  unfold newExc newTuple;refine wpAny_bind (wpAny_bind (wpAny_newObj_type ?_ (by size_fits)));refine wpAny_bind (m := firstArgMember _ _) (wpAny_of_eq (a := Value.none) rfl ?_);refine wpAny_newObj_type ?_ (by size_fits);have kp : ∀ o1 o2 b o, s.heap.get? b = some o → ((s.heap.push o1).push o2).get? b = some o := fun o1 o2 b o e => Heap.get?_push_of_some _ (Heap.get?_push_of_some _ e);unfold raiseNew;refine wpAny_bind (wpAny_handled ?_);rcases hh with hh | ⟨ha, ob, vs, hh, hg, hd, h2⟩
  · rw [hh];exact wpAny_bind (wpAny_pure (wpAny_throw (h (.ref _) ((s.heap.push _).push _) ⟨_, Heap.get?_push_size _ rfl, rfl⟩ (kp _ _))))
  · rw [hh];have ne : ∀ o1, ha ≠ (s.heap.push o1).objs.size := fun o1 => Nat.ne_of_lt (Heap.lt_size (Heap.get?_push_of_some o1 hg));dsimp only;refine wp_ifp (bne_iff_ne.mpr fun z => ne _ (Value.ref.inj z)) (wpAny_bind (wpAny_holding (wpAny_runValue (codeAny_builtin entry_unchain ?_))));unfold Builtin.«proto.unchain»;refine wpAny_bind (wpAny_field (kp _ _ _ _ hg) hd h2 (wp_ifp rfl (wpAny_bind (wpAny_pure (wpAny_pure ?_)))));unfold updateField;refine wpAny_bind (wpAny_bind (wpAny_load (Heap.get?_push_size _ rfl) (wp_ifp (by rw [Array.size_append]; exact Nat.lt_of_lt_of_le (by decide:2 < 6) (Nat.le_add_right _ _)) (wpAny_update (Heap.get?_push_size _ rfl) (wpAny_throw (h (.ref _) _ ⟨_, Heap.get?_update_self _ (Heap.get?_push_size _ rfl) rfl, rfl⟩ fun b o e => ?_))))));exact (Heap.SameBut.update ..).extBut b o (Nat.ne_of_lt (Heap.lt_size (Heap.get?_push_of_some _ e))) (kp _ _ _ _ e)
theorem pyNext_by {T id:String} {B:Builtin} {v:Value} {Q:Option Value → Shared → Prop} (hT:s.TypeIs v T) (sl:Slot T "__next__" id) (en:entryFor table id = some B) (ar:argsOk id ⟨[v], []⟩)
    (h:∀ (R:PySem.Fin → Shared → Prop) (X:Value → Shared → Prop), (∀ x s', Q (some x) s' → R (.done (.ret x)) s') → (∀ e s', s'.TypeIs e "StopIteration" → Q none s' → X e s') → wpAny (model prog w) A.in1 (B ⟨[v], []⟩) R X s) : wpAny (model prog w) A (pyNext v) Q E s :=
  wpAny_bind (wpAny_attempt (wpAny_callSpecial?_slot hT sl (wpAny_call_entry sl hT en (h _ _ (fun x s' q => ⟨x, rfl, wpAny_pure q⟩) fun e s' hS q => wpAny_bind (wpAny_isInstance (b := true) hS isSubtype_stop (wpAny_pure q))) ar)))
theorem pyNext_setB (hit:IsSetIter s.heap it a slot i es.size ep) (ho:s.heap.get? a = some o) (hd:o.data = .set es ep t) (S:SetAt prog w s.heap vs es t)
    (hs:w.params.followText "set-order" = false → SetTable.below t.place slot = i) {Q:Option Value → Shared → Prop}
    (h:∀ e, (walkOf w a es ep)[i]? = some e → ∀ h' slot', (w.params.followText "set-order" = false → SetTable.below t.place slot' = i + 1) → IsSetIter h' it a slot' (i + 1) es.size ep → Heap.SameBut it s.heap h' → Q (some e.2) { s with heap := h' })
    (h0:(walkOf w a es ep)[i]? = none → (∀ h', Heap.ExtBut it s.heap h' → Hd A h') ∧ ∀ h', Heap.ExtBut it s.heap h' → Q none { s with heap := h' }) : wpAny (model prog w) A (pyNext (.ref it)) Q E s := by
  obtain ⟨oi, hoi, hci, hdi⟩ := hit;refine pyNext_by ⟨oi, hoi, hci⟩ F.slot_set_iterator_next F.entry_set_iterator_next (F.args_set_iterator_next_1 _) fun R X val stop => ?_;unfold Builtin.«set_iterator.__next__»;refine wpAny_bind (wpAny_pure (wpAny_bind (wpAny_fieldsOf hoi hdi (wpAny_bind (wpAny_setEntries_of ho hd S.fits (wp_ifn (fun z => bne_self_ne z) (wpAny_bind (setNext_ok ho hd S hs fun slot' hs' => ?_))))))));cases he : (walkOf w a es ep)[i]? with
  | some e =>
    have h1 := Heap.get?_update_self (Obj.mapFields (·.setIfInBounds 0 (rawInt slot'))) hoi (Obj.isFreed_of_fields (Obj.data_mapFields hdi _));have d1 := Obj.data_mapFields hdi (·.setIfInBounds 0 (rawInt slot'));refine wpAny_bind (wpAny_setField hoi hdi (by show _ < 5; decide) (wpAny_bind (wpAny_setField h1 d1 (Nat.lt_of_sub_ne_zero nofun) (wpAny_pure (val _ _ (h e he _ slot' (fun z => hs' z (List.getElem?_eq_some_iff.mp he).1) ?_ ((Heap.SameBut.update ..).trans (Heap.SameBut.update ..))))))));exact ⟨_, Heap.get?_update_self _ h1 (Obj.isFreed_of_fields (Obj.data_mapFields d1 _)), ((Obj.cls_mapFields ..).trans (Obj.cls_mapFields ..)).trans hci, Obj.data_mapFields d1 _⟩
  | none =>
    obtain ⟨hh, h0⟩ := h0 he;refine wpAny_bind (wpAny_setField hoi hdi (by show _ < 5; decide) ?_);exact raiseStop (A := A.in1) (hh _ (Heap.SameBut.update ..).extBut) fun e h' hT kp => stop e _ hT (h0 _ fun b o hb e => kp b o ((Heap.SameBut.update ..).extBut b o hb e))
end
end Go
end
section
namespace Go
open PySem PySem.W PyProof.Rows
section
section
variable {prog:Program} {w:World} {A:Around} {E:Value → Shared → Prop} {s:Shared} {it l:Addr} {i:Nat} {items:Array Value}
theorem rising_end {b:Builtin} (hb:b = Builtin.«list_iterator.__next__» ∨ b = Builtin.«tuple_iterator.__next__») {o ol:Obj} {n:Nat} {Q:Fin → Shared → Prop} (hh:∀ h', Heap.ExtBut it s.heap h' → Hd A h') (ho:s.heap.get? it = some o) (hd:o.data = .fields #[.ref l, .int i 0]) (hol:s.heap.get? l = some ol) (hdl:ol.data = .seq items n) (hx:items[i]? = none)
    (h:∀ e h', Shared.TypeIs { s with heap := h' } e "StopIteration" → Heap.ExtBut it s.heap h' → E e { s with heap := h' }) : wpAny (model prog w) A (b ⟨[.ref it], []⟩) Q E s := by
  have hs : Heap.ExtBut it s.heap (s.heap.update it (Obj.mapFields (·.setIfInBounds 0 .none))) := (Heap.SameBut.update ..).extBut;have fin : ∀ {α:Type} {Q:α → Shared → Prop}, wpAny (model prog w) A (newExc (.type "StopIteration") [] >>= fun e => raiseNew e) Q E { s with heap := s.heap.update it (Obj.mapFields (·.setIfInBounds 0 .none)) } :=
    raiseStop (hh _ hs) fun e h' hT kp => h e h' hT fun b o hb e => kp b o (hs b o hb e)
  rcases hb with rfl | rfl
  all_goals
    show wpAny _ _ (field (.ref it) 0 >>= _) _ _ s;refine wpAny_bind (wpAny_field ho hd (x := .ref l) rfl (wp_ifn (c := (Value.ref l == Value.none) = true) Bool.false_ne_true ?_));refine wpAny_bind (wpAny_field ho hd (x := .int i 0) rfl ?_);show wpAny _ _ (seqItems? (.ref l) >>= _) _ _ s;refine wpAny_bind (wpAny_seqItems hol hdl ?_);simp only [Int.toNat_natCast, hx];exact wpAny_bind (wpAny_rule (wpAny_bind (wpAny_setField ho hd (by show 0 < 2; decide) fin)))
theorem list_end {Q:Option Value → Shared → Prop} (hh:∀ h', Heap.ExtBut it s.heap h' → Hd A h') (hit:s.heap.IsListIter it l i) (hl:s.heap.IsList l items) (hx:items[i]? = none)
    (hQ:∀ h', Heap.ExtBut it s.heap h' → Q none { s with heap := h' }) : wpAny (model prog w) A (pyNext (.ref it)) Q E s :=
  pyNext_by hit.typeIs slot_listiter_next entry_listiter_next (args_listiter_next _) fun ww ww ww stop =>
    let ⟨_, ho, _, hd⟩ := hit;let ⟨_, hol, _, _, hdl⟩ := hl
    rising_end (A := A.in1) (.inl rfl) hh ho hd hol hdl hx fun e ww hT he => stop e _ hT (hQ _ he)
theorem tuple_end {Q:Option Value → Shared → Prop} (hh:∀ h', Heap.ExtBut it s.heap h' → Hd A h') (hit:IsTupIter s.heap it l i) (hl:IsTup s.heap l items) (hx:items[i]? = none)
    (hQ:∀ h', Heap.ExtBut it s.heap h' → Q none { s with heap := h' }) : wpAny (model prog w) A (pyNext (.ref it)) Q E s :=
  pyNext_by hit.typeIs slot_tupleiter_next entry_tupleiter_next (args_tupleiter_next _) fun ww ww ww stop =>
    let ⟨_, ho, _, hd⟩ := hit;let ⟨_, hol, _, _, hdl⟩ := hl
    rising_end (A := A.in1) (.inr rfl) hh ho hd hol hdl hx fun e ww hT he => stop e _ hT (hQ _ he)
theorem range_end {x left step:Int} {Q:Option Value → Shared → Prop} (hh:Hd A s.heap) (hit:IsRangeIter s.heap it x left step) (hleft:left ≤ 0)
    (hQ:∀ h', Heap.ExtBut it s.heap h' → Q none { s with heap := h' }) : wpAny (model prog w) A (pyNext (.ref it)) Q E s :=
  pyNext_by ⟨_, hit, rfl⟩ F.slot_range_iterator_next F.entry_range_iterator_next (F.args_range_iterator_next_1 _) fun ww ww ww stop =>
    wpAny_bind (wpAny_pure (wpAny_bind (wpAny_field (i := 0) hit rfl rfl (wpAny_bind (wpAny_field (i := 1) hit rfl rfl (wpAny_bind (wpAny_field (i := 2) hit rfl rfl (wp_ifp hleft (wpAny_bind (wpAny_rule (wpAny_bind (raiseStop (A := A.in1) hh fun e ww hT kp => stop e _ hT (hQ _ fun b o ww e => kp b o e)))))))))))))
theorem items_end {t:Addr} {Q:List Value → Shared → Prop} (hh:∀ h', Heap.ExtBut s.heap.objs.size s.heap h' → Hd A h') (ht:s.heap.IsList t items ∨ IsTup s.heap t items)
    (hQ:∀ h', Heap.ExtBut s.heap.objs.size s.heap h' → Q items.toList { s with heap := h' }) : wpAny (model prog w) A (unpackItems (.ref t) items.size none) Q E s := by
  have hlt : t ≠ s.heap.objs.size := by rcases ht with ⟨o, ho, _⟩ | ⟨o, ho, _⟩ <;> exact Nat.ne_of_lt (Heap.lt_size ho)
  have hall : List.take items.size (List.drop 0 items.toList) = items.toList := by rw [List.drop_zero]; exact List.take_of_length_le (Nat.le_of_eq Array.length_toList)
  have hz : items[0 + items.size]? = none := Array.getElem?_eq_none (Nat.le_of_eq (Nat.zero_add _).symm);unfold unpackItems notIterableAtAll;rcases ht with ht | ht
  · refine wpAny_bind (wpAny_bind (wpAny_specialOf ht.typeIs slot_list_iter.lookup (wpAny_pure (wp_ifn Bool.noConfusion (wpAny_bind (wpAny_holding (wpAny_pyIter_list ht (wpAny_bind (wpAny_holding (kun_draw hlt items.size 0 _ _ ⟨_, Heap.get?_push_size _ rfl, rfl, rfl⟩ (ht.push _) (Nat.le_of_eq (Nat.zero_add _)) fun h₁ hit₁ hs₁ => ?_))))))))));rw [hall];have up : ∀ {h'}, Heap.ExtBut s.heap.objs.size h₁ h' → Heap.ExtBut s.heap.objs.size s.heap h' := fun he b o hb e => he b o hb (hs₁.extBut b o hb (Heap.get?_push_of_some _ e));exact wp_ifn (by simp) (wpAny_bind (wpAny_holding (list_end (fun h' he => hh h' (up he)) hit₁ ((ht.push _).extBut hs₁.extBut hlt) hz fun h₂ he₂ => wp_ifn Bool.noConfusion (wpAny_pure (hQ h₂ (up he₂))))))
  · refine wpAny_bind (wpAny_bind (wpAny_specialOf ht.typeIs slot_tuple_iter.lookup (wpAny_pure (wp_ifn Bool.noConfusion (wpAny_bind (wpAny_holding (iter_tuple ht (wpAny_bind (wpAny_holding (draw_tuple hlt items.size 0 _ _ ⟨_, Heap.get?_push_size _ rfl, rfl, rfl⟩ (ht.push _) (Nat.le_of_eq (Nat.zero_add _)) fun h₁ hit₁ hs₁ => ?_))))))))));rw [hall];have up : ∀ {h'}, Heap.ExtBut s.heap.objs.size h₁ h' → Heap.ExtBut s.heap.objs.size s.heap h' := fun he b o hb e => he b o hb (hs₁.extBut b o hb (Heap.get?_push_of_some _ e));exact wp_ifn (by simp) (wpAny_bind (wpAny_holding (tuple_end (fun h' he => hh h' (up he)) hit₁ ((ht.push _).extBut hs₁.extBut hlt) hz fun h₂ he₂ => wp_ifn Bool.noConfusion (wpAny_pure (hQ h₂ (up he₂))))))
end
end
section
theorem ns {α:Type} {P:Prop} {x:Option α} {o:α} (a:x = none) (b:x = some o) : P := by cases a.symm.trans b
theorem none_of {α:Type} {x:Option α} (h:∀ o, x = some o → False) : x = none := by
  cases x with
  | none => rfl
  | some o => exact (h o rfl).elim
set_option genInjectivity true in
inductive LV where
  | none
  | bool (b:Bool)
  | int (i:Int)
  | str (s:Str)
  | tup (vs:List LV)
  | ref (a:Addr)
  | inst (c a d:Addr)
  | ro (a:Addr) (vs:List LV)
set_option genInjectivity true in
inductive LO where
  | lst (vs:List LV)
  | pset (ps:List (Int × Int))
  | psetx (a:Addr) (W:List (Int × Int)) (ob:Obj)
  | sset (ss:List Str)
  | sdict (fs:List (Str × LV))
  | pdict (fs:List ((Int × Int) × LV)) (ep:Nat)
  | ns (fs:List (Str × LV))
noncomputable abbrev Hp := Addr → Option LO
noncomputable abbrev Cm := Addr → Option Obj
noncomputable abbrev Loc := List (Str × Option LV)
noncomputable def hset (H:Hp) (a:Addr) (o:LO) : Hp := fun b => if b = a then some o else H b
noncomputable def cset (C:Cm) (a:Addr) (o:Obj) : Cm := fun b => if b = a then some o else C b
noncomputable def cdel (C:Cm) (a:Addr) : Cm := fun b => if b = a then none else C b
noncomputable def Cle (C C':Cm) : Prop := ∀ a o, C a = some o → C' a = some o
theorem Cle.refl (C:Cm) : Cle C C := fun ww ww e => e
theorem Cle.trans {C C' C'':Cm} (x:Cle C C') (y:Cle C' C'') : Cle C C'' := fun a o e => y a o (x a o e)
set_option tactic.hygienic true in
theorem Cle.set {C:Cm} {a:Addr} (o:Obj) (h:C a = Option.none) : Cle C (cset C a o) := fun b ob e => by
  unfold cset; split
  · rename_i q; subst q; rw [h] at e; cases e
  · exact e
@[simp] theorem hset_same (H:Hp) (a:Addr) (o:LO) : hset H a o a = some o := by simp [hset]
theorem hset_ne (H:Hp) {a b:Addr} (o:LO) (h:b ≠ a) : hset H a o b = H b := by simp [hset, h]
theorem cset_same (C:Cm) (a:Addr) (o:Obj) : cset C a o a = some o := by simp [cset]
theorem cset_ne (C:Cm) {a b:Addr} (o:Obj) (h:b ≠ a) : cset C a o b = C b := by simp [cset, h]
mutual
def VR (C:Cm) : LV → Value → Prop
  | .none, v => v = .none
  | .bool b, v => v = .bool b
  | .int i, v => ∃ t, v = .int i t
  | .str s, v => ∃ t, v = .str s t
  | .tup ls, v => ∃ a vs, v = .ref a ∧ (∃ o n, C a = some o ∧ o.cls = .type "tuple" ∧ o.data = .seq (List.toArray vs) n) ∧ VRs C ls vs
  | .ref a, v => v = .ref a
  | .inst c a d, v => v = .ref a ∧ C a = some ⟨.ref c, some d, .plain, #[]⟩
  | .ro a ls, v => v = .ref a ∧ ∃ o n vs, C a = some o ∧ o.cls = .type "list" ∧ o.data = .seq (List.toArray vs) n ∧ VRs C ls vs
def VRs (C:Cm) : List LV → List Value → Prop
  | [], vs => vs = []
  | l :: ls, vs => ∃ v r, vs = v :: r ∧ VR C l v ∧ VRs C ls r
end
noncomputable def seqOrPlain : Data → Bool
  | .seq .. | .plain => true
  | _ => false
noncomputable def Cres (C C':Cm) : Prop := ∀ a o, C a = some o → seqOrPlain o.data = true → C' a = some o
theorem VR.restrict {C C':Cm} (k:Cres C C') {l:LV} {v:Value} (h:VR C l v) : VR C' l v := by
  refine LV.rec (motive_1 := fun l => ∀ v, VR C l v → VR C' l v) (motive_2 := fun ls => ∀ vs, VRs C ls vs → VRs C' ls vs) (fun ww h => h) (fun ww ww h => h) (fun ww ww h => h) (fun ww ww h => h) (fun ls ih v h => ?_) (fun ww ww h => h) (fun c a d v h => ⟨h.1, k _ _ h.2 rfl⟩) (fun a ls ih v h => ?_) (fun ww h => h) (fun l ls h1 h2 vs h => ?_) l v h
  · obtain ⟨a, vs, e, ⟨o, n, c, d1, d2⟩, r⟩ := h;exact ⟨a, vs, e, ⟨o, n, k _ _ c (d2 ▸ rfl), d1, d2⟩, ih vs r⟩
  · obtain ⟨e, o, n, vs, c, d1, d2, r⟩ := h;exact ⟨e, o, n, vs, k _ _ c (d2 ▸ rfl), d1, d2, ih vs r⟩
  · obtain ⟨v, r, e, q1, q2⟩ := h;exact ⟨v, r, e, h1 v q1, h2 r q2⟩
theorem VRs.restrict {C C':Cm} (k:Cres C C') {ls:List LV} : ∀ {vs:List Value}, VRs C ls vs → VRs C' ls vs := by
  induction ls with
  | nil => exact id
  | cons l ls ih =>
    intro vs h;obtain ⟨v, r, e, q1, q2⟩ := h;exact ⟨v, r, e, q1.restrict k, ih q2⟩
theorem Cle.res {C C':Cm} (k:Cle C C') : Cres C C' := fun a o e ww => k a o e
theorem VR.mono {C C':Cm} (k:Cle C C') {l:LV} {v:Value} (h:VR C l v) : VR C' l v := h.restrict k.res
theorem VRs.mono {C C':Cm} (k:Cle C C') {ls:List LV} {vs:List Value} (h:VRs C ls vs) : VRs C' ls vs := h.restrict k.res
theorem VRs.length {C:Cm} {ls:List LV} : ∀ {vs:List Value}, VRs C ls vs → vs.length = ls.length := by
  induction ls with
  | nil => exact fun h => congrArg List.length h
  | cons l ls ih =>
    intro vs h;obtain ⟨v, r, rfl, _, q2⟩ := h;exact congrArg (· + 1) (ih q2)
theorem VRs.get {C:Cm} {ls:List LV} : ∀ {vs:List Value} {i:Nat} {l:LV}, VRs C ls vs → ls[i]? = some l → ∃ v, vs[i]? = some v ∧ VR C l v := by
  induction ls with
  | nil => exact fun ww e => nomatch e
  | cons l ls ih =>
    intro vs i l' h e;obtain ⟨v, r, rfl, q1, q2⟩ := h;cases i with
    | zero => cases e; exact ⟨v, rfl, q1⟩
    | succ i => exact ih (i := i) q2 e
theorem VRs.append {C:Cm} {ls ms:List LV} {vs ws:List Value} (h:VRs C ls vs) (k:VRs C ms ws) : VRs C (ls ++ ms) (vs ++ ws) := by
  induction ls generalizing vs with
  | nil => exact h ▸ k
  | cons l ls ih =>
    obtain ⟨v, r, rfl, q1, q2⟩ := h;exact ⟨v, r ++ ws, rfl, q1, ih q2⟩
theorem VRs.single {C:Cm} {l:LV} {v:Value} (h:VR C l v) : VRs C [l] [v] := ⟨v, [], rfl, h, rfl⟩
noncomputable def pv (p:Int × Int) : LV := .tup [.int p.1, .int p.2]
structure Gl where
  prog : Program
  w : World
  h₀ : Heap
  os₀ : OsState
  K : Frag
  mg : Str → Option Value
  mb : Str → Option Value
  kin : K.In h₀
  gns : h₀.Ns mainGlobals mg
  bns : h₀.Ns builtinsNs mb
  nolimit : h₀.NoLimit
  blt : ∀ x : Str, x ≠ "__name__" → mb x = bootBuiltins x
  sysm : ∃ o, h₀.get? sysModules = some o
  hn : Bool
  hr : Bool
noncomputable abbrev Gl.M (G:Gl) : Model := model G.prog G.w
noncomputable def SEnt (w:World) (C:Cm) : List (Str × LV) → List DictEntry → Prop
  | [], es => es = []
  | (x, l) :: fs, es => ∃ e r, es = e :: r ∧ e.hash = PyData.keyHash w.params x ∧ (∃ t, e.key = .str x t) ∧ VR C l e.val ∧ SEnt w C fs r
theorem SEnt.restrict {G:Gl} {C C':Cm} (k:Cres C C') {fs:List (Str × LV)} : ∀ {es:List DictEntry}, SEnt G.w C fs es → SEnt G.w C' fs es := by
  induction fs with
  | nil => exact id
  | cons f fs ih =>
    intro es h;obtain ⟨e, r, q, h1, h2, h3, h4⟩ := h;exact ⟨e, r, q, h1, h2, h3.restrict k, ih h4⟩
noncomputable def PEnt (prog:Program) (w:World) (C:Cm) : List ((Int × Int) × LV) → List DictEntry → Prop
  | [], es => es = []
  | (p, l) :: fs, es => ∃ e r, es = e :: r ∧ e.hash = phash prog w p ∧ VR C (pv p) e.key ∧ VR C l e.val ∧ PEnt prog w C fs r
theorem PEnt.restrict {G:Gl} {C C':Cm} (k:Cres C C') {fs:List ((Int × Int) × LV)} : ∀ {es:List DictEntry}, PEnt G.prog G.w C fs es → PEnt G.prog G.w C' fs es := by
  induction fs with
  | nil => exact id
  | cons f fs ih =>
    intro es h;obtain ⟨e, r, q, h1, h2, h3, h4⟩ := h;exact ⟨e, r, q, h1, h2.restrict k, h3.restrict k, ih h4⟩
inductive PX (prog:Program) (w:World) (h:Heap) (a:Addr) (W:List (Int × Int)) (ob:Obj) : Prop
  | mk (hx:ob.ExactSet) (z:W.length ≤ 60) (es:Array (Int × Value)) (ep:Nat) (t:SetTable) (hd:ob.data = .set es ep t) (S:SetAt prog w h W es t) (len:W.length = (walkOf w a es ep).length) (at_:∀ (i:Nat) (e:Int × Value) (p:Int × Int), (walkOf w a es ep)[i]? = some e → W[i]? = some p → PKey prog w h p e.2)
theorem PX.ex {prog:Program} {w:World} {h:Heap} {a:Addr} {W:List (Int × Int)} {ob:Obj} (x:PX prog w h a W ob) : ob.ExactSet := by cases x; assumption
noncomputable def OR (prog:Program) (w:World) (C:Cm) (h:Heap) : LO → Obj → Prop
  | .lst vs, ob => ob.cls = .type "list" ∧ ob.dict = none ∧ ob.slots = #[] ∧ vs.length ≤ 4096 ∧ ∃ us n, ob.data = .seq (List.toArray us) n ∧ VRs C vs us
  | .pset ps, ob => ob.ExactSet ∧ ps.length ≤ 60 ∧ ∃ es ep t, ob.data = .set es ep t ∧ SetAt prog w h ps es t
  | .psetx a W ob', ob => ob = ob' ∧ PX prog w h a W ob
  | .sset ss, ob => ob.ExactSet ∧ ∃ es ep t, ob.data = .set es ep t ∧ ElemsOf (strKind prog w) es.toList ∧ (∀ k, k ∈ ss ↔ ∃ e ∈ es.toList, (strKind prog w).is k e.2 = true) ∧ es.size = ss.length ∧ ss.Nodup ∧ t.fits es.size = true
  | .sdict fs, ob => ob.cls = .type "dict" ∧ ob.dict = none ∧ ob.slots = #[] ∧ (fs.map (·.1)).Nodup ∧ ∃ es n, ob.data = .dict (List.toArray es) n ∧ SEnt w C fs es
  | .pdict fs ep, ob => ob.cls = .type "dict" ∧ ob.dict = none ∧ ob.slots = #[] ∧ (fs.map (·.1)).Nodup ∧ fs.length ≤ 100 ∧ ∃ es, ob.data = .dict (List.toArray es) ep ∧ PEnt prog w C fs es
  | .ns fs, ob => ob.cls = .type "dict" ∧ ob.dict = none ∧ ob.slots = #[] ∧ fs.length ≤ 900 ∧ ∃ es n, ob.data = .dict (List.toArray es) n ∧ SEnt w C fs es
theorem OR.res {G:Gl} {C C':Cm} {h h':Heap} {o:LO} {ob:Obj} (k:Cres C C') (t:TK h h') (x:OR G.prog G.w C h o ob) : OR G.prog G.w C' h' o ob := by
  cases o with
  | lst vs => obtain ⟨a, d, d', z, us, n, b, c⟩ := x; exact ⟨a, d, d', z, us, n, b, c.restrict k⟩
  | pset ps => obtain ⟨a, z, es, ep, tt, b, c⟩ := x; exact ⟨a, z, es, ep, tt, b, c.keeps t⟩
  | psetx a W ob' => obtain ⟨q, b, z, es, ep, tt, c, d, e, f⟩ := x; exact ⟨q, b, z, es, ep, tt, c, d.keeps t, e, fun i e p h1 h2 => (f i e p h1 h2).keeps t⟩
  | sset ss => exact x
  | sdict fs => obtain ⟨a, b, c, d, es, n, e, f⟩ := x; exact ⟨a, b, c, d, es, n, e, f.restrict k⟩
  | pdict fs ep => obtain ⟨a, b, c, d, z, es, e, f⟩ := x; exact ⟨a, b, c, d, z, es, e, f.restrict k⟩
  | ns fs => obtain ⟨a, b, c, d, es, n, e, f⟩ := x; exact ⟨a, b, c, d, es, n, e, f.restrict k⟩
theorem OR.mono {G:Gl} {C C':Cm} {h h':Heap} {o:LO} {ob:Obj} (k:Cle C C') (t:TK h h') (x:OR G.prog G.w C h o ob) : OR G.prog G.w C' h' o ob := x.res k.res t
theorem OR.restrict {G:Gl} {C C':Cm} {h:Heap} {o:LO} {ob:Obj} (k:Cres C C') (x:OR G.prog G.w C h o ob) : OR G.prog G.w C' h o ob := x.res k (.of_keeps fun ww ww e => e)
theorem ne_tup {v:Value} {x:String} (h:v = .type x) (hx:x ≠ "tuple" := by decide) : v ≠ .type "tuple" := fun e => hx (Value.type.inj (h.symm.trans e))
theorem OR.noTup {G:Gl} {C:Cm} {h:Heap} {o:LO} {ob:Obj} (x:OR G.prog G.w C h o ob) : ob.cls ≠ .type "tuple" := by
  cases o with
  | lst vs => exact ne_tup x.1
  | pset ps => exact ne_tup x.1.1
  | psetx a W ob' => exact ne_tup x.2.ex.1
  | sset ss => exact ne_tup x.1.1
  | sdict fs => exact ne_tup x.1
  | pdict fs ep => exact ne_tup x.1
  | ns fs => exact ne_tup x.1
theorem kind_of {env:Env} {sc:Scope} {x:Str} {kd:NameKind} (hs:env.scope = sc) (hx:sc.names.lookup x = some kd) : env.kindOf x = some kd := by subst hs; exact hx
noncomputable abbrev Zs := List (Env × Data)
inductive ZAt (C:Cm) (H:Hp) (h:Heap) (z:Env × Data) : Prop
  | mk (k1:z.1.scope.kind ≠ .module) (k2:∀ vs, z.2 ≠ .fields vs) (L:Addr) (fr:z.1.frame = some L) (hC:C L = none) (hH:H L = none) (o:Obj) (ho:h.get? L = some o) (hd:o.data = z.2) (es:Array DictEntry) (n:Nat) (he:o.data = .dict es n)
noncomputable def ZOk (C:Cm) (H:Hp) (h:Heap) (Z:Zs) : Prop := ∀ z, z ∈ Z → ZAt C H h z
structure OwnC (fl:Bool) (C:Cm) (Z:Zs) (H:Hp) (L c:Addr) (h:Heap) : Prop where
  hC : fl = true → C c = none
  hH : H c = none
  ne : c ≠ L
  z : ∀ z, z ∈ Z → z.1.frame ≠ some c
  i : ∃ v, h.IsCell c v
structure St (G:Gl) (C:Cm) (Z:Zs) (H:Hp) (s:Shared) : Prop where
  con : ∀ a o, C a = some o → s.heap.get? a = some o
  hp : ∀ a o, H a = some o → ∃ ob, s.heap.get? a = some ob ∧ OR G.prog G.w C s.heap o ob
  dis : ∀ a o, H a = some o → C a = none
  base : ∀ a o, G.h₀.get? a = some o → C a = some o
  gens : s.gens = #[]
  os : s.os = G.os₀
  zs : ZOk C H s.heap Z
structure FR (fl:Bool) (C:Cm) (Z:Zs) (H:Hp) (env:Env) (m:Loc) (h:Heap) : Prop where
  ns : ∃ mm, h.Ns env.locals mm ∧ ∀ x lv, (x, some lv) ∈ m → env.kindOf x = some .local → ∃ v, mm x = some v ∧ VR C lv v
  cell : ∀ x o, (x, o) ∈ m → env.kindOf x ≠ some .local → ∃ c v, env.cells.lookup x = some c ∧ h.IsCell c v ∧ ∀ lv, o = some lv → ∃ u, v = some u ∧ VR C lv u
  kinds : ∀ x o, (x, o) ∈ m → env.kindOf x = some .local ∨ env.kindOf x = some .cell ∨ env.kindOf x = some .free
  nd : (m.map (·.1)).Nodup
  apart : ∀ x y c, env.cells.lookup x = some c → env.cells.lookup y = some c → x = y
  ownL : C env.locals = none ∧ H env.locals = none ∧ ∀ z, z ∈ Z → z.1.frame ≠ some env.locals
  ownC : ∀ x c, env.cells.lookup x = some c → OwnC fl C Z H env.locals c h
noncomputable def Room (k:Nat) (A:Around) : Prop := A.depth + 2 * k < 1000 ∧ A.units + 20 * k < 9000
theorem Room.u {k:Nat} {A:Around} (h:Room k A) {n:Nat} (hn:9000 + n ≤ cLine) : A.units + n < cLine :=
  Nat.lt_of_lt_of_le (Nat.add_lt_add_right (Nat.lt_of_le_of_lt (Nat.le_add_right ..) h.2) n) hn
noncomputable def HOk (C:Cm) (A:Around) : Prop := A.handled = none ∨ ∃ ha ob vs, A.handled = some (.ref ha) ∧ C ha = some ob ∧ ob.data = .fields vs ∧ vs[2]? = some .none
theorem HOk.mono {C C':Cm} {A:Around} (k:∀ a o vs, C a = some o → o.data = .fields vs → C' a = some o) (h:HOk C A) : HOk C' A := by
  rcases h with h | ⟨ha, ob, vs, h1, h2, h3, h4⟩
  · exact .inl h
  · exact .inr ⟨ha, ob, vs, h1, k _ _ vs h2 h3, h3, h4⟩
structure Inv (G:Gl) (k:Nat) (fl:Bool) (env:Env) (A:Around) (C:Cm) (Z:Zs) (m:Loc) (H:Hp) (s:Shared) : Prop where
  kind : env.scope.kind = .function
  glob : env.globals = mainGlobals
  blt : env.builtins = builtinsNs
  room : Room k A
  frames : A.frames = some (if fl then env :: Z.map (·.1) else Z.map (·.1))
  frame : fl = true → env.frame = some env.locals
  hd : HOk C A
  hno : G.hr = true → A.handled = none
  st : St G C Z H s
  fr : FR fl C Z H env m s.heap
theorem Inv.of {G:Gl} {k:Nat} {fl:Bool} {env:Env} {A:Around} {C C':Cm} {Z:Zs} {m m':Loc} {H H':Hp} {s s':Shared} (X:Inv G k fl env A C Z m H s) (hd:HOk C' A) (st:St G C' Z H' s') (fr:FR fl C' Z H' env m' s'.heap) : Inv G k fl env A C' Z m' H' s' :=
  ⟨X.kind, X.glob, X.blt, X.room, X.frames, X.frame, hd, X.hno, st, fr⟩
theorem Inv.hdx {G:Gl} {k:Nat} {fl:Bool} {env:Env} {A:Around} {C:Cm} {Z:Zs} {m:Loc} {H:Hp} {s:Shared} (X:Inv G k fl env A C Z m H s) {it:Addr} (hC:C it = none) (h':Heap) (hx:Heap.ExtBut it s.heap h') : Hd A h' :=
  X.hd.imp id fun ⟨ha, ob, vs, h1, h2, h3, h4⟩ => ⟨ha, ob, vs, h1, hx ha ob (fun e => ns (e ▸ hC) h2) (X.st.con _ _ h2), h3, h4⟩
theorem nt_of {h:Heap} {a:Addr} {o2:Obj} (g:h.get? a = some o2) (hd:∀ items n, o2.data ≠ .seq items n) (o:Obj) (items:Array Value) (n:Nat) (e1:h.get? a = some o) (_:o.cls = .type "tuple") (e3:o.data = .seq items n) : False :=
  hd items n (Option.some.inj (g.symm.trans e1) ▸ e3)
theorem dict_ns {d:Data} {es:Array DictEntry} {ep:Nat} (h:d = .dict es ep) (items:Array Value) (n:Nat) : d ≠ .seq items n := fun e => nomatch h.symm.trans e
theorem cell_ns {d:Data} {v:Option Value} (h:d = .cell v) (items:Array Value) (n:Nat) : d ≠ .seq items n := fun e => nomatch h.symm.trans e
theorem le_line {n:Nat} (h:n ≤ 4096) : n ≤ sizeLine := Nat.le_trans h (sizeLine_eq ▸ (by decide:4096 ≤ 16777216))
theorem lt63 {n:Nat} (h:n ≤ 4096) : (n:Int) < 2 ^ 63 := Int.lt_of_le_of_lt (Int.ofNat_le.mpr h) (by decide)
end
section
section
variable {G:Gl} {k:Nat} {fl:Bool} {env:Env} {A:Around} {C C':Cm} {Z:Zs} {m:Loc} {H H':Hp} {s:Shared} {h':Heap} {tk:Nat} {a:Addr}
theorem no_up {α:Type} {C C':Addr → Option α} {b:Addr} (h:∀ o, C' b = some o → C b = some o) (e:C b = none) : C' b = none := none_of fun o q => ns e (h o q)
theorem ZOk.step {h h':Heap} (X:ZOk C H h Z) (kp:∀ b o, b ≠ a → h.get? b = some o → h'.get? b = some o) (za:∀ z, z ∈ Z → z.1.frame ≠ some a)
    (hh:∀ b o, b ≠ a → H' b = some o → H b = some o) (cn:∀ b o, b ≠ a → C' b = some o → C b = some o) : ZOk C' H' h' Z := by
  intro z hz;obtain ⟨x1, x2, L, x3, x4, x5, o, x6, x7, es, n, x8⟩ := X z hz;have hne : L ≠ a := fun q => za z hz (q ▸ x3);exact ⟨x1, x2, L, x3, no_up (fun o => cn L o hne) x4, no_up (fun o => hh L o hne) x5, o, kp L o hne x6, x7, es, n, x8⟩
theorem St.step (X:St G C Z H s) (kp:∀ b o, b ≠ a → s.heap.get? b = some o → h'.get? b = some o) (tkk:TK s.heap h') (za:∀ z, z ∈ Z → z.1.frame ≠ some a)
    (hh:∀ b o, b ≠ a → H' b = some o → H b = some o) (ha:∀ o, H' a = some o → C' a = none ∧ ∃ ob, h'.get? a = some ob ∧ OR G.prog G.w C' h' o ob)
    (cc:Cle C C') (cn:∀ b o, b ≠ a → C' b = some o → C b = some o) (cna:∀ o, C' a = some o → h'.get? a = some o) : St G C' Z H' { s with heap := h', toks := tk } := by
  refine ⟨fun b o e => ?_, fun b o e => ?_, fun b o e => ?_, fun b o e => cc _ _ (X.base b o e), X.gens, X.os, X.zs.step kp za hh cn⟩
  · by_cases q : b = a
    · exact q ▸ cna o (q ▸ e)
    · exact kp b o q (X.con b o (cn b o q e))
  · by_cases q : b = a
    · exact q ▸ (ha o (q ▸ e)).2
    · obtain ⟨ob, x1, x2⟩ := X.hp b o (hh b o q e);exact ⟨ob, kp b ob q x1, x2.mono cc tkk⟩
  · by_cases q : b = a
    · exact q ▸ (ha o (q ▸ e)).1
    · exact no_up (fun o => cn b o q) (X.dis b o (hh b o q e))
theorem St.fresh (X:St G C Z H s) (hn:s.heap.get? a = none) : C a = none ∧ H a = none ∧ ∀ z, z ∈ Z → z.1.frame ≠ some a := by
  refine ⟨none_of fun o q => ns hn (X.con a o q), none_of fun o q => (X.hp a o q).elim fun ob h => ns hn h.1, fun z hz q => ?_⟩;obtain ⟨_, _, L, x3, _, _, o, x6, _, _, _, _⟩ := X.zs z hz;exact ns hn (Option.some.inj (x3.symm.trans q) ▸ x6)
theorem tk_of (kp:∀ b o, b ≠ a → s.heap.get? b = some o → h'.get? b = some o) (nt:∀ o items n, s.heap.get? a = some o → o.cls = .type "tuple" → o.data = .seq items n → False) : TK s.heap h' := fun b o items n e1 e2 e3 =>
  kp b o (fun q => nt o items n (q ▸ e1) e2 e3) e1
theorem cell_up {h h':Heap} {c:Addr} {u:Option Value} (k:∀ o, h.get? c = some o → h'.get? c = some o) (i:h.IsCell c u) : h'.IsCell c u := by
  obtain ⟨o, e1, e2⟩ := i;exact ⟨o, k o e1, e2⟩
theorem FR.up {h h':Heap} (X:FR fl C Z H env m h) (k:Cres C C') (hns:∀ mm, h.Ns env.locals mm → h'.Ns env.locals mm) (ck:∀ x c v, env.cells.lookup x = some c → h.IsCell c v → h'.IsCell c v) (oL:C' env.locals = none ∧ H' env.locals = none)
    (oC:∀ x c, env.cells.lookup x = some c → (C c = none → C' c = none) ∧ H' c = none) : FR fl C' Z H' env m h' := by
  refine ⟨?_, fun x o hm hk => ?_, X.kinds, X.nd, X.apart, ⟨oL.1, oL.2, X.ownL.2.2⟩, fun x c e => ?_⟩
  · obtain ⟨mm, hn, hv⟩ := X.ns;exact ⟨mm, hns mm hn, fun x lv hm hk => (hv x lv hm hk).imp fun v h => ⟨h.1, h.2.restrict k⟩⟩
  · obtain ⟨c, v, c1, c2, c3⟩ := X.cell x o hm hk;exact ⟨c, v, c1, ck x c v c1 c2, fun lv e => (c3 lv e).imp fun u h => ⟨h.1, h.2.restrict k⟩⟩
  · obtain ⟨x1, x2, x3, x4, x5⟩ := X.ownC x c e;exact ⟨fun q => (oC x c e).1 (x1 q), (oC x c e).2, x3, x4, x5.imp fun v => ck x c v e⟩
theorem St.sub {Z':Zs} (st:St G C Z' H s) (sub:∀ a o, C' a = some o → C a = some o) (res:Cres C C') (base:∀ a o, G.h₀.get? a = some o → C' a = some o) (hz:∀ z, z ∈ Z → z ∈ Z') : St G C' Z H s :=
  ⟨fun a o e => st.con a o (sub a o e), fun a o e => (st.hp a o e).imp fun ob h => ⟨h.1, h.2.restrict res⟩, fun a o e => no_up (sub a) (st.dis a o e), base, st.gens, st.os, fun z h => by
    obtain ⟨x1, x2, L, x3, x4, x5, o, x6, x7, es, n, x8⟩ := st.zs z (hz z h)
    exact ⟨x1, x2, L, x3, no_up (sub L) x4, x5, o, x6, x7, es, n, x8⟩⟩
theorem FR.step {h h':Heap} (X:FR fl C Z H env m h) (kp:∀ b o, b ≠ a → h.get? b = some o → h'.get? b = some o) (aL:a ≠ env.locals) (aC:∀ x c, env.cells.lookup x = some c → c ≠ a)
    (hh:∀ b o, b ≠ a → H' b = some o → H b = some o) (cc:Cle C C') (cn:∀ b o, b ≠ a → C' b = some o → C b = some o) : FR fl C' Z H' env m h' := by
  have aL := Ne.symm aL;refine X.up cc.res (fun mm hn => ?_) (fun x c v e => cell_up fun o => kp c o (aC x c e)) ⟨no_up (fun o => cn _ o aL) X.ownL.1, no_up (fun o => hh _ o aL) X.ownL.2.1⟩ fun x c e => ⟨no_up fun o => cn _ o (aC x c e), no_up (fun o => hh _ o (aC x c e)) (X.ownC x c e).hH⟩;obtain ⟨o, es, ep, e1, r⟩ := hn;exact ⟨o, es, ep, kp _ o aL e1, r⟩
theorem Inv.stepT (X:Inv G k fl env A C Z m H s) (kp:∀ b o, b ≠ a → s.heap.get? b = some o → h'.get? b = some o) (tkk:TK s.heap h') (za:∀ z, z ∈ Z → z.1.frame ≠ some a) (aL:a ≠ env.locals) (aC:∀ x c, env.cells.lookup x = some c → c ≠ a)
    (hh:∀ b o, b ≠ a → H' b = some o → H b = some o) (ha:∀ o, H' a = some o → C' a = none ∧ ∃ ob, h'.get? a = some ob ∧ OR G.prog G.w C' h' o ob)
    (cc:Cle C C') (cn:∀ b o, b ≠ a → C' b = some o → C b = some o) (cna:∀ o, C' a = some o → h'.get? a = some o) : Inv G k fl env A C' Z m H' { s with heap := h', toks := tk } :=
  X.of (X.hd.mono fun a o ww e ww => cc a o e) (X.st.step kp tkk za hh ha cc cn cna) (X.fr.step kp aL aC hh cc cn)
theorem Inv.step (X:Inv G k fl env A C Z m H s) (kp:∀ b o, b ≠ a → s.heap.get? b = some o → h'.get? b = some o)
    (nt:∀ o items n, s.heap.get? a = some o → o.cls = .type "tuple" → o.data = .seq items n → False)
    (ca:C a = none) (za:∀ z, z ∈ Z → z.1.frame ≠ some a) (aL:a ≠ env.locals) (aC:∀ x c, env.cells.lookup x = some c → c ≠ a)
    (hh:∀ b o, b ≠ a → H' b = some o → H b = some o) (ha:∀ o, H' a = some o → C' a = none ∧ ∃ ob, h'.get? a = some ob ∧ OR G.prog G.w C' h' o ob)
    (cc:Cle C C') (cn:∀ b o, b ≠ a → C' b = some o → C b = some o) (cna:∀ o, C' a = some o → h'.get? a = some o) : Inv G k fl env A C' Z m H' { s with heap := h', toks := tk } :=
  X.stepT kp (tk_of kp nt) za aL aC hh ha cc cn cna
theorem Inv.fresh (X:Inv G k fl env A C Z m H s) (hn:s.heap.get? a = none) : C a = none ∧ H a = none ∧ (∀ z, z ∈ Z → z.1.frame ≠ some a) ∧ a ≠ env.locals ∧ ∀ x c, env.cells.lookup x = some c → c ≠ a := by
  obtain ⟨f1, f2, f3⟩ := X.st.fresh hn;refine ⟨f1, f2, f3, fun q => ?_, fun x c e q => ?_⟩
  · obtain ⟨mm, ⟨o, es, ep, e1, _⟩, _⟩ := X.fr.ns;exact ns hn (q ▸ e1)
  · obtain ⟨v, o, e1, _⟩ := (X.fr.ownC x c e).i;exact ns hn (q ▸ e1)
theorem Inv.notFrame (X:Inv G k fl env A C Z m H s) {o:Obj} (ho:s.heap.get? a = some o) (h1:∀ es n, o.data ≠ .dict es n) (h2:∀ v, o.data ≠ .cell v) : (∀ z, z ∈ Z → z.1.frame ≠ some a) ∧ a ≠ env.locals ∧ (∀ x c, env.cells.lookup x = some c → c ≠ a) := by
  have no : ∀ b o', s.heap.get? b = some o' → b = a → o' = o := fun b o' e q => Option.some.inj (e.symm.trans (q ▸ ho));refine ⟨fun z hz q => ?_, fun q => ?_, fun x c e q => ?_⟩
  · obtain ⟨_, _, L, x3, _, _, ob, x6, _, es, n, x8⟩ := X.st.zs z hz;exact h1 es n (no L ob x6 (Option.some.inj (x3.symm.trans q)) ▸ x8)
  · obtain ⟨mm, ⟨ob, es, ep, e1, e2, _⟩, _⟩ := X.fr.ns;exact h1 es ep (no _ ob e1 q.symm ▸ e2)
  · obtain ⟨v, ob, e1, e2⟩ := (X.fr.ownC x c e).i;exact h2 v (no _ ob e1 q ▸ e2)
theorem Inv.own (X:Inv G k fl env A C Z m H s) {o:LO} (hn:H a = some o) : C a = none ∧ (∀ z, z ∈ Z → z.1.frame ≠ some a) ∧ a ≠ env.locals ∧ (∀ x c, env.cells.lookup x = some c → c ≠ a) ∧
    ∃ ob, s.heap.get? a = some ob ∧ OR G.prog G.w C s.heap o ob ∧ ∀ o' items n, s.heap.get? a = some o' → o'.cls = .type "tuple" → o'.data = .seq items n → False := by
  obtain ⟨ob, e, r⟩ := X.st.hp a o hn;refine ⟨X.st.dis a o hn, fun z hz q => ?_, fun q => ns X.fr.ownL.2.1 (q ▸ hn), fun x c e q => ns (X.fr.ownC x c e).hH (q ▸ hn), ob, e, r, fun o' items n e1 e2 ww => r.noTup (Option.some.inj (e.symm.trans e1) ▸ e2)⟩;obtain ⟨_, _, L, x3, _, x5, _, _, _, _, _, _⟩ := X.st.zs z hz;exact ns x5 (Option.some.inj (x3.symm.trans q) ▸ hn)
theorem cset_cna {o o':Obj} (g:h'.get? a = some o) (e:cset C a o a = some o') : h'.get? a = some o' := g.trans ((cset_same C a o).symm.trans e)
theorem hset_ha {o o':LO} {ob:Obj} (c:C' a = none) (g:h'.get? a = some ob) (r:OR G.prog G.w C' h' o ob) (e:hset H a o a = some o') : C' a = none ∧ ∃ ob, h'.get? a = some ob ∧ OR G.prog G.w C' h' o' ob := ⟨c, ob, g, Option.some.inj ((hset_same H a o).symm.trans e) ▸ r⟩
theorem Inv.upd (X:Inv G k fl env A C Z m H s) {o o':LO} (hn:H a = some o) (hs:Heap.SameBut a s.heap h') {ob:Obj} (hg:h'.get? a = some ob) (r:OR G.prog G.w C h' o' ob) :
    Inv G k fl env A C Z m (hset H a o') { s with heap := h', toks := tk } := by
  obtain ⟨x1, x2, x3, x4, ob0, x5, x6, x7⟩ := X.own hn;refine X.step (a := a) (fun b o q e => (hs.2 b q).trans e) x7 x1 x2 x3 x4 (fun b o q e => (hset_ne H _ q).symm.trans e) (fun o e => hset_ha x1 hg r e) (Cle.refl C) (fun ww ww ww e => e) fun o e => ns x1 e
theorem Inv.keeps (X:Inv G k fl env A C Z m H s) (kp:∀ b o, s.heap.get? b = some o → h'.get? b = some o) : Inv G k fl env A C Z m H { s with heap := h', toks := tk } := by
  have hn : s.heap.get? s.heap.objs.size = none := Heap.get?_none_of_le (Nat.le_refl _);obtain ⟨x1, x2, x3, x4, x5⟩ := X.fresh hn;exact X.step (a := s.heap.objs.size) (fun b o ww e => kp b o e) (fun o ww ww e => ns hn e) x1 x3 x4 x5 (fun ww ww ww e => e) (fun o e => ns x2 e) (Cle.refl C) (fun ww ww ww e => e) (fun o e => ns x1 e)
theorem Inv.toks (X:Inv G k fl env A C Z m H s) : Inv G k fl env A C Z m H { s with toks := tk } := X.keeps fun ww ww e => e
theorem Inv.allocH (X:Inv G k fl env A C Z m H s) (hn:s.heap.get? a = none) (kp:∀ b o, s.heap.get? b = some o → h'.get? b = some o) {o:LO} {ob:Obj} (hg:h'.get? a = some ob) (r:OR G.prog G.w C h' o ob) :
    H a = none ∧ Inv G k fl env A C Z m (hset H a o) { s with heap := h', toks := tk } := by
  obtain ⟨x1, x2, x3, x4, x5⟩ := X.fresh hn;refine ⟨x2, X.step (a := a) (fun b o ww e => kp b o e) (fun o ww ww e => ns hn e) x1 x3 x4 x5 (fun b o q e => (hset_ne H _ q).symm.trans e) (fun o e => hset_ha x1 hg r e) (Cle.refl C) (fun ww ww ww e => e) (fun o e => ns x1 e)⟩
theorem Inv.allocC (X:Inv G k fl env A C Z m H s) (hn:s.heap.get? a = none) (kp:∀ b o, s.heap.get? b = some o → h'.get? b = some o) {ob:Obj} (hg:h'.get? a = some ob) :
    Cle C (cset C a ob) ∧ Inv G k fl env A (cset C a ob) Z m H { s with heap := h', toks := tk } := by
  obtain ⟨x1, x2, x3, x4, x5⟩ := X.fresh hn;refine ⟨Cle.set ob x1, X.step (a := a) (fun b o ww e => kp b o e) (fun o ww ww e => ns hn e) x1 x3 x4 x5 (fun ww ww ww e => e) (fun o e => ns x2 e) (Cle.set ob x1) (fun b o q e => (cset_ne C _ q).symm.trans e) (fun o e => cset_cna hg e)⟩
end
end
section
inductive Put : Loc → Str → LV → Loc → Prop
  | here {m:Loc} {x:Str} {o:Option LV} {v:LV} : Put ((x, o) :: m) x v ((x, some v) :: m)
  | there {m m':Loc} {x y:Str} {o:Option LV} {v:LV} : Put m x v m' → Put ((y, o) :: m) x v ((y, o) :: m')
theorem Put.keys {m m':Loc} {x:Str} {v:LV} (p:Put m x v m') : m'.map (·.1) = m.map (·.1) := by
  induction p with
  | here => rfl
  | there _ ih => rw [List.map_cons, List.map_cons, ih]
theorem Put.has {m m':Loc} {x:Str} {v:LV} (p:Put m x v m') : ∃ o, (x, o) ∈ m := by
  induction p with
  | here => exact ⟨_, List.mem_cons_self⟩
  | there _ ih => obtain ⟨o, h⟩ := ih; exact ⟨o, List.mem_cons_of_mem _ h⟩
theorem Put.mem {m m':Loc} {x:Str} {v:LV} (p:Put m x v m') (nd:(m.map (·.1)).Nodup) {y:Str} {o:Option LV} (h:(y, o) ∈ m') : (y = x ∧ o = some v) ∨ (y ≠ x ∧ (y, o) ∈ m) := by
  induction p with
  | @here m x o' v =>
    rw [List.map_cons, List.nodup_cons] at nd;rcases List.mem_cons.mp h with e | h2
    · cases e; exact .inl ⟨rfl, rfl⟩
    · refine .inr ⟨fun q => ?_, List.mem_cons_of_mem _ h2⟩;exact nd.1 (List.mem_map.mpr ⟨_, h2, q⟩)
  | @there m m' x y' o' v q ih =>
    rw [List.map_cons, List.nodup_cons] at nd;rcases List.mem_cons.mp h with e | h2
    · cases e;refine .inr ⟨fun q2 => ?_, List.mem_cons_self⟩;obtain ⟨o2, h3⟩ := q.has;exact nd.1 (List.mem_map.mpr ⟨_, h3, q2.symm⟩)
    · rcases ih nd.2 h2 with r | ⟨r1, r2⟩
      · exact .inl r
      · exact .inr ⟨r1, List.mem_cons_of_mem _ r2⟩
section
variable {G:Gl} {k:Nat} {fl:Bool} {env:Env} {A:Around} {C C':Cm} {Z:Zs} {m m':Loc} {H:Hp} {s:Shared}
theorem FR.put {h h':Heap} (X:FR fl C Z H env m h) {x:Str} {lv:LV} (p:Put m x lv m') (hns:∃ mm, h'.Ns env.locals mm ∧ ∀ y lv', (y, some lv') ∈ m' → env.kindOf y = some .local → ∃ v, mm y = some v ∧ VR C lv' v)
    (hx:env.kindOf x ≠ some .local → ∃ c v, env.cells.lookup x = some c ∧ h'.IsCell c (some v) ∧ VR C lv v) (ck:∀ y c, env.cells.lookup y = some c → ∃ v, h'.IsCell c v) (ck2:∀ y c u, y ≠ x → env.cells.lookup y = some c → h.IsCell c u → h'.IsCell c u) : FR fl C Z H env m' h' := by
  obtain ⟨o, ho⟩ := p.has;refine ⟨hns, fun y o' hm hk => ?_, fun y o' hm => (p.mem X.nd hm).elim (fun e => e.1 ▸ X.kinds x o ho) fun e => X.kinds y o' e.2, p.keys.symm ▸ X.nd, X.apart, X.ownL, fun y c e => ?_⟩
  · rcases p.mem X.nd hm with ⟨rfl, rfl⟩ | ⟨hne, hm⟩
    · obtain ⟨c, v, c1, c2, c3⟩ := hx hk;exact ⟨c, some v, c1, c2, fun lv' e => ⟨v, rfl, Option.some.inj e ▸ c3⟩⟩
    · obtain ⟨c, u, c1, c2, c3⟩ := X.cell y o' hm hk;exact ⟨c, u, c1, ck2 y c u hne c1 c2, c3⟩
  · obtain ⟨x1, x2, x3, x4, _⟩ := X.ownC y c e;exact ⟨x1, x2, x3, x4, ck y c e⟩
theorem Inv.store (X:Inv G k fl env A C Z m H s) {x:Str} {lv:LV} {v:Value} (p:Put m x lv m') (hv:VR C lv v) (hfl:fl = true ∨ env.kindOf x = some .local) {E:Value → Shared → Prop} {Q:Unit → Shared → Prop}
    (hQ:∀ s', Inv G k fl env A C Z m' H s' → Q () s') : wpAny G.M A (storeName env x v) Q E s := by
  obtain ⟨mm, hn, hval⟩ := X.fr.ns;have nd := X.fr.nd;have own := X.fr.ownC
  by_cases hl : env.kindOf x = some .local
  · refine wpAny_storeName_local hl hn (fun h' hn' hs => hQ _ ?_) (by rw [X.kind]; rfl);obtain ⟨o2, es, ep, e4, e5, _⟩ := hn;have kp : ∀ b o, b ≠ env.locals → s.heap.get? b = some o → h'.get? b = some o := fun b o q e => (hs.2 b q).trans e;have ck : ∀ y c u, env.cells.lookup y = some c → s.heap.IsCell c u → h'.IsCell c u := fun y c u e => cell_up fun o => kp c o (own y c e).ne;refine X.of X.hd (X.st.step kp (tk_of kp (nt_of e4 (dict_ns e5))) X.fr.ownL.2.2 (fun ww ww ww e => e) (fun o e => ns X.fr.ownL.2.1 e) (Cle.refl C) (fun ww ww ww e => e) fun o e => ns X.fr.ownL.1 e) (X.fr.put p ⟨_, hn', fun y lv' hm hk => ?_⟩ (fun q => absurd hl q) (fun y c e => (own y c e).i.imp fun u i => ck y c u e i) fun y c u ww => ck y c u);rcases p.mem nd hm with ⟨h1, e⟩ | ⟨hne, hm⟩
    · exact ⟨v, if_pos h1, Option.some.inj e ▸ hv⟩
    · obtain ⟨u, u1, u2⟩ := hval y lv' hm hk;exact ⟨u, (if_neg hne).trans u1, u2⟩
  · obtain ⟨o, ho⟩ := p.has;obtain ⟨c, u, c1, c2, _⟩ := X.fr.cell x o ho hl;have hkc := (X.fr.kinds x o ho).resolve_left hl;have go : ∀ h', h'.IsCell c (some v) → Heap.SameBut c s.heap h' → Q () { s with heap := h' } := fun h' hc' hs => by
      obtain ⟨y1, y2, y3, y4, _⟩ := own x c c1;replace y1 := y1 (hfl.resolve_right hl);obtain ⟨oc, y5, y6⟩ := c2;have kp : ∀ b o, b ≠ c → s.heap.get? b = some o → h'.get? b = some o := fun b o q e => (hs.2 b q).trans e;have ck : ∀ y c' u, y ≠ x → env.cells.lookup y = some c' → s.heap.IsCell c' u → h'.IsCell c' u := fun y c' u hne e => cell_up fun o => kp c' o fun q => hne (X.fr.apart y x c (q ▸ e) c1);refine hQ _ (X.of X.hd (X.st.step kp (tk_of kp (nt_of y5 (cell_ns y6))) y4 (fun ww ww ww e => e) (fun o e => ns y2 e) (Cle.refl C) (fun ww ww ww e => e) fun o e => ns y1 e) (X.fr.put p ⟨mm, hn.sameBut hs (Ne.symm y3), fun y lv' hm hk => ?_⟩ (fun ww => ⟨c, v, c1, hc', hv⟩) (fun y c' e => ?_) ck))
      · exact (p.mem nd hm).elim (fun e => absurd (e.1 ▸ hk) hl) fun e => hval y lv' e.2 hk
      · by_cases hne : y = x
        · exact ⟨_, Option.some.inj (c1.symm.trans (hne ▸ e)) ▸ hc'⟩
        · exact (own y c' e).i.imp fun u i => ck y c' u hne e i
    rcases hkc with hk | hk
    · exact wpAny_storeName_cell X.kind hk c1 c2 go
    · unfold storeName;rw [hk, X.kind];exact wpAny_bind (wpAny_cellOf c1 (wpAny_cellSet c2 go))
theorem Inv.load (X:Inv G k fl env A C Z m H s) {x:Str} {lv:LV} (hm:(x, some lv) ∈ m) {E:Value → Shared → Prop} {Q:Value → Shared → Prop}
    (hQ:∀ v, VR C lv v → Q v s) (hn:(x == ("__classdict__" : Str)) = false := by decide +kernel) : wpAny G.M A (loadName env x) Q E s := by
  by_cases hl : env.kindOf x = some .local
  · obtain ⟨mm, hns, hval⟩ := X.fr.ns;obtain ⟨v, v1, v2⟩ := hval x lv hm hl;exact wpAny_loadName_local X.kind hl hns v1 (hQ v v2)
  · obtain ⟨c, u, c1, c2, c3⟩ := X.fr.cell x _ hm hl;obtain ⟨v, rfl, hv⟩ := c3 lv rfl;rcases X.fr.kinds x _ hm with q | q | q
    · exact absurd q hl
    · exact wpAny_loadName_cell X.kind q c1 c2 (hQ v hv)
    · exact wpAny_loadName_free X.kind q c1 c2 (hQ v hv) hn
end
noncomputable abbrev Xk := String × Bool
inductive Trc (C:Cm) (H:Hp) (h:Heap) (ea:Addr) (cls:Xk) (flv:Value) : Prop
  | mk (oe:Obj) (vs:Array Value) (a0:Value) (T:Addr) (oT:Obj) (ts:Array Value) (he:h.get? ea = some oe) (hc:oe.cls = .type cls.1) (hd:oe.data = .fields vs) (h0:vs[0]? = some a0) (h1:vs[1]? = some (.ref T)) (h2:cls.2 = true → vs[2]? = some .none) (ne:T ≠ ea) (hT:h.get? T = some oT) (dT:oT.data = .fields ts) (h3:ts[3]? = some flv)
    (c1:C ea = none) (c2:H ea = none) (c3:C T = none) (c4:H T = none)
structure NewX (h h':Heap) (ea:Addr) (cls:Xk) : Prop where
  keeps : ∀ b o, h.get? b = some o → h'.get? b = some o
  new : h.get? ea = none
  there : ∃ ob vs a0, h'.get? ea = some ob ∧ ob.cls = .type cls.1 ∧ ob.data = .fields vs ∧ vs[0]? = some a0 ∧ vs[1]? = some .none ∧ (cls.2 = true → vs[2]? = some .none)
theorem NewX.of {h h':Heap} {ea:Addr} {cls:String} (x:Heap.NewExc h h' ea cls) (c:Bool) : NewX h h' ea (cls, c) := by
  obtain ⟨ob, t, e1, e2, e3⟩ := x.there;exact ⟨x.keeps, x.new, ob, _, t, e1, e2, e3, rfl, rfl, fun ww => rfl⟩
inductive ExI (G:Gl) (k:Nat) (fl:Bool) (env:Env) (A:Around) (C:Cm) (Z:Zs) (m:Loc) (H:Hp) (cls:Xk) (e:Value) (s:Shared) : Prop
  | new (ea:Addr) (he:e = .ref ea) (h₁:Heap) (I:Inv G k fl env A C Z m H { s with heap := h₁ }) (x:NewX h₁ s.heap ea cls)
  | old (ea:Addr) (he:e = .ref ea) (I:Inv G k fl env A C Z m H s) (flv:Value) (t:Trc C H s.heap ea cls flv) (f:flv = .none ∨ ∃ L, env.frame = some L ∧ flv = rawInt L)
noncomputable abbrev Qv := LV → Hp → Prop
noncomputable abbrev Xc := Xk → Hp → Prop
section
variable (G:Gl) (k:Nat) (fl:Bool) (env:Env) (A:Around) (C:Cm) (Z:Zs) (m:Loc)
inductive Post (Q:Qv) (v:Value) (s':Shared) : Prop
  | mk (C':Cm) (lv:LV) (H':Hp) (c:Cle C C') (I:Inv G k fl env A C' Z m H' s') (vr:VR C' lv v) (q:Q lv H')
inductive BPost (Q:Bool → Hp → Prop) (b:Bool) (s':Shared) : Prop
  | mk (C':Cm) (H':Hp) (c:Cle C C') (I:Inv G k fl env A C' Z m H' s') (q:Q b H')
inductive XPost (X:Xc) (e:Value) (s':Shared) : Prop
  | mk (C':Cm) (cls:Xk) (H':Hp) (c:Cle C C') (I:ExI G k fl env A C' Z m H' cls e s') (q:X cls H')
end
inductive XsPost (G:Gl) (k:Nat) (fl:Bool) (env:Env) (A:Around) (C:Cm) (Z:Zs) (X:Xk → Loc → Hp → Prop) (e:Value) (s':Shared) : Prop
  | mk (C':Cm) (cls:Xk) (m':Loc) (H':Hp) (c:Cle C C') (I:ExI G k fl env A C' Z m' H' cls e s') (q:X cls m' H')
inductive HPost (G:Gl) (k:Nat) (fl:Bool) (env:Env) (A:Around) (C:Cm) (Z:Zs) (m:Loc) (N:Hp → Prop) (s':Shared) : Prop
  | mk (C':Cm) (H':Hp) (c:Cle C C') (I:Inv G k fl env A C' Z m H' s') (q:N H')
inductive NPost (G:Gl) (k:Nat) (fl:Bool) (env:Env) (A:Around) (C:Cm) (Z:Zs) (N:Loc → Hp → Prop) (s':Shared) : Prop
  | mk (C':Cm) (m':Loc) (H':Hp) (c:Cle C C') (I:Inv G k fl env A C' Z m' H' s') (q:N m' H')
inductive RPost (G:Gl) (k:Nat) (fl:Bool) (env:Env) (A:Around) (C:Cm) (Z:Zs) (m:Loc) (Q:List LV → Hp → Prop) (vs:List Value) (s':Shared) : Prop
  | mk (C':Cm) (lvs:List LV) (H':Hp) (c:Cle C C') (I:Inv G k fl env A C' Z m H' s') (vr:VRs C' lvs vs) (q:Q lvs H')
section
variable {G:Gl} {k:Nat} {fl:Bool} {env:Env} {A:Around} {C C':Cm} {Z:Zs} {m:Loc}
theorem Post.up {Q:Qv} (c:Cle C C') {v:Value} {s:Shared} (h:Post G k fl env A C' Z m Q v s) : Post G k fl env A C Z m Q v s := by
  obtain ⟨C2, lv, H', a, r, r2, r3⟩ := h; exact ⟨C2, lv, H', c.trans a, r, r2, r3⟩
theorem BPost.up {Q:Bool → Hp → Prop} (c:Cle C C') {v:Bool} {s:Shared} (h:BPost G k fl env A C' Z m Q v s) : BPost G k fl env A C Z m Q v s := by
  obtain ⟨C2, H', a, r, r2⟩ := h; exact ⟨C2, H', c.trans a, r, r2⟩
theorem XPost.up {X:Xc} (c:Cle C C') {v:Value} {s:Shared} (h:XPost G k fl env A C' Z m X v s) : XPost G k fl env A C Z m X v s := by
  obtain ⟨C2, cls, H', a, r, r2⟩ := h; exact ⟨C2, cls, H', c.trans a, r, r2⟩
end
noncomputable def EV (G:Gl) (k:Nat) (fl:Bool) (sc:Scope) (e:Expr) (m:Loc) (H:Hp) (Q:Qv) (X:Xc) : Prop :=
  ∀ env A C Z s, env.scope = sc → Inv G k fl env A C Z m H s → wpAny G.M A (eval e env) (Post G k fl env A C Z m Q) (XPost G k fl env A C Z m X) s
noncomputable def TS (G:Gl) (k:Nat) (fl:Bool) (sc:Scope) (e:Expr) (m:Loc) (H:Hp) (Q:Bool → Hp → Prop) (X:Xc) : Prop :=
  ∀ env A C Z s, env.scope = sc → Inv G k fl env A C Z m H s → wpAny G.M A (isTrue e env (eval e env)) (BPost G k fl env A C Z m Q) (XPost G k fl env A C Z m X) s
noncomputable def BO (G:Gl) (t:Value → Value → Sem Value) (a b:LV) (H:Hp) (Q:Qv) (X:Xc) : Prop :=
  ∀ k fl env A C Z m s va vb, Inv G k fl env A C Z m H s → VR C a va → VR C b vb → wpAny G.M A (t va vb) (Post G k fl env A C Z m Q) (XPost G k fl env A C Z m X) s
section
variable {G:Gl} {k:Nat} {fl:Bool} {sc:Scope} {m:Loc} {H:Hp} {Q Q':Qv} {X:Xc}
theorem EV.mono {e:Expr} (h:EV G k fl sc e m H Q X) (hQ:∀ lv H', Q lv H' → Q' lv H') : EV G k fl sc e m H Q' X :=
  fun env A C Z s hs I => wpAny_mono (h env A C Z s hs I) (fun _ _ ⟨C', lv, H', a, b, c, d⟩ => ⟨C', lv, H', a, b, c, hQ lv H' d⟩) fun ww ww x => x
theorem EV_Name {x:Str} {p:Pos} {lv:LV} (hm:(x, some lv) ∈ m) (hQ:Q lv H) (hn:(x == ("__classdict__" : Str)) = false := by decide +kernel) (hd:(x == ("__debug__" : Str)) = false := by decide +kernel) : EV G k fl sc (.Name x p) m H Q X :=
  fun env A C Z s hs I => wpAny_Name (I.load hm (fun v hv => ⟨C, lv, H, Cle.refl C, I, hv, hQ⟩) hn) hd
theorem EV_none {kd:Nat} {p:Pos} (hQ:Q .none H) : EV G k fl sc (.Constant .none kd p) m H Q X :=
  fun env A C Z s hs I => wpAny_pure ⟨C, .none, H, Cle.refl C, I, rfl, hQ⟩
theorem EV_bool {b:Bool} {kd:Nat} {p:Pos} (hQ:Q (.bool b) H) : EV G k fl sc (.Constant (.bool b) kd p) m H Q X :=
  fun env A C Z s hs I => wpAny_pure ⟨C, .bool b, H, Cle.refl C, I, rfl, hQ⟩
theorem EV_int {i:Int} {kd:Nat} {p:Pos} (hQ:Q (.int i) H) : EV G k fl sc (.Constant (.int i) kd p) m H Q X :=
  fun env A C Z s hs I => wpAny_mkInt ⟨C, .int i, H, Cle.refl C, I.toks, ⟨_, rfl⟩, hQ⟩
theorem EV_str {x:Str} {kd:Nat} {p:Pos} (hQ:Q (.str x) H) : EV G k fl sc (.Constant (.str x) kd p) m H Q X :=
  fun env A C Z s hs I => wpAny_mkText ⟨C, .str x, H, Cle.refl C, I.toks, ⟨_, rfl⟩, hQ⟩
theorem EV_BinOp {l r:Expr} {op:Operator} {p:Pos} (h:EV G k fl sc l m H (fun a H1 => EV G k fl sc r m H1 (fun b H2 => BO G (binaryOp op) a b H2 Q X) X) X) :
    EV G k fl sc (.BinOp l op r p) m H Q X :=
  fun env A C Z s hs I => wpAny_BinOp (wpAny_mono (h env A C Z s hs I) (fun va s1 ⟨C1, a, H1, c1, I1, v1, q1⟩ =>
    wpAny_mono (q1 env A C1 Z s1 hs I1) (fun vb s2 ⟨C2, b, H2, c2, I2, v2, q2⟩ =>
      wpAny_mono (q2 k fl env A C2 Z m s2 va vb I2 (v1.mono c2) v2) (fun ww ww x => (Post.up c2 x).up c1) fun ww ww x => (XPost.up c2 x).up c1) fun ww ww x => XPost.up c1 x) fun ww ww x => x)
theorem EV_Compare1 {l r:Expr} {op:CmpOp} {p:Pos} (h:EV G k fl sc l m H (fun a H1 => EV G k fl sc r m H1 (fun b H2 => BO G (compareOp op) a b H2 Q X) X) X)
    (hm:behindInMarks op r = false := by with_unfolding_all rfl) : EV G k fl sc (.Compare l [op] [r] p) m H Q X :=
  fun env A C Z s hs I => wpAny_Compare1 (wpAny_mono (h env A C Z s hs I) (fun va s1 ⟨C1, a, H1, c1, I1, v1, q1⟩ =>
    wpAny_mono (q1 env A C1 Z s1 hs I1) (fun vb s2 ⟨C2, b, H2, c2, I2, v2, q2⟩ =>
      wpAny_mono (q2 k fl env A C2 Z m s2 va vb I2 (v1.mono c2) v2) (fun ww ww x => (Post.up c2 x).up c1) fun ww ww x => (XPost.up c2 x).up c1) fun ww ww x => XPost.up c1 x) fun ww ww x => x) hm
theorem EV_IfExp {t b o:Expr} {p:Pos} (h:TS G k fl sc t m H (fun c H1 => if c then EV G k fl sc b m H1 Q X else EV G k fl sc o m H1 Q X) X) : EV G k fl sc (.IfExp t b o p) m H Q X :=
  fun env A C Z s hs I => wpAny_IfExp (wpAny_mono (h env A C Z s hs I) (fun c s1 ⟨C1, H1, c1, I1, q1⟩ => by
    cases c with
    | true => simp only [if_true] at q1 ⊢; exact wpAny_mono (q1 env A C1 Z s1 hs I1) (fun ww ww x => Post.up c1 x) fun ww ww x => XPost.up c1 x
    | false => simp only [Bool.false_eq_true, if_false] at q1 ⊢; exact wpAny_mono (q1 env A C1 Z s1 hs I1) (fun ww ww x => Post.up c1 x) fun ww ww x => XPost.up c1 x) fun ww ww x => x)
end
end
section
noncomputable def OwnAt (env:Env) (a:Addr) : Prop := a = env.locals ∨ ∃ x, env.cells.lookup x = some a
section
variable {G:Gl} {k:Nat} {fl:Bool} {env:Env} {A:Around} {C C':Cm} {Z:Zs} {m m':Loc} {H H':Hp} {s s':Shared}
open Classical in
noncomputable def aside (fl:Bool) (env:Env) (C:Cm) (h:Heap) : Cm := fun b => if OwnAt env b ∧ ¬ (fl = true ∧ b = env.locals) then h.get? b else C b
open Classical in
noncomputable def unaside (C₀:Cm) (env:Env) (C:Cm) : Cm := fun b => if OwnAt env b ∧ C₀ b = none then none else C b
noncomputable def asideZ (fl:Bool) (env:Env) (d:Data) (Z:Zs) : Zs := if fl then (env, d) :: Z else Z
theorem Inv.ownNone (X:Inv G k fl env A C Z m H s) {a:Addr} (h:OwnAt env a) : ((fl = true ∨ a = env.locals) → C a = none) ∧ H a = none ∧ (∀ z, z ∈ Z → z.1.frame ≠ some a) ∧ ∃ o, s.heap.get? a = some o ∧ seqOrPlain o.data = false ∧ ∀ vs, o.data ≠ .fields vs := by
  rcases h with rfl | ⟨x, hx⟩
  · obtain ⟨mm, ⟨o, es, ep, e1, e2, _⟩, _⟩ := X.fr.ns;exact ⟨fun ww => X.fr.ownL.1, X.fr.ownL.2.1, X.fr.ownL.2.2, o, e1, e2 ▸ rfl, fun vs q => nomatch e2.symm.trans q⟩
  · obtain ⟨x1, x2, x3, x4, ⟨v, o, e1, e2⟩⟩ := X.fr.ownC x a hx;exact ⟨fun q => x1 (q.resolve_right x3), x2, x4, o, e1, e2 ▸ rfl, fun vs q => nomatch e2.symm.trans q⟩
theorem Inv.locData (X:Inv G k fl env A C Z m H s) : ∃ o es ep, s.heap.get? env.locals = some o ∧ o.data = .dict es ep := by
  obtain ⟨mm, ⟨o, es, ep, e1, e2, _⟩, _⟩ := X.fr.ns;exact ⟨o, es, ep, e1, e2⟩
theorem aside_le (X:Inv G k fl env A C Z m H s) : Cle C (aside fl env C s.heap) := by
  intro a o e;unfold aside
  split
  · exact X.st.con a o e
  · exact e
theorem St.aside (X:Inv G k fl env A C Z m H s) {o:Obj} (ho:s.heap.get? env.locals = some o) : St G (aside fl env C s.heap) (asideZ fl env o.data Z) H s := by
  have le := aside_le X;have st := X.st;have noH : ∀ a, OwnAt env a → H a = none := fun a q => (X.ownNone q).2.1;refine ⟨fun a o' e => ?_, fun a o' e => ?_, fun a o' e => ?_, fun a o' e => le _ _ (st.base a o' e), st.gens, st.os, ?_⟩
  · unfold Go.aside at e
    split at e
    · exact e
    · exact st.con a o' e
  · obtain ⟨ob, e1, e2⟩ := st.hp a o' e;exact ⟨ob, e1, e2.mono le (TK.of_keeps fun ww ww e => e)⟩
  · unfold Go.aside;rw [if_neg (fun q => ns (noH a q.1) e)];exact st.dis a o' e
  · have old : ZOk (Go.aside fl env C s.heap) H s.heap Z := fun z hz => by
      obtain ⟨x1, x2, L, x3, x4, x5, ob, x6, x7, es, n, x8⟩ := st.zs z hz;exact ⟨x1, x2, L, x3, (if_neg fun q => (X.ownNone q.1).2.2.1 z hz x3).trans x4, x5, ob, x6, x7, es, n, x8⟩
    cases fl with
    | false => exact old
    | true =>
      intro z hz;rcases List.mem_cons.mp hz with rfl | hz
      · obtain ⟨o2, es, ep, e1, e2⟩ := X.locData;have e2 := Option.some.inj (e1.symm.trans ho) ▸ e2;exact ⟨(fun q => nomatch X.kind.symm.trans q), fun vs q => (nomatch e2.symm.trans q), env.locals, X.frame rfl, (if_neg fun q => q.2 ⟨rfl, rfl⟩).trans X.fr.ownL.1, X.fr.ownL.2.1, o, ho, rfl, es, ep, e2⟩
      · exact old z hz
theorem Inv.back (X:Inv G k fl env A C Z m H s) {o:Obj} (ho:s.heap.get? env.locals = some o) (hC:Cle (aside fl env C s.heap) C') (st':St G C' (asideZ fl env o.data Z) H' s') :
    Cle C (unaside C env C') ∧ Inv G k fl env A (unaside C env C') Z m H' s' ∧ ∀ {lv v}, VR C' lv v → VR (unaside C env C') lv v := by
  have le0 := aside_le X
  -- the own places hold what they held
  have hcell : ∀ x c, env.cells.lookup x = some c → ∃ ob, s.heap.get? c = some ob ∧ C' c = some ob ∧ s'.heap.get? c = some ob ∧ seqOrPlain ob.data = false := by
    intro x c hx;obtain ⟨_, _, _, ob, e1, e2, _⟩ := X.ownNone (.inr ⟨x, hx⟩ : OwnAt env c);have h2 := hC c ob ((if_pos ⟨.inr ⟨x, hx⟩, fun q => (X.fr.ownC x c hx).ne q.2⟩).trans e1);exact ⟨ob, e1, h2, st'.con c ob h2, e2⟩
  have hloc : ∃ o', s'.heap.get? env.locals = some o' ∧ o'.data = o.data ∧ (∀ ob, C' env.locals = some ob → ob = o) ∧ H' env.locals = none := by
    cases fl with
    | true =>
      obtain ⟨_, _, L, x3, x4, x5, ob, x6, x7, _, _, _⟩ := st'.zs (env, o.data) List.mem_cons_self;cases (X.frame rfl).symm.trans x3;exact ⟨ob, x6, x7, fun ww e => ns x4 e, x5⟩
    | false =>
      have h2 := hC _ o ((if_pos ⟨.inl rfl, fun q => Bool.noConfusion q.1⟩).trans ho);exact ⟨o, st'.con _ _ h2, rfl, fun ob e => Option.some.inj (e.symm.trans h2), none_of fun ob q => ns (st'.dis _ _ q) h2⟩
  obtain ⟨ol, l1, l2, l3, l4⟩ := hloc;obtain ⟨od, es, ep, d1, d2⟩ := X.locData;cases ho.symm.trans d1;have own : ∀ a, OwnAt env a → H' a = none ∧ ∀ ob, C' a = some ob → seqOrPlain ob.data = false := by
    intro a q;rcases q with rfl | ⟨x, hx⟩
    · exact ⟨l4, fun ob e => by rw [l3 ob e, d2]; rfl⟩
    · obtain ⟨ob, _, e2, _, e4⟩ := hcell x a hx;exact ⟨none_of fun ob2 q => ns (st'.dis _ _ q) e2, fun ob' e => Option.some.inj (e2.symm.trans e) ▸ e4⟩
  have res : Cres C' (unaside C env C') := fun a ob e hs => (if_neg fun q => nomatch hs.symm.trans ((own a q.1).2 ob e)).trans e;have le : Cle C (unaside C env C') := fun a ob e => (if_neg fun q => ns q.2 e).trans (hC _ _ (le0 _ _ e));have sub : ∀ a ob, unaside C env C' a = some ob → C' a = some ob := fun a ob e => by
    unfold unaside at e; split at e
    · cases e
    · exact e
  have st2 : St G (unaside C env C') Z H' s' := st'.sub sub res (fun a ob e => le _ _ (X.st.base a ob e)) fun z hz => by
    cases fl with
    | true => exact List.mem_cons_of_mem _ hz
    | false => exact hz
  refine ⟨le, X.of (X.hd.mono fun a o ww e ww => le a o e) st2 (X.fr.up le.res (fun mm hn => ?_) (fun x c v hx i => ?_) ⟨if_pos ⟨.inl rfl, X.fr.ownL.1⟩, l4⟩ fun x c hx => ⟨fun q => if_pos ⟨.inr ⟨x, hx⟩, q⟩, (own c (.inr ⟨x, hx⟩)).1⟩), fun h => h.restrict res⟩
  · obtain ⟨o2, es, ep, e1, e2, e3⟩ := hn;exact ⟨ol, es, ep, l1, (l2.trans (Option.some.inj (ho.symm.trans e1) ▸ rfl)).trans e2, e3⟩
  · obtain ⟨ob, h1, _, h3, _⟩ := hcell x c hx;exact cell_up (fun o e => h3.trans (h1.symm.trans e)) i
end
end
section
section
variable {G:Gl} {k:Nat} {fl:Bool} {env:Env} {A:Around} {C C':Cm} {Z:Zs} {m m':Loc} {H H':Hp} {s s':Shared} {h':Heap} {tk:Nat} {a:Addr}
theorem Inv.notFields (X:Inv G k fl env A C Z m H s) {o:Obj} {vs:Array Value} (ho:s.heap.get? a = some o) (hd:o.data = .fields vs) :
    (∀ z, z ∈ Z → z.1.frame ≠ some a) ∧ a ≠ env.locals ∧ (∀ x c, env.cells.lookup x = some c → c ≠ a) := X.notFrame ho (fun ww ww e => nomatch hd.symm.trans e) fun ww e => nomatch hd.symm.trans e
theorem Inv.alien (X:Inv G k fl env A C Z m H s) {o:Obj} {vs:Array Value} (ho:s.heap.get? a = some o) (hd:o.data = .fields vs) (hC:C a = none) (hH:H a = none) (hs:Heap.SameBut a s.heap h') :
    Inv G k fl env A C Z m H { s with heap := h', toks := tk } := by
  obtain ⟨y1, y2, y3⟩ := X.notFields ho hd;refine X.step (a := a) (fun b ob q e => (hs.2 b q).trans e) (nt_of ho fun items n e => nomatch hd.symm.trans e) hC y1 y2 y3 (fun ww ww ww e => e) (fun o' e => ns hH e) (Cle.refl C) (fun ww ww ww e => e) fun o' e => ns hC e
theorem Inv.slots (X:Inv G k true env A C Z m H s) {l:List Addr} (hl:∀ b, b ∈ l → b = env.locals ∨ ∃ z, z ∈ Z ∧ z.1.frame = some b) (hs:Heap.SlotsOnly l s.heap h') : Inv G k true env A C Z m H { s with heap := h' } := by
  have dat : ∀ b ob, s.heap.get? b = some ob → ∃ ob', h'.get? b = some ob' ∧ ob'.data = ob.data := fun b ob e => (hs.2.2 b ob e).elim fun sl q => ⟨_, q, rfl⟩;have kp : ∀ b ob, s.heap.get? b = some ob → b ∉ l → h'.get? b = some ob := fun b ob e q => (hs.2.1 b q).trans e;have nl : ∀ b, b ≠ env.locals → (∀ z, z ∈ Z → z.1.frame ≠ some b) → b ∉ l := fun b h1 h2 hb => by
    rcases hl b hb with q | ⟨z, hz, q⟩
    · exact h1 q
    · exact h2 z hz q
  have isF : ∀ b, b ∈ l → C b = none ∧ H b = none ∧ ∃ ob es n, s.heap.get? b = some ob ∧ ob.data = .dict es n := fun b hb => by
    rcases hl b hb with rfl | ⟨z, hz, q⟩
    · obtain ⟨mm, ⟨ob, es, ep, e1, e2, _⟩, _⟩ := X.fr.ns;exact ⟨X.fr.ownL.1, X.fr.ownL.2.1, ob, es, ep, e1, e2⟩
    · obtain ⟨_, _, L, x3, x4, x5, ob, x6, x7, es, n, x8⟩ := X.st.zs z hz;cases x3.symm.trans q;exact ⟨x4, x5, ob, es, n, x6, x8⟩
  have tk : TK s.heap h' := fun b ob items n e1 e2 e3 => kp b ob e1 fun q => by
    obtain ⟨_, _, ob2, es, n2, e4, e5⟩ := isF b q;exact dict_ns e5 items n (Option.some.inj (e1.symm.trans e4) ▸ e3)
  refine X.of X.hd ⟨fun b ob e => kp b ob (X.st.con b ob e) fun q => ns (isF b q).1 e, fun b o e => ?_, X.st.dis, X.st.base, X.st.gens, X.st.os, fun z hz => ?_⟩ (X.fr.up (Cle.refl C).res (fun mm hn => ?_) (fun x c v e i => ?_) ⟨X.fr.ownL.1, X.fr.ownL.2.1⟩ fun x c e => ⟨id, (X.fr.ownC x c e).hH⟩)
  · obtain ⟨ob, e1, e2⟩ := X.st.hp b o e;exact ⟨ob, kp b ob e1 fun q => ns (isF b q).2.1 e, e2.mono (Cle.refl C) tk⟩
  · obtain ⟨x1, x2, L, x3, x4, x5, ob, x6, x7, es, n, x8⟩ := X.st.zs z hz;obtain ⟨ob', q1, q2⟩ := dat L ob x6;exact ⟨x1, x2, L, x3, x4, x5, ob', q1, q2.trans x7, es, n, q2.trans x8⟩
  · obtain ⟨ob, es, ep, e1, e2, e3⟩ := hn;obtain ⟨ob', q1, q2⟩ := dat _ ob e1;exact ⟨ob', es, ep, q1, q2.trans e2, e3⟩
  · obtain ⟨ob, e1, e2⟩ := i;obtain ⟨ob', q1, q2⟩ := dat _ ob e1;exact ⟨ob', q1, q2.trans e2⟩
theorem funFrames_of {h base:Heap} {l:List Env} (hh:∀ e, e ∈ l → e.scope.kind ≠ .module ∧ ∃ L o es n, e.frame = some L ∧ base.get? L = none ∧ h.get? L = some o ∧ o.data = .dict es n) : h.FunFrames base l := by
  induction l with
  | nil => trivial
  | cons e l ih =>
    obtain ⟨a, L, o, es, n, b, c, d, f⟩ := hh e List.mem_cons_self;exact ⟨a, ⟨L, o, b, c, d, fun vs q => nomatch f.symm.trans q⟩, ih fun e' he => hh e' (List.mem_cons_of_mem _ he)⟩
theorem Inv.frameList (X:Inv G k true env A C Z m H s) (b:Addr) (hb:b ∈ (env :: Z.map (·.1)).filterMap (·.frame)) : b = env.locals ∨ ∃ z, z ∈ Z ∧ z.1.frame = some b := by
  rw [List.filterMap_cons, X.frame rfl] at hb;rcases List.mem_cons.mp hb with q | q
  · exact .inl q
  · obtain ⟨e, he, q2⟩ := List.mem_filterMap.mp q;obtain ⟨z, hz, rfl⟩ := List.mem_map.mp he;exact .inr ⟨z, hz, q2⟩
theorem Inv.funFrames (X:Inv G k true env A C Z m H s) : ∃ base : Heap, s.heap.FunFrames base (env :: Z.map (·.1)) := by
  refine ⟨hideAll s.heap ((env :: Z.map (·.1)).filterMap (·.frame)), funFrames_of fun e he => ?_⟩;have hmem : ∀ L, e.frame = some L → L ∈ (env :: Z.map (·.1)).filterMap (·.frame) := fun L q => List.mem_filterMap.mpr ⟨e, he, q⟩;rcases List.mem_cons.mp he with rfl | he
  · obtain ⟨mm, ⟨ob, es, ep, e1, e2, _⟩, _⟩ := X.fr.ns;exact ⟨by rw [X.kind]; decide, _, ob, es, ep, X.frame rfl, hideAll_none _ (hmem _ (X.frame rfl)), e1, e2⟩
  · obtain ⟨z, hz, rfl⟩ := List.mem_map.mp he;obtain ⟨x1, x2, L, x3, x4, x5, ob, x6, x7, es, n, x8⟩ := X.st.zs z hz;exact ⟨x1, L, ob, es, n, x3, hideAll_none _ (hmem _ x3), x6, x8⟩
theorem Inv.entry (X:Inv G k true env A C Z m H s) {ea:Addr} {oe:Obj} {vs:Array Value} {a0 head:Value} {cls:Xk} {hadNext:Bool} {E:Value → Shared → Prop} {Q:Unit → Shared → Prop}
    (he:s.heap.get? ea = some oe) (hc:oe.cls = .type cls.1) (hd:oe.data = .fields vs) (hsz:1 < vs.size) (h0:vs[0]? = some a0) (h2:cls.2 = true → vs[2]? = some .none) (hC:C ea = none) (hH:H ea = none)
    (hQ:∀ s', Inv G k true env A C Z m H s' → Trc C H s'.heap ea cls (rawInt env.locals) → Q () s') :
    wpAny G.M A (do let a ← frameOf env; let pl ← entryPlaceOf env.locals hadNext; let b ← EntryCells.newEntry head a .none (rawInt env.locals) .none pl; setField (.ref ea) 1 b) Q E s := by
  obtain ⟨base, hff⟩ := X.funFrames;refine wpAny_bind (wpAny_frameOf_fun X.frames hff (X.frame rfl) fun h₁ hs₁ => ?_);have X1 := X.slots X.frameList hs₁;have hnf : ea ∉ (env :: Z.map (·.1)).filterMap (·.frame) := fun hb => by
    obtain ⟨y1, y2, _⟩ := X.notFields he hd;rcases X.frameList _ hb with q | ⟨z, hz, q⟩
    · exact y2 q
    · exact y1 z hz q
  have he₁ : h₁.get? ea = some oe := (hs₁.2.1 ea hnf).trans he;refine wpAny_bind (wpAny_entryPlaceOf fun pl hpl => ?_);unfold EntryCells.newEntry newFields;refine wpAny_bind (wpAny_newObj_type ?_ (hpl.sizeOk5 _ _ _ _ _))
  have hT : ∃ ts, (({ cls := .type "traceback", dict := none, data := .fields ([head, .ref env.locals, .none, rawInt env.locals, .none] ++ (if pl.isEmpty then List.replicate 6 Value.none else pl)).toArray } : Obj).data = .fields ts) ∧ ts[3]? = some (rawInt env.locals) := ⟨_, rfl, by
    first | (simp; done) | (rcases hpl with rfl | ⟨_, _, _, _, _, _, _, rfl⟩ <;> simp)⟩
  have hfz : ({ cls := .type "traceback", dict := none, data := .fields ([head, .ref env.locals, .none, rawInt env.locals, .none] ++ (if pl.isEmpty then List.replicate 6 Value.none else pl)).toArray } : Obj).isFreed = false := rfl;generalize ({ cls := .type "traceback", dict := none, data := .fields ([head, .ref env.locals, .none, rawInt env.locals, .none] ++ (if pl.isEmpty then List.replicate 6 Value.none else pl)).toArray } : Obj) = ot at hT hfz ⊢;obtain ⟨ts, dT, hT3⟩ := hT;have hfr := X1.fresh (a := h₁.objs.size) (Heap.get?_none_of_le (Nat.le_refl _));have he₂ := Heap.get?_push_of_some (h := h₁) ot he₁;have hTe : h₁.objs.size ≠ ea := Nat.ne_of_gt (Heap.lt_size he₁);have hd₃ := Obj.data_mapFields hd (·.setIfInBounds 1 (Value.ref h₁.objs.size));have X2 := X1.keeps (h' := h₁.push ot) (tk := s.toks) fun b o e => Heap.get?_push_of_some _ e;refine wpAny_setField he₂ hd hsz (hQ _ (X2.alien (tk := s.toks) he₂ hd hC hH (.update ..)) ⟨_, _, a0, h₁.objs.size, _, ts, Heap.get?_update_self _ he₂ (Obj.isFreed_of_fields hd₃), (Obj.cls_mapFields _ _).trans hc, hd₃, (Array.getElem?_setIfInBounds_ne (by decide)).trans h0, ?_, fun q => (Array.getElem?_setIfInBounds_ne (by decide)).trans (h2 q), hTe, (Heap.get?_update_other _ _ (Ne.symm hTe)).trans (Heap.get?_push_size h₁ hfz), dT, hT3, hC, hH, hfr.1, hfr.2.1⟩);rw [Array.getElem?_setIfInBounds_self_of_lt hsz]
theorem Inv.setFl (X:Inv G k fl env A C Z m H s) {ea:Addr} {cls:Xk} {flv:Value} (t:Trc C H s.heap ea cls flv) (to:Option Addr) {E:Value → Shared → Prop} {Q:Unit → Shared → Prop}
    (hQ:∀ s', Inv G k fl env A C Z m H s' → Trc C H s'.heap ea cls (to.elim .none fun f => rawInt f) → Q () s') : wpAny G.M A (setFlight (.ref ea) to) Q E s := by
  obtain ⟨oe, vs, a0, T, oT, ts, he, hc, hd, h0, h1, h2, hTe, hT, hdT, h3, c1, c2, c3, c4⟩ := t;unfold setFlight;refine wpAny_bind (wpAny_field he hd h1 ?_);have hsz := (Array.getElem?_eq_some_iff.mp h3).1;refine wp_ifp rfl (wpAny_setField hT hdT hsz (hQ _ (X.alien (tk := s.toks) hT hdT c3 c4 (.update ..)) ?_));refine ⟨oe, vs, a0, T, _, _, (Heap.get?_update_other _ _ hTe).trans he, hc, hd, h0, h1, h2, hTe, Heap.get?_update_self _ hT (Obj.isFreed_of_fields (Obj.data_mapFields hdT _)), Obj.data_mapFields hdT _, ?_, c1, c2, c3, c4⟩;rw [Array.getElem?_setIfInBounds_self_of_lt hsz]
theorem ExI.note {cls:Xk} {e:Value} (X:ExI G k true env A C Z m H cls e s) {E:Value → Shared → Prop} {Q:Unit → Shared → Prop}
    (hQ:∀ ea s', e = .ref ea → Inv G k true env A C Z m H s' → Trc C H s'.heap ea cls (rawInt env.locals) → Q () s') : wpAny G.M A (noteFrame e env) Q E s := by
  have hf : env.frame = some env.locals := by cases X with
    | new _ _ _ I _ => exact I.frame rfl
    | old _ _ I _ _ _ => exact I.frame rfl
  unfold noteFrame;rw [hf];cases X with
  | new ea he h₁ I hx =>
    subst he;obtain ⟨ob, vs, tp, he, hc, hd, h0, h1, h2⟩ := hx.there;have hfr := I.fresh (a := ea) hx.new;have I2 : Inv G k true env A C Z m H s := I.keeps (h' := s.heap) (tk := s.toks) hx.keeps;exact wpAny_bind (wpAny_field he hd (x := Value.none) h1 (wp_ifn Bool.noConfusion (I2.entry he hc hd (Array.getElem?_eq_some_iff.mp h1).1 h0 h2 hfr.1 hfr.2.1 fun s' q1 q2 => hQ ea s' rfl q1 q2)))
  | old ea he I flv t hf =>
    subst he;obtain ⟨oe, vs, a0, T, oT, ts, he, hc, hd, h0, h1, h2, hTe, hT, hdT, h3, c1, c2, c3, c4⟩ := t;refine wpAny_bind (wpAny_field he hd h1 (wp_ifp rfl (wpAny_bind (wpAny_field hT hdT h3 ?_))))
    by_cases q : flv = rawInt env.locals
    · exact wp_ifp (beq_iff_eq.mpr q) (wpAny_pure (hQ ea s rfl I (q ▸ ⟨oe, vs, a0, T, oT, ts, he, hc, hd, h0, h1, h2, hTe, hT, hdT, h3, c1, c2, c3, c4⟩)))
    · refine wp_ifn (fun z => q (beq_iff_eq.mp z)) (wpAny_bind (wpAny_setField hT hdT (Array.getElem?_eq_some_iff.mp h3).1 ?_));have I2 := I.alien (tk := s.toks) hT hdT c3 c4 (Heap.SameBut.update s.heap T (Obj.mapFields (·.setIfInBounds 3 Value.none)));exact I2.entry ((Heap.get?_update_other s.heap _ hTe).trans he) hc hd (Array.getElem?_eq_some_iff.mp h1).1 h0 h2 c1 c2 fun s' q1 q2 => hQ ea s' rfl q1 q2
end
end
section
structure PQ where
  n : Loc → Hp → Prop
  r : Qv
  b : Loc → Hp → Prop
  c : Loc → Hp → Prop
  x : Xk → Loc → Hp → Prop
noncomputable def FQ (P:PQ) (C':Cm) (m':Loc) (H':Hp) : Flow → Prop
  | .next => P.n m' H'
  | .brk => P.b m' H'
  | .cont => P.c m' H'
  | .ret v => ∃ lv, VR C' lv v ∧ P.r lv H'
inductive FPost (G:Gl) (k:Nat) (env:Env) (A:Around) (C:Cm) (Z:Zs) (P:PQ) (f:Flow) (s':Shared) : Prop
  | mk (C':Cm) (m':Loc) (H':Hp) (c:Cle C C') (I:Inv G k true env A C' Z m' H' s') (q:FQ P C' m' H' f)
theorem FPost.up {G:Gl} {k:Nat} {env:Env} {A:Around} {C C':Cm} {Z:Zs} {P:PQ} (c:Cle C C') {f:Flow} {s:Shared} (h:FPost G k env A C' Z P f s) : FPost G k env A C Z P f s := by
  obtain ⟨C2, m', H', a, r, r2⟩ := h; exact ⟨C2, m', H', c.trans a, r, r2⟩
theorem XsPost.up {G:Gl} {k:Nat} {fl:Bool} {env:Env} {A:Around} {C C':Cm} {Z:Zs} {X:Xk → Loc → Hp → Prop} (c:Cle C C') {v:Value} {s:Shared} (h:XsPost G k fl env A C' Z X v s) : XsPost G k fl env A C Z X v s := by
  obtain ⟨C2, cls, m', H', a, r, r2⟩ := h; exact ⟨C2, cls, m', H', c.trans a, r, r2⟩
theorem XPost.xs {G:Gl} {k:Nat} {fl:Bool} {env:Env} {A:Around} {C:Cm} {Z:Zs} {m:Loc} {X:Xc} {Y:Xk → Loc → Hp → Prop} (hXY:∀ c H, X c H → Y c m H) {v:Value} {s:Shared} (h:XPost G k fl env A C Z m X v s) : XsPost G k fl env A C Z Y v s := by
  obtain ⟨C2, cls, H', a, b, c⟩ := h; exact ⟨C2, cls, m, H', a, b, hXY _ _ c⟩
noncomputable def EX (G:Gl) (k:Nat) (sc:Scope) (st:Stmt) (m:Loc) (H:Hp) (P:PQ) : Prop :=
  ∀ env A C Z s, env.scope = sc → Inv G k true env A C Z m H s → wpAny G.M A (exec st env) (FPost G k env A C Z P) (XsPost G k true env A C Z P.x) s
noncomputable def EXS (G:Gl) (k:Nat) (sc:Scope) (st:List Stmt) (m:Loc) (H:Hp) (P:PQ) : Prop :=
  ∀ env A C Z s, env.scope = sc → Inv G k true env A C Z m H s → wpAny G.M A (execs st env) (FPost G k env A C Z P) (XsPost G k true env A C Z P.x) s
noncomputable def CALL (G:Gl) (k:Nat) (f:Value) (as:List LV) (H:Hp) (Q:Qv) (X:Xc) : Prop :=
  ∀ fl env A C Z m s vals, Inv G k fl env A C Z m H s → VRs C as vals → wpAny G.M A (call f vals []) (Post G k fl env A C Z m Q) (XPost G k fl env A C Z m X) s
noncomputable def CODE (G:Gl) (k:Nat) (f:Value) (as:List LV) (H:Hp) (Q:Qv) (X:Xc) : Prop :=
  ∀ fl env A C Z m s vals, Inv G k fl env A C Z m H s → VRs C as vals → codeAny G.M A (.call f ⟨vals, []⟩)
    (fun r s' => match r with | .ok (.ret v) => Post G k fl env A C Z m Q v s' | .ok _ => False | .error e => XPost G k fl env A C Z m X e s') s
theorem CALL_of {G:Gl} {k:Nat} {f:Value} {as:List LV} {H:Hp} {Q:Qv} {X:Xc} (h:CODE G k f as H Q X) : CALL G k f as H Q X := fun fl env A C Z m s vals I hv => wpAny_call (h fl env A C Z m s vals I hv)
noncomputable def frame0 : List (Str × NameKind) → List LV → Loc
  | [], _ => []
  | (n, _) :: r, v :: vs => (n, some v) :: frame0 r vs
  | (n, kd) :: r, [] => if kd == .local || kd == .cell then (n, none) :: frame0 r [] else frame0 r []
theorem lu_same {α:Type} {l:List (Str × α)} {x:Str} {y:α} : ((x, y) :: l).lookup x = some y := by rw [List.lookup_cons, beq_self_eq_true]
theorem lu_ne {α:Type} {l:List (Str × α)} {x a:Str} {b:α} (h:x ≠ a) : ((a, b) :: l).lookup x = l.lookup x := by rw [List.lookup_cons, beq_false_of_ne h]
inductive F0 (names:List (Str × NameKind)) (as:List LV) (x:Str) (o:Option LV) : Prop
  | arg (i:Nat) (lv:LV) (kd:NameKind) (h1:names[i]? = some (x, kd)) (h2:as[i]? = some lv) (h3:o = some lv)
  | free (h:o = none) (m:(x, NameKind.local) ∈ names ∨ (x, NameKind.cell) ∈ names)
theorem frame0_mem {names:List (Str × NameKind)} : ∀ {as:List LV} {x:Str} {o:Option LV}, (x, o) ∈ frame0 names as → F0 names as x o := by
  induction names with
  | nil => exact fun h => nomatch h
  | cons f r ih =>
    intro as x o h;obtain ⟨n, kd⟩ := f;have up : (x, NameKind.local) ∈ r ∨ (x, NameKind.cell) ∈ r → (x, NameKind.local) ∈ (n, kd) :: r ∨ (x, NameKind.cell) ∈ (n, kd) :: r := fun h => h.imp (List.mem_cons_of_mem _) (List.mem_cons_of_mem _);cases as with
    | cons v vs =>
      rcases List.mem_cons.mp h with e | h2
      · cases e; exact .arg 0 v kd rfl rfl rfl
      · cases ih h2 with
        | arg i lv kd' h3 h4 h5 => exact .arg (i + 1) lv kd' h3 h4 h5
        | free h3 h4 => exact .free h3 (up h4)
    | nil =>
      have tail : (x, o) ∈ frame0 r [] → F0 ((n, kd) :: r) [] x o := fun h2 => by
        cases ih h2 with
        | arg i lv kd' h3 h4 h5 => exact nomatch h4
        | free h3 h4 => exact .free h3 (up h4)
      unfold frame0 at h
      by_cases hk : (kd == .local || kd == .cell) = true
      · rw [if_pos hk] at h;rcases List.mem_cons.mp h with e | h2
        · cases e;rw [Bool.or_eq_true, beq_iff_eq, beq_iff_eq] at hk;exact .free rfl (hk.imp (fun z => by rw [z]; exact .head _) fun z => by rw [z]; exact .head _)
        · exact tail h2
      · rw [if_neg hk] at h; exact tail h
theorem frame0_keys {names:List (Str × NameKind)} : ∀ {as:List LV}, ((frame0 names as).map (·.1)).Sublist (names.map (·.1)) := by
  induction names with
  | nil => exact List.Sublist.refl _
  | cons f r ih =>
    intro as;cases as with
    | cons v vs => exact List.Sublist.cons_cons _ ih
    | nil =>
      unfold frame0
      split
      · exact List.Sublist.cons_cons _ ih
      · exact List.Sublist.cons _ ih
theorem lookup_nodup {α:Type} {l:List (Str × α)} : ∀ {i:Nat} {x:Str} {y:α}, (l.map (·.1)).Nodup → l[i]? = some (x, y) → l.lookup x = some y := by
  induction l with
  | nil => exact fun ww h => nomatch h
  | cons f l ih =>
    intro i x y nd h;obtain ⟨n1, n2⟩ := List.nodup_cons.mp nd;cases i with
    | zero => cases Option.some.inj h; exact lu_same
    | succ i =>
      have h : l[i]? = some (x, y) := h;exact (lu_ne fun q => n1 (List.mem_map.mpr ⟨(x, y), List.mem_of_getElem? h, q⟩)).trans (ih n2 h)
theorem bindL_at {kindOf:Str → Option NameKind} : ∀ {binds:List (Str × Value)} {m:Str → Option Value} {x:Str}, kindOf x = some .local → (binds.map (·.1)).Nodup →
    bindL kindOf binds m x = (binds.lookup x).or (m x)
  | [], m, x, _, _ => by simp [bindL]
  | (n, v) :: r, m, x, hk, nd => by
    rw [List.map_cons, List.nodup_cons] at nd;rw [bindL, bindL_at hk nd.2, List.lookup_cons]
    by_cases e : x = n
    · subst e;have : r.lookup x = none := by
        cases q : r.lookup x with
        | none => rfl
        | some y => exact absurd (List.mem_map.mpr ⟨_, mem_of_lookup q, rfl⟩) nd.1
      rw [this, if_pos hk]; simp
    · have : (x == n) = false := by simpa using e
      rw [this]
      split <;> simp [e]
theorem bindC_at {kindOf:Str → Option NameKind} : ∀ {binds:List (Str × Value)} {m:Str → Option Value} {x:Str}, kindOf x ≠ some .local → (binds.map (·.1)).Nodup →
    bindC kindOf binds m x = (binds.lookup x).or (m x)
  | [], m, x, _, _ => by simp [bindC]
  | (n, v) :: r, m, x, hk, nd => by
    rw [List.map_cons, List.nodup_cons] at nd;rw [bindC, bindC_at hk nd.2, List.lookup_cons]
    by_cases e : x = n
    · subst e;have : r.lookup x = none := by
        cases q : r.lookup x with
        | none => rfl
        | some y => exact absurd (List.mem_map.mpr ⟨_, mem_of_lookup q, rfl⟩) nd.1
      rw [this, if_neg hk]; simp
    · have : (x == n) = false := by simpa using e
      rw [this]
      split <;> simp [e]
set_option tactic.hygienic true in
theorem cellsFrom_mem {names:List (Str × NameKind)} : ∀ {n:Nat} {acc:List (Str × Addr)} {x:Str}, (x, NameKind.cell) ∈ names ∨ (∃ c, (x, c) ∈ acc) → ∃ c, (x, c) ∈ cellsFrom n names acc := by
  induction names with
  | nil => exact fun h => h.elim (fun h => nomatch h) id
  | cons f r ih =>
    intro n acc x h;obtain ⟨nm, kd⟩ := f;unfold cellsFrom
    split
    · refine ih (h.elim (fun h => (List.mem_cons.mp h).elim (fun e => ?_) .inl) fun h => .inr (h.imp fun c h => List.mem_cons_of_mem _ h));exact .inr ⟨n, by rw [show x = nm from congrArg Prod.fst e]; exact .head _⟩
    · rename_i hk;refine ih (h.imp_left fun h => (List.mem_cons.mp h).elim (fun e => absurd ?_ hk) id);exact beq_iff_eq.mpr (congrArg Prod.snd e).symm
theorem lookup_of_mem {α:Type} {l:List (Str × α)} : ∀ {x:Str} {c:α}, (x, c) ∈ l → ∃ d, l.lookup x = some d := by
  induction l with
  | nil => exact fun h => nomatch h
  | cons f l ih =>
    intro x c h
    by_cases e : x = f.1
    · exact ⟨f.2, e ▸ lu_same⟩
    · rcases List.mem_cons.mp h with q | q
      · exact absurd (congrArg Prod.fst q) e
      · exact (ih q).imp fun d h => (lu_ne e).trans h
theorem St.keeps {G:Gl} {C:Cm} {Z:Zs} {H:Hp} {s:Shared} {h':Heap} {tk:Nat} (X:St G C Z H s) (kp:∀ b o, s.heap.get? b = some o → h'.get? b = some o) : St G C Z H { s with heap := h', toks := tk } := by
  obtain ⟨c1, c2, c3⟩ := X.fresh (a := s.heap.objs.size) (Heap.get?_none_of_le (Nat.le_refl _));exact X.step (a := s.heap.objs.size) (fun b o ww e => kp b o e) (.of_keeps kp) c3 (fun ww ww ww e => e) (fun o e => ns c2 e) (Cle.refl C) (fun ww ww ww e => e) (fun o e => ns c1 e)
theorem Room.deeper {k:Nat} {A:Around} {env:Env} (h:Room (k + 1) A) : Room k (A.deeper env) := by
  obtain ⟨a, b⟩ := h;exact ⟨by show A.depth + 1 + 2 * k < 1000; omega, by show A.units + 3 + 20 * k < 9000; omega⟩
section
variable {G:Gl} {k:Nat}
theorem Inv.enter {fl:Bool} {env:Env} {A:Around} {C:Cm} {Z:Zs} {m:Loc} {H:Hp} {s s₁:Shared} (X:Inv G (k + 1) fl env A C Z m H s) {o:Obj} (ho:s.heap.get? env.locals = some o)
    {fd:FuncData} {as:List LV} {vals:List Value} {ps:List Str} {a:Addr} (hv:VRs C as vals)
    (hps:(fd.scope.names.take as.length).map (·.1) = ps) (hpl:ps.length = as.length) (hkd:((fd.scope.names.take as.length).all fun x => x.2 == .local || x.2 == .cell) = true) (hnd:(fd.scope.names.map (·.1)).Nodup)
    (hk:fd.scope.kind = .function) (hg:fd.globals = mainGlobals) (hb:fd.builtins = builtinsNs)
    (x:InCallC s (callEnvC fd s.heap.objs.size a).locals (bindL (callEnvC fd s.heap.objs.size a).kindOf (ps.zip vals) fun ww => none) (callEnvC fd s.heap.objs.size a).cells
        (bindC (callEnvC fd s.heap.objs.size a).kindOf (ps.zip vals) fun ww => none) s₁) :
    Inv G k true (callEnvC fd s.heap.objs.size a) (A.deeper (callEnvC fd s.heap.objs.size a)) (aside fl env C s.heap) (asideZ fl env o.data Z) (frame0 fd.scope.names as) H s₁ := by
  have st0 := St.aside X ho;obtain ⟨h₁, tk, rfl, hkp⟩ := x.done;have st1 := st0.keeps (tk := tk) hkp;have vlen := hv.length;have freshA : ∀ b, s.heap.objs.size ≤ b → aside fl env C s.heap b = none ∧ H b = none ∧ ∀ z, z ∈ asideZ fl env o.data Z → z.1.frame ≠ some b := fun b hb => st0.fresh (Heap.get?_none_of_le hb);have le0 := aside_le X;have hz : (ps.zip vals).map (·.1) = ps := List.map_fst_zip (by rw [vlen, hpl]; exact Nat.le_refl _);have hbn : ((ps.zip vals).map (·.1)).Nodup := by
    rw [hz, ← hps];exact hnd.sublist (List.Sublist.map _ (List.take_sublist _ _))
  have kindAt : ∀ {n:Str} {kd:NameKind}, (n, kd) ∈ fd.scope.names → (callEnvC fd s.heap.objs.size a).kindOf n = some kd := fun {n kd} hm => by
    obtain ⟨i, hi⟩ := List.getElem?_of_mem hm;exact lookup_nodup hnd hi
  -- an argument's place
  have argAt : ∀ {i:Nat} {n:Str} {kd:NameKind} {lv:LV}, fd.scope.names[i]? = some (n, kd) → as[i]? = some lv → ∃ v, (ps.zip vals).lookup n = some v ∧ VR C lv v ∧ (kd = NameKind.local ∨ kd = NameKind.cell) := fun {i n kd lv} h1 h2 => by
    have hi : i < as.length := (List.getElem?_eq_some_iff.mp h2).1;obtain ⟨v, hv1, hv2⟩ := hv.get h2;have hp : ps[i]? = some n := by rw [← hps, List.getElem?_map, List.getElem?_take_of_lt hi, h1]; rfl
    refine ⟨v, lookup_nodup (i := i) hbn ?_, hv2, ?_⟩
    · rw [List.getElem?_zip_eq_some]; exact ⟨hp, hv1⟩
    · have := List.all_eq_true.mp hkd (n, kd) (List.mem_of_getElem? (by rw [List.getElem?_take_of_lt hi]; exact h1))
      simpa using this
  have cellsAt : ∀ n c, (n, c) ∈ (callEnvC fd s.heap.objs.size a).cells → s.heap.objs.size < c := x.above;refine ⟨hk, hg, hb, X.room.deeper, ?_, fun ww => rfl, (show HOk _ A from X.hd.mono (fun a o ww e ww => le0 a o e)), X.hno, st1, ⟨?_, ?_, ?_, ?_, ?_, ?_, ?_⟩⟩
  · rw [Around.frames_deeper X.frames];cases fl <;> rfl
  · refine ⟨_, x.toInCall.ns, fun n lv hm hkl => ?_⟩;rw [bindL_at hkl hbn];rcases frame0_mem hm with ⟨i, lv', kd, h1, h2, h3⟩ | ⟨h3, _⟩
    · cases h3;obtain ⟨v, v1, v2, _⟩ := argAt h1 h2;exact ⟨v, by rw [v1]; rfl, v2.mono le0⟩
    · cases h3
  · intro n o' hm hkl;have isCell : (n, NameKind.cell) ∈ fd.scope.names := by
      rcases frame0_mem hm with ⟨i, lv', kd, h1, h2, h3⟩ | ⟨_, h3⟩
      · obtain ⟨_, _, _, q⟩ := argAt h1 h2;rcases q with rfl | rfl
        · exact absurd (kindAt (List.mem_of_getElem? h1)) hkl
        · exact List.mem_of_getElem? h1
      · rcases h3 with h3 | h3
        · exact absurd (kindAt h3) hkl
        · exact h3
    obtain ⟨c, hc⟩ := cellsFrom_mem (n := s.heap.objs.size + 1) (acc := []) (.inl isCell);obtain ⟨d, hd⟩ := lookup_of_mem hc;refine ⟨d, _, hd, x.cell n d hd, fun lv e => ?_⟩;subst e;rw [bindC_at hkl hbn];rcases frame0_mem hm with ⟨i, lv', kd, h1, h2, h3⟩ | ⟨h3, _⟩
    · cases h3;obtain ⟨v, v1, v2, _⟩ := argAt h1 h2;exact ⟨v, by rw [v1]; rfl, v2.mono le0⟩
    · cases h3
  · intro n o' hm;rcases frame0_mem hm with ⟨i, lv', kd, h1, h2, h3⟩ | ⟨_, h3⟩
    · obtain ⟨_, _, _, q⟩ := argAt h1 h2;rcases q with rfl | rfl
      · exact .inl (kindAt (List.mem_of_getElem? h1))
      · exact .inr (.inl (kindAt (List.mem_of_getElem? h1)))
    · rcases h3 with h3 | h3
      · exact .inl (kindAt h3)
      · exact .inr (.inl (kindAt h3))
  · exact hnd.sublist frame0_keys
  · intro y z c h1 h2;exact name_of_addr x.apart (mem_of_lookup h1) (mem_of_lookup h2)
  · exact freshA _ (Nat.le_refl _)
  · intro y c h1;have hgt := cellsAt y c (mem_of_lookup h1);obtain ⟨f1, f2, f3⟩ := freshA c (Nat.le_of_lt hgt);exact ⟨fun ww => f1, f2, Nat.ne_of_gt hgt, f3, _, x.cell y c h1⟩
theorem unaside_none {C C':Cm} {env:Env} {b:Addr} (h:C' b = none) : unaside C env C' b = none := by
  unfold unaside; split
  · rfl
  · exact h
theorem CODE_def {as:List LV} {H:Hp} {Q:Qv} {X:Xc} {a:Addr} {oc:Value} {od:Option Addr} {osl:Array (Option Value)} {name qual:Str} {params:Arguments} {body:List Stmt} {scope:Scope} {dV kV doc pm:Value} {an:Option Addr} {cdv ct:Value} {ps:List Str}
    (ho:G.K.lookup a = some ⟨oc, od, .func (fnOf name qual params body scope dV kV doc pm an cdv ct), osl⟩) (hcd:codeIn G.K cdv qual = true)
    (hbind:∀ vals : List Value, vals.length = as.length → bindArgs (fnOf name qual params body scope dV kV doc pm an cdv ct) ⟨vals, []⟩ = pure (ps.zip vals))
    (hps:(scope.names.take as.length).map (·.1) = ps) (hpl:ps.length = as.length) (hkd:((scope.names.take as.length).all fun x => x.2 == .local || x.2 == .cell) = true) (hnd:(scope.names.map (·.1)).Nodup)
    (hco:scope.isCoroutine = false) (hgen:scope.isGenerator = false) (hk:scope.kind = .function)
    (h:EXS G k scope body (frame0 scope.names as) H ⟨fun ww H => Q .none H, Q, fun ww ww => False, fun ww ww => False, fun c ww H => X c H⟩) : CODE G (k + 1) (.ref a) as H Q X := by
  intro fl env A C Z m s vals I hv;obtain ⟨o, es, ep, hlo, hld⟩ := I.locData;have hK : G.K.In s.heap := fun b ob e => I.st.con b ob (I.st.base b ob (G.kin b ob e));have hlim : s.heap.NoLimit := G.nolimit.keeps fun b ob e => I.st.con b ob (I.st.base b ob e);have vlen := hv.length;refine (codeAny_call_cells (fd := fnOf name qual params body scope dV kV doc pm an cdv ct) (binds := ps.zip vals) (by have := I.room.1; unfold recursionLimit; omega) (hK _ _ ho) rfl hlim (codeRec_of hK hcd) rfl (hbind vals vlen) rfl ?_ (fun s₁ x => ?_) hco hgen hk)
  · rintro ⟨n, v⟩ hm;have hz : (ps.zip vals).map (·.1) = ps := List.map_fst_zip (by rw [vlen, hpl]; exact Nat.le_refl _);have hn : n ∈ ps := by rw [← hz]; exact List.mem_map.mpr ⟨_, hm, rfl⟩
    rw [← hps] at hn;obtain ⟨⟨n', kd⟩, hm2, rfl⟩ := List.mem_map.mp hn;have hk2 : kd = .local ∨ kd = .cell := by simpa using List.all_eq_true.mp hkd _ hm2
    have hm3 := List.mem_of_mem_take hm2;obtain ⟨i, hi⟩ := List.getElem?_of_mem hm3;have hlk : scope.names.lookup n' = some kd := lookup_nodup hnd hi;rcases hk2 with rfl | rfl
    · exact .inl hlk
    · refine .inr ⟨hlk, ?_⟩;obtain ⟨c, hc⟩ := cellsFrom_mem (n := s.heap.objs.size + 1) (acc := []) (.inl hm3);obtain ⟨d, hd⟩ := lookup_of_mem hc;exact Option.isSome_iff_exists.mpr ⟨d, hd⟩
  · have I1 := I.enter hlo (a := a) hv hps hpl hkd hnd hk rfl rfl x;refine wpAny_mono (h _ _ _ _ s₁ rfl I1) (fun f s2 ⟨C2, m2, H2, c2, I2, q2⟩ => ?_) (fun e s2 ⟨C2, cls, m2, H2, c2, X2, q2⟩ => ?_)
    · obtain ⟨b1, b2, b3⟩ := I.back hlo c2 I2.st;cases f with
      | next => exact ⟨_, .none, H2, b1, b2, rfl, q2⟩
      | brk => exact q2.elim
      | cont => exact q2.elim
      | ret v => obtain ⟨lv, v1, v2⟩ := q2; exact ⟨_, lv, H2, b1, b2, b3 v1, v2⟩
    · unfold leaving;refine wpAny_bind (X2.note fun ea s3 he I3 t3 => ?_);subst he;refine I3.setFl t3 none fun s4 I4 t4 => ?_;obtain ⟨b1, b2, b3⟩ := I.back hlo c2 I4.st;obtain ⟨oe, vs, a0, T, oT, ts, e1, e2, e3, e4, e5, e5', e6, e7, e8, e9, d1, d2, d3, d4⟩ := t4;exact ⟨_, cls, H2, b1, .old ea rfl b2 .none ⟨oe, vs, a0, T, oT, ts, e1, e2, e3, e4, e5, e5', e6, e7, e8, e9, unaside_none d1, d2, unaside_none d3, d4⟩ (.inl rfl), q2⟩
end
end
section
noncomputable def truthR : Option LO → Option Bool
  | some (.lst vs) => some (!vs.isEmpty)
  | some (.pset ps) => some (!ps.isEmpty)
  | _ => none
noncomputable def truthOf (H:Hp) : LV → Option Bool
  | .none => some false
  | .bool b => some b
  | .int i => some (i != 0)
  | .ref a => truthR (H a)
  | _ => none
section
variable {G:Gl} {k:Nat} {fl:Bool} {env:Env} {A:Around} {C:Cm} {Z:Zs} {m:Loc} {H:Hp} {s:Shared}
theorem Inv.list (X:Inv G k fl env A C Z m H s) {a:Addr} {vs:List LV} (h:H a = some (.lst vs)) : ∃ us, s.heap.IsList a (List.toArray us) ∧ VRs C vs us ∧ us.length = vs.length ∧ vs.length ≤ 4096 := by
  obtain ⟨ob, e1, e2, d, d', z, us, n, e3, e4⟩ := X.st.hp a _ h;exact ⟨us, ⟨ob, e1, e2, n, e3⟩, e4, e4.length, z⟩
theorem Inv.lst (X:Inv G k fl env A C Z m H s) {a:Addr} {vs:List LV} (h:H a = some (.lst vs)) : ∃ us n, IsL s.heap a (List.toArray us) n ∧ VRs C vs us ∧ us.length = vs.length ∧ vs.length ≤ 4096 := by
  obtain ⟨ob, e1, e2, d, d', z, us, n, e3, e4⟩ := X.st.hp a _ h;obtain ⟨oc, od, oda, osl⟩ := ob;dsimp only at e2 d d' e3;subst e2 d d' e3;exact ⟨us, n, e1, e4, e4.length, z⟩
theorem Inv.pset (X:Inv G k fl env A C Z m H s) {a:Addr} {ps:List (Int × Int)} (h:H a = some (.pset ps)) :
    ∃ o es ep t, s.heap.get? a = some o ∧ o.ExactSet ∧ o.data = .set es ep t ∧ SetAt G.prog G.w s.heap ps es t ∧ ps.length ≤ 60 := by
  obtain ⟨ob, e1, e2, z, es, ep, t, e3, e4⟩ := X.st.hp a _ h;exact ⟨ob, es, ep, t, e1, e2, e3, e4, z⟩
theorem noBool_set : typeLookup (.type "set") "__bool__" = pure none := by rw [typeLookup_type, builtinLookup_eq_fast]; kernel_rfl
theorem truthy_set {a:Addr} {o:Obj} {es:Array (Int × Value)} {ep:Nat} {t:SetTable} {E:Value → Shared → Prop} {Q:Bool → Shared → Prop} (ho:s.heap.get? a = some o) (hex:o.ExactSet) (hd:o.data = .set es ep t) (hf:t.fits es.size = true) (hfit:(es.size : Int) < 2 ^ 63)
    (h:Q ((es.size : Int) != 0) { s with toks := s.toks + 1 + 1 }) : wpAny G.M A (truthy (.ref a)) Q E s := by
  have hT : s.TypeIs (.ref a) "set" := ⟨o, ho, hex.1⟩;unfold truthy;refine wpAny_bind (wpAny_callSpecial?_none hT noBool_set (wpAny_bind (wpAny_specialOf hT F.slot_set_len.lookup (wpAny_bind (wpAny_runValue (codeAny_builtin entry_len ?_))))));rw [Around.under_plainId plain_len _];exact wpAny_mono (wpAny_len_body_set (Q := fun r s' => r = .int es.size (s.toks + 1) ∧ Q _ s') ho hex hd hf hfit ⟨rfl, h⟩)
    (fun _ _ ⟨_, e, r, q⟩ => by cases e; cases r; exact wpAny_pure q) fun ww ww e => e
theorem isE {us:List Value} {vs:List LV} (h:us.length = vs.length) : us.toArray.isEmpty = vs.isEmpty := by
  cases us with
  | nil => cases vs with
    | nil => rfl
    | cons _ _ => cases h
  | cons _ _ => cases vs with
    | nil => cases h
    | cons _ _ => rfl
theorem isN {α:Type} {ps:List α} : ((ps.length : Int) != 0) = !ps.isEmpty := by cases ps <;> rfl
theorem Inv.truthy (X:Inv G k fl env A C Z m H s) {lv:LV} {v:Value} {b:Bool} (hv:VR C lv v) (hb:truthOf H lv = some b) {E:Value → Shared → Prop} {Q:Bool → Shared → Prop}
    (hQ:∀ tk, Inv G k fl env A C Z m H { s with toks := tk } → Q b { s with toks := tk }) : wpAny G.M A (truthy v) Q E s := by
  cases lv with
  | none => cases hv; cases hb; exact truthy_none (hQ s.toks X)
  | bool c => cases hv; cases hb; exact wpAny_truthy_bool (hQ s.toks X)
  | int i => obtain ⟨t, rfl⟩ := hv; cases hb; exact truthy_int (hQ s.toks X)
  | str _ => cases hb
  | tup _ => cases hb
  | inst _ _ _ => cases hb
  | ro _ _ => cases hb
  | ref a =>
    cases hv;have hb : truthR (H a) = some b := hb;generalize hH : H a = o at hb;cases o with
    | none => cases hb
    | some o =>
      cases o with
      | lst vs =>
        obtain rfl := Option.some.inj (show some _ = some b from hb);obtain ⟨us, h1, h2, h3, h4⟩ := X.list hH;refine wpAny_truthy_list h1 (lt63 (show us.length ≤ 4096 from h3.symm ▸ h4)) ?_;rw [isE h3];exact hQ _ X.toks
      | pset ps =>
        obtain rfl := Option.some.inj (show some _ = some b from hb);obtain ⟨o, es, ep, t, h1, h2, h3, h4, h5⟩ := X.pset hH;refine truthy_set h1 h2 h3 h4.fits (lt63 (h4.size.symm ▸ Nat.le_trans h5 (by decide))) ?_;rw [h4.size, isN];exact hQ _ X.toks
      | _ => cases hb
end
section
variable {G:Gl} {k:Nat} {fl:Bool} {sc:Scope} {m:Loc} {H:Hp} {X:Xc}
theorem TS_val {e:Expr} {Q:Bool → Hp → Prop} (h:EV G k fl sc e m H (fun lv H1 => ∃ b, truthOf H1 lv = some b ∧ Q b H1) X)
    (he:∀ env whole, isTrue e env whole = (do let v ← whole; standAt e.pos; holding [v] (truthy v)) := by intro _ _; with_unfolding_all rfl) : TS G k fl sc e m H Q X :=
  fun env A C Z s hs I => isTrue_plain (wpAny_mono (h env A C Z s hs I) (fun v s1 ⟨C1, lv, H1, c1, I1, v1, b, hb, q1⟩ =>
    I1.truthy v1 hb fun tk I2 => ⟨C1, H1, c1, I2, q1⟩) fun ww ww x => x) (he env _)
theorem TS_Not {e:Expr} {p:Pos} {Q:Bool → Hp → Prop} (h:TS G k fl sc e m H (fun b H1 => Q (!b) H1) X) : TS G k fl sc (.UnaryOp .Not e p) m H Q X :=
  fun env A C Z s hs I => wpAny_isTrue_Not (wpAny_mono (h env A C Z s hs I) (fun b s1 ⟨C1, H1, r1, r2, r⟩ => ⟨C1, H1, r1, r2, r⟩) fun ww ww x => x)
theorem TS_Compare1 {l r:Expr} {op:CmpOp} {p:Pos} {Q:Bool → Hp → Prop}
    (h:EV G k fl sc l m H (fun a H1 => EV G k fl sc r m H1 (fun b H2 => BO G (compareOp op) a b H2 (fun lv H3 => ∃ c, lv = .bool c ∧ Q c H3) X) X) X)
    (hm:behindInMarks op r = false := by with_unfolding_all rfl) : TS G k fl sc (.Compare l [op] [r] p) m H Q X :=
  fun env A C Z s hs I => wpAny_isTrue_Compare1 (wpAny_mono (h env A C Z s hs I) (fun va s1 h1 => by
    obtain ⟨C1, a, H1, c1, I1, v1, q1⟩ := h1;refine wpAny_mono (q1 env A C1 Z s1 hs I1) (fun vb s2 h2 => ?_) fun ww ww x => XPost.up c1 x;obtain ⟨C2, b, H2, c2, I2, v2, q2⟩ := h2;refine wpAny_mono (q2 k fl env A C2 Z m s2 va vb I2 (v1.mono c2) v2) (fun v s3 h3 => ?_) fun ww ww x => XPost.up (c1.trans c2) x;obtain ⟨C3, lv, H3, c3, I3, v3, c, rfl, q3⟩ := h3;cases v3
    exact wpAny_truthy_bool ⟨C3, H3, (c1.trans c2).trans c3, I3, q3⟩) fun ww ww x => x) hm
theorem TS_Compare2 {l r1 r2:Expr} {op1 op2:CmpOp} {p:Pos} {Q:Bool → Hp → Prop}
    (h:EV G k fl sc l m H (fun a H1 => EV G k fl sc r1 m H1 (fun b H2 => BO G (compareOp op1) a b H2 (fun lv H3 => ∃ c, lv = .bool c ∧
      if c then EV G k fl sc r2 m H3 (fun d H4 => BO G (compareOp op2) b d H4 (fun lv' H5 => ∃ c', lv' = .bool c' ∧ Q c' H5) X) X else Q false H3) X) X) X)
    (hm:behindInMarks op2 r2 = false := by with_unfolding_all rfl) : TS G k fl sc (.Compare l [op1, op2] [r1, r2] p) m H Q X :=
  fun env A C Z s hs I => by
    have e : ∀ whole, isTrue (.Compare l [op1, op2] [r1, r2] p) env whole = (do let a ← eval l env; testChain p a [op1, op2] [eval r1 env, eval r2 env]) := fun whole => by
      show (do testChain p (← eval l env) [op1, op2] (markedEach [op1, op2] [r1, r2] [eval r1 env, eval r2 env])) = _;have : markedEach [op1, op2] [r1, r2] [eval r1 env, eval r2 env] = [eval r1 env, eval r2 env] := by
        show eval r1 env :: [markedBehindIn op2 r2 (eval r2 env)] = _;unfold markedBehindIn; rw [hm]
      rw [this]
    rw [e];refine wpAny_bind (wpAny_mono (h env A C Z s hs I) (fun va s1 h1 => ?_) fun ww ww x => x);obtain ⟨C1, a, H1, c1, I1, v1, q1⟩ := h1;refine test_link (wpAny_mono (q1 env A C1 Z s1 hs I1) (fun vb s2 h2 => ?_) fun ww ww x => XPost.up c1 x);obtain ⟨C2, b, H2, c2, I2, v2, q2⟩ := h2;have c2' := c1.trans c2;refine wpAny_mono (q2 k fl env A C2 Z m s2 va vb I2 (v1.mono c2) v2) (fun v s3 h3 => ?_) fun ww ww x => XPost.up c2' x;obtain ⟨C3, lv, H3, c3, I3, v3, c, rfl, q3⟩ := h3;have c3' := c2'.trans c3;cases v3;refine wpAny_truthy_bool ?_;cases c with
    | false => exact ⟨C3, H3, c3', I3, q3⟩
    | true =>
      refine test_last (wpAny_mono (q3 env A C3 Z s3 hs I3) (fun vd s4 h4 => ?_) fun ww ww x => XPost.up c3' x);obtain ⟨C4, d, H4, c4, I4, v4, q4⟩ := h4;have c4' := c3'.trans c4;refine wpAny_mono (q4 k fl env A C4 Z m s4 vb vd I4 (v2.mono (c3.trans c4)) v4) (fun v s5 h5 => ?_) fun ww ww x => XPost.up c4' x;obtain ⟨C5, lv', H5, c5, I5, v5, c', rfl, q5⟩ := h5;cases v5;exact wpAny_truthy_bool ⟨C5, H5, c4'.trans c5, I5, q5⟩
noncomputable def AT (G:Gl) (k:Nat) (fl:Bool) (sc:Scope) (op:BoolOp) (es:List Expr) (m:Loc) (H:Hp) (Q:Bool → Hp → Prop) (X:Xc) : Prop :=
  ∀ env A C Z s, env.scope = sc → Inv G k fl env A C Z m H s → wpAny G.M A (allTrue op es env) (BPost G k fl env A C Z m Q) (XPost G k fl env A C Z m X) s
theorem TS_Bool {op:BoolOp} {es:List Expr} {p:Pos} {Q:Bool → Hp → Prop} (h:AT G k fl sc op es m H Q X) : TS G k fl sc (.BoolOp op es p) m H Q X :=
  fun env A C Z s hs I => wpAny_isTrue_BoolOp (h env A C Z s hs I)
theorem AT_nil {op:BoolOp} {Q:Bool → Hp → Prop} (h:Q (op == .And) H) : AT G k fl sc op [] m H Q X := fun env A C Z s hs I => by
  exact wpAny_pure ⟨C, H, Cle.refl C, I, h⟩
theorem AT_and {e:Expr} {es:List Expr} {Q:Bool → Hp → Prop} (h:TS G k fl sc e m H (fun b H1 => if b then AT G k fl sc .And es m H1 Q X else Q false H1) X) : AT G k fl sc .And (e :: es) m H Q X := fun env A C Z s hs I => by
  refine wpAny_bind (wpAny_mono (h env A C Z s hs I) (fun b s1 h1 => ?_) fun ww ww x => x);obtain ⟨C1, H1, c1, I1, q1⟩ := h1;cases b with
  | false => exact wpAny_pure ⟨C1, H1, c1, I1, q1⟩
  | true =>
    exact wpAny_mono (q1 env A C1 Z s1 hs I1) (fun ww ww x => BPost.up c1 x) fun ww ww x => XPost.up c1 x
theorem AT_or {e:Expr} {es:List Expr} {Q:Bool → Hp → Prop} (h:TS G k fl sc e m H (fun b H1 => if b then Q true H1 else AT G k fl sc .Or es m H1 Q X) X) : AT G k fl sc .Or (e :: es) m H Q X := fun env A C Z s hs I => by
  refine wpAny_bind (wpAny_mono (h env A C Z s hs I) (fun b s1 h1 => ?_) fun ww ww x => x);obtain ⟨C1, H1, c1, I1, q1⟩ := h1;cases b with
  | true => exact wpAny_pure ⟨C1, H1, c1, I1, q1⟩
  | false =>
    exact wpAny_mono (q1 env A C1 Z s1 hs I1) (fun ww ww x => BPost.up c1 x) fun ww ww x => XPost.up c1 x
theorem EV_Not {e:Expr} {p:Pos} {Q:Qv} (h:EV G k fl sc e m H (fun lv H1 => ∃ b, truthOf H1 lv = some b ∧ Q (.bool (!b)) H1) X) : EV G k fl sc (.UnaryOp .Not e p) m H Q X :=
  fun env A C Z s hs I => wpAny_UnaryOp (wpAny_mono (h env A C Z s hs I) (fun v s1 ⟨C1, lv, H1, c1, I1, v1, b, hb, q1⟩ =>
    not_of (I1.truthy v1 hb fun tk I2 => ⟨C1, .bool (!b), H1, c1, I2, rfl, q1⟩)) fun ww ww x => x)
theorem EV_and {e e2:Expr} {es:List Expr} {p:Pos} {Q:Qv} (h:EV G k fl sc e m H (fun lv H1 => ∃ b, truthOf H1 lv = some b ∧ if b then EV G k fl sc (.BoolOp .And (e2 :: es) p) m H1 Q X else Q lv H1) X) :
    EV G k fl sc (.BoolOp .And (e :: e2 :: es) p) m H Q X :=
  fun env A C Z s hs I => BoolOp_and (wpAny_mono (h env A C Z s hs I) (fun v s1 ⟨C1, lv, H1, c1, I1, v1, b, hb, q1⟩ =>
    I1.truthy v1 hb fun tk I2 => by
      cases b with
      | false => exact ⟨C1, lv, H1, c1, I2, v1, q1⟩
      | true => exact wpAny_mono (q1 env A C1 Z _ hs I2) (fun ww ww x => Post.up c1 x) fun ww ww x => XPost.up c1 x) fun ww ww x => x)
theorem EV_one {op:BoolOp} {e:Expr} {p:Pos} {Q:Qv} (h:EV G k fl sc e m H Q X) : EV G k fl sc (.BoolOp op [e] p) m H Q X :=
  fun env A C Z s hs I => h env A C Z s hs I
end
end
section
theorem Heap.keepsOf {h h':Heap} (x:Heap.ExtBut h.objs.size h h') : ∀ b o, h.get? b = some o → h'.get? b = some o :=
  fun b o e => x b o (Nat.ne_of_lt (Heap.lt_size e)) e
section
variable {G:Gl} {k:Nat} {env:Env} {A:Around} {C:Cm} {Z:Zs} {m:Loc} {H:Hp} {s:Shared}
theorem fieldT {cls:Xk} {ea:Addr} {flv:Value} (t:Trc C H s.heap ea cls flv) {E:Value → Shared → Prop} {Q:Value → Shared → Prop} (h:∀ T, Q (.ref T) s) : wpAny G.M A (field (.ref ea) 1) Q E s := by
  obtain ⟨oe, vs, a0, T, oT, ts, he, hc, hd, h0, h1, _⟩ := t;exact wpAny_field he hd h1 (h T)
theorem ExI.came {cls:Xk} {e:Value} (X:ExI G k true env A C Z m H cls e s) {R:Value → Shared → Prop} (hR:∀ e s', ExI G k true env A C Z m H cls e s' → R e s') :
    notedBy G.M A env (fun e s' => cameBackBy G.M A env R e s') e s := by
  unfold notedBy;refine X.note fun ea s' he I t => ?_;subst he;unfold cameBackBy;refine wpAny_bind (fieldT t fun T => ?_);refine wp_ifn Bool.noConfusion ?_;rw [I.frame rfl];exact I.setFl t (some env.locals) fun s'' I2 t2 => hR _ _ (.old ea rfl I2 _ t2 (.inr ⟨env.locals, I2.frame rfl, rfl⟩))
theorem XsPost.came {X:Xk → Loc → Hp → Prop} {e:Value} (x:XsPost G k true env A C Z X e s) :
    notedBy G.M A env (fun e s' => cameBackBy G.M A env (XsPost G k true env A C Z X) e s') e s := by
  obtain ⟨C', cls, m', H', c, x, q⟩ := x;exact x.came fun e s' y => ⟨C', cls, m', H', c, y, q⟩
end
section
variable {G:Gl} {k:Nat} {sc:Scope} {m:Loc} {H:Hp} {P:PQ}
theorem EXS_nil (h:P.n m H) : EXS G k sc [] m H P := fun env A C Z s hs I => wpAny_execs_nil ⟨C, m, H, Cle.refl C, I, h⟩
theorem EXS_cons {st:Stmt} {rest:List Stmt} (h:EX G k sc st m H ⟨fun m' H' => EXS G k sc rest m' H' P, P.r, P.b, P.c, P.x⟩) : EXS G k sc (st :: rest) m H P := fun env A C Z s hs I =>
  wpAny_execs_cons (wpAny_mono (h env A C Z s hs I) (fun f s1 ⟨C1, m1, H1, c1, I1, q1⟩ => by
    cases f with
    | next => exact wpAny_mono (q1 env A C1 Z s1 hs I1) (fun ww ww x => FPost.up c1 x) fun ww ww x => XsPost.up c1 x
    | brk => exact ⟨C1, m1, H1, c1, I1, q1⟩
    | cont => exact ⟨C1, m1, H1, c1, I1, q1⟩
    | ret v => exact ⟨C1, m1, H1, c1, I1, q1⟩) fun ww ww x => x)
theorem EX_Break {p:Pos} (h:P.b m H) : EX G k sc (.Break p) m H P := fun env A C Z s hs I => wpAny_Break ⟨C, m, H, Cle.refl C, I, h⟩
theorem EX_Continue {p:Pos} (h:P.c m H) : EX G k sc (.Continue p) m H P := fun env A C Z s hs I => wpAny_Continue ⟨C, m, H, Cle.refl C, I, h⟩
theorem EX_Return {e:Expr} {p:Pos} (h:EV G k true sc e m H P.r (fun c H' => P.x c m H')) : EX G k sc (.Return (some e) p) m H P := fun env A C Z s hs I =>
  wpAny_Return_some (wpAny_mono (h env A C Z s hs I) (fun v s1 ⟨C1, lv, H1, c1, I1, v1, q1⟩ => ⟨C1, m, H1, c1, I1, lv, v1, q1⟩) fun ww ww x => x.xs fun ww ww q => q)
theorem EX_Expr {e:Expr} {p:Pos} (h:EV G k true sc e m H (fun ww H1 => P.n m H1) (fun c H' => P.x c m H')) (hk:sc.kind = .function) (hsw:∀ env, swapsWith e none p.line env = pure false := by intro _; with_unfolding_all rfl) : EX G k sc (.Expr e p) m H P := fun env A C Z s hs I =>
  wpAny_Expr_any (wpAny_mono (h env A C Z s hs I) (fun v s1 ⟨C1, lv, H1, c1, I1, v1, q1⟩ => ⟨C1, m, H1, c1, I1, q1⟩) fun ww ww x => x.xs fun ww ww q => q) (by unfold interactive; rw [hs, hk]; rfl) (hsw env)
theorem EX_If {t:Expr} {b o:List Stmt} {p:Pos} (h:TS G k true sc t m H (fun c H1 => (c = true → EXS G k sc b m H1 P) ∧ (c = false → EXS G k sc o m H1 P)) (fun c H' => P.x c m H')) : EX G k sc (.If t b o p) m H P := fun env A C Z s hs I =>
  wpAny_If (wpAny_mono (h env A C Z s hs I) (fun c s1 ⟨C1, H1, c1, I1, q1⟩ => by
    cases c with
    | true => rw [if_pos rfl]; exact wpAny_mono (q1.1 rfl env A C1 Z s1 hs I1) (fun ww ww x => FPost.up c1 x) fun ww ww x => XsPost.up c1 x
    | false => rw [if_neg (by decide)]; exact wpAny_mono (q1.2 rfl env A C1 Z s1 hs I1) (fun ww ww x => FPost.up c1 x) fun ww ww x => XsPost.up c1 x) fun ww ww x => x.xs fun ww ww q => q)
theorem EX_Assign {x:Str} {xp p:Pos} {e:Expr} (h:EV G k true sc e m H (fun lv H1 => ∃ m', Put m x lv m' ∧ P.n m' H1) (fun c H' => P.x c m H')) (hsw:∀ env, swapsWith e (some (.Name x xp)) p.line env = pure false := by intro _; with_unfolding_all rfl) :
    EX G k sc (.Assign [.Name x xp] e p) m H P := fun env A C Z s hs I =>
  wpAny_Assign_Name (wpAny_mono (h env A C Z s hs I) (fun v s1 ⟨C1, lv, H1, c1, I1, v1, m', q1, q2⟩ => I1.store q1 v1 (.inl rfl) fun s2 I2 => ⟨C1, m', H1, c1, I2, q2⟩) fun ww ww x => x.xs fun ww ww q => q) (hsw env)
theorem EX_AugName {x:Str} {xp p:Pos} {op:Operator} {e:Expr} {lv:LV} (hm:(x, some lv) ∈ m)
    (h:EV G k true sc e m H (fun lw H1 => BO G (inplaceOp op) lv lw H1 (fun r H2 => ∃ m', Put m x r m' ∧ P.n m' H2) (fun c H' => P.x c m H')) (fun c H' => P.x c m H')) (hn:(x == ("__classdict__" : Str)) = false := by decide +kernel) :
    EX G k sc (.AugAssign (.Name x xp) op e p) m H P := fun env A C Z s hs I =>
  wpAny_AugAssign_Name (I.load hm (fun v hv => wpAny_mono (h env A C Z s hs I) (fun w s1 ⟨C1, lw, H1, c1, I1, v1, q1⟩ =>
    wpAny_mono (q1 k true env A C1 Z m s1 v w I1 (hv.mono c1) v1) (fun r s2 ⟨C2, lr, H2, c2, I2, v2, m', q2, q3⟩ => I2.store q2 v2 (.inl rfl) fun s3 I3 => ⟨C2, m', H2, c1.trans c2, I3, q3⟩)
      fun ww ww x => XsPost.up c1 (x.xs fun ww ww q => q)) fun ww ww x => x.xs fun ww ww q => q) hn)
noncomputable def SO (G:Gl) (t:Value → Value → Value → Sem Unit) (a b c:LV) (H:Hp) (N:Hp → Prop) (X:Xc) : Prop :=
  ∀ k fl env A C Z m s va vb vc, Inv G k fl env A C Z m H s → VR C a va → VR C b vb → VR C c vc →
    wpAny G.M A (t va vb vc) (fun ww => HPost G k fl env A C Z m N) (XPost G k fl env A C Z m X) s
noncomputable def SA (G:Gl) (x:Str) (a c:LV) (H:Hp) (N:Hp → Prop) (X:Xc) : Prop :=
  ∀ k fl env A C Z m s va vc, Inv G k fl env A C Z m H s → VR C a va → VR C c vc →
    wpAny G.M A (setAttr va x vc) (fun ww => HPost G k fl env A C Z m N) (XPost G k fl env A C Z m X) s
theorem EX_AssignSub {o i e:Expr} {tp p:Pos}
    (h:EV G k true sc e m H (fun v H1 => EV G k true sc o m H1 (fun a H2 => EV G k true sc i m H2 (fun b H3 => SO G setItem a b v H3 (fun H4 => P.n m H4) (fun c H' => P.x c m H')) (fun c H' => P.x c m H')) (fun c H' => P.x c m H')) (fun c H' => P.x c m H'))
    (hsw:∀ env, swapsWith e (some (.Subscript o i tp)) p.line env = pure false := by intro _; with_unfolding_all rfl) : EX G k sc (.Assign [.Subscript o i tp] e p) m H P := fun env A C Z s hs I =>
  wpAny_Assign_Subscript (wpAny_mono (h env A C Z s hs I) (fun v s1 ⟨C1, lv, H1, c1, I1, v1, q1⟩ =>
    wpAny_mono (q1 env A C1 Z s1 hs I1) (fun a s2 ⟨C2, la, H2, c2, I2, v2, q2⟩ =>
      wpAny_mono (q2 env A C2 Z s2 hs I2) (fun b s3 ⟨C3, lb, H3, c3, I3, v3, q3⟩ =>
        wpAny_mono (q3 k true env A C3 Z m s3 a b v I3 (v2.mono c3) v3 (v1.mono (c2.trans c3))) (fun _ s4 ⟨C4, H4, c4, I4, q4⟩ => ⟨C4, m, H4, ((c1.trans c2).trans c3).trans c4, I4, q4⟩)
          fun ww ww x => XsPost.up ((c1.trans c2).trans c3) (x.xs fun ww ww q => q)) fun ww ww x => XsPost.up (c1.trans c2) (x.xs fun ww ww q => q)) fun ww ww x => XsPost.up c1 (x.xs fun ww ww q => q)) fun ww ww x => x.xs fun ww ww q => q) (hsw env)
theorem EX_AssignAttr {o e:Expr} {x:Str} {tp p:Pos}
    (h:EV G k true sc e m H (fun v H1 => EV G k true sc o m H1 (fun a H2 => SA G x a v H2 (fun H4 => P.n m H4) (fun c H' => P.x c m H')) (fun c H' => P.x c m H')) (fun c H' => P.x c m H'))
    (hsw:∀ env, swapsWith e (some (.Attribute o x tp)) p.line env = pure false := by intro _; with_unfolding_all rfl) : EX G k sc (.Assign [.Attribute o x tp] e p) m H P := fun env A C Z s hs I =>
  plainObj_wpAny_Assign_Attribute (wpAny_mono (h env A C Z s hs I) (fun v s1 ⟨C1, lv, H1, c1, I1, v1, q1⟩ =>
    wpAny_mono (q1 env A C1 Z s1 hs I1) (fun a s2 ⟨C2, la, H2, c2, I2, v2, q2⟩ =>
        wpAny_mono (q2 k true env A C2 Z m s2 a v I2 v2 (v1.mono c2)) (fun _ s4 ⟨C4, H4, c4, I4, q4⟩ => ⟨C4, m, H4, (c1.trans c2).trans c4, I4, q4⟩)
          fun ww ww x => XsPost.up (c1.trans c2) (x.xs fun ww ww q => q)) fun ww ww x => XsPost.up c1 (x.xs fun ww ww q => q)) fun ww ww x => x.xs fun ww ww q => q) (hsw env)
theorem EX_AugSub {o i e:Expr} {tp p:Pos} {op:Operator}
    (h:EV G k true sc o m H (fun a H1 => EV G k true sc i m H1 (fun b H2 => BO G getItem a b H2 (fun old H3 => EV G k true sc e m H3 (fun v H4 => BO G (inplaceOp op) old v H4 (fun nw H5 => SO G setItem a b nw H5 (fun H6 => P.n m H6)
      (fun c H' => P.x c m H')) (fun c H' => P.x c m H')) (fun c H' => P.x c m H')) (fun c H' => P.x c m H')) (fun c H' => P.x c m H')) (fun c H' => P.x c m H'))
    (hi:∀ ov iv new, augStore i ov iv new = (do holding [new, ov, iv] (setItem ov iv new); release [new, ov, iv] []; pure .next) := by intros; with_unfolding_all rfl) : EX G k sc (.AugAssign (.Subscript o i tp) op e p) m H P := fun env A C Z s hs I =>
  wpAny_AugAssign_SubscriptAny (wpAny_mono (h env A C Z s hs I) (fun a s1 ⟨C1, la, H1, c1, I1, v1, q1⟩ =>
    wpAny_mono (q1 env A C1 Z s1 hs I1) (fun b s2 ⟨C2, lb, H2, c2, I2, v2, q2⟩ =>
      wpAny_mono (q2 k true env A C2 Z m s2 a b I2 (v1.mono c2) v2) (fun old s3 ⟨C3, lo, H3, c3, I3, v3, q3⟩ =>
        wpAny_mono (q3 env A C3 Z s3 hs I3) (fun v s4 ⟨C4, lv, H4, c4, I4, v4, q4⟩ =>
          wpAny_mono (q4 k true env A C4 Z m s4 old v I4 (v3.mono c4) v4) (fun nw s5 ⟨C5, ln, H5, c5, I5, v5, q5⟩ =>
            wpAny_mono (q5 k true env A C5 Z m s5 a b nw I5 (v1.mono (((c2.trans c3).trans c4).trans c5)) (v2.mono ((c3.trans c4).trans c5)) v5) (fun _ s6 ⟨C6, H6, c6, I6, q6⟩ => ⟨C6, m, H6, ((((c1.trans c2).trans c3).trans c4).trans c5).trans c6, I6, q6⟩)
              fun ww ww x => XsPost.up ((((c1.trans c2).trans c3).trans c4).trans c5) (x.xs fun ww ww q => q))
            fun ww ww x => XsPost.up (((c1.trans c2).trans c3).trans c4) (x.xs fun ww ww q => q))
          fun ww ww x => XsPost.up ((c1.trans c2).trans c3) (x.xs fun ww ww q => q))
        fun ww ww x => XsPost.up (c1.trans c2) (x.xs fun ww ww q => q))
      fun ww ww x => XsPost.up c1 (x.xs fun ww ww q => q)) fun ww ww x => x.xs fun ww ww q => q) hi
noncomputable def AS (G:Gl) (k:Nat) (fl:Bool) (sc:Scope) (t:Expr) (lv:LV) (m:Loc) (H:Hp) (N:Loc → Hp → Prop) (X:Xk → Loc → Hp → Prop) : Prop :=
  ∀ env A C Z s v, env.scope = sc → Inv G k fl env A C Z m H s → VR C lv v → wpAny G.M A (assign t env v) (fun ww => NPost G k fl env A C Z N) (XsPost G k fl env A C Z X) s
noncomputable def ASs (G:Gl) (k:Nat) (fl:Bool) (sc:Scope) (ts:List Expr) (lvs:List LV) (m:Loc) (H:Hp) (N:Loc → Hp → Prop) (X:Xk → Loc → Hp → Prop) : Prop :=
  (ts.length = lvs.length ∧ ∀ env, (assignEach ts env).length = ts.length ∧ (assignEach ts env).findIdx? (·.1) = none) ∧ ∀ env A C Z s vs, env.scope = sc → Inv G k fl env A C Z m H s → VRs C lvs vs →
    wpAny G.M A (assignInOrder ((assignEach ts env).map (·.2)) vs) (fun ww => NPost G k fl env A C Z N) (XsPost G k fl env A C Z X) s
section
variable {N:Loc → Hp → Prop} {X:Xk → Loc → Hp → Prop} {fl:Bool}
theorem AS_Name {x:Str} {p:Pos} {lv:LV} {m':Loc} (hp:Put m x lv m') (h:N m' H) (hl:fl = true ∨ sc.names.lookup x = some .local := by exact .inl rfl) : AS G k fl sc (.Name x p) lv m H N X := fun env A C Z s v hs I hv =>
  wpAny_assign_Name (I.store hp hv (hl.imp id (kind_of hs)) fun s2 I2 => ⟨C, m', H, Cle.refl C, I2, h⟩)
theorem ASs_nil (h:N m H) : ASs G k fl sc [] [] m H N X := ⟨⟨rfl, fun ww => ⟨rfl, rfl⟩⟩, fun env A C Z s vs hs I hv => by cases hv; exact wpAny_pure ⟨C, m, H, Cle.refl C, I, h⟩⟩
theorem ASs_cons {x:Str} {p:Pos} {lv:LV} {ts:List Expr} {lvs:List LV} {m':Loc} (hp:Put m x lv m') (h:ASs G k fl sc ts lvs m' H N X) (hl:fl = true ∨ sc.names.lookup x = some .local := by exact .inl rfl) : ASs G k fl sc (.Name x p :: ts) (lv :: lvs) m H N X := by
  refine ⟨⟨by simp [h.1.1], fun env => ?_⟩, fun env A C Z s vs hs I hv => ?_⟩
  · obtain ⟨a, b⟩ := h.1.2 env;refine ⟨by show (assignEach ts env).length + 1 = _; rw [a]; rfl, ?_⟩;show List.findIdx? _ ((false, assign (.Name x p) env) :: assignEach ts env) = none;rw [List.findIdx?_cons, b]; rfl
  · obtain ⟨v, r, rfl, v1, v2⟩ := hv;show wpAny _ _ (do holding r (assign (.Name x p) env v); assignInOrder ((assignEach ts env).map (·.2)) r) _ _ _;exact wpAny_bind (wpAny_holding (wpAny_assign_Name (I.store hp v1 (hl.imp id (kind_of hs)) fun s2 I2 => h.2 env A C Z s2 r hs I2 v2)))
theorem AS_tuple {ts:List Expr} {kd:Nat} {p:Pos} {lvs:List LV} (h:ASs G k fl sc ts lvs m H N X) (hh:G.hn = true) : AS G k fl sc (.Tuple ts kd p) (.tup lvs) m H N X := fun env A C Z s v hs I hv => by
  obtain ⟨a, vs, rfl, hC, hvs⟩ := hv;obtain ⟨o, n, hC, ho1, ho2⟩ := hC;have ht : IsTup s.heap a (List.toArray vs) := ⟨_, I.st.con a _ hC, ho1, _, ho2⟩;obtain ⟨s1, s2⟩ := h.1.2 env;rw [assign_Tuple];refine wpAny_bind (wpAny_standAt ?_);unfold unpack;rw [s2, show (assignEach ts env).length = (List.toArray vs).size by rw [s1, h.1.1, List.size_toArray, hvs.length]];exact wpAny_bind (wpAny_holding (items_end (I.hdx (I.fresh (Heap.get?_none_of_le (Nat.le_refl _))).1) (.inr ht) fun h' hx => h.2 env A C Z _ vs hs (I.keeps (tk := s.toks) (Heap.keepsOf hx)) hvs))
theorem AS_list {ts:List Expr} {kd:Nat} {p:Pos} {a:Addr} {lvs:List LV} (hH:H a = some (.lst lvs)) (h:ASs G k fl sc ts lvs m H N X) (hh:G.hn = true) : AS G k fl sc (.Tuple ts kd p) (.ref a) m H N X := fun env A C Z s v hs I hv => by
  cases hv;obtain ⟨us, h1, h2, h3, _⟩ := I.list hH;obtain ⟨s1, s2⟩ := h.1.2 env;rw [arm_assign_Tuple];refine wpAny_bind (wpAny_standAt ?_);unfold unpack;rw [s2, show (assignEach ts env).length = (List.toArray us).size by rw [s1, h.1.1, List.size_toArray, h3]];exact wpAny_bind (wpAny_holding (items_end (I.hdx (I.fresh (Heap.get?_none_of_le (Nat.le_refl _))).1) (.inl h1) fun h' hx => h.2 env A C Z _ us hs (I.keeps (tk := s.toks) (Heap.keepsOf hx)) h2))
end
theorem EX_AssignTup {ts:List Expr} {kd:Nat} {tp p:Pos} {e:Expr} (h:EV G k true sc e m H (fun lv H1 => AS G k true sc (.Tuple ts kd tp) lv m H1 P.n P.x) (fun c H' => P.x c m H'))
    (hsw:∀ env, swapsWithSole [.Tuple ts kd tp] e p.line env = pure false := by intro _; with_unfolding_all rfl) (hw:∀ env, swappedStores [.Tuple ts kd tp] e env = pure none := by intro _; with_unfolding_all rfl) :
    EX G k sc (.Assign [.Tuple ts kd tp] e p) m H P := fun env A C Z s hs I =>
  wpAny_Assign_stores (wpAny_mono (h env A C Z s hs I) (fun v s1 ⟨C1, lv, H1, c1, I1, v1, q1⟩ => by
    refine wpAny_mono (q1 env A C1 Z s1 v hs I1 v1) (fun _ s2 ⟨C2, m2, H2, c2, I2, q2⟩ => ?_) fun ww ww x => XsPost.up c1 x
    exact ⟨C2, m2, H2, c1.trans c2, I2, q2⟩) fun ww ww x => x.xs fun ww ww q => q) (hsw env) (hw env)
theorem EX_While {t:Expr} {b o:List Stmt} {p:Pos} (J:Nat → Loc → Hp → Prop)
    (turn:∀ n m H, J n m H → TS G k true sc t m H (fun c H1 => (c = true → EXS G k sc b m H1 ⟨fun m' H' => ∃ n', n' < n ∧ J n' m' H', P.r, P.n, fun m' H' => ∃ n', n' < n ∧ J n' m' H', P.x⟩) ∧ (c = false → EXS G k sc o m H1 P)) (fun c H' => P.x c m H'))
    (n:Nat) (h:J n m H) : EX G k sc (.While t b o p) m H P := fun env A C Z s hs I => by
  refine wpAny_While (codeAny_whileLoop (fun n => NPost G k true env A C Z (J n)) (fun n s ⟨C', m', H', c, I, j⟩ => ?_) n ⟨C, m, H, Cle.refl C, I, h⟩);have up : ∀ e s', XsPost G k true env A C' Z P.x e s' → notedBy G.M A env (fun e s' => cameBackBy G.M A env (XsPost G k true env A C Z P.x) e s') e s' := fun e s' x => (XsPost.up c x).came;refine wpAny_mono (turn n m' H' j env A C' Z s hs I) (fun b' s1 ⟨C1, H1, c1, I1, q1⟩ => ?_) fun e s' x => up e s' (x.xs fun ww ww q => q);cases b' with
  | true =>
    rw [if_pos rfl];refine wpAny_mono (q1.1 rfl env A C1 Z s1 hs I1) (fun f s2 ⟨C2, m2, H2, c2, I2, q2⟩ => ?_) fun e s' x => up e s' (XsPost.up c1 x);cases f with
    | next => obtain ⟨n', l, j'⟩ := q2; exact ⟨n', l, C2, m2, H2, (c.trans c1).trans c2, I2, j'⟩
    | cont => obtain ⟨n', l, j'⟩ := q2; exact ⟨n', l, C2, m2, H2, (c.trans c1).trans c2, I2, j'⟩
    | brk => exact ⟨C2, m2, H2, (c.trans c1).trans c2, I2, q2⟩
    | ret v => exact ⟨C2, m2, H2, (c.trans c1).trans c2, I2, q2⟩
  | false =>
    rw [if_neg (by decide)];exact wpAny_mono (q1.2 rfl env A C1 Z s1 hs I1) (fun f s2 ⟨C2, m2, H2, c2, I2, q2⟩ => ⟨C2, m2, H2, (c.trans c1).trans c2, I2, q2⟩) fun e s' x => up e s' (XsPost.up c1 x)
end
end
section
section
variable {G:Gl} {k:Nat} {fl:Bool} {env:Env} {A:Around} {C C':Cm} {Z:Zs} {m:Loc} {H:Hp} {s:Shared} {it:Addr}
theorem Inv.shown (X:Inv G k fl env A C Z m H s) {o:Obj} {vs:Array Value} (hg:s.heap.get? it = some o) (hd:o.data = .fields vs) (hC:C it = none) (hH:H it = none) :
    Cle C (cset C it o) ∧ Inv G k fl env A (cset C it o) Z m H s := by
  obtain ⟨y1, y2, y3⟩ := X.notFields hg hd;refine ⟨Cle.set o hC, X.step (a := it) (h' := s.heap) (tk := s.toks) (fun b o ww e => e) (nt_of hg fun ww ww e => nomatch hd.symm.trans e) hC y1 y2 y3 (fun ww ww ww e => e) (fun o' e => ns hH e) (Cle.set o hC) (fun b o' q e => (cset_ne C _ q).symm.trans e) (fun o' e => cset_cna hg e)⟩
theorem Inv.hidden {C₀:Cm} {H₀:Hp} {m₀:Loc} {Z₀:Zs} {s₀:Shared} (X₀:Inv G k fl env A C₀ Z₀ m₀ H₀ s₀) (h₀:C₀ it = none) (le:Cle C₀ C) (X:Inv G k fl env A C Z m H s) {o:Obj} (hC:C it = some o) (hd:seqOrPlain o.data = false) :
    Cle C₀ (cdel C it) ∧ Inv G k fl env A (cdel C it) Z m H s ∧ cdel C it it = none ∧ H it = none ∧ s.heap.get? it = some o ∧ (∀ a o, C a = some o → seqOrPlain o.data = true → cdel C it a = some o) ∧ ∀ {lv v}, VR C lv v → VR (cdel C it) lv v := by
  have le0 : Cle C₀ (cdel C it) := fun a ob e => (if_neg fun q => ns h₀ (q ▸ e)).trans (le a ob e);have res : Cres C (cdel C it) := fun a o' e q => (if_neg fun r => by cases r; cases e.symm.trans hC; exact Bool.false_ne_true (hd.symm.trans q)).trans e;have sub : ∀ a o', cdel C it a = some o' → C a = some o' := fun a o' e => by
    unfold cdel at e; split at e
    · cases e
    · exact e
  have hd0 : HOk (cdel C it) A := X₀.hd.mono fun a o ww e ww => le0 a o e;exact ⟨le0, X.of hd0 (X.st.sub sub res (fun a o' e => le0 a o' (X₀.st.base a o' e)) fun ww hz => hz) (X.fr.up res (fun ww h => h) (fun ww ww ww ww h => h) ⟨no_up (sub _) X.fr.ownL.1, X.fr.ownL.2.1⟩ fun x c e => ⟨no_up (sub c), (X.fr.ownC x c e).hH⟩), if_pos rfl, none_of fun ob q => ns (X.st.dis _ _ q) hC, X.st.con _ _ hC, res, fun h => h.restrict res⟩
end
inductive NxSome (G:Gl) (k:Nat) (fl:Bool) (env:Env) (A:Around) (C:Cm) (Z:Zs) (m:Loc) (H:Hp) {κ:Type} (isIt:Cm → κ → Obj → Prop) (it:Addr) (lv:LV) (κ':κ) (r:Option Value) (s':Shared) : Prop
  | mk (v:Value) (C':Cm) (o':Obj) (e:r = some v) (c:Cle C C') (I:Inv G k fl env A C' Z m H s') (vr:VR C' lv v) (hc:C' it = none) (ho:s'.heap.get? it = some o') (hi:isIt C' κ' o')
noncomputable def NxPost (G:Gl) (k:Nat) (fl:Bool) (env:Env) (A:Around) (C:Cm) (Z:Zs) (m:Loc) (H:Hp) {κ:Type} (isIt:Cm → κ → Obj → Prop) (it:Addr) : Option (LV × κ) → Option Value → Shared → Prop
  | none, r, s' => r = none ∧ Inv G k fl env A C Z m H s'
  | some (lv, κ'), r, s' => NxSome G k fl env A C Z m H isIt it lv κ' r s'
structure Stp (G:Gl) where
  κ : Type
  isIt : Cm → κ → Obj → Prop
  nx : Hp → κ → Option (LV × κ) → Prop
  fields : ∀ {C x o}, isIt C x o → ∃ vs, o.data = .fields vs
  mono : ∀ {C C' x o}, (∀ a o, C a = some o → seqOrPlain o.data = true → C' a = some o) → isIt C x o → isIt C' x o
  next : ∀ {k fl env A C Z m H s it x o r} (E:Value → Shared → Prop), G.hn = true → Inv G k fl env A C Z m H s → s.heap.get? it = some o → isIt C x o → C it = none → H it = none → nx H x r →
    wpAny G.M A (pyNext (.ref it)) (NxPost G k fl env A C Z m H isIt it r) E s
  go : ∀ {k fl env A C Z m H s it x x' o lv v} (t:Expr) (E:Value → Shared → Prop), Inv G k fl env A C Z m H s → s.heap.get? it = some o → isIt C x' o → C it = none → H it = none → nx H x (some (lv, x')) → VR C lv v →
    wpAny G.M A (letOwnedTupleGo t (.ref it) v) (fun ww s' => Inv G k fl env A C Z m H s' ∧ ∃ o', s'.heap.get? it = some o' ∧ isIt C x' o') E s
  self : ∀ {A:Around} {C s it x o} {E Q:Value → Shared → Prop}, s.heap.get? it = some o → isIt C x o → Q (.ref it) s → wpAny G.M A (pyIter (.ref it)) Q E s
inductive ItPost (G:Gl) (k:Nat) (fl:Bool) (env:Env) (A:Around) (C:Cm) (Z:Zs) (m:Loc) (S:Stp G) (Q:S.κ → Hp → Prop) (r:Value) (s':Shared) : Prop
  | mk (C':Cm) (H':Hp) (it:Addr) (x:S.κ) (o:Obj) (e:r = .ref it) (c:Cle C C') (I:Inv G k fl env A C' Z m H' s') (hc:C' it = none) (hH:H' it = none) (ho:s'.heap.get? it = some o) (hi:S.isIt C' x o) (q:Q x H')
noncomputable def IT (G:Gl) (k:Nat) (fl:Bool) (sc:Scope) (S:Stp G) (e:Expr) (m:Loc) (H:Hp) (Q:S.κ → Hp → Prop) (X:Xc) : Prop :=
  ∀ env A C Z s, env.scope = sc → Inv G k fl env A C Z m H s → wpAny G.M A (eval e env) (fun x s1 => wpAny G.M A (pyIter x) (ItPost G k fl env A C Z m S Q) (XPost G k fl env A C Z m X) s1) (XPost G k fl env A C Z m X) s
noncomputable def IV (G:Gl) (S:Stp G) (lv:LV) (H:Hp) (Q:S.κ → Hp → Prop) (X:Xc) : Prop :=
  ∀ k fl env A C Z m s v, Inv G k fl env A C Z m H s → VR C lv v → wpAny G.M A (pyIter v) (ItPost G k fl env A C Z m S Q) (XPost G k fl env A C Z m X) s
section
variable {G:Gl} {k:Nat} {sc:Scope} {m:Loc} {H:Hp} {P:PQ}
theorem IT_val {fl:Bool} {S:Stp G} {e:Expr} {Q:S.κ → Hp → Prop} {X:Xc} (h:EV G k fl sc e m H (fun lv H1 => IV G S lv H1 Q X) X) : IT G k fl sc S e m H Q X := fun env A C Z s hs I =>
  wpAny_mono (h env A C Z s hs I) (fun v s1 h1 => by
    obtain ⟨C1, lv, H1, c1, I1, v1, q1⟩ := h1
    exact wpAny_mono (q1 k fl env A C1 Z m s1 v I1 v1) (fun r s2 h2 => by
      obtain ⟨C2, H2, it, x, o, e, c2, z1, z2, z3, z4, z5, q⟩ := h2
      exact ⟨C2, H2, it, x, o, e, c1.trans c2, z1, z2, z3, z4, z5, q⟩) fun ww ww x => XPost.up c1 x) fun ww ww x => x
inductive ItAt (S:Stp G) (C:Cm) (H:Hp) (s:Shared) (it:Addr) (x:S.κ) : Prop
  | mk (o:Obj) (hC:C it = none) (hH:H it = none) (ho:s.heap.get? it = some o) (hi:S.isIt C x o)
structure Bk (G:Gl) (k:Nat) (fl:Bool) (env:Env) (A:Around) (Z:Zs) (S:Stp G) (it:Addr) (x:S.κ) (C0:Cm) (C:Cm) (m:Loc) (H:Hp) (s:Shared) : Prop where
  c : Cle C0 (cdel C it)
  I : Inv G k fl env A (cdel C it) Z m H s
  a : ItAt S (cdel C it) H s it x
  v : ∀ {lv v}, VR C lv v → VR (cdel C it) lv v
noncomputable def GoOk (G:Gl) (k:Nat) (fl:Bool) (env:Env) (A:Around) (Z:Zs) (S:Stp G) (it:Addr) (C0 C1:Cm) (m1:Loc) (H1:Hp) (lv:LV) (x:S.κ) (v:Value) (E:Value → Shared → Prop) (s:Shared) : Prop :=
  ∀ t (Q:Shared → Prop), (∀ C5 s4, Cle C1 C5 → Inv G k fl env A C5 Z m1 H1 s4 → VR C5 lv v → (∀ C7 m7 H7 s7, Cle C5 C7 → Inv G k fl env A C7 Z m7 H7 s7 → Bk G k fl env A Z S it x C0 C7 m7 H7 s7) → Q s4) → wpAny G.M A (letOwnedTupleGo t (.ref it) v) (fun ww => Q) E s
theorem step_ok {fl:Bool} {env:Env} {A:Around} {C0 C1:Cm} {Z:Zs} {m0 m1:Loc} {H0 H1:Hp} {s0 s1:Shared} {S:Stp G} {it:Addr} {x:S.κ} (hh:G.hn = true) (I0:Inv G k fl env A C0 Z m0 H0 s0) (n0:C0 it = none) (c1:Cle C0 C1) (I1:Inv G k fl env A C1 Z m1 H1 s1) (a:ItAt S C1 H1 s1 it x) {r:Option (LV × S.κ)} (hr:S.nx H1 x r) {E:Value → Shared → Prop} {Q:Option Value → Shared → Prop}
    (hN:r = none → ∀ s', Inv G k fl env A C1 Z m1 H1 s' → Q none s') (hS:∀ lv x', r = some (lv, x') → ∀ v s3, GoOk G k fl env A Z S it C0 C1 m1 H1 lv x' v E s3 → Q (some v) s3) : wpAny G.M A (pyNext (.ref it)) Q E s1 := by
  obtain ⟨o, n1, n2, g1, i1⟩ := a;refine wpAny_mono (S.next E hh I1 g1 i1 n1 n2 hr) (fun rv s3 h3 => ?_) fun ww ww x => x;cases r with
  | none => exact h3.1 ▸ hN rfl s3 h3.2
  | some pr =>
    obtain ⟨lv, x'⟩ := pr;obtain ⟨v, C3, o3, rfl, c3, I3, v3, n3, g3, i3⟩ := h3;refine hS lv x' rfl v s3 fun t Q2 h2 => wpAny_mono (S.go t E I3 g3 i3 n3 n2 hr v3) (fun ww s4 h4 => ?_) fun ww ww x => x;obtain ⟨I4, o4, g4, i4⟩ := h4;obtain ⟨vs4, hd4⟩ := S.fields i4;obtain ⟨c5, I5⟩ := I4.shown g4 hd4 n3 n2;refine h2 _ s4 (c3.trans c5) I5 (v3.mono c5) fun C7 m7 H7 s7 c7 I7 => ?_;obtain ⟨y1, y2, y3, y4, y5, y6, y7⟩ := Inv.hidden I0 n0 ((c1.trans (c3.trans c5)).trans c7) I7 (c7 _ _ (cset_same C3 it o4)) (hd4 ▸ rfl);exact ⟨y1, y2, ⟨o4, y3, y4, y5, S.mono (fun a oo e q => y6 a oo (c7 _ _ (c5 _ _ e)) q) i4⟩, y7⟩
inductive LpI (G:Gl) (k:Nat) (fl:Bool) (env:Env) (A:Around) (Z:Zs) (S:Stp G) (it:Addr) (C0:Cm) (J:S.κ → Loc → Hp → Prop) (s:Shared) : Prop
  | mk (C1:Cm) (m1:Loc) (H1:Hp) (x:S.κ) (c:Cle C0 C1) (I:Inv G k fl env A C1 Z m1 H1 s) (a:ItAt S C1 H1 s it x) (j:J x m1 H1)
theorem Bk.lp {fl:Bool} {env:Env} {A:Around} {Z:Zs} {S:Stp G} {it:Addr} {x:S.κ} {C0 C:Cm} {m:Loc} {H:Hp} {s:Shared} {J:Nat → S.κ → Loc → Hp → Prop} {n:Nat} (b:Bk G k fl env A Z S it x C0 C m H s) (h:∃ n', n' < n ∧ J n' x m H) : ∃ n', n' < n ∧ LpI G k fl env A Z S it C0 (J n') s := by
  obtain ⟨n', l, j⟩ := h;exact ⟨n', l, _, m, H, x, b.c, b.I, b.a, j⟩
theorem EX_For {S:Stp G} {t it:Expr} {b o:List Stmt} {p:Pos} (hh:G.hn = true) (J:Nat → S.κ → Loc → Hp → Prop)
    (h:IT G k true sc S it m H (fun x H1 => ∃ n, J n x m H1) (fun c H' => P.x c m H'))
    (turn:∀ n x m H, J n x m H → ∃ r, S.nx H x r ∧ (r = none → EXS G k sc o m H P) ∧ (∀ lv x', r = some (lv, x') → AS G k true sc t lv m H (fun m1 H1 => EXS G k sc b m1 H1 ⟨fun m' H' => ∃ n', n' < n ∧ J n' x' m' H', P.r, P.n, fun m' H' => ∃ n', n' < n ∧ J n' x' m' H', P.x⟩) P.x))
    (hf:∀ env x, foldedSetIterable it env x = pure x := by intro _ _; with_unfolding_all rfl) : EX G k sc (.For t it b o p) m H P := fun env A C Z s hs I => by
  refine wpAny_For (wpAny_mono (h env A C Z s hs I) (fun v s1 h1 => wpAny_mono h1 (fun r s2 h2 => ?_) fun ww ww x => x.xs fun ww ww q => q) fun ww ww x => x.xs fun ww ww q => q) (hf env);obtain ⟨C0, H0, ia, x0, o0, rfl, c0, I0, n0, n0', g0, i0, n, j0⟩ := h2;have up : ∀ {C'}, Cle C C' → ∀ e s', XsPost G k true env A C' Z P.x e s' → notedBy G.M A env (fun e s' => cameBackBy G.M A env (XsPost G k true env A C Z P.x) e s') e s' := fun c e s' x => (XsPost.up c x).came;refine codeAny_forLoop_any (fun n s => LpI G k true env A Z S ia C0 (J n) s) (fun n s h => ?_) n ⟨C0, m, H0, x0, Cle.refl _, I0, ⟨o0, n0, n0', g0, i0⟩, j0⟩;obtain ⟨C1, m1, H1, x, c1, I1, a1, j1⟩ := h;obtain ⟨r, hr, q1, q2⟩ := turn n x m1 H1 j1;have cc := c0.trans c1;refine step_ok hh I0 n0 c1 I1 a1 hr (fun e s3 I3 => wpAny_mono (q1 e env A C1 Z s3 hs I3) (fun f s4 h4 => FPost.up cc h4) fun e s' x => up cc e s' x) fun lv x' e v s3 go => go _ _ fun C5 s4 c5 I5 v5 back => wpAny_mono (q2 lv x' e env A C5 Z s4 v hs I5 v5) (fun ww s6 h6 => ?_) fun e s' x => up (cc.trans c5) e s' x;obtain ⟨C6, m6, H6, c6, I6, q6⟩ := h6;refine wpAny_mono (q6 env A C6 Z s6 hs I6) (fun f s7 h7 => ?_) fun e s' x => up ((cc.trans c5).trans c6) e s' x;obtain ⟨C7, m7, H7, c7, I7, q7⟩ := h7;have b := back C7 m7 H7 s7 (c6.trans c7) I7;cases f with
  | next => exact b.lp q7
  | cont => exact b.lp q7
  | brk => exact ⟨_, m7, H7, c0.trans b.c, b.I, q7⟩
  | ret v' => obtain ⟨lr, r1, r2⟩ := q7; exact ⟨_, m7, H7, c0.trans b.c, b.I, lr, b.v r1, r2⟩
end
end
section
section
variable {G:Gl} {k:Nat} {fl:Bool} {env:Env} {A:Around} {C C':Cm} {Z:Zs} {m:Loc} {H:Hp} {s:Shared} {it:Addr} {h':Heap} {tk:Nat}
theorem Inv.alienE (X:Inv G k fl env A C Z m H s) {o:Obj} {vs:Array Value} (ho:s.heap.get? it = some o) (hd:o.data = .fields vs) (hC:C it = none) (hH:H it = none) (hs:Heap.ExtBut it s.heap h') :
    Inv G k fl env A C Z m H { s with heap := h', toks := tk } := by
  obtain ⟨y1, y2, y3⟩ := X.notFields ho hd;refine X.step (a := it) (fun b ob q e => hs b ob q e) (nt_of ho fun ww ww e => nomatch hd.symm.trans e) hC y1 y2 y3 (fun ww ww ww e => e) (fun o' e => ns hH e) (Cle.refl C) (fun ww ww ww e => e) (fun o' e => ns hC e)
theorem go_plain {o:Obj} {n:String} {t:PySem.Expr} {v:Value} {M:Model} {E:Value → Shared → Prop} {Q:Unit → Shared → Prop} (ho:s.heap.get? it = some o) (hc:o.cls = .type n)
    (hn:(["enumerate", "zip", "dict_itemiterator", "dict_reverseitemiterator", "odict_iterator", "itertools.zip_longest", "itertools.pairwise"].contains n) = false) (h:Q () s) : wpAny M A (letOwnedTupleGo t (.ref it) v) Q E s := by
  have key : ∀ p a, wpAny M A (letOwnedTupleGo (.List [] p) (.ref it) (.ref a)) Q E s := fun p a => by
    refine wpAny_bind (wpAny_load ho ?_);rw [hc];cases o.data with
    | fields vs => exact wp_ifn (by rw [hn]; exact Bool.noConfusion) (wpAny_pure h)
    | _ => exact wpAny_pure h
  cases t with
  | Tuple es kd p => cases v with
    | ref a => exact key p a
    | _ => exact wpAny_pure h
  | List es p => cases v with
    | ref a => exact key p a
    | _ => exact wpAny_pure h
  | _ => exact wpAny_pure h
end
noncomputable def stpL (G:Gl) : Stp G where
  κ := Addr × Nat
  isIt := fun ww x o => o.cls = .type "list_iterator" ∧ o.data = .fields #[.ref x.1, .int x.2 0]
  nx := fun H x r => ∃ vs, H x.1 = some (.lst vs) ∧ r = (vs[x.2]?).map fun v => (v, (x.1, x.2 + 1))
  fields := fun h => ⟨_, h.2⟩
  mono := fun ww h => h
  next := by
    rintro k fl env A C Z m H s it ⟨a, i⟩ o r E hh I hg ⟨hc, hd⟩ hC hH ⟨vs, hH2, rfl⟩;obtain ⟨us, h1, h2, h3, _⟩ := I.list hH2;have hit : s.heap.IsListIter it a i := ⟨o, hg, hc, hd⟩;cases hv : vs[i]? with
    | none =>
      refine list_end (I.hdx hC) hit h1 (by rw [List.getElem?_toArray, List.getElem?_eq_none_iff, h3]; exact List.getElem?_eq_none_iff.mp hv) fun h' hx => ⟨rfl, I.alienE (tk := s.toks) hg hd hC hH hx⟩
    | some lv =>
      obtain ⟨v, v1, v2⟩ := h2.get hv;refine wpAny_pyNext_list_item hit h1 (x := v) (by rw [List.getElem?_toArray]; exact v1) fun h' ⟨o', e1, e2, e3⟩ hx => ⟨v, C, o', rfl, Cle.refl C, I.alien (tk := s.toks) hg hd hC hH hx, v2, hC, e1, e2, e3⟩
  go := by
    rintro k fl env A C Z m H s it ⟨a, i⟩ ⟨a', i'⟩ o lv v t E I hg ⟨hc, hd⟩ hC hH hn hv;exact go_plain hg hc (by decide) ⟨I, o, hg, hc, hd⟩
  self := by
    rintro A C s it ⟨a, i⟩ o E Q hg ⟨hc, hd⟩ hQ;exact wpAny_pyIter_listiter (l := a) (i := i) ⟨o, hg, hc, hd⟩ hQ
noncomputable def stpN (G:Gl) : Stp G where
  κ := Int × Nat
  isIt := fun ww x o => o = { cls := .type "range_iterator", dict := none, data := .fields #[rawInt x.1, rawInt x.2, rawInt 1], slots := #[] }
  nx := fun H x r => r = match x.2 with | 0 => none | n + 1 => some (.int x.1, (x.1 + 1, n))
  fields := fun h => by subst h; exact ⟨_, rfl⟩
  mono := fun ww h => h
  next := by
    rintro k fl env A C Z m H s it ⟨a, n⟩ o r E hh I hg rfl hC hH rfl;cases n with
    | zero => exact range_end (I.hdx hC _ (Heap.ExtBut.refl _ _)) hg (by simp) fun h' hx => ⟨rfl, I.alienE (tk := s.toks) hg rfl hC hH hx⟩
    | succ n =>
      refine wpAny_pyNext_range_item hg (by omega) fun h' e1 hx => ⟨_, C, _, rfl, Cle.refl C, I.alien hg rfl hC hH hx, ⟨_, rfl⟩, hC, e1, ?_⟩;have : ((n + 1 : Nat) : Int) - 1 = (n:Int) := by omega
      simp only [this]
  go := by
    rintro k fl env A C Z m H s it l l' o lv v t E I hg hc hC hH hn hv;exact go_plain hg (by rw [hc]) (by decide) ⟨I, o, hg, hc⟩
  self := by
    rintro A C s it ⟨a, n⟩ o E Q hg rfl hQ;exact wpAny_pyIter_rangeiter (x := a) (left := n) (step := 1) hg hQ
section
variable {G:Gl} {k:Nat} {sc:Scope} {m:Loc} {H:Hp} {X:Xc}
theorem IV_list {a:Addr} {vs:List LV} {Q:(stpL G).κ → Hp → Prop} (hH:H a = some (.lst vs)) (h:Q (a, 0) H) : IV G (stpL G) (.ref a) H Q X := fun k fl env A C Z m s v I hv => by
  cases hv;obtain ⟨us, h1, h2, h3, _⟩ := I.list hH;refine wpAny_pyIter_list h1 ?_;have hn : s.heap.get? s.heap.objs.size = none := Heap.get?_none_of_le (Nat.le_refl _);obtain ⟨f1, f2, _⟩ := I.fresh hn;exact ⟨C, H, _, (a, 0), _, rfl, Cle.refl C, I.keeps (tk := s.toks) (fun b o e => Heap.get?_push_of_some _ e), f1, f2, Heap.get?_push_size _ rfl, ⟨rfl, rfl⟩, h⟩
end
end
end Go
end
section
namespace Go
open PySem PySem.W PyProof.Rows PySem.Calls
section
noncomputable def GNm (G:Gl) (x:Str) (v:Value) : Prop := G.mg x = some v ∨ (G.mg x = none ∧ G.mb x = some v)
section
variable {G:Gl} {k:Nat} {fl:Bool} {env:Env} {A:Around} {C C':Cm} {Z:Zs} {m:Loc} {H:Hp} {s:Shared}
theorem Inv.keep (X:Inv G k fl env A C Z m H s) : ∀ b o, G.h₀.get? b = some o → s.heap.get? b = some o := fun b o e => X.st.con b o (X.st.base b o e)
theorem Inv.kin (X:Inv G k fl env A C Z m H s) : G.K.In s.heap := fun b o e => X.keep b o (G.kin b o e)
theorem Ns.keep {h h':Heap} {a:Addr} {mm:Str → Option Value} (x:h.Ns a mm) (k:∀ b o, h.get? b = some o → h'.get? b = some o) : h'.Ns a mm := by
  obtain ⟨o, es, ep, e1, r⟩ := x;exact ⟨o, es, ep, k _ _ e1, r⟩
theorem Inv.name (X:Inv G k fl env A C Z m H s) {x:Str} {p:Pos} {v:Value} {E:Value → Shared → Prop} {Q:Value → Shared → Prop} (hx:env.kindOf x = some .globalImplicit) (hg:GNm G x v) (hd:(x == ("__debug__" : Str)) = false) (hQ:Q v s) :
    wpAny G.M A (eval (.Name x p) env) Q E s := by
  refine Name_function_global X.kind hx ?_ hd;have n1 : s.heap.Ns env.globals G.mg := by rw [X.glob]; exact Ns.keep G.gns X.keep
  have n2 : s.heap.Ns env.builtins G.mb := by rw [X.blt]; exact Ns.keep G.bns X.keep
  rcases hg with h | ⟨h1, h2⟩
  · exact loadGlobal_global n1 h hQ
  · exact loadGlobal_builtin n1 h1 n2 h2 hQ
end
noncomputable def AR (G:Gl) (k:Nat) (fl:Bool) (sc:Scope) (es:List Expr) (m:Loc) (H:Hp) (Q:List LV → Hp → Prop) (X:Xc) : Prop :=
  (∀ pos env, (backTo pos (starEach es env)).any (·.1) = false) ∧ ∀ pos env A C Z s, env.scope = sc → Inv G k fl env A C Z m H s →
    wpAny G.M A (spliced (backTo pos (starEach es env))) (RPost G k fl env A C Z m Q) (XPost G k fl env A C Z m X) s
theorem evalArgs_any {M:Model} {A:Around} {E:Value → Shared → Prop} {s:Shared} {f:Value} : ∀ {args:List (Bool × Sem Value)} {Q:Args → Shared → Prop}, args.any (·.1) = false → wpAny M A (spliced args) (fun vs s' => Q ⟨vs, []⟩ s') E s → wpAny M A (evalArgs f true args []) Q E s
  | [], Q, _, h => by
    unfold evalArgs;show wpAny M A (spliced [] >>= _) Q E s;refine wpAny_bind (wpAny_mono h (fun vs s' h' => ?_) fun ww ww x => x);refine wpAny_holding ?_;exact wpAny_bind (wpAny_pure (wpAny_bind (wpAny_pure (wpAny_pure h'))))
  | (true, x) :: rest, Q, ha, _ => by simp at ha
  | (false, x) :: rest, Q, ha, h => evalArgs_plain h
section
variable {G:Gl} {k:Nat} {fl:Bool} {sc:Scope} {m:Loc} {H:Hp} {Q:Qv} {X:Xc}
theorem AR_nil {Q:List LV → Hp → Prop} (h:Q [] H) : AR G k fl sc [] m H Q X := ⟨fun ww ww => rfl, fun pos env A C Z s hs I => wpAny_pure ⟨C, [], H, Cle.refl C, I, rfl, h⟩⟩
theorem AR_cons {e:Expr} {es:List Expr} {Q:List LV → Hp → Prop} (h:EV G k fl sc e m H (fun lv H1 => AR G k fl sc es m H1 (fun lvs H2 => Q (lv :: lvs) H2) X) X)
    (hp:∀ pos env, (backTo pos (starEach es env)).any (·.1) = false := by intro _ _; with_unfolding_all rfl) (he:∀ env, starEach (e :: es) env = (false, eval e env) :: starEach es env := by intro _; with_unfolding_all rfl) : AR G k fl sc (e :: es) m H Q X := by
  refine ⟨fun pos env => ?_, fun pos env A C Z s hs I => ?_⟩
  · rw [he env]; show (false || (backTo pos (starEach es env)).any (·.1)) = false; rw [hp]; rfl
  · rw [he env];show wpAny _ _ (spliced ((false, eval e env) :: backTo pos (starEach es env))) _ _ _;refine spliced_cons (wpAny_mono (h env A C Z s hs I) (fun v s1 ⟨C1, lv, H1, c1, I1, v1, q1⟩ => ?_) fun ww ww x => x);exact wpAny_mono (q1.2 pos env A C1 Z s1 hs I1) (fun vs s2 ⟨C2, lvs, H2, c2, I2, v2, q2⟩ => ⟨C2, lv :: lvs, H2, c1.trans c2, I2, ⟨v, vs, rfl, v1.mono c2, v2⟩, q2⟩) fun ww ww x => XPost.up c1 x
theorem callK {f:Value} {es:List Expr} {first:List Value} {lfirst:List LV} {pos:Pos} {env:Env} {A:Around} {C:Cm} {Z:Zs} {s:Shared} (hk:keepIn G.K f = true) (hs:env.scope = sc) (I:Inv G k fl env A C Z m H s) (hf:VRs C lfirst first)
    (h:AR G k fl sc es m H (fun lvs H1 => CALL G k f (lfirst ++ lvs) H1 Q X) X) : wpAny G.M A (callWith pos f first (backTo pos (starEach es env)) []) (Post G k fl env A C Z m Q) (XPost G k fl env A C Z m X) s := by
  have key := h.2 pos env A C Z s hs I;have h2 : wpAny G.M A (spliced (backTo pos (starEach es env))) (fun vs s₁ => G.K.In s₁.heap ∧ wpAny G.M A (call f (first ++ vs)) (Post G k fl env A C Z m Q) (XPost G k fl env A C Z m X) s₁) (XPost G k fl env A C Z m X) s :=
    wpAny_mono key (fun vs s1 ⟨C1, lvs, H1, c1, I1, v1, q1⟩ => ⟨I1.kin, wpAny_mono (q1 fl env A C1 Z m s1 (first ++ vs) I1 ((hf.mono c1).append v1)) (fun ww ww x => Post.up c1 x) fun ww ww x => XPost.up c1 x⟩) fun ww ww x => x
  refine callWith_of (P := G.K.In) (by rw [h.1 pos env]; rfl) (keeps_K hk) (evalArgs_any (h.1 pos env) h2)
theorem callB {id:String} {es:List Expr} {first:List Value} {lfirst:List LV} {pos:Pos} {env:Env} {A:Around} {C:Cm} {Z:Zs} {s:Shared} (hs:env.scope = sc) (I:Inv G k fl env A C Z m H s) (hf:VRs C lfirst first)
    (h:AR G k fl sc es m H (fun lvs H1 => CALL G k (.builtin id) (lfirst ++ lvs) H1 Q X) X) : wpAny G.M A (callWith pos (.builtin id) first (backTo pos (starEach es env)) []) (Post G k fl env A C Z m Q) (XPost G k fl env A C Z m X) s :=
  callWith_builtin (h.1 pos env) (evalArgs_any (h.1 pos env) (wpAny_mono (h.2 pos env A C Z s hs I) (fun vs s1 ⟨C1, lvs, H1, c1, I1, v1, q1⟩ =>
    wpAny_mono (q1 fl env A C1 Z m s1 (first ++ vs) I1 ((hf.mono c1).append v1)) (fun ww ww x => Post.up c1 x) fun ww ww x => XPost.up c1 x) fun ww ww x => x))
theorem callT {T:String} {es:List Expr} {pos:Pos} {env:Env} {A:Around} {C:Cm} {Z:Zs} {s:Shared} (hs:env.scope = sc) (I:Inv G k fl env A C Z m H s)
    (h:AR G k fl sc es m H (fun lvs H1 => CALL G k (.type T) lvs H1 Q X) X) : wpAny G.M A (callWith pos (.type T) [] (backTo pos (starEach es env)) []) (Post G k fl env A C Z m Q) (XPost G k fl env A C Z m X) s :=
  PyProof.Rows.callWith_type (h.1 pos env) (evalArgs_any (h.1 pos env) (wpAny_mono (h.2 pos env A C Z s hs I) (fun vs s1 ⟨C1, lvs, H1, c1, I1, v1, q1⟩ =>
    wpAny_mono (q1 fl env A C1 Z m s1 vs I1 v1) (fun ww ww x => Post.up c1 x) fun ww ww x => XPost.up c1 x) fun ww ww x => x))
theorem EV_CallK {x:Str} {np pos:Pos} {f:Value} {es:List Expr} (hx:sc.names.lookup x = some .globalImplicit) (hg:GNm G x f) (hk:keepIn G.K f = true) (h:AR G k fl sc es m H (fun lvs H1 => CALL G k f lvs H1 Q X) X) (hd:(x == ("__debug__" : Str)) = false := by decide +kernel) :
    EV G k fl sc (.Call (.Name x np) es [] pos) m H Q X := fun env A C Z s hs I =>
  Call_Name rfl (I.name (kind_of hs hx) hg hd (callK hk hs I (lfirst := []) rfl h))
theorem EV_CallB {x:Str} {np pos:Pos} {id:String} {es:List Expr} (hx:sc.names.lookup x = some .globalImplicit) (hg:GNm G x (.builtin id)) (h:AR G k fl sc es m H (fun lvs H1 => CALL G k (.builtin id) lvs H1 Q X) X) (hd:(x == ("__debug__" : Str)) = false := by decide +kernel) :
    EV G k fl sc (.Call (.Name x np) es [] pos) m H Q X := fun env A C Z s hs I =>
  Call_Name rfl (I.name (kind_of hs hx) hg hd (callB hs I (lfirst := []) rfl h))
theorem EV_CallT {x:Str} {np pos:Pos} {T:String} {es:List Expr} (hx:sc.names.lookup x = some .globalImplicit) (hg:GNm G x (.type T)) (h:AR G k fl sc es m H (fun lvs H1 => CALL G k (.type T) lvs H1 Q X) X) (hd:(x == ("__debug__" : Str)) = false := by decide +kernel) :
    EV G k fl sc (.Call (.Name x np) es [] pos) m H Q X := fun env A C Z s hs I =>
  Call_Name rfl (I.name (kind_of hs hx) hg hd (callT hs I h))
noncomputable def OfR (T:String) : LO → Prop
  | .lst _ => T = "list"
  | .pset _ => T = "set"
  | .sset _ => T = "set"
  | .sdict _ => T = "dict"
  | .pdict _ _ => T = "dict"
  | _ => False
noncomputable def OfT (H:Hp) (T:String) : LV → Prop
  | .ref a => (H a).elim False (OfR T)
  | .str _ => T = "str"
  | _ => False
theorem OfT.at {T:String} {env:Env} {A:Around} {C:Cm} {Z:Zs} {s:Shared} {lv:LV} {v:Value} (o:OfT H T lv) (I:Inv G k fl env A C Z m H s) (hv:VR C lv v) : s.TypeIs v T ∧ ∀ a, v = .ref a → ∃ ob, s.heap.get? a = some ob ∧ ob.dict = none := by
  cases lv with
  | str x => obtain ⟨t, rfl⟩ := hv; cases o; exact ⟨typeIs_str s x t, fun a q => nomatch q⟩
  | ref a =>
    cases hv;have o : (H a).elim False (OfR T) := o;generalize hH : H a = x at o;cases x with
    | none => exact o.elim
    | some lo =>
      obtain ⟨ob, e1, e2⟩ := I.st.hp a _ hH;have o : OfR T lo := o;have two : ob.cls = .type T → ob.dict = none → s.TypeIs (.ref a) T ∧ ∀ b, Value.ref a = .ref b → ∃ ob, s.heap.get? b = some ob ∧ ob.dict = none := fun h1 h2 => ⟨⟨ob, e1, h1⟩, fun b q => ⟨ob, Value.ref.inj q ▸ e1, h2⟩⟩;cases lo with
      | lst vs => exact two (o.symm ▸ e2.1) e2.2.1
      | pset vs => exact two (o.symm ▸ e2.1.1) e2.1.2.1
      | sset vs => exact two (o.symm ▸ e2.1.1) e2.1.2.1
      | sdict vs => exact two (o.symm ▸ e2.1) e2.2.1
      | pdict vs ep => exact two (o.symm ▸ e2.1) e2.2.1
      | psetx _ _ _ => exact o.elim
      | ns vs => exact o.elim
  | _ => exact o.elim
end
end
section
noncomputable def aput : List (Str × LV) → Str → LV → List (Str × LV)
  | [], x, v => [(x, v)]
  | (y, w) :: r, x, v => if y = x then (y, v) :: r else (y, w) :: aput r x v
theorem aput_length {fs:List (Str × LV)} {x:Str} {v:LV} : (aput fs x v).length ≤ fs.length + 1 := by
  induction fs with
  | nil => exact Nat.le_refl _
  | cons f r ih =>
    unfold aput; split
    · exact Nat.le_succ _
    · exact Nat.succ_le_succ ih
theorem isStr_str (x y:Str) (t:Tok) : (Value.str x t).isStr y = (x == y) := rfl
theorem SEnt.length {G:Gl} {C:Cm} {fs:List (Str × LV)} : ∀ {es:List DictEntry}, SEnt G.w C fs es → es.length = fs.length := by
  induction fs with
  | nil => exact fun h => congrArg List.length h
  | cons f fs ih =>
    intro es h;obtain ⟨e, r, rfl, _, _, _, h4⟩ := h;exact congrArg (· + 1) (ih h4)
theorem SEnt.noRef {G:Gl} {C:Cm} {fs:List (Str × LV)} : ∀ {es:List DictEntry}, SEnt G.w C fs es → es.any (·.refKey) = false := by
  induction fs with
  | nil => exact fun h => h ▸ rfl
  | cons f fs ih =>
    intro es h;obtain ⟨e, r, rfl, _, ⟨t, h2⟩, _, h4⟩ := h;rw [List.any_cons, ih h4]; unfold DictEntry.refKey; rw [h2]; rfl
theorem SEnt.find {G:Gl} {C:Cm} {name:Str} {fs:List (Str × LV)} : ∀ {es:List DictEntry}, SEnt G.w C fs es →
    match fs.lookup name with | some lv => ∃ e, es.find? (·.key.isStr name) = some e ∧ VR C lv e.val | none => es.find? (·.key.isStr name) = none := by
  induction fs with
  | nil => exact fun h => h ▸ rfl
  | cons f fs ih =>
    intro es h;obtain ⟨e, r, rfl, _, ⟨t, h2⟩, h3, h4⟩ := h;have hk : e.key.isStr name = (f.1 == name) := h2 ▸ isStr_str f.1 name t;rw [List.find?_cons, hk]
    by_cases q : name = f.1
    · rw [q, lu_same, beq_self_eq_true]; exact ⟨e, rfl, h3⟩
    · rw [lu_ne q, beq_false_of_ne (Ne.symm q)]; exact ih h4
theorem SEnt.put {G:Gl} {C:Cm} {name:Str} {t:Tok} {lv:LV} {v:Value} (hv:VR C lv v) {fs:List (Str × LV)} : ∀ {es:List DictEntry}, SEnt G.w C fs es →
    SEnt G.w C (aput fs name lv) (putIn (·.key.isStr name) (fun e => { e with val := v }) ⟨PyData.keyHash G.w.params name, .str name t, v⟩ es) := by
  induction fs with
  | nil => intro es h; cases h; exact ⟨_, [], rfl, rfl, ⟨t, rfl⟩, hv, rfl⟩
  | cons f fs ih =>
    intro es h;obtain ⟨e, r, rfl, h1, ⟨u, h2⟩, h3, h4⟩ := h;have hk : e.key.isStr name = (f.1 == name) := h2 ▸ isStr_str f.1 name u;unfold aput
    by_cases q : f.1 = name
    · rw [if_pos q, putIn_hit _ _ _ _ _ (by rw [hk]; exact beq_iff_eq.mpr q)];exact ⟨_, r, rfl, h1, ⟨u, h2⟩, hv, h4⟩
    · rw [if_neg q, putIn_miss _ _ _ _ _ (by rw [hk]; exact beq_false_of_ne q)];exact ⟨e, _, rfl, h1, ⟨u, h2⟩, h3, ih h4⟩
section
variable {G:Gl} {k:Nat} {fl:Bool} {env:Env} {A A':Around} {C C':Cm} {Z:Zs} {m m':Loc} {H H':Hp} {s s':Shared}
theorem Inv.inst (X:Inv G k fl env A C Z m H s) {c x d:Addr} {v:Value} {fs:List (Str × LV)} (hv:VR C (.inst c x d) v) (hd:H d = some (.ns fs)) :
    v = .ref x ∧ ∃ od es n, s.heap.get? d = some od ∧ od.data = .dict (List.toArray es) n ∧ SEnt G.w C fs es ∧ fs.length ≤ 900 ∧ InstAt s.heap x (instObj c d) c (some od) ∧ od.cls = .type "dict" ∧ od.dict = none ∧ od.slots = #[] := by
  obtain ⟨rfl, hC⟩ := hv;obtain ⟨od, e1, a1, a2, a3, a4, es, n, e2, e3⟩ := X.st.hp d _ hd;exact ⟨rfl, od, es, n, e1, e2, e3, a4, ⟨X.st.con x _ hC, rfl, rfl, e1⟩, a1, a2, a3⟩
theorem lookIn_of {G:Gl} {C:Cm} {fs:List (Str × LV)} {es:List DictEntry} {n:Nat} {od:Obj} {name:Str} (hd:od.data = .dict (List.toArray es) n) (h:SEnt G.w C fs es) :
    match fs.lookup name with | some lv => ∃ v, lookIn name od = some (some v) ∧ VR C lv v | none => lookIn name od = some none := by
  have f := h.find (name := name);unfold lookIn;rw [hd];dsimp only;cases q : fs.lookup name with
  | some lv => rw [q] at f; obtain ⟨e, e1, e2⟩ := f; exact ⟨e.val, by rw [e1], e2⟩
  | none => rw [q] at f; dsimp only at f ⊢; rw [f, h.noRef]; rfl
theorem VR.handed {lv:LV} {v:Value} (h:VR C lv v) : handedIn v = true := by
  cases lv with
  | none => cases h; rfl
  | bool _ => cases h; rfl
  | int _ => obtain ⟨t, rfl⟩ := h; rfl
  | str _ => obtain ⟨t, rfl⟩ := h; rfl
  | tup _ => obtain ⟨a, vs, rfl, _⟩ := h; rfl
  | ref _ => cases h; rfl
  | inst _ _ _ => obtain ⟨rfl, _⟩ := h; rfl
  | ro _ _ => obtain ⟨rfl, _⟩ := h; rfl
noncomputable def ObjCls (K:Frag) (c:Addr) : Bool :=
  (findIn K (.ref c) "__getattribute__" == some (some (.builtin "object.__getattribute__"))) && (findIn K (.ref c) "__getattr__" == some none) &&
  (findIn K (.ref c) "__setattr__" == some (some (.builtin "object.__setattr__"))) && plainOver K c && (clsIn K c).any (·.hasDict)
noncomputable def NoAttr (K:Frag) (c:Addr) (name:Str) : Bool := findIn K (.ref c) name == some none
theorem findObj_of {K:Frag} {c:Addr} {od:Obj} {name:Str} {v:Value} (hc:ObjCls K c = true) (hn:NoAttr K c name = true) (hl:lookIn name od = some (some v)) : findObj K c (some od) name = some (.value v) := by
  simp only [ObjCls, Bool.and_eq_true, beq_iff_eq] at hc;obtain ⟨_, h⟩ := hc;obtain ⟨cd, h1, h2⟩ := any_some h;simp only [NoAttr, beq_iff_eq] at hn;unfold findObj;rw [h1, hn];simp only [Option.bind_some, PySem.W.ownOf, h2, if_true, hl]
theorem GA_inst (X:Inv G k fl env A C Z m H s) {c x d:Addr} {v:Value} {fs:List (Str × LV)} {name:Str} {lv:LV} {expr:Bool} (hv:VR C (.inst c x d) v) (hd:H d = some (.ns fs)) (hc:ObjCls G.K c = true) (hn:NoAttr G.K c name = true) (hl:fs.lookup name = some lv)
    {E:Value → Shared → Prop} {Q:Value → Shared → Prop} (h:∀ v tk, VR C lv v → Inv G k fl env A C Z m H { s with toks := tk } → Q v { s with toks := tk }) : wpAny G.M A (getAttr v name expr) Q E s := by
  obtain ⟨rfl, od, es, n, e1, e2, e3, e4, I, _⟩ := X.inst hv hd;have l := lookIn_of (name := name) e2 e3;rw [hl] at l;obtain ⟨u, l1, l2⟩ := l;have hc' := hc;simp only [ObjCls, Bool.and_eq_true, beq_iff_eq] at hc';exact get_value X.kin I hc'.1.1.1.1 (findObj_of hc hn l1) l2.handed (h u _ l2 X.toks)
theorem SA_inst (X:Inv G k fl env A C Z m H s) {c x d:Addr} {v u:Value} {fs:List (Str × LV)} {name:Str} {lv:LV} (hv:VR C (.inst c x d) v) (hd:H d = some (.ns fs)) (hc:ObjCls G.K c = true) (hn:NoAttr G.K c name = true) (hu:VR C lv u) (hz:fs.length < 900)
    {E:Value → Shared → Prop} {Q:Unit → Shared → Prop} (h:∀ s', Inv G k fl env A C Z m (hset H d (.ns (aput fs name lv))) s' → Q () s') : wpAny G.M A (setAttr v name u) Q E s := by
  obtain ⟨rfl, od, es, n, e1, e2, e3, e4, I, a1, a2, a3⟩ := X.inst hv hd;have hc' := hc;simp only [ObjCls, Bool.and_eq_true, beq_iff_eq] at hc';obtain ⟨⟨⟨⟨_, _⟩, hs⟩, hp⟩, hh⟩ := hc';simp only [NoAttr, beq_iff_eq] at hn;obtain ⟨cd, hcd, hdc⟩ := any_some hh;refine set_plain X.kin I hs ?_;have X1 : Inv G k fl env A C Z m H { s with toks := s.toks + 1 } := X.toks
  refine osa_open (s := { s with toks := s.toks + 1 }) X1.kin I hp (r := none) (by unfold takerIn; rw [hn]; rfl) fun b => ?_;have len := e3.length;obtain ⟨oc, odi, oda, osl⟩ := od;dsimp only at a1 a2 a3 e2;subst a1 a2 a3 e2;have key : ∀ tk, Obj.putName name (PyData.keyHash G.w.params name) (.str name tk) u ⟨.type "dict", none, .dict (List.toArray es) n, #[]⟩ =
      ⟨.type "dict", none, .dict (List.toArray (putIn (·.key.isStr name) (fun e => { e with val := u }) ⟨PyData.keyHash G.w.params name, .str name tk, u⟩ es)) (if es.any (·.key.isStr name) then n else n + 1), #[]⟩ := fun tk => putName_eq ..
  have D := e1;refine wpAny_bind (wpAny_pure (wpAny_bind (wpAny_bind (wpAny_loadPart I.at_ (wpAny_bind ((looks_clsIn X1.kin hcd).here ?_))))));rw [hdc];refine wpAny_pure (a := some d) (wpAny_bind (wpAny_pure (wpAny_bind ?_)));unfold nsSet;refine wpAny_bind (wpAny_bind (wpAny_askSetting (wpAny_pure (wpAny_bind (wpAny_mkText (wpAny_bind (wpAny_loadPart D ?_)))))));dsimp only;have c0 : (!(List.toArray es).any (·.key.isStr name) && (List.toArray es).any (·.refKey)) = false := by
    have := e3.noRef;rw [List.any_toArray, List.any_toArray, this, Bool.and_false]
  rw [aRefKeyMayBeTheName_at, c0];refine wpAny_updatePart D ?_;have sp := e3.put (name := name) (t := s.toks + 1) hu;have D' : (s.heap.update d (Obj.putName name (PyData.keyHash G.w.params name) (.str name (s.toks + 1)) u)).get? d = _ := Heap.get?_update_self _ D (by rw [key]; rfl);rw [key] at D';refine wpAny_bind (wpAny_lookBehind D' (by exact pastItsLine_dict (by rw [List.size_toArray, sp.length, sizeLine_eq]; have := @aput_length fs name lv; omega)) ?_);refine wpAny_pure (h _ (X.upd (tk := s.toks + 1 + 1) hd (Heap.SameBut.update ..) D' ⟨rfl, rfl, rfl, ?_, _, _, rfl, sp⟩));have := @aput_length fs name lv
  omega
end
inductive LAt (G:Gl) (name:Str) (H:Hp) (lv:LV) (K:LV → Prop) : Prop
  | mk (c x d:Addr) (fs:List (Str × LV)) (r:LV) (e:lv = .inst c x d) (h1:H d = some (.ns fs)) (h2:ObjCls G.K c = true) (h3:NoAttr G.K c name = true) (h4:fs.lookup name = some r) (q:K r)
section
variable {G:Gl} {k:Nat} {fl:Bool} {sc:Scope} {m:Loc} {H:Hp} {Q:Qv} {X:Xc}
theorem EV_Attr {e:Expr} {name:Str} {pos:Pos} (h:EV G k fl sc e m H (fun lv H1 => LAt G name H1 lv fun r => Q r H1) X)
    (he:∀ env, eval (.Attribute e name pos) env = (do
      let o ← eval e env
      standAt pos.atName
      let r ← holding [o] (getAttr o name true)
      letTemporaryGo e o r
      pure r)) : EV G k fl sc (.Attribute e name pos) m H Q X := fun env A C Z s hs I =>
  Attribute_any_ (wpAny_mono (h env A C Z s hs I) (fun v s1 h1 => by
    obtain ⟨C1, lv, H1, c1, I1, v1, c, x, d, fs, r, rfl, h1, h2, h3, h4, q1⟩ := h1
    exact GA_inst I1 v1 h1 h2 h3 h4 fun u tk hu I2 => ⟨C1, r, H1, c1, I2, hu, q1⟩) fun ww ww x => x) (he env)
theorem SA_of {c x d:Addr} {fs:List (Str × LV)} {name:Str} {lv:LV} {N:Hp → Prop} (hd:H d = some (.ns fs)) (hc:ObjCls G.K c = true) (hn:NoAttr G.K c name = true) (hz:fs.length < 900) (h:N (hset H d (.ns (aput fs name lv)))) : SA G name (.inst c x d) lv H N X :=
  fun k fl env A C Z m s va vc I ha hc' => SA_inst I ha hd hc hn hc' hz fun s' I' => ⟨C, _, Cle.refl C, I', h⟩
end
end
section
noncomputable abbrev tcall (c:Addr) (vals:List Value) : Code := .builtin "type.__call__" ⟨.ref c :: vals, []⟩
theorem tcall_frames (A:Around) (c:Addr) (vals:List Value) : (A.under (tcall c vals)).frames = A.frames := rfl
section
variable {G:Gl} {k k':Nat} {fl:Bool} {env:Env} {A A':Around} {C C':Cm} {Z:Zs} {m m':Loc} {H H':Hp} {s s':Shared}
theorem Inv.in1 (X:Inv G (k + 1) fl env A C Z m H s) (c:Addr) (vals:List Value) : Inv G k fl env (A.under (tcall c vals)) C Z m H s :=
  ⟨X.kind, X.glob, X.blt, ⟨Nat.lt_of_le_of_lt (Nat.le_of_eq (Nat.add_right_comm ..)) (Nat.lt_of_succ_lt X.room.1), Nat.lt_of_le_of_lt (Nat.le_trans (Nat.le_of_eq (Nat.add_right_comm ..)) (Nat.add_le_add_left (show 20 * k + 1 ≤ 20 * k + 20 from Nat.add_le_add_left (by decide) _) _)) X.room.2⟩, (tcall_frames A c vals).trans X.frames, X.frame, X.hd, fun q => X.hno q, X.st, X.fr⟩
theorem Inv.out1 (X:Inv G (k + 1) fl env A C Z m H s) {c:Addr} {vals:List Value} (Y:Inv G k fl env (A.under (tcall c vals)) C' Z m' H' s') : Inv G (k + 1) fl env A C' Z m' H' s' := X.of Y.hd Y.st Y.fr
theorem ExI.out1 (X:Inv G (k + 1) fl env A C Z m H s) {c:Addr} {vals:List Value} {cls:Xk} {e:Value} (Y:ExI G k fl env (A.under (tcall c vals)) C' Z m' H' cls e s') : ExI G (k + 1) fl env A C' Z m' H' cls e s' := by
  cases Y with
  | new ea r h a b => exact .new ea r h (X.out1 a) b
  | old ea r a f t h => exact .old ea r (X.out1 a) f t h
end
section
variable {G:Gl} {k:Nat} {fl:Bool} {sc:Scope} {m:Loc} {H:Hp} {Q:Qv} {X:Xc}
theorem CODE_cls {c fI:Addr} {as:List LV} (hm:makesIn G.K c = true) (hi:findIn G.K (.ref c) "__init__" = some (some (.ref fI))) (hf:typeIn G.K (.ref fI) = some (.type "function"))
    (h:∀ x d, H d = none → CODE G k (.ref fI) (.inst c x d :: as) (hset H d (.ns [])) (fun lv H' => lv = .none ∧ Q (.inst c x d) H') X) : CODE G (k + 1) (.ref c) as H Q X := fun fl env A C Z m s vals I hv => by
  obtain ⟨hh, g, dd, t, os⟩ := s;have I1 : Inv G k fl env (A.under (tcall c vals)) C Z m H ⟨hh, g, dd, t, os⟩ := I.in1 c vals;refine make_core (makes_of I.kin hm) (looks_findIn I.kin hi) (fun self => bind_fn I.kin self hf) (.inl rfl) ?_;have n0 : hh.get? hh.objs.size = none := Heap.get?_none_of_le (Nat.le_refl _);obtain ⟨f1, J1⟩ := I1.allocH (tk := t) (h' := hh.push emptyDict) n0 (fun b o e => Heap.get?_push_of_some _ e) (Heap.get?_push_size _ rfl) (o := .ns []) ⟨rfl, rfl, rfl, by simp, [], 0, rfl, rfl⟩;have n1 : (hh.push emptyDict).get? (hh.objs.size + 1) = none := Heap.get?_none_of_le (by rw [Heap.size_push]; exact Nat.le_refl _)
  obtain ⟨le, J2⟩ := J1.allocC (tk := t) (h' := (hh.push emptyDict).push (instObj c hh.objs.size)) (a := hh.objs.size + 1) (ob := instObj c hh.objs.size) n1 (fun b o e => Heap.get?_push_of_some _ e) (by
    have := Heap.get?_push_size (hh.push emptyDict) (o := instObj c hh.objs.size) rfl; rwa [Heap.size_push] at this)
  have hself : VR (cset C (hh.objs.size + 1) (instObj c hh.objs.size)) (.inst c (hh.objs.size + 1) hh.objs.size) (.ref (hh.objs.size + 1)) := ⟨rfl, cset_same _ _ _⟩;refine codeAny_mono (h (hh.objs.size + 1) hh.objs.size f1 fl env (A.under (tcall c vals)) _ Z m _ (.ref (hh.objs.size + 1) :: vals) J2 ⟨_, _, rfl, hself, hv.mono le⟩) fun r s' z => ?_;rcases r with e | (v | _ | _ | _)
  · obtain ⟨C2, cls, H2, c2, x2, q2⟩ := z;exact ⟨C2, cls, H2, le.trans c2, ExI.out1 I x2, q2⟩
  all_goals first | exact z.elim | skip
  obtain ⟨C2, lv, H2, c2, I2, v2, rfl, q2⟩ := z;cases v2;exact ⟨rfl, C2, _, H2, le.trans c2, I.out1 I2, hself.mono c2, q2⟩
theorem CODE_cls0 {c:Addr} (hm:makesIn G.K c = true) (hi:findIn G.K (.ref c) "__init__" = some (some (.builtin "object.__init__")))
    (h:∀ x d, H d = none → Q (.inst c x d) (hset H d (.ns []))) : CODE G (k + 1) (.ref c) [] H Q X := fun fl env A C Z m s vals I hv => by
  cases hv;obtain ⟨hh, g, dd, t, os⟩ := s;refine make_core (makes_of I.kin hm) (looks_findIn I.kin hi) (fun self => Looks.of_pure (oi_bind self)) (.inr ⟨rfl, rfl⟩) ?_;have n0 : hh.get? hh.objs.size = none := Heap.get?_none_of_le (Nat.le_refl _);obtain ⟨f1, J1⟩ := I.allocH (tk := t) (h' := hh.push emptyDict) n0 (fun b o e => Heap.get?_push_of_some _ e) (Heap.get?_push_size _ rfl) (o := .ns []) ⟨rfl, rfl, rfl, by simp, [], 0, rfl, rfl⟩;have n1 : (hh.push emptyDict).get? (hh.objs.size + 1) = none := Heap.get?_none_of_le (by rw [Heap.size_push]; exact Nat.le_refl _);have g1 : ((hh.push emptyDict).push (instObj c hh.objs.size)).get? (hh.objs.size + 1) = some (instObj c hh.objs.size) := by
    have := Heap.get?_push_size (hh.push emptyDict) (o := instObj c hh.objs.size) rfl; rwa [Heap.size_push] at this
  obtain ⟨le, J2⟩ := J1.allocC (tk := t) (h' := (hh.push emptyDict).push (instObj c hh.objs.size)) (a := hh.objs.size + 1) (ob := instObj c hh.objs.size) n1 (fun b o e => Heap.get?_push_of_some _ e) g1;have Y := makes_of (M := G.M) I.kin hm;have t1 : Looks G.M ((hh.push emptyDict).push (instObj c hh.objs.size)) (typeOf (.ref (hh.objs.size + 1))) (.ref c) := (Looks.ld g1).andThen .now;have t2 : Looks G.M ((hh.push emptyDict).push (instObj c hh.objs.size)) (isInstance (.ref (hh.objs.size + 1)) (.type "object")) true := t1.andThen (Y.top.keeps fun b o e => Heap.get?_push_of_some _ (Heap.get?_push_of_some _ e));refine codeAny_call_builtin oi_plain entry_oi (@check_slot G.M _ _ _ "object.__init__" "object" "__init__" (.ref (hh.objs.size + 1)) [] [] _ oi_kind oi_split t2 (oi_args (.ref (hh.objs.size + 1))) ?_);rw [oi_run];exact wpAny_pure (And.intro rfl ⟨_, .inst c (hh.objs.size + 1) hh.objs.size, _, le, J2, ⟨rfl, cset_same _ _ _⟩, h _ _ f1⟩)
end
inductive LOm (G:Gl) (name:Str) (H:Hp) (lv:LV) (K:Addr → Prop) : Prop
  | mk (c x d:Addr) (fs:List (Str × LV)) (f:Addr) (e:lv = .inst c x d) (h1:H d = some (.ns fs)) (h2:ObjCls G.K c = true) (h3:findIn G.K (.ref c) name = some (some (.ref f))) (h4:typeIn G.K (.ref f) = some (.type "function")) (h5:keepIn G.K (.ref f) = true) (h6:fs.lookup name = none) (q:K f)
theorem LOm.up {G:Gl} {name:Str} {H:Hp} {lv:LV} {K K':Addr → Prop} (h:LOm G name H lv K) (hK:∀ f, K f → K' f) : LOm G name H lv K' := by
  obtain ⟨c, x, d, fs, f, a1, a2, a3, a4, a5, a6, a7, q⟩ := h;exact ⟨c, x, d, fs, f, a1, a2, a3, a4, a5, a6, a7, hK f q⟩
section
variable {G:Gl} {k:Nat} {fl:Bool} {sc:Scope} {m:Loc} {H:Hp} {Q:Qv} {X:Xc}
theorem EV_OMeth {o:Expr} {name:Str} {apos pos:Pos} {es:List Expr}
    (h:EV G k fl sc o m H (fun lv H1 => LOm G name H1 lv fun f => AR G k fl sc es m H1 (fun lvs H2 => CALL G k (.ref f) (lv :: lvs) H2 Q X) X) X)
    {pl:Env → Sem Bool} (he:∀ env, eval (.Call (.Attribute o name apos) es [] pos) env = (do
      let ov ← eval o env
      standAt apos.atName
      let (f, first) ← holding [ov] (getMethod ov name (pl env))
      callWith pos f first (backTo pos (starEach es env)) [])) : EV G k fl sc (.Call (.Attribute o name apos) es [] pos) m H Q X := fun env A C Z s hs I =>
  MethodCall_ (wpAny_mono (h env A C Z s hs I) (fun v s1 h1 => by
    obtain ⟨C1, lv, H1, c1, I1, v1, c, x, d, fs, f, rfl, h1, h2, h3, h4, h5, h6, q1⟩ := h1;obtain ⟨rfl, od, esd, n, e1, e2, e3, e4, I', _⟩ := I1.inst v1 h1;have l := lookIn_of (name := name) e2 e3;rw [h6] at l;simp only [ObjCls, Bool.and_eq_true, beq_iff_eq] at h2;refine method_fn I1.kin I' h2.1.1.1.1 h2.1.1.1.2 h3 h4 (by unfold shadowIn; dsimp only; rw [l]; rfl) ?_
    exact wpAny_mono (callK h5 hs I1 (first := [.ref x]) (lfirst := [.inst c x d]) (VRs.single v1) q1) (fun ww ww x => Post.up c1 x) fun ww ww x => XPost.up c1 x) fun ww ww x => x) (he env)
end
end
section
noncomputable def lk (m:Loc) (x:Str) : Option LV := (m.lookup x).join
noncomputable def comp0 : List (Str × NameKind) → Loc → Loc
  | [], _ => []
  | (n, .local) :: r, m => (n, none) :: comp0 r m
  | (n, .free) :: r, m => (n, lk m n) :: comp0 r m
  | (_, .cell) :: r, m => comp0 r m
  | (_, .globalImplicit) :: r, m => comp0 r m
  | (_, .globalExplicit) :: r, m => comp0 r m
inductive C0 (names:List (Str × NameKind)) (m:Loc) (x:Str) (o:Option LV) : Prop
  | loc (h:(x, NameKind.local) ∈ names) (e:o = none)
  | free (h:(x, NameKind.free) ∈ names) (e:o = lk m x)
theorem comp0_mem {names:List (Str × NameKind)} {m:Loc} {x:Str} {o:Option LV} : (x, o) ∈ comp0 names m → C0 names m x o := by
  induction names with
  | nil => exact fun h => nomatch h
  | cons f r ih =>
    intro h;have tail : (x, o) ∈ comp0 r m → C0 (f :: r) m x o := fun h2 => by
      cases ih h2 with
      | loc a b => exact .loc (List.mem_cons_of_mem _ a) b
      | free a b => exact .free (List.mem_cons_of_mem _ a) b
    obtain ⟨n, kd⟩ := f;cases kd with
    | «local» =>
      rcases List.mem_cons.mp h with e | h2
      · cases e; exact .loc List.mem_cons_self rfl
      · exact tail h2
    | free =>
      rcases List.mem_cons.mp h with e | h2
      · cases e; exact .free List.mem_cons_self rfl
      · exact tail h2
    | cell => exact tail h
    | globalImplicit => exact tail h
    | globalExplicit => exact tail h
theorem comp0_keys {names:List (Str × NameKind)} {m:Loc} : ((comp0 names m).map (·.1)).Sublist (names.map (·.1)) := by
  induction names with
  | nil => exact List.Sublist.refl _
  | cons f r ih =>
    obtain ⟨n, kd⟩ := f;cases kd with
    | «local» => exact List.Sublist.cons_cons _ ih
    | free => exact List.Sublist.cons_cons _ ih
    | cell => exact List.Sublist.cons _ ih
    | globalImplicit => exact List.Sublist.cons _ ih
    | globalExplicit => exact List.Sublist.cons _ ih
theorem closure_aux {env:Env} (names:List (Str × NameKind)) : ∀ (acc:List (Str × Addr)), (∀ n, (n, NameKind.free) ∈ names → ∃ c, env.cells.lookup n = some c) →
    ∃ cl, (forIn names acc fun x (cs:List (Str × Addr)) => (if (x.2 == .free) = true then do let a ← cellOf env x.1; pure (ForInStep.yield ((x.1, a) :: cs)) else pure (ForInStep.yield cs) : Sem _)) = pure cl ∧
      (∀ n c, cl.lookup n = some c → env.cells.lookup n = some c ∨ acc.lookup n = some c) ∧ ∀ n, ((n, NameKind.free) ∈ names ∨ ∃ c, acc.lookup n = some c) → ∃ c, cl.lookup n = some c := by
  induction names with
  | nil => exact fun acc ww => ⟨acc, rfl, fun n c h => .inr h, fun n h => h.elim (fun q => nomatch q) id⟩
  | cons f r ih =>
    intro acc h;obtain ⟨x, kd⟩ := f;have h' := fun n hn => h n (List.mem_cons_of_mem _ hn);rw [List.forIn_cons]
    by_cases q : (kd == NameKind.free) = true
    · obtain ⟨c, hc⟩ := h x (beq_iff_eq.mp q ▸ List.mem_cons_self);obtain ⟨cl, h1, h2, h3⟩ := ih ((x, c) :: acc) h';have hcell : cellOf env x = pure c := by unfold cellOf; rw [hc]
      refine ⟨cl, ?_, fun n c' e => (h2 n c' e).elim .inl fun e => ?_, fun n e => h3 n ?_⟩
      · rw [if_pos q, hcell]; exact h1
      · by_cases z : n = x
        · subst z; exact .inl (hc.trans (lu_same.symm.trans e))
        · exact .inr ((lu_ne z).symm.trans e)
      · by_cases z : n = x
        · exact .inr ⟨c, z ▸ lu_same⟩
        · exact e.elim (fun e => .inl ((List.mem_cons.mp e).resolve_left fun w => z (congrArg Prod.fst w))) fun e => .inr (e.imp fun c' e => (lu_ne z).trans e)
    · obtain ⟨cl, h1, h2, h3⟩ := ih acc h';refine ⟨cl, ?_, h2, fun n e => h3 n (e.imp_left fun e => (List.mem_cons.mp e).resolve_left fun w => q (beq_iff_eq.mpr (congrArg Prod.snd w).symm))⟩;rw [if_neg q]; exact h1
theorem closure_of {env:Env} {scope:Scope} (h:∀ n, (n, NameKind.free) ∈ scope.names → ∃ c, env.cells.lookup n = some c) :
    ∃ cl, closureFor scope env = pure cl ∧ (∀ n c, cl.lookup n = some c → env.cells.lookup n = some c) ∧ ∀ n, (n, NameKind.free) ∈ scope.names → ∃ c, cl.lookup n = some c := by
  obtain ⟨cl, h1, h2, h3⟩ := closure_aux (env := env) scope.names [] h;refine ⟨cl, ?_, fun n c e => (h2 n c e).resolve_right (fun q => nomatch q), fun n e => h3 n (.inl e)⟩;unfold closureFor;exact congrArg (fun t:Sem (List (Str × Addr)) => t >>= fun r => pure r) h1
theorem relabel_lookup {env:Env} {scope:Scope} {x:Str} {kd:NameKind} (nd:(scope.names.map (·.1)).Nodup) (h:(x, kd) ∈ scope.names) :
    (relabel scope env).names.lookup x = some (if (kd == .free && env.scope.kind == .function && env.kindOf x == some .cell) then .cell else kd) := by
  obtain ⟨i, hi⟩ := List.getElem?_of_mem h;refine lookup_nodup (i := i) ?_ ?_
  · refine (?_ : (relabel scope env).names.map (·.1) = scope.names.map (·.1)) ▸ nd;unfold relabel;rw [List.map_map];exact List.map_congr_left fun ⟨n, k⟩ _ => by dsimp only [Function.comp]; split <;> rfl
  · show (List.map _ scope.names)[i]? = _;rw [List.getElem?_map, hi];dsimp only [Option.map]
    split <;> rfl
section
variable {G:Gl} {k:Nat} {fl:Bool} {env:Env} {A:Around} {C C':Cm} {Z:Zs} {m m':Loc} {H H':Hp} {s s':Shared} {h':Heap} {tk:Nat} {L:Addr}
theorem mem_lk (nd:(m.map (·.1)).Nodup) {x:Str} {o:Option LV} (h:(x, o) ∈ m) : lk m x = o := by
  obtain ⟨i, hi⟩ := List.getElem?_of_mem h;unfold lk;rw [lookup_nodup nd hi]; rfl
theorem Inv.comp (X:Inv G k fl env A C Z m H s) {o:Obj} (ho:s.heap.get? env.locals = some o) {scope:Scope} (hkind:scope.kind = .function) (hnd:(scope.names.map (·.1)).Nodup) {cl:List (Str × Addr)}
    (hcl1:∀ n c, cl.lookup n = some c → env.cells.lookup n = some c) (hcl2:∀ n, (n, NameKind.free) ∈ scope.names → ∃ c, cl.lookup n = some c)
    (hfm:∀ n, (n, NameKind.free) ∈ scope.names → (∃ o, (n, o) ∈ m) ∧ env.kindOf n ≠ some .local) (hL:s.heap.get? L = none) (kp:∀ b o, s.heap.get? b = some o → h'.get? b = some o) (hns:h'.Ns L fun ww => none) :
    Inv G k false (compEnvC scope cl L env) A (aside fl env C s.heap) (asideZ fl env o.data Z) (comp0 scope.names m) H { s with heap := h', toks := tk } := by
  have st0 := St.aside X ho;have st1 := st0.keeps (tk := tk) kp;have le0 := aside_le X;have fr := X.fresh hL;have kinds : ∀ x kd, (x, kd) ∈ scope.names → (compEnvC scope cl L env).kindOf x = some (if (kd == .free && env.scope.kind == .function && env.kindOf x == some .cell) then .cell else kd) := fun x kd h => relabel_lookup hnd h;have Lz : ∀ z, z ∈ asideZ fl env o.data Z → z.1.frame ≠ some L := (st0.fresh hL).2.2;refine ⟨hkind, X.glob, X.blt, X.room, ?_, (fun q => nomatch q), X.hd.mono (fun a o ww e ww => le0 a o e), X.hno, st1, ⟨⟨_, hns, fun x lv hm hk => ?_⟩, fun x o' hm hk => ?_, fun x o' hm => ?_, ?_, fun x y c h1 h2 => ?_, ⟨?_, fr.2.1, Lz⟩, fun x c h1 => ?_⟩⟩
  · rw [X.frames]; cases fl <;> rfl
  · rcases comp0_mem hm with ⟨_, q⟩ | ⟨q, _⟩
    · cases q
    · rw [kinds x _ q] at hk; split at hk <;> cases hk
  · rcases comp0_mem hm with ⟨q, _⟩ | ⟨q, rfl⟩
    · rw [kinds x _ q] at hk; exact absurd rfl hk
    · obtain ⟨c, hc⟩ := hcl2 x q;obtain ⟨⟨o2, hm2⟩, hk2⟩ := hfm x q;obtain ⟨c', v, c1, c2, c3⟩ := X.fr.cell x o2 hm2 hk2;rw [hcl1 x c hc] at c1; cases c1;obtain ⟨ob, b1, b2⟩ := c2;refine ⟨c, v, hc, ⟨ob, kp _ _ b1, b2⟩, fun lv e => ?_⟩;rw [mem_lk X.fr.nd hm2] at e;obtain ⟨u, u1, u2⟩ := c3 lv e;exact ⟨u, u1, u2.mono le0⟩
  · rcases comp0_mem hm with ⟨q, _⟩ | ⟨q, _⟩
    · left; rw [kinds x _ q]; rfl
    · right; rw [kinds x _ q]; split
      · exact .inl rfl
      · exact .inr rfl
  · exact hnd.sublist comp0_keys
  · exact X.fr.apart x y c (hcl1 x c h1) (hcl1 y c h2)
  · exact (st0.fresh hL).1
  · obtain ⟨x1, x2, x3, x4, ⟨v, ob, b1, b2⟩⟩ := X.fr.ownC x c (hcl1 x c h1);refine ⟨(fun q => nomatch q), x2, (show c ≠ L from fun q => ns hL (q ▸ b1)), fun z hz q => ?_, v, ob, kp _ _ b1, b2⟩;cases fl with
    | false => exact x4 z hz q
    | true =>
      rcases List.mem_cons.mp hz with rfl | hz
      · have q : env.frame = some c := q;exact x3 (Option.some.inj (q.symm.trans (X.frame rfl)))
      · exact x4 z hz q
theorem Inv.uncomp (X:Inv G k fl env A C Z m H s) {o:Obj} (ho:s.heap.get? env.locals = some o) {env':Env} (Y:Inv G k false env' A C' (asideZ fl env o.data Z) m' H' s') (hC:Cle (aside fl env C s.heap) C') (hs:Heap.SameBut env'.locals s'.heap h') :
    Cle C (unaside C env C') ∧ Inv G k fl env A (unaside C env C') Z m H' { s' with heap := h' } ∧ ∀ {lv v}, VR C' lv v → VR (unaside C env C') lv v := by
  refine X.back ho hC ?_;obtain ⟨mm, ⟨ol, es, ep, e1, e2, _⟩, _⟩ := Y.fr.ns;refine Y.st.step (a := env'.locals) (tk := s'.toks) (fun b o q e => (hs.2 b q).trans e) (tk_of (fun b o q e => (hs.2 b q).trans e) (nt_of e1 (dict_ns e2))) Y.fr.ownL.2.2 (fun ww ww ww e => e) (fun o' e => ns Y.fr.ownL.2.1 e) (Cle.refl _) (fun ww ww ww e => e) fun o' e => ns Y.fr.ownL.1 e
end
end
section
noncomputable def relS (scope sc:Scope) : Scope := relabel scope (newEnv sc 0 0 [] (Str.ofString "") none .none none 0)
noncomputable def noX : Xc := fun ww ww => False
theorem noXE {G:Gl} {k:Nat} {fl:Bool} {env:Env} {A:Around} {C:Cm} {Z:Zs} {m:Loc} {e:Value} {s:Shared} (h:XPost G k fl env A C Z m noX e s) : False := by
  obtain ⟨_, _, _, _, _, q⟩ := h; exact q
theorem noXsE {G:Gl} {k:Nat} {fl:Bool} {env:Env} {A:Around} {C:Cm} {Z:Zs} {e:Value} {s:Shared} (h:XsPost G k fl env A C Z (fun ww ww ww => False) e s) : False := by
  obtain ⟨_, _, _, _, _, _, q⟩ := h; exact q
section
variable (G:Gl) (k:Nat) (sc:Scope)
noncomputable def TSs (ifs:List Expr) (m:Loc) (H:Hp) (Q:Bool → Hp → Prop) : Prop :=
  ∀ env A C Z s, env.scope = sc → Inv G k false env A C Z m H s → wpAny G.M A (forIn ifs true fun c r => if r = true then do let ok ← isTrue c env (eval c env); pure (ForInStep.yield ok) else pure (ForInStep.yield r)) (BPost G k false env A C Z m Q) (fun ww ww => False) s
noncomputable def INN (act:Sem Fin → Env → Value → Sem Fin) (D:Addr) (m:Loc) (H:Hp) (N:Loc → Hp → Prop) : Prop :=
  ∀ env A C Z s, env.scope = sc → Inv G k false env A C Z m H s → ∀ {kk:Sem Fin} {Q:Fin → Shared → Prop} {E:Value → Shared → Prop}, (∀ s', NPost G k false env A C Z N s' → wpAny G.M A kk Q E s') → wpAny G.M A (act kk env (.ref D)) Q E s
noncomputable def CS (S:Stp G) (e:Expr) (d:Nat) (D:Addr) (x:S.κ) (m:Loc) (H:Hp) (N:Loc → Hp → Prop) : Prop :=
  ∀ env A C Z s it o, env.scope = sc → Inv G k false env A C Z m H s → C it = none → H it = none → s.heap.get? it = some o → S.isIt C x o →
    codeAny G.M A (.compStart e d (.ref it) (.ref D) env) (fun r s' => (∃ f, r = .ok f) ∧ NPost G k false env A C Z N s') s
end
section
variable {G:Gl} {k:Nat} {sc:Scope} {m:Loc} {H:Hp}
theorem TSs_nil {Q:Bool → Hp → Prop} (h:Q true H) : TSs G k sc [] m H Q := fun env A C Z s hs I => wpAny_pure ⟨C, H, Cle.refl C, I, h⟩
theorem TSs_one {c:Expr} {Q:Bool → Hp → Prop} (h:TS G k false sc c m H Q noX) : TSs G k sc [c] m H Q := fun env A C Z s hs I => by
  simp only [List.forIn_cons, List.forIn_nil, if_true];exact wpAny_bind (wpAny_bind (wpAny_mono (h env A C Z s hs I) (fun b s' hb => wpAny_pure (wpAny_pure hb)) fun ww ww x => noXE x))
theorem list_push {A:Around} {C:Cm} {Z:Zs} {fl:Bool} {env:Env} {s:Shared} (I:Inv G k fl env A C Z m H s) {D:Addr} {vs:List LV} {lv:LV} {v:Value} (hD:H D = some (.lst vs)) (hz:vs.length < 4096) (hv:VR C lv v) {E:Value → Shared → Prop} {Q:Value → Shared → Prop}
    (hQ:∀ s', Inv G k fl env A C Z m (hset H D (.lst (vs ++ [lv]))) s' → Q .none s') : wpAny G.M A (call (.builtin "list.append") [.ref D, v]) Q E s := by
  obtain ⟨us, n, e1, e5, hlen, z⟩ := I.lst hD;refine wpAny_call_entry slot_list_append e1.isList.typeIs entry_list_append ?_ (args_list_append _ _);show wpAny _ _ (updateSeq D (·.push v) >>= fun ww => ret .none) _ _ s;refine wpAny_bind ?_;refine wpAny_updateSeq e1 rfl (wpAny_pure ⟨.none, rfl, hQ _ ?_⟩) (Nat.le_trans (Nat.le_of_lt (show us.length < 4096 from hlen ▸ hz)) (sizeLine_eq ▸ (by decide:4096 ≤ 16777216)));obtain ⟨n', hd'⟩ := Obj.data_mapSeq (o := ⟨.type "list", none, .seq (List.toArray us) n, #[]⟩) rfl (·.push v);exact I.upd (tk := s.toks) hD (Heap.SameBut.update ..) (Heap.get?_update_self _ e1 rfl) ⟨rfl, rfl, rfl, List.length_append.symm ▸ hz, us ++ [v], n', List.push_toArray us v ▸ hd', e5.append (VRs.single hv)⟩
noncomputable def turnOf (elt:Expr) (gens:List Comprehension) (scope:Scope) (pos:Pos) (d:Nat) (kk:Sem Fin) : Env → Value → Sem Fin := fun env acc =>
  match gens[d + 1]? with
  | some g' => do
    let x ← eval g'.iter env
    standAt g'.iter.pos
    let x ← if g'.is_async != 0 then foldedIterable g'.iter x else foldedSetIterable g'.iter env x
    let _ ← runOwn (.compStart (.ListComp elt gens scope pos) (d + 1) (← holding [x] (if g'.is_async != 0 then asyncIter x else pyIter x)) acc env) env
    kk
  | none => (do let _ ← call (.builtin "list.append") [acc, ← eval elt env] : Sem Unit) >>= fun ww => kk
theorem compTurn_eq {elt target iter:Expr} {ifs:List Expr} {gens:List Comprehension} {scope:Scope} {pos:Pos} {d:Nat} (hg:gens[d]? = some ⟨target, iter, ifs, 0⟩) (it acc:Value) (env:Env) :
    compTurn (.ListComp elt gens scope pos) d it acc env = (do
      standAt iter.pos
      match ← pyNext it with
      | none => pure (.done .next)
      | some v =>
        letOwnedTupleGo target it v
        assign target env v
        let mut ok := true
        for c in ifs do
          if ok then ok ← isTrue c env (eval c env)
        if ok then turnOf elt gens scope pos d (again (.compLoop (.ListComp elt gens scope pos) d it acc env)) env acc
        else again (.compLoop (.ListComp elt gens scope pos) d it acc env)) := by
  unfold compTurn;dsimp only;rw [hg];unfold turnOf;cases gens[d + 1]? <;> rfl
theorem INN_append {elt:Expr} {gens:List Comprehension} {scope:Scope} {pos:Pos} {d:Nat} (hn:gens[d + 1]? = none) {D:Addr} {N:Loc → Hp → Prop} (h:EV G k false sc elt m H (fun lv H1 => ∃ vs, H1 D = some (.lst vs) ∧ vs.length < 4096 ∧ N m (hset H1 D (.lst (vs ++ [lv])))) noX) :
    INN G k sc (turnOf elt gens scope pos d) D m H N := fun env A C Z s hs I kk Q E hk => by
  unfold turnOf; rw [hn];refine wpAny_bind (wpAny_bind (wpAny_mono (h env A C Z s hs I) (fun v s1 h1 => ?_) fun ww ww x => (noXE x).elim));obtain ⟨C1, lv, H1, c1, I1, v1, vs, q1, q2, q3⟩ := h1;exact wpAny_bind (list_push I1 q1 q2 v1 fun s' I' => wpAny_pure (hk s' ⟨C1, m, _, c1, I', q3⟩))
theorem INN_comp {S:Stp G} {elt target iter:Expr} {ifs:List Expr} {gens:List Comprehension} {scope:Scope} {pos:Pos} {d:Nat} (hn:gens[d + 1]? = some ⟨target, iter, ifs, 0⟩) {D:Addr} {N:Loc → Hp → Prop} (h:IT G k false sc S iter m H (fun x H1 => CS G k sc S (.ListComp elt gens scope pos) (d + 1) D x m H1 N) noX)
    (hf:∀ env x, foldedSetIterable iter env x = pure x) : INN G k sc (turnOf elt gens scope pos d) D m H N := fun env A C Z s hs I kk Q E hk => by
  unfold turnOf; rw [hn];refine wpAny_bind (wpAny_mono (h env A C Z s hs I) (fun v s1 h1 => ?_) fun ww ww x => (noXE x).elim);refine wpAny_bind (wpAny_standAt (wpAny_bind (wpAny_of_eq (hf env v) ?_)));refine wpAny_bind (wpAny_holding (wpAny_mono h1 (fun r s2 h2 => ?_) fun ww ww x => (noXE x).elim));obtain ⟨C2, H2, it, x, o, rfl, c2, I2, n2, n3, g2, i2, q2⟩ := h2;refine wpAny_bind (wpAny_runOwn (codeAny_mono (q2 env A C2 Z s2 it o hs I2 n2 n3 g2 i2) fun r s3 h3 => ?_));obtain ⟨⟨f, rfl⟩, C3, m3, H3, c3, I3, q3⟩ := h3;exact hk s3 ⟨C3, m3, H3, c2.trans c3, I3, q3⟩
theorem CS_loop {S:Stp G} {elt target iter:Expr} {ifs:List Expr} {gens:List Comprehension} {scope:Scope} {pos:Pos} {d:Nat} (hg:gens[d]? = some ⟨target, iter, ifs, 0⟩) {D:Addr} {N:Loc → Hp → Prop} (hh:G.hn = true) (J:Nat → S.κ → Loc → Hp → Prop) {n:Nat} {x:S.κ} (h0:J n x m H)
    (turn:∀ n x m H, J n x m H → ∃ r, S.nx H x r ∧ (r = none → N m H) ∧ ∀ lv x', r = some (lv, x') → AS G k false sc target lv m H (fun m1 H1 => TSs G k sc ifs m1 H1 (fun ok H2 =>
      (ok = true → INN G k sc (turnOf elt gens scope pos d) D m1 H2 (fun m3 H3 => ∃ n', n' < n ∧ J n' x' m3 H3)) ∧ (ok = false → ∃ n', n' < n ∧ J n' x' m1 H2))) (fun ww ww ww => False)) :
    CS G k sc S (.ListComp elt gens scope pos) d D x m H N := fun env A C Z s it o hs I n1 n2 g1 i1 => by
  have ht := compTurn_eq (elt := elt) (scope := scope) (pos := pos) hg (.ref it) (.ref D) env;have u1 : ∀ A : Around, A.under (.compStart (.ListComp elt gens scope pos) d (.ref it) (.ref D) env) = A := fun A => Around.under_of_weight rfl;have u2 : ∀ A : Around, A.under (.compLoop (.ListComp elt gens scope pos) d (.ref it) (.ref D) env) = A := fun A => Around.under_of_weight rfl;have hq : (Code.compLoop (.ListComp elt gens scope pos) d (.ref it) (.ref D) env).quiet = true := by with_unfolding_all rfl
  have hc : ((clausesOf (.ListComp elt gens scope pos))[d]?) = some ⟨target, iter, ifs, 0⟩ := hg;have d1 : ∀ {Q E s}, wpAny G.M A (compStart (.ListComp elt gens scope pos) d (.ref it) (.ref D) env) Q (fun ww ww => False) s → wpAny G.M A (G.M.den (.compStart (.ListComp elt gens scope pos) d (.ref it) (.ref D) env)) Q E s := fun h => wpAny_onRaise (wpAny_mono h (fun ww ww x => x) fun ww ww x => x.elim);have d2 : ∀ {Q E s}, wpAny G.M A (compTurn (.ListComp elt gens scope pos) d (.ref it) (.ref D) env) Q (fun ww ww => False) s → wpAny G.M A (G.M.den (.compLoop (.ListComp elt gens scope pos) d (.ref it) (.ref D) env)) Q E s := fun h => wpAny_onRaise (wpAny_mono h (fun ww ww x => x) fun ww ww x => x.elim);generalize Expr.ListComp elt gens scope pos = e at *
  rw [ht] at d2;have loop : ∀ s, Inv G k false env A C Z m H s → s.heap.get? it = some o → codeAny G.M A (.compLoop e d (.ref it) (.ref D) env) (fun r s' => (∃ f, r = .ok f) ∧ NPost G k false env A C Z N s') s := by
    intro s I' g1;refine codeAny_loop hq (fun n s => LpI G k false env A Z S it C (J n) s) (fun n s h => ?_) n ⟨C, m, H, x, Cle.refl _, I', ⟨o, n1, n2, g1, i1⟩, h0⟩;obtain ⟨C1, m1, H1, x, c1, I1, a1, j1⟩ := h;obtain ⟨r, hr, q1, q2⟩ := turn n x m1 H1 j1;rw [u2]
    refine d2 (wpAny_bind (wpAny_standAt (wpAny_bind (step_ok hh I n1 c1 I1 a1 hr (fun e s3 I3 => wpAny_pure ⟨⟨_, rfl⟩, C1, m1, H1, c1, I3, q1 e⟩) fun lv x' e v s3 go => wpAny_bind (go _ _ fun C5 s4 c5 I5 v5 back =>
      wpAny_bind (wpAny_mono (q2 lv x' e env A C5 Z s4 v hs I5 v5) (fun ww s6 h6 => ?_) fun ww ww x => (noXsE x).elim))))))
    obtain ⟨C6, m6, H6, c6, I6, q6⟩ := h6;refine wpAny_bind (wpAny_mono (q6 env A C6 Z s6 hs I6) (fun ok s7 h7 => ?_) fun ww ww x => x.elim);obtain ⟨C7, H7, c7, I7, q7⟩ := h7;cases ok with
    | false => exact wpAny_pure ⟨rfl, (back C7 m6 H7 s7 (c6.trans c7) I7).lp (q7.2 rfl)⟩
    | true =>
      refine q7.1 rfl env A C7 Z s7 hs I7 fun s8 h8 => ?_;obtain ⟨C8, m8, H8, c8, I8, q8⟩ := h8;exact wpAny_pure ⟨rfl, (back C8 m8 H8 s8 ((c6.trans c7).trans c8) I8).lp q8⟩
  refine codeAny_of_tree ?_;rw [u1];refine d1 ?_;unfold compStart;rw [hc];refine wp_ifn Bool.noConfusion (wpAny_bind (wpAny_askSetting (wpAny_ite ?_)))
  split
  · exact wpAny_bind (wpAny_pure (wpAny_pure (And.intro hq (loop s I g1))))
  · exact wpAny_bind (wpAny_rule (wpAny_bind (wpAny_standAt (wpAny_bind (S.self g1 i1 (wpAny_pure (And.intro hq (loop s I g1))))))))
end
end
section
noncomputable def compOk (scope sc:Scope) (m:Loc) : Bool :=
  scope.kind == .function && (scope.names.map (·.1)).Nodup && scope.names.all (fun x => x.2 != .cell) && scope.names.all (fun x => x.2 != .free || ((m.map (·.1)).contains x.1 && sc.names.lookup x.1 != some .local))
section
variable {G:Gl} {k:Nat} {fl:Bool} {sc:Scope} {m:Loc} {H:Hp} {X:Xc}
structure CompOk (scope sc:Scope) (m:Loc) : Prop where
  k1 : scope.kind = .function
  k2 : (scope.names.map (·.1)).Nodup
  k3 : ∀ x, x ∈ scope.names → ¬ x.2 = .cell
  k4 : ∀ n, (n, NameKind.free) ∈ scope.names → (∃ o, (n, o) ∈ m) ∧ sc.names.lookup n ≠ some .local
theorem compOk_of {scope sc:Scope} {m:Loc} (h:compOk scope sc m = true) : CompOk scope sc m := by
  unfold compOk at h;simp only [Bool.and_eq_true, beq_iff_eq, decide_eq_true_eq, List.all_eq_true, bne_iff_ne, ne_eq, Bool.or_eq_true, List.contains_iff_mem] at h;obtain ⟨⟨⟨k1, k2⟩, k3⟩, k4⟩ := h;refine ⟨k1, k2, k3, fun n hn => ?_⟩;obtain ⟨q1, q2⟩ := (k4 _ hn).resolve_left fun q => q rfl;obtain ⟨⟨n', o⟩, hm, e⟩ := List.mem_map.mp q1;exact ⟨⟨o, (show n' = n from e) ▸ hm⟩, q2⟩
theorem comp_cl {scope:Scope} {env:Env} {A:Around} {C:Cm} {Z:Zs} {s:Shared} (K:CompOk scope env.scope m) (I:Inv G k fl env A C Z m H s) :
    ∃ cl, closureFor scope env = pure cl ∧ (∀ n c, cl.lookup n = some c → env.cells.lookup n = some c) ∧ ∀ n, (n, NameKind.free) ∈ scope.names → ∃ c, cl.lookup n = some c := closure_of fun n hn => by
  obtain ⟨⟨o, hm⟩, q⟩ := K.k4 n hn;obtain ⟨c, v, c1, _⟩ := I.fr.cell n o hm q;exact ⟨c, c1⟩
theorem names_lookup {scope:Scope} (nd:(scope.names.map (·.1)).Nodup) {y:Str × NameKind} {kd:NameKind} (hy:y ∈ scope.names) (hl:y.2 = kd) : scope.names.lookup y.1 = some kd := by
  subst hl;obtain ⟨i, hi⟩ := List.getElem?_of_mem hy;exact lookup_nodup nd hi
theorem comp_make {scope:Scope} {m:Loc} {sc:Scope} (hok:CompOk scope sc m) {env:Env} {A:Around} {C:Cm} {Z:Zs} {s:Shared} (hs:env.scope = sc) (I:Inv G k fl env A C Z m H s) {S:Stp G} {e:Expr} {it:Addr} {ob:Obj} {x:S.κ} {N:Addr → Loc → Hp → Prop} {cl:List (Str × Addr)}
    (hcl1:∀ n c, cl.lookup n = some c → env.cells.lookup n = some c) (hcl2:∀ n, (n, NameKind.free) ∈ scope.names → ∃ c, cl.lookup n = some c) {RR:Value → Addr → Result → Shared → Prop}
    (n1:C it = none) (n2:H it = none) (g1:s.heap.get? it = some ob) (i1:S.isIt C x ob)
    (h:∀ D, H D = none → CS G k (relS scope sc) S e 0 D x (comp0 scope.names m) (hset H D (.lst [])) (N D))
    (hR:∀ D L f (o:Obj) C' m' H' s' env', env'.locals = L → s.heap.get? L = none → s.heap.get? env.locals = some o → Inv G k false env' A C' (asideZ fl env o.data Z) m' H' s' → Cle (aside fl env C s.heap) C' → N D m' H' → RR (.ref D) L (.ok f) s') :
    wpAny G.M A (newList []) (fun acc s₃ => wpAny G.M A (newFunctionEnv scope env.globals cl [] env.qual none .none (some env)) (fun cenv s₄ =>
      codeAny G.M A (.compStart e 0 (.ref it) acc { cenv with scope := relabel scope env }) (RR acc cenv.locals) s₄) (fun ww ww => False) s₃) (fun ww ww => False) s := by
  subst hs;obtain ⟨k1, k2, k3, hfm⟩ := hok;obtain ⟨ol, esl, epl, ho, _⟩ := I.locData;have n0 : s.heap.get? s.heap.objs.size = none := Heap.get?_none_of_le (Nat.le_refl _);refine wpAny_newObj_type (wpAny_newFunctionEnv (fun y hy => k3 y hy) (fun y hy => nomatch hy) (fun h₁ hns₁ hsb₁ => ?_) k1);dsimp only at hns₁ hsb₁ ⊢;generalize hH2 : s.heap.push { cls := .type "list", dict := none, data := .seq ([] : List Value).toArray } = H2 at hns₁ hsb₁ ⊢;have hsz : H2.objs.size = s.heap.objs.size + 1 := by rw [← hH2, Heap.size_push]
  have n9 : s.heap.get? H2.objs.size = none := Heap.get?_none_of_le (by rw [hsz]; exact Nat.le_succ _);have old : ∀ b o, s.heap.get? b = some o → h₁.get? b = some o := fun b o e => hsb₁.extBut b o (by rw [hsz]; exact Nat.ne_of_lt (Nat.lt_succ_of_lt (Heap.lt_size e))) (Heap.get?_push_of_some _ (hH2 ▸ Heap.get?_push_of_some _ e));have hD : h₁.get? s.heap.objs.size = some { cls := .type "list", dict := none, data := .seq ([] : List Value).toArray } :=
    hsb₁.extBut _ _ (by rw [hsz]; exact Nat.ne_of_lt (Nat.lt_succ_self _)) (Heap.get?_push_of_some _ (hH2 ▸ Heap.get?_push_size _ rfl))
  have Ic := I.comp (tk := s.toks) ho k1 k2 hcl1 hcl2 hfm n9 old hns₁
  -- the list, in the comprehension's heap
  have fD := I.fresh n0;have cD : aside fl env C s.heap s.heap.objs.size = none := ((St.aside I ho).fresh n0).1;have zD : ∀ z, z ∈ asideZ fl env ol.data Z → z.1.frame ≠ some s.heap.objs.size := ((St.aside I ho).fresh n0).2.2;have lD : s.heap.objs.size ≠ (compEnvC scope cl H2.objs.size env).locals := by show _ ≠ H2.objs.size; rw [hsz]; exact Nat.ne_of_lt (Nat.lt_succ_self _)
  have Id : Inv G k false (compEnvC scope cl H2.objs.size env) A (aside fl env C s.heap) (asideZ fl env ol.data Z) (comp0 scope.names m) (hset H s.heap.objs.size (.lst [])) { s with heap := h₁, toks := s.toks } :=
    Ic.step (s := { s with heap := h₁, toks := s.toks }) (a := s.heap.objs.size) (h' := h₁) (tk := s.toks) (fun b o ww e => e) (fun o items n e1 e2 e3 => by cases hD.symm.trans e1; exact nomatch e2) cD zD lD (fun y c e q => fD.2.2.2.2 y c (hcl1 y c e) q)
      (fun b o q e => (hset_ne H _ q).symm.trans e) (fun o e => hset_ha (o := .lst []) cD hD ⟨rfl, rfl, rfl, Nat.zero_le _, [], 0, rfl, rfl⟩ e) (Cle.refl _) (fun ww ww ww e => e) (fun o e => ns cD e)
  have itC : aside fl env C s.heap it = none := by
    obtain ⟨vs, hd⟩ := S.fields i1;exact (if_neg fun q => (I.ownNone q.1).2.2.2.elim fun o2 w => w.2.2 vs (Option.some.inj (w.1.symm.trans g1) ▸ hd)).trans n1
  have itD : it ≠ s.heap.objs.size := Nat.ne_of_lt (Heap.lt_size g1);have i2 : S.isIt (aside fl env C s.heap) x ob := S.mono (fun a o e ww => aside_le I a o e) i1;refine codeAny_mono (h s.heap.objs.size fD.2.1 _ A _ _ { s with heap := h₁, toks := s.toks } it ob rfl Id itC ((hset_ne _ _ itD).trans n2) (old _ _ g1) i2) fun r s' z => ?_;obtain ⟨⟨f, rfl⟩, C', m', H', c', I', q'⟩ := z;exact hR _ _ f ol C' m' H' s' (compEnvC scope cl H2.objs.size env) rfl n9 ho I' c' q'
theorem EV_ListComp {S:Stp G} {elt target iter:Expr} {ifs:List Expr} {rest:List Comprehension} {scope:Scope} {pos:Pos} {Q:Qv}
    (h:IT G k fl sc S iter m H (fun x H1 => ∀ D, H1 D = none → CS G k (relS scope sc) S (.ListComp elt (⟨target, iter, ifs, 0⟩ :: rest) scope pos) 0 D x (comp0 scope.names m) (hset H1 D (.lst [])) (fun ww H2 => Q (.ref D) H2)) X)
    (hok:compOk scope sc m = true) (hf:∀ env x, foldedSetIterable iter env x = pure x := by intro _ _; with_unfolding_all rfl) : EV G k fl sc (.ListComp elt (⟨target, iter, ifs, 0⟩ :: rest) scope pos) m H Q X := fun env A C Z s hs I => by
  subst hs;have K := compOk_of hok;obtain ⟨cl, h1, h2, h3⟩ := comp_cl K I;rw [eval_ListComp];refine wpAny_comprehension_free (use := none) rfl (hf env) h1 K.k1 (fun y hy hl => names_lookup K.k2 hy hl) (wpAny_mono (h env A C Z s rfl I) (fun v s1 g1 => wpAny_mono g1 (fun r s2 h2' => ?_) fun ww ww x => x) fun ww ww x => x);obtain ⟨C2, H2, it, x, ob, rfl, c2, I2, n1, n2, g2, i2, q2⟩ := h2';refine wpAny_mono (comp_make (RR := fun acc L => compPost G.M A (XPost G k fl env A C Z m X) none (Post G k fl env A C Z m Q) acc L) K rfl I2 h2 h3 n1 n2 g2 i2 q2 fun D L f o C' m' H' s' env' e1 nL ho Y c' q' => ?_) (fun ww ww z => wpAny_mono z (fun ww ww z => z) fun ww ww z => z.elim) fun ww ww z => z.elim;subst e1;obtain ⟨mm, hns, _⟩ := Y.fr.ns;refine ⟨mm, hns, fun h' hs' => ?_⟩;obtain ⟨b1, b2, b3⟩ := I2.uncomp ho Y c' hs';exact ⟨_, .ref D, H', c2.trans b1, b2, rfl, q'⟩
theorem EX_AssignComp {S:Stp G} {elt target iter:Expr} {ifs:List Expr} {rest:List Comprehension} {scope:Scope} {pos xp spos:Pos} {x:Str} {P:PQ}
    (h:IT G k true sc S iter m H (fun y H1 => ∀ D, H1 D = none → CS G k (relS scope sc) S (.ListComp elt (⟨target, iter, ifs, 0⟩ :: rest) scope pos) 0 D y (comp0 scope.names m) (hset H1 D (.lst [])) (fun ww H2 => ∃ m', Put m x (.ref D) m' ∧ P.n m' H2)) (fun c H' => P.x c m H'))
    (hok:compOk scope sc m = true) (hk:sc.kind = .function) (hx:sc.names.lookup x = some .local) (hl:(xp.line == pos.line) = true := by with_unfolding_all rfl) (hv:(scope.names.any fun (n, k) => n == x && (k == .local || k == .cell)) = false := by with_unfolding_all rfl) (hf:∀ env x, foldedSetIterable iter env x = pure x := by intro _ _; with_unfolding_all rfl) :
    EX G k sc (.Assign [.Name x xp] (.ListComp elt (⟨target, iter, ifs, 0⟩ :: rest) scope pos) spos) m H P := fun env A C Z s hs I => by
  subst hs;have K := compOk_of hok;obtain ⟨cl, h1, h2, h3⟩ := comp_cl K I;have hsw : swapsWith (.ListComp elt (⟨target, iter, ifs, 0⟩ :: rest) scope pos) (some (.Name x xp)) spos.line env = pure true := by
    have e1 : env.blockKind = .function := by unfold Env.blockKind; rw [hk]; rfl
    have e2 : env.kindOf x = some .local := hx;unfold swapsWith;simp only [e1, e2, Expr.pos, hl, hv];rfl
  rw [exec_Assign_Name_used _ _ _ _ hsw];refine wpAny_bind (wpAny_standAt (wpAny_bind ?_));show wpAny _ A (do let _ ← comprehension (.ListComp elt (⟨target, iter, ifs, 0⟩ :: rest) scope pos) scope env _ (newList []) false (eval iter env) (some (assign (.Name x xp) env))) _ _ s
  refine wpAny_bind (wpAny_mono (wpAny_comprehension_free (use := some (assign (.Name x xp) env)) (E := XsPost G k true env A C Z P.x) (Q := fun ww s' => FPost G k env A C Z P .next s') rfl (hf env) h1 K.k1 (fun y hy hl => names_lookup K.k2 hy hl)
    (wpAny_mono (h env A C Z s rfl I) (fun v s1 g1 => wpAny_mono g1 (fun r s2 h2' => ?_) fun ww ww x => x.xs fun ww ww q => q) fun ww ww x => x.xs fun ww ww q => q)) (fun ww s' hq => wpAny_pure (wpAny_pure hq)) fun ww ww e => e)
  obtain ⟨C2, H2, it, y, ob, rfl, c2, I2, n1, n2, g2, i2, q2⟩ := h2';refine wpAny_mono (comp_make (RR := fun acc L => compPost G.M A (XsPost G k true env A C Z P.x) (some (assign (.Name x xp) env)) (fun ww s' => FPost G k env A C Z P .next s') acc L) K rfl I2 h2 h3 n1 n2 g2 i2 q2 fun D L f o C' m' H' s' env' e1 nL ho Y c' q' => ?_) (fun ww ww z => wpAny_mono z (fun ww ww z => z) fun ww ww z => z.elim) fun ww ww z => z.elim;subst e1;obtain ⟨m2, p2, q2'⟩ := q';obtain ⟨mm, ⟨ol, es, ep, o1, o2, o3⟩, _⟩ := Y.fr.ns;obtain ⟨b1, b2, b3⟩ := I2.uncomp ho Y c' (Heap.SameBut.refl _ _)
  -- the block's dict, kept as it is during the store
  have yL := Y.fr.ownL;have fr := I2.fresh nL;have hCL : unaside C2 env C' env'.locals = none := unaside_none yL.1;have hz : ∀ z, z ∈ Z → z.1.frame ≠ some env'.locals := fr.2.2.1;have J1 : Inv G k true env A (cset (unaside C2 env C') env'.locals ol) Z m H' s' := b2.step (s := s') (a := env'.locals) (h' := s'.heap) (tk := s'.toks) (fun b o ww e => e)
    (nt_of o1 (dict_ns o2)) hCL hz fr.2.2.2.1 fr.2.2.2.2 (fun ww ww ww e => e) (fun o' e => ns yL.2.1 e) (Cle.set ol hCL) (fun b o' q e => (cset_ne _ _ q).symm.trans e) (fun o' e => cset_cna o1 e)
  show wpAny _ A (assign (.Name x xp) env (.ref D)) _ _ _;refine wpAny_assign_Name (J1.store p2 (lv := .ref D) rfl (.inl rfl) fun s3 J3 => ?_);have g3 : s3.heap.get? env'.locals = some ol := J3.st.con _ _ (cset_same _ _ _);refine ⟨mm, ⟨ol, es, ep, g3, o2, o3⟩, fun h' hs' => ?_⟩;have hsp : seqOrPlain ol.data = false := o2 ▸ rfl;obtain ⟨y1, y2, y3, y4, y5, y6, y7⟩ := Inv.hidden b2 hCL (Cle.set ol hCL) J3 (cset_same _ _ _) hsp;have J4 := y2.step (a := env'.locals) (h' := h') (tk := s3.toks) (fun b o q e => (hs'.2 b q).trans e) (nt_of g3 (dict_ns o2)) y3 hz fr.2.2.2.1 fr.2.2.2.2 (fun ww ww ww e => e) (fun o' e => ns y4 e) (Cle.refl _) (fun ww ww ww e => e) (fun o' e => ns y3 e);exact ⟨_, m2, H', (c2.trans b1).trans y1, J4, q2'⟩
end
end
section
mutual
inductive IsD (H:Hp) : LV → PyData → Prop
  | none : IsD H .none .none
  | bool (b:Bool) : IsD H (.bool b) (.bool b)
  | int (i:Int) : IsD H (.int i) (.int i)
  | str {x:Str} (h:PyData.canLay0 (.str x) = true) : IsD H (.str x) (.str x)
  | tup {ls:List LV} {ds:List PyData} (h:IsDs H ls ds) : IsD H (.tup ls) (.tuple ds)
  | ref {a:Addr} {ls:List LV} {ds:List PyData} (hH:H a = some (.lst ls)) (h:IsDs H ls ds) : IsD H (.ref a) (.list ds)
inductive IsDs (H:Hp) : List LV → List PyData → Prop
  | nil : IsDs H [] []
  | cons {l:LV} {d:PyData} {ls:List LV} {ds:List PyData} (h:IsD H l d) (t:IsDs H ls ds) : IsDs H (l :: ls) (d :: ds)
end
section
variable {G:Gl} {k:Nat} {fl:Bool} {env:Env} {A:Around} {C:Cm} {Z:Zs} {m:Loc} {H:Hp} {s:Shared}
noncomputable def RdD (C:Cm) (h:Heap) (l:LV) (d:PyData) : Prop := ∀ v, VR C l v → (∃ as, Reads h v d as) ∧ d.canLay0 = true
noncomputable def RdL (C:Cm) (h:Heap) (l:List LV) (d:List PyData) : Prop := ∀ v, VRs C l v → (∃ as, ReadsAll h v d as) ∧ PyData.canLayAll0 d = true
theorem IsD.reads (I:Inv G k fl env A C Z m H s) {l:LV} {d:PyData} (hd:IsD H l d) : RdD C s.heap l d := by
  refine IsD.rec (motive_1 := fun l d ww => RdD C s.heap l d) (motive_2 := fun l d ww => RdL C s.heap l d) ?_ ?_ ?_ ?_ ?_ ?_ ?_ ?_ hd
  · intro _ h; cases h; exact ⟨⟨_, .none⟩, rfl⟩
  · intro b _ h; cases h; exact ⟨⟨_, .bool b⟩, rfl⟩
  · intro i _ h; obtain ⟨t, rfl⟩ := h; exact ⟨⟨_, .int i t⟩, rfl⟩
  · intro x hx _ h; obtain ⟨t, rfl⟩ := h; exact ⟨⟨_, .str _ t⟩, hx⟩
  · intro ls ds _ ih _ h;obtain ⟨a, vs, rfl, ⟨o, n, hC, q1, q2⟩, hvs⟩ := h;obtain ⟨⟨as, r⟩, c⟩ := ih vs hvs;exact ⟨⟨_, .tuple (I.st.con a _ hC) q1 q2 r⟩, c⟩
  · intro a ls ds hH _ ih _ h;cases h;obtain ⟨us, ⟨o, e1, e2, n, e3⟩, h2, _⟩ := I.list hH;obtain ⟨⟨as, r⟩, c⟩ := ih us h2;exact ⟨⟨_, .list e1 e2 e3 r⟩, c⟩
  · intro _ h; cases h; exact ⟨⟨_, .nil⟩, rfl⟩
  · intro l d ls ds _ _ h1 h2 _ h;obtain ⟨v, r, rfl, q1, q2⟩ := h;obtain ⟨⟨as, r1⟩, c1⟩ := h1 v q1;obtain ⟨⟨bs, r2⟩, c2⟩ := h2 r q2;exact ⟨⟨_, .cons r1 r2⟩, (Bool.and_eq_true ..).mpr ⟨c1, c2⟩⟩
end
section
variable {G:Gl} {k:Nat} {fl:Bool} {sc:Scope} {m:Loc} {H:Hp} {Q:Qv} {X:Xc}
theorem rm1 {n:Nat} (h:n < 100) : 9000 + (1 + n) ≤ cLine := Nat.le_trans (Nat.add_le_add_left (Nat.add_le_add_left (Nat.le_of_lt h) 1) _) (by decide)
theorem rm0 {n:Nat} (h:n < 100) : 9000 + n ≤ cLine := Nat.le_trans (Nat.add_le_add_left (Nat.le_of_lt h) _) (by decide)
theorem BO_eq {a b:LV} {da db:PyData} (ha:IsD H a da) (hb:IsD H b db) (h:Q (.bool (PyData.eqv da db)) H) (hd:min da.depth db.depth < 100 := by decide) : BO G (compareOp .Eq) a b H Q X := fun k fl env A C Z m s va vb I h1 h2 => by
  obtain ⟨⟨as, r1⟩, c1⟩ := ha.reads I _ h1;obtain ⟨⟨bs, r2⟩, c2⟩ := hb.reads I _ h2;exact SeqAt.compareEq_reads r1 r2 c1 c2 (I.room.u (n := _) (rm0 hd)) ⟨C, .bool _, H, Cle.refl C, I, rfl, h⟩
theorem BO_ne {a b:LV} {da db:PyData} (ha:IsD H a da) (hb:IsD H b db) (h:Q (.bool (!PyData.eqv da db)) H) (hd:min da.depth db.depth < 100 := by decide) : BO G (compareOp .NotEq) a b H Q X := fun k fl env A C Z m s va vb I h1 h2 => by
  obtain ⟨⟨as, r1⟩, c1⟩ := ha.reads I _ h1;obtain ⟨⟨bs, r2⟩, c2⟩ := hb.reads I _ h2;exact SeqAt.compareNe_reads r1 r2 c1 c2 (I.room.u (rm0 hd)) ⟨C, .bool _, H, Cle.refl C, I, rfl, h⟩
theorem BO_in {a b:LV} {da:PyData} {ds:List PyData} (ha:IsD H a da) (hb:IsD H b (.list ds)) (h:Q (.bool (ds.any fun y => PyData.eqv y da)) H) (hd:min (PyData.depthAll ds) da.depth < 100) : BO G (compareOp .In) a b H Q X := fun k fl env A C Z m s va vb I h1 h2 => by
  obtain ⟨⟨as, r1⟩, c1⟩ := ha.reads I _ h1;obtain ⟨⟨bs, r2⟩, c2⟩ := hb.reads I _ h2;exact SeqAt.in_list_reads r2 r1 c2 c1 ((Nat.add_assoc ..).symm ▸ I.room.u (rm1 hd)) ⟨C, .bool _, H, Cle.refl C, I, rfl, h⟩
theorem BO_notin {a b:LV} {da:PyData} {ds:List PyData} (ha:IsD H a da) (hb:IsD H b (.list ds)) (h:Q (.bool (!ds.any fun y => PyData.eqv y da)) H) (hd:min (PyData.depthAll ds) da.depth < 100) : BO G (compareOp .NotIn) a b H Q X := fun k fl env A C Z m s va vb I h1 h2 => by
  obtain ⟨⟨as, r1⟩, c1⟩ := ha.reads I _ h1;obtain ⟨⟨bs, r2⟩, c2⟩ := hb.reads I _ h2;exact SeqAt.notIn_list_reads r2 r1 c2 c1 ((Nat.add_assoc ..).symm ▸ I.room.u (rm1 hd)) ⟨C, .bool _, H, Cle.refl C, I, rfl, h⟩
variable {a b:Int}
theorem BO_eqi (h:Q (.bool (a == b)) H) : BO G (compareOp .Eq) (.int a) (.int b) H Q X := fun k fl env A C Z m s va vb I ⟨t, e⟩ ⟨u, e'⟩ => by subst e e'; exact P.eq_int ⟨C, .bool _, H, Cle.refl C, I, rfl, h⟩
theorem BO_nei (h:Q (.bool (a != b)) H) : BO G (compareOp .NotEq) (.int a) (.int b) H Q X := fun k fl env A C Z m s va vb I ⟨t, e⟩ ⟨u, e'⟩ => by subst e e'; exact P.ne_int ⟨C, .bool _, H, Cle.refl C, I, rfl, h⟩
theorem BO_lt (h:Q (.bool (decide (a < b))) H) : BO G (compareOp .Lt) (.int a) (.int b) H Q X := fun k fl env A C Z m s va vb I ⟨t, e⟩ ⟨u, e'⟩ => by subst e e'; exact P.lt_int ⟨C, .bool _, H, Cle.refl C, I, rfl, h⟩
theorem BO_le (h:Q (.bool (decide (a ≤ b))) H) : BO G (compareOp .LtE) (.int a) (.int b) H Q X := fun k fl env A C Z m s va vb I ⟨t, e⟩ ⟨u, e'⟩ => by subst e e'; exact P.le_int ⟨C, .bool _, H, Cle.refl C, I, rfl, h⟩
theorem BO_gt (h:Q (.bool (decide (a > b))) H) : BO G (compareOp .Gt) (.int a) (.int b) H Q X := fun k fl env A C Z m s va vb I ⟨t, e⟩ ⟨u, e'⟩ => by subst e e'; exact P.gt_int ⟨C, .bool _, H, Cle.refl C, I, rfl, h⟩
theorem BO_ge (h:Q (.bool (decide (a ≥ b))) H) : BO G (compareOp .GtE) (.int a) (.int b) H Q X := fun k fl env A C Z m s va vb I ⟨t, e⟩ ⟨u, e'⟩ => by subst e e'; exact P.ge_int ⟨C, .bool _, H, Cle.refl C, I, rfl, h⟩
theorem BO_add (h:Q (.int (a + b)) H) : BO G (binaryOp .Add) (.int a) (.int b) H Q X := fun k fl env A C Z m s va vb I ⟨t, e⟩ ⟨u, e'⟩ => by subst e e'; exact P.add_int ⟨C, .int _, H, Cle.refl C, I.toks, ⟨_, rfl⟩, h⟩
theorem BO_sub (h:Q (.int (a - b)) H) : BO G (binaryOp .Sub) (.int a) (.int b) H Q X := fun k fl env A C Z m s va vb I ⟨t, e⟩ ⟨u, e'⟩ => by subst e e'; exact P.sub_int ⟨C, .int _, H, Cle.refl C, I.toks, ⟨_, rfl⟩, h⟩
theorem BO_mul (h:Q (.int (a * b)) H) (hm:IntMulOk a b) : BO G (binaryOp .Mult) (.int a) (.int b) H Q X := fun k fl env A C Z m s va vb I ⟨t, e⟩ ⟨u, e'⟩ => by subst e e'; exact P.mul_int ⟨C, .int _, H, Cle.refl C, I.toks, ⟨_, rfl⟩, h⟩ hm
theorem BO_mod (hb:b ≠ 0) (h:Q (.int (a.fmod b)) H) : BO G (binaryOp .Mod) (.int a) (.int b) H Q X := fun k fl env A C Z m s va vb I ⟨t, e⟩ ⟨u, e'⟩ => by subst e e'; exact mod_int' hb ⟨C, .int _, H, Cle.refl C, I.toks, ⟨_, rfl⟩, h⟩
theorem BO_div (hb:b ≠ 0) (h:Q (.int (a.fdiv b)) H) (hp:Builtin.divisionGoesByPylong a b = false) : BO G (binaryOp .FloorDiv) (.int a) (.int b) H Q X := fun k fl env A C Z m s va vb I ⟨t, e⟩ ⟨u, e'⟩ => by subst e e'; exact floordiv_int hb ⟨C, .int _, H, Cle.refl C, I.toks, ⟨_, rfl⟩, h⟩ (.inl hp)
theorem BO_iadd (h:Q (.int (a + b)) H) : BO G (inplaceOp .Add) (.int a) (.int b) H Q X := fun k fl env A C Z m s va vb I ⟨t, e⟩ ⟨u, e'⟩ => by subst e e'; exact P.iadd_int ⟨C, .int _, H, Cle.refl C, I.toks, ⟨_, rfl⟩, h⟩
theorem VR.plainEq {C:Cm} {lv:LV} {v:Value} (h:VR C lv v) : plainIs v .none = true ∧ ((v == .none) = match lv with | .none => true | _ => false) := by
  cases lv with
  | none => cases h; exact ⟨rfl, rfl⟩
  | bool _ => cases h; exact ⟨rfl, rfl⟩
  | int _ => obtain ⟨t, rfl⟩ := h; exact ⟨rfl, rfl⟩
  | str _ => obtain ⟨t, rfl⟩ := h; exact ⟨rfl, rfl⟩
  | tup _ => obtain ⟨a, vs, rfl, _⟩ := h; exact ⟨rfl, rfl⟩
  | ref _ => cases h; exact ⟨rfl, rfl⟩
  | inst _ _ _ => obtain ⟨rfl, _⟩ := h; exact ⟨rfl, rfl⟩
  | ro _ _ => obtain ⟨rfl, _⟩ := h; exact ⟨rfl, rfl⟩
noncomputable def isNone : LV → Bool | .none => true | _ => false
theorem BO_isNone {x:LV} (h:Q (.bool (isNone x)) H) : BO G (compareOp .Is) x .none H Q X := fun k fl env A C Z m s va vb I h1 h2 => by
  cases h2;obtain ⟨p1, p2⟩ := h1.plainEq;refine wpAny_is_plain p1 ?_;rw [p2];exact ⟨C, .bool _, H, Cle.refl C, I, rfl, by cases x <;> exact h⟩
theorem BO_notNone {x:LV} (h:Q (.bool (!isNone x)) H) : BO G (compareOp .IsNot) x .none H Q X := fun k fl env A C Z m s va vb I h1 h2 => by
  cases h2;obtain ⟨p1, p2⟩ := h1.plainEq;refine wpAny_isNot_plain p1 ?_;rw [p2];exact ⟨C, .bool _, H, Cle.refl C, I, rfl, by cases x <;> exact h⟩
theorem BO_isNotBool {x y:Bool} (h:Q (.bool (!(x == y))) H) : BO G (compareOp .IsNot) (.bool x) (.bool y) H Q X := fun k fl env A C Z m s va vb I h1 h2 => by
  cases h1; cases h2;refine wpAny_isNot_plain rfl ?_;exact ⟨C, .bool _, H, Cle.refl C, I, rfl, by cases x <;> cases y <;> exact h⟩
end
end
section
section
variable {G:Gl} {k:Nat} {fl:Bool} {env:Env} {A:Around} {C:Cm} {Z:Zs} {m:Loc} {H:Hp} {s:Shared}
theorem Inv.newList (I:Inv G k fl env A C Z m H s) {vs:List LV} {us:List Value} (hv:VRs C vs us) (hz:vs.length ≤ 4096) {tk:Nat} :
    H s.heap.objs.size = none ∧ Inv G k fl env A C Z m (hset H s.heap.objs.size (.lst vs)) { s with heap := s.heap.push { cls := .type "list", data := .seq us.toArray }, toks := tk } :=
  I.allocH (Heap.get?_none_of_le (Nat.le_refl _)) (fun b o e => Heap.get?_push_of_some _ e) (Heap.get?_push_size _ rfl) ⟨rfl, rfl, rfl, hz, us, 0, rfl, hv⟩
theorem Inv.newTup (I:Inv G k fl env A C Z m H s) {vs:List LV} {us:List Value} (hv:VRs C vs us) {tk:Nat} :
    Cle C (cset C s.heap.objs.size { cls := .type "tuple", data := .seq us.toArray }) ∧ Inv G k fl env A (cset C s.heap.objs.size { cls := .type "tuple", data := .seq us.toArray }) Z m H { s with heap := s.heap.push { cls := .type "tuple", data := .seq us.toArray }, toks := tk } ∧
      VR (cset C s.heap.objs.size { cls := .type "tuple", data := .seq us.toArray }) (.tup vs) (.ref s.heap.objs.size) := by
  obtain ⟨a, b⟩ := I.allocC (tk := tk) (h' := s.heap.push { cls := .type "tuple", data := .seq us.toArray }) (ob := { cls := .type "tuple", data := .seq us.toArray }) (Heap.get?_none_of_le (Nat.le_refl s.heap.objs.size)) (fun b o e => Heap.get?_push_of_some _ e) (Heap.get?_push_size _ rfl);exact ⟨a, b, _, us, rfl, ⟨_, _, cset_same _ _ _, rfl, rfl⟩, hv.mono a⟩
end
section
variable {G:Gl} {k:Nat} {fl:Bool} {sc:Scope} {m:Loc} {H:Hp} {Q:Qv} {X:Xc}
theorem EV_Tuple {es:List Expr} {kd:Nat} {pos:Pos} (h:AR G k fl sc es m H (fun lvs H1 => lvs.length ≤ 4096 ∧ Q (.tup lvs) H1) X) : EV G k fl sc (.Tuple es kd pos) m H Q X := fun env A C Z s hs I =>
  wpAny_Tuple (wpAny_mono (h.2 pos env A C Z s hs I) (fun vs s1 ⟨C1, lvs, H1, c1, I1, v1, z, q1⟩ => by
    obtain ⟨a, b, c⟩ := I1.newTup (tk := s1.toks) v1
    exact ⟨by rw [v1.length]; unfold sizeLine; omega, _, _, _, c1.trans a, b, c, q1⟩) fun ww ww x => x)
theorem EV_List {es:List Expr} {pos:Pos} (h:AR G k fl sc es m H (fun lvs H1 => lvs.length ≤ 4096 ∧ ∀ a, H1 a = none → Q (.ref a) (hset H1 a (.lst lvs))) X) : EV G k fl sc (.List es pos) m H Q X := fun env A C Z s hs I =>
  wpAny_List (wpAny_mono (h.2 pos env A C Z s hs I) (fun vs s1 ⟨C1, lvs, H1, c1, I1, v1, z, q1⟩ => by
    obtain ⟨a, b⟩ := I1.newList (tk := s1.toks) v1 z
    exact ⟨by rw [v1.length]; unfold sizeLine; omega, C1, .ref _, _, c1, b, rfl, q1 _ a⟩) fun ww ww x => x)
noncomputable def SubR : LO → Prop
  | .lst _ => True
  | .sdict _ => True
  | .pdict _ _ => True
  | _ => False
noncomputable def SubT (H:Hp) : LV → Prop
  | .tup _ => True
  | .ro _ _ => True
  | .str _ => True
  | .ref a => (H a).elim False SubR
  | _ => False
theorem SubT.at {lv:LV} {v:Value} {env:Env} {A:Around} {C:Cm} {Z:Zs} {s:Shared} (h:SubT H lv) (I:Inv G k fl env A C Z m H s) (hv:VR C lv v) : ∃ T id, s.TypeIs v T ∧ typeLookup (.type T) "__getitem__" = pure (some (.builtin id)) := by
  cases lv with
  | tup l => obtain ⟨a, vs, rfl, ⟨o, n, hC, q1, _⟩, _⟩ := hv; exact ⟨_, _, ⟨_, I.st.con a _ hC, q1⟩, slot_tuple_getitem.lookup⟩
  | ro a l => obtain ⟨rfl, o, n, vs, hC, h1, _⟩ := hv; exact ⟨_, _, ⟨_, I.st.con a _ hC, h1⟩, slot_list_getitem.lookup⟩
  | str x => obtain ⟨t, rfl⟩ := hv; exact ⟨_, _, typeIs_str s x t, F.slot_str_getitem.lookup⟩
  | ref a =>
    cases hv;have h : (H a).elim False SubR := h;generalize hH : H a = x at h;cases x with
    | none => exact h.elim
    | some lo =>
      obtain ⟨ob, e1, e2⟩ := I.st.hp a _ hH;have h : SubR lo := h;cases lo with
      | lst vs => exact ⟨_, _, ⟨ob, e1, e2.1⟩, slot_list_getitem.lookup⟩
      | sdict vs => exact ⟨_, _, ⟨ob, e1, e2.1⟩, F.slot_dict_getitem.lookup⟩
      | pdict vs ep => exact ⟨_, _, ⟨ob, e1, e2.1⟩, F.slot_dict_getitem.lookup⟩
      | _ => exact h.elim
  | _ => exact h.elim
theorem EV_Sub {v i:Expr} {pos:Pos} (h:EV G k fl sc v m H (fun a H1 => EV G k fl sc i m H1 (fun b H2 => SubT H2 a ∧ BO G getItem a b H2 Q X) X) X)
    (hs':∀ o i', subscripted i false o i' = operate [o, i'] (getItem o i') := by intro _ _; with_unfolding_all rfl) : EV G k fl sc (.Subscript v i pos) m H Q X := fun env A C Z s hs I =>
  Subscript_ (wpAny_mono (h env A C Z s hs I) (fun va s1 ⟨C1, a, H1, c1, I1, v1, q1⟩ =>
    wpAny_mono (q1 env A C1 Z s1 hs I1) (fun vb s2 ⟨C2, b, H2, c2, I2, v2, t2, q2⟩ => by
      obtain ⟨T, id, hT, hl⟩ := t2.at I2 (v1.mono c2)
      exact tail_any hT hl (wpAny_mono (q2 k fl env A C2 Z m s2 va vb I2 (v1.mono c2) v2) (fun ww ww x => (Post.up c2 x).up c1) fun ww ww x => (XPost.up c2 x).up c1) (hs' va vb)) fun ww ww x => XPost.up c1 x) fun ww ww x => x)
theorem BO_item_list {a:Addr} {vs:List LV} {i:Int} {lv:LV} (hH:H a = some (.lst vs)) (h0:0 ≤ i) (hi:vs[i.toNat]? = some lv) (h:Q lv H) : BO G getItem (.ref a) (.int i) H Q X := fun k fl env A C Z m s va vb I h1 ⟨t, h2⟩ => by
  subst h2; cases h1;obtain ⟨us, l1, l2, l3, l4⟩ := I.list hH;obtain ⟨v, v1, v2⟩ := l2.get hi;have hlt := (List.getElem?_eq_some_iff.mp hi).1;exact wpAny_getItem_list l1 h0 (by omega) (x := v) (by rw [List.getElem?_toArray]; exact v1) ⟨C, lv, H, Cle.refl C, I, v2, h⟩
theorem BO_item_tup {vs:List LV} {i:Int} {lv:LV} (h0:0 ≤ i) (hz:vs.length < 4096) (hi:vs[i.toNat]? = some lv) (h:Q lv H) : BO G getItem (.tup vs) (.int i) H Q X := fun k fl env A C Z m s va vb I h1 ⟨t, h2⟩ => by
  subst h2;obtain ⟨a, us, rfl, ⟨o, n, hC, q1, q2⟩, hvs⟩ := h1;obtain ⟨v, v1, v2⟩ := hvs.get hi;have hlt := (List.getElem?_eq_some_iff.mp hi).1;exact getItem_tuple (items := us.toArray) (j := i.toNat) ⟨_, I.st.con a _ hC, q1, _, q2⟩ (by omega) (by omega) (seqIndex_of h0 (by rw [List.size_toArray, hvs.length]; omega)) (x := v) (by rw [List.getElem?_toArray]; exact v1) ⟨C, lv, H, Cle.refl C, I, v2, h⟩
theorem BO_item_str {x:Str} {i:Int} {c:Nat} (h0:0 ≤ i) (hz:i < 4096) (hi:x.cps[i.toNat]? = some c) (h:Q (.str ⟨#[c]⟩) H) : BO G getItem (.str x) (.int i) H Q X := fun k fl env A C Z m s va vb I ⟨u, h1⟩ ⟨t, h2⟩ => by
  subst h1 h2;have hlt : i.toNat < x.cps.size := (Array.getElem?_eq_some_iff.mp hi).1;exact PyProof.Rows.getItem_str (by simp; omega) (by rw [seqIndex_of h0 (show i < (x.length : Int) by show i < (x.cps.size : Int); omega)]; exact hi) ⟨C, .str ⟨#[c]⟩, H, Cle.refl C, I.toks, ⟨_, rfl⟩, h⟩
theorem BO_item_out {a:Addr} {vs:List LV} {i:Int} (hH:H a = some (.lst vs)) (hh:G.hr = true) (hi:i < -(vs.length : Int) ∨ (vs.length : Int) ≤ i) (hlo:-(2 ^ 63) ≤ i) (hhi:i < 2 ^ 63) (h:X ("IndexError", true) H) : BO G getItem (.ref a) (.int i) H Q X := fun k fl env A C Z m s va vb I h1 ⟨t, h2⟩ => by
  subst h2; cases h1;obtain ⟨us, l1, l2, l3, l4⟩ := I.list hH;refine wpAny_getItem_list_out (I.hno hh) l1 (by rw [List.size_toArray, l3]; exact hi) hlo hhi fun h' tk e hx => ?_;exact ⟨C, _, H, Cle.refl C, .new e rfl s.heap I.toks (NewX.of hx true), h⟩
noncomputable def LstOf (H:Hp) : LV → List LV → Prop
  | .ref a, vs => H a = some (.lst vs)
  | .ro _ us, vs => us = vs
  | _, _ => False
theorem LstOf.at {lv:LV} {vs:List LV} {v:Value} {env:Env} {A:Around} {C:Cm} {Z:Zs} {s:Shared} (h:LstOf H lv vs) (I:Inv G k fl env A C Z m H s) (hv:VR C lv v) : ∃ a us, v = .ref a ∧ s.heap.IsList a (List.toArray us) ∧ VRs C vs us := by
  cases lv with
  | ref a => cases hv; obtain ⟨us, l1, l2, _⟩ := I.list h; exact ⟨a, us, rfl, l1, l2⟩
  | ro a l => cases h; obtain ⟨rfl, o, n, us, hC, ho1, ho2, hvs⟩ := hv; exact ⟨a, us, rfl, ⟨_, I.st.con a _ hC, ho1, _, ho2⟩, hvs⟩
  | _ => exact h.elim
theorem BO_addl {x y:LV} {vs ws:List LV} (hx:LstOf H x vs) (hy:LstOf H y ws) (hz:vs.length + ws.length ≤ 4096) (h:∀ a, H a = none → Q (.ref a) (hset H a (.lst (vs ++ ws)))) : BO G (binaryOp .Add) x y H Q X := fun k fl env A C Z m s va vb I h1 h2 => by
  obtain ⟨l, us, rfl, l1, l2⟩ := hx.at I h1;obtain ⟨b, us', rfl, b1, b2⟩ := hy.at I h2;obtain ⟨⟨cls, dd, data, sl⟩, ho, hc, n, hd⟩ := id l1;obtain ⟨⟨cls2, dd2, data2, sl2⟩, ho2, hc2, n2, hd2⟩ := id b1;simp only at hc hd hc2 hd2;subst hc hd hc2 hd2;refine concat_meets ⟨_, ho, rfl⟩ ⟨_, ho2, rfl⟩ noFill_list_add seq_list_add PySem.F.slot_list_add PySem.F.entry_list_add (PySem.F.args_list_add_2 _ _) (list_addW l b us.toArray us'.toArray n n2 dd dd2 sl sl2 (by rw [List.size_toArray, List.size_toArray, l2.length, b2.length]; unfold sizeLine; omega)) ⟨ho, ho2, ?_⟩;rw [show us.toArray ++ us'.toArray = (us ++ us').toArray by simp];obtain ⟨f1, J⟩ := I.newList (tk := s.toks) (l2.append b2) (by simpa using hz);exact ⟨C, .ref _, _, Cle.refl C, J, rfl, h _ f1⟩
theorem BO_mull {a:Addr} {lv:LV} {n:Int} (hH:H a = some (.lst [lv])) (h0:0 ≤ n) (hz:n ≤ 4096) (h:∀ b, H b = none → Q (.ref b) (hset H b (.lst (List.replicate n.toNat lv)))) : BO G (binaryOp .Mult) (.ref a) (.int n) H Q X := fun k fl env A C Z m s va vb I h1 ⟨u, h2⟩ => by
  subst h2; cases h1;obtain ⟨us, nn, l1, l2, l3, _⟩ := I.lst hH;obtain ⟨v, r, rfl, v1, v2⟩ := l2;cases v2;refine wpAny_binaryOp_repeat_ref (T := "list") (U := "int") (by decide) ⟨_, l1, rfl⟩ (fun s' => typeIs_int s' n u) noFill_list_mul F.fills_int_mul F.slot_int_rmul PySem.repeat_list F.slot_int_index.lookup
    (call_meets F.slot_int_rmul (typeIs_int s n u) F.entry_int_rmul (F.args_int_rmul_2 _ _) (int___rmul___int_list n u a _ nn)
      ⟨l1, rfl, ⟨_, l1, rfl⟩, call_meets F.slot_list_mul ⟨_, l1, rfl⟩ F.entry_list_mul (F.args_list_mul_2 _ _)
        (AutoListH.list___mul___list_int_3 a _ nn n u (by simp [Builtin.List.listFitsIndex]; omega) (by rw [List.size_toArray, show [v].length = 1 from rfl, Nat.one_mul]; omega) (by simp [Builtin.List.listTooLong, sizeLine]; omega))
        ⟨l1, ?_⟩⟩)
  have e : (List.foldl (fun x1 x2 => x1 ++ x2) #[] (List.replicate (if (List.toArray [v]).isEmpty = true then 0 else n.toNat) (List.toArray [v]))) = (List.replicate n.toNat v).toArray := by
    have : ∀ (j:Nat) (acc:Array Value), List.foldl (fun x1 x2 => x1 ++ x2) acc (List.replicate j (List.toArray [v])) = acc ++ (List.replicate j v).toArray := by
      intro j
      induction j with
      | zero => intro acc; simp
      | succ j ih => intro acc; rw [List.replicate_succ, List.foldl_cons, ih, List.replicate_succ]; apply Array.ext'; simp
    rw [this]; simp
  rw [e];have hv : VRs C (List.replicate n.toNat lv) (List.replicate n.toNat v) := by
    generalize n.toNat = j
    induction j with
    | zero => rfl
    | succ j ih => exact ⟨v, _, rfl, v1, ih⟩
  obtain ⟨f1, J⟩ := I.newList (tk := s.toks) hv (by rw [List.length_replicate]; omega);exact ⟨C, .ref _, _, Cle.refl C, J, rfl, h _ f1⟩
end
end
section
section
variable {G:Gl} {k:Nat} {fl:Bool} {env:Env} {A:Around} {C:Cm} {Z:Zs} {m:Loc} {H:Hp} {s:Shared}
theorem Inv.pkey (I:Inv G k fl env A C Z m H s) {p:Int × Int} {v:Value} (h:VR C (pv p) v) : PKey G.prog G.w s.heap p v := by
  obtain ⟨a, vs, rfl, ⟨o, n, hC, q1, q2⟩, hvs⟩ := h;obtain ⟨v1, r1, rfl, ⟨t, rfl⟩, h2⟩ := hvs;obtain ⟨v2, r2, rfl, ⟨u, rfl⟩, h3⟩ := h2;cases h3;exact ⟨a, rfl, o, _, n, I.st.con a _ hC, q1, q2, .cons (by simp [intKind, Value.isInt]) (.cons (by simp [intKind, Value.isInt]) .nil)⟩
theorem pvs_of {C:Cm} {p:Int × Int} {l:List Value} (h:ItemsAre (intKind G.prog G.w) [p.1, p.2] l) : VRs C [.int p.1, .int p.2] l := by
  cases h with
  | cons h1 h2 =>
    cases h2 with
    | cons h2 h3 =>
      cases h3;exact ⟨_, _, rfl, Value.isInt_shape h1, _, _, rfl, Value.isInt_shape h2, rfl⟩
theorem Inv.know (I:Inv G k fl env A C Z m H s) {p:Int × Int} {v:Value} (h:PKey G.prog G.w s.heap p v) : ∃ C', Cle C C' ∧ Inv G k fl env A C' Z m H s ∧ VR C' (pv p) v ∧ ∀ b o, C' b = some o → C b = some o ∨ o.cls = .type "tuple" := by
  obtain ⟨a, rfl, o, items, n, e1, e2, e3, e4⟩ := h;have hv : ∀ C' : Cm, C' a = some o → VR C' (pv p) (.ref a) := fun C' hC => ⟨a, items.toList, rfl, ⟨o, n, hC, e2, e3⟩, pvs_of e4⟩;cases q : C a with
  | some ob =>
    cases e1.symm.trans (I.st.con a ob q);exact ⟨C, Cle.refl C, I, hv C q, fun b o e => .inl e⟩
  | none =>
    obtain ⟨hz, hL, hc⟩ := I.notFrame e1 (fun ww ww e => nomatch e3.symm.trans e) fun ww e => nomatch e3.symm.trans e;have hH : H a = none := none_of fun lo q2 => (I.st.hp a lo q2).elim fun ob h => h.2.noTup (Option.some.inj (e1.symm.trans h.1) ▸ e2);have cn : ∀ b o', b ≠ a → cset C a o b = some o' → C b = some o' := fun b o' q e => (if_neg q).symm.trans e;refine ⟨_, Cle.set o q, I.stepT (a := a) (h' := s.heap) (tk := s.toks) (fun b o ww e => e) (.of_keeps fun ww ww e => e) hz hL hc (fun ww ww ww e => e) (fun o' e => ns hH e) (Cle.set o q) cn (fun o' e => cset_cna e1 e), hv _ (cset_same _ _ _), fun b ob e => ?_⟩
    by_cases z : b = a
    · subst z; cases (cset_same C b o).symm.trans e; exact .inr e2
    · exact .inl (cn b ob z e)
theorem Inv.drawn (I:Inv G k fl env A C Z m H s) {d:Drawn} : Inv G k fl env A C Z m H { s with drawn := d } :=
  I.of I.hd ⟨I.st.con, I.st.hp, I.st.dis, I.st.base, I.st.gens, I.st.os, I.st.zs⟩ I.fr
end
section
variable {G:Gl} {k:Nat} {fl:Bool} {sc:Scope} {m:Loc} {H:Hp} {Q:Qv} {X:Xc}
theorem contains_ps {env:Env} {A:Around} {C:Cm} {Z:Zs} {s:Shared} (I:Inv G k fl env A C Z m H s) {a:Addr} {ps:List (Int × Int)} {p:Int × Int} {va:Value} (hH:H a = some (.pset ps)) (h1:VR C (pv p) va) {R:Bool → Shared → Prop} {E:Value → Shared → Prop} (h:R (decide (p ∈ ps)) { s with toks := s.toks + 3 }) : wpAny G.M A (contains (.ref a) va) R E s := by
  obtain ⟨o, es, ep, t, e1, e2, e3, S, sz⟩ := I.pset hH;have hT : s.TypeIs (.ref a) "set" := ⟨o, e1, e2.1⟩;unfold contains;refine wpAny_holding (wpAny_bind (wpAny_specialOf hT F.slot_set_contains.lookup (wp_ifn (fun z => Bool.noConfusion ((beq_builtin_none ..).symm.trans z)) (wpAny_bind (wpAny_callSpecialUnlessNone?_slot hT F.slot_set_contains (wpAny_call_entry F.slot_set_contains hT PySem.entry_set_contains ?_ (F.args_set_contains_2 _ _)))))));exact wpAny_bind (wpAny_bind (wpAny_pure (wpAny_pure (wpAny_bind (wpAny_tryCatch (set_contains (I.room.u (n := 1) (by decide)) e1 e3 S (I.pkey h1) (wpAny_pure ⟨_, rfl, wpAny_truthy_bool h⟩)))))))
theorem BO_inset {a:Addr} {ps:List (Int × Int)} {p:Int × Int} (hH:H a = some (.pset ps)) (h:Q (.bool (decide (p ∈ ps))) H) : BO G (compareOp .In) (pv p) (.ref a) H Q X := fun k fl env A C Z m s va vb I h1 h2 => by
  cases h2;exact wpAny_bind (contains_ps I hH h1 (wpAny_pure ⟨C, .bool _, H, Cle.refl C, I.toks, rfl, h⟩))
theorem BO_notinset {a:Addr} {ps:List (Int × Int)} {p:Int × Int} (hH:H a = some (.pset ps)) (h:Q (.bool (!decide (p ∈ ps))) H) : BO G (compareOp .NotIn) (pv p) (.ref a) H Q X := fun k fl env A C Z m s va vb I h1 h2 => by
  cases h2;exact wpAny_bind (contains_ps I hH h1 (wpAny_pure ⟨C, .bool _, H, Cle.refl C, I.toks, rfl, h⟩))
end
end
section
section
variable {prog:Program} {w:World} {A:Around} {E:Value → Shared → Prop} {s:Shared}
noncomputable def set0 (w:World) : Obj := { cls := .type "set", dict := none, data := .set #[] 0 (.fresh 0 0 (!w.params.followText "set-order")) }
theorem newCode_set {Q:Value → Shared → Prop} (h:Q (.ref s.heap.objs.size) { s with heap := s.heap.push (set0 w) }) : codeAny (model prog w) A (.call (.builtin "set.__new__") ⟨[.type "set"], []⟩) (wants Q E) s := by
  refine codeAny_call_builtin F.plain_set_new F.entry_set_new (wpAny_of_eq F.newCall_set_0 ?_);refine wpAny_bind (wpAny_bind (m := isType (.type "set")) (wpAny_pure (wp_ifn Bool.noConfusion (wpAny_bind (wpAny_of_eq PySem.sub_set_self (wp_ifn Bool.noConfusion (wpAny_pure ?_)))))));unfold newSet setsByText;refine wpAny_bind (wpAny_bind (wpAny_bind (wpAny_askSetting (wpAny_pure ?_))));exact wpAny_newObj_type (wpAny_pure h)
theorem callNew_set {Q:Value → Shared → Prop} (h:Q (.ref s.heap.objs.size) { s with heap := s.heap.push (set0 w) }) : wpAny (model prog w) A (call (.type "set") []) Q E s := by
  have ft := F.called_set;have hT : Shared.TypeIs { s with heap := s.heap.push (set0 w) } (.ref s.heap.objs.size) "set" := ⟨_, Heap.get?_push_size _ rfl, rfl⟩
  refine wpAny_call (codeAny_of_tree (wpAny_pure ⟨Code.quiet_builtin _ (by decide +kernel), codeAny_builtin F.entry_type_call ?_⟩));rw [Around.under_plain (weight_type_call_type "set" [] []) rfl];unfold Builtin.«type.__call__»;refine wp_ifn (c := (Value.type "set" == Value.type "type") = true) (by decide) (wp_ifn (fun z => Bool.noConfusion (ft.canCreate.symm.trans z)) (wpAny_bind (wpAny_of_eq F.typeCall_set_0 (wpAny_bind (wpAny_of_eq F.mro_set (wp_ifn (c := ([Value.type "set", Value.type "object"] : List Value).isEmpty = true) Bool.noConfusion (wpAny_bind (wpAny_of_eq ft.made (wpAny_bind (wpAny_pure (wpAny_bind (wpAny_holding (wpAny_call (newCode_set ?_))))))))))))));refine wpAny_bind (wpAny_isInstance hT ft.sub (wp_ifn Bool.noConfusion (wpAny_bind (wpAny_holding ?_))));refine wpAny_callSpecial?_slot hT F.slot_set_init (wpAny_call (codeAny_call_builtin F.slot_set_init.plain F.entry_set_init (check_set_init hT ?_)));unfold Builtin.«set.__init__» noKeywords
  wp_walk
  exact h
end
section
variable {G:Gl} {k:Nat} {fl:Bool} {sc:Scope} {m:Loc} {H:Hp} {Q:Qv} {X:Xc}
theorem CALL_set (h:∀ a, H a = none → Q (.ref a) (hset H a (.pset []))) : CALL G k (.type "set") [] H Q X := fun fl env A C Z m s vals I hv => by
  cases hv;refine callNew_set ?_;obtain ⟨f1, J⟩ := I.allocH (tk := s.toks) (h' := s.heap.push (set0 G.w)) (Heap.get?_none_of_le (Nat.le_refl _)) (fun b o e => Heap.get?_push_of_some _ e) (Heap.get?_push_size _ rfl)
    (o := .pset []) ⟨⟨rfl, rfl, rfl⟩, by simp, #[], 0, _, rfl, setAt_fresh _⟩
  exact ⟨C, .ref _, _, Cle.refl C, J, rfl, h _ f1⟩
theorem CALL_set_add {a:Addr} {ps:List (Int × Int)} {p:Int × Int} (hH:H a = some (.pset ps)) (sz:ps.length < 60) (h:Q .none (hset H a (.pset (if p ∈ ps then ps else p :: ps)))) : CALL G k (.builtin "set.add") [.ref a, pv p] H Q X := fun fl env A C Z m s vals I hv => by
  obtain ⟨va, r, rfl, e1, h2⟩ := hv;obtain ⟨vb, r2, rfl, e2, h3⟩ := h2;cases h3; cases e1;obtain ⟨o, es, ep, t, g1, g2, g3, S, _⟩ := I.pset hH;have hT : s.TypeIs (.ref a) "set" := ⟨o, g1, g2.1⟩;refine wpAny_call_entry F.slot_set_add hT F.entry_set_add ?_ (F.args_set_add_2 _ _);unfold Builtin.«set.add» Builtin.Frozenset.oneOther;refine wpAny_bind (wpAny_bind (wpAny_pure (wpAny_pure (wpAny_bind (set_add (I.room.u (n := 1) (by decide)) g1 g2.1 g3 S (I.pkey e2) (Nat.le_of_lt sz) fun h' es' ep' t' tk q1 q2 q3 => ?_)))));have hz : (if p ∈ ps then ps else p :: ps).length ≤ 60 := Nat.le_trans len_ins sz;exact wpAny_pure ⟨_, rfl, C, .none, _, Cle.refl C, I.upd (tk := tk) hH q1 q2 (o' := .pset (if p ∈ ps then ps else p :: ps)) ⟨⟨g2.1, g2.2⟩, hz, es', ep', t', rfl, q3⟩, rfl, h⟩
theorem CALL_set_pop {a:Addr} {ps:List (Int × Int)} (hH:H a = some (.pset ps)) (hne:ps ≠ []) (h:∀ q, q ∈ ps → Q (pv q) (hset H a (.pset (ps.erase q)))) : CALL G k (.builtin "set.pop") [.ref a] H Q X := fun fl env A C Z m s vals I hv => by
  obtain ⟨va, r, rfl, e1, h2⟩ := hv;cases h2; cases e1;obtain ⟨o, es, ep, t, g1, g2, g3, S, sz⟩ := I.pset hH;have hT : s.TypeIs (.ref a) "set" := ⟨o, g1, g2.1⟩;refine wpAny_call_entry F.slot_set_pop hT F.entry_set_pop ?_ (F.args_set_pop_1 _);unfold Builtin.«set.pop» Builtin.Frozenset.noArgs;refine wpAny_bind (wpAny_pure (wpAny_bind (set_pop g1 g2.1 g3 S hne sz fun h' es' ep' t' q x d hq hx q1 q2 q3 => ?_)));have J := I.upd (tk := s.toks) hH q1 q2 (o' := .pset (ps.erase q)) ⟨⟨g2.1, g2.2⟩, Nat.le_trans List.length_erase_le sz, es', ep', t', rfl, q3⟩;have J2 := J.drawn (d := d);obtain ⟨C', c', J3, hv, _⟩ := J2.know (v := x) hx;exact wpAny_pure ⟨_, rfl, C', _, _, c', J3, hv, h q hq⟩
end
end
section
inductive PIt (G:Gl) (x:Addr × Obj × Nat) (o:Obj) : Prop
  | mk (hc:o.cls = .type "set_iterator") (slot:Nat) (es:Array (Int × Value)) (ep:Nat) (t:SetTable) (hd:x.2.1.data = .set es ep t) (hf:o.data = .fields #[.int slot 0, .int x.2.2 0, .ref x.1, .int es.size 0, .int ep 0]) (hs:G.w.params.followText "set-order" = false → SetTable.below t.place slot = x.2.2)
theorem stpP_next {G:Gl} {k:Nat} {fl:Bool} {env:Env} {A:Around} {C:Cm} {Z:Zs} {m:Loc} {H:Hp} {s:Shared} {it a:Addr} {ob o:Obj} {i:Nat} {W:List (Int × Int)} {E:Value → Shared → Prop} (hh:G.hn = true) (I:Inv G k fl env A C Z m H s) (hg:s.heap.get? it = some o) (i1:PIt G (a, ob, i) o) (hC:C it = none) (hH:H it = none) (hW:H a = some (.psetx a W ob)) :
    wpAny G.M A (pyNext (.ref it)) (NxPost G k fl env A C Z m H (fun ww => PIt G) it ((W[i]?).map fun p => (pv p, (a, ob, i + 1)))) E s := by
  obtain ⟨hc, slot, es, ep, t, hd, hf, hs⟩ := i1;obtain ⟨_, e1, rfl, e2, sz, es', ep', t', e3, S, hl, hw⟩ := I.st.hp a _ hW;cases hd.symm.trans e3;refine pyNext_setB ⟨o, hg, hc, hf⟩ e1 hd S hs (fun e he h' slot' q1 q2 q3 => ?_) fun he => ⟨I.hdx hC, fun h' hx => ?_⟩
  · obtain ⟨o', g1, g2, g3⟩ := q2;have hv := List.getElem?_eq_getElem (l := W) (hl ▸ (List.getElem?_eq_some_iff.mp he).1);have hk := (hw i e _ he hv).keeps (tk_of (s := s) (fun b o q e => (q3.2 b q).trans e) (nt_of hg fun ww ww e => nomatch hf.symm.trans e));obtain ⟨C', c', J2, hv2, hn⟩ := (I.alien (tk := s.toks) hg hf hC hH q3).know hk;rw [hv];exact ⟨_, C', o', rfl, c', J2, hv2, none_of fun ox q => (hn it ox q).elim (fun z => ns hC z) fun z => ne_tup g2 (by decide) (Option.some.inj ((J2.st.con it ox q).symm.trans g1) ▸ z), g1, g2, slot', es, ep, t, hd, g3, q1⟩
  · rw [List.getElem?_eq_none_iff.mpr (hl ▸ List.getElem?_eq_none_iff.mp he)];exact ⟨rfl, I.alienE (tk := s.toks) hg hf hC hH hx⟩
theorem PIt.cls {G:Gl} {x:Addr × Obj × Nat} {o:Obj} (i:PIt G x o) : o.cls = .type "set_iterator" := by cases i; assumption
theorem PIt.dat {G:Gl} {x:Addr × Obj × Nat} {o:Obj} (i:PIt G x o) : ∃ vs, o.data = .fields vs := by cases i; exact ⟨_, by assumption⟩
noncomputable def stpP (G:Gl) : Stp G where
  κ := Addr × Obj × Nat
  isIt := fun ww x o => PIt G x o
  nx := fun H x r => ∃ W, H x.1 = some (.psetx x.1 W x.2.1) ∧ r = (W[x.2.2]?).map fun p => (pv p, (x.1, x.2.1, x.2.2 + 1))
  fields := PIt.dat
  mono := fun ww h => h
  next := fun E hh I hg i1 hC hH h => h.elim fun W h => h.2 ▸ stpP_next hh I hg i1 hC hH h.1
  go := fun t E I hg i1 hC hH hn hv => go_plain hg i1.cls (by decide) ⟨I, _, hg, i1⟩
  self := fun hg i1 hQ => pyIter_setiter ⟨_, hg, i1.cls⟩ hQ
section
variable {G:Gl} {k:Nat} {fl:Bool} {sc:Scope} {m:Loc} {H:Hp} {Q:Qv} {X:Xc}
theorem IV_set {a:Addr} {W:List (Int × Int)} {ob:Obj} {Q:(stpP G).κ → Hp → Prop} (hH:H a = some (.psetx a W ob)) (h:Q (a, ob, 0) H) : IV G (stpP G) (.ref a) H Q X := fun k fl env A C Z m s v I hv => by
  cases hv;obtain ⟨_, e1, rfl, e2, sz, es, ep, t, e3, S, hl, hw⟩ := I.st.hp a _ hH;refine pyIter_set e1 e2.1 e3 S ?_;obtain ⟨f1, f2, _⟩ := I.fresh (a := s.heap.objs.size) (Heap.get?_none_of_le (Nat.le_refl _));refine ⟨C, H, _, (a, _, 0), _, rfl, Cle.refl C, I.keeps (tk := s.toks) (fun b o e => Heap.get?_push_of_some _ e), f1, f2, Heap.get?_push_size _ rfl, ⟨rfl, 0, es, ep, t, e3, rfl, fun ww => ?_⟩, h⟩;obtain ⟨b1, b2, _⟩ := below_spec S.tok.rp 0;exact Nat.eq_zero_of_not_pos fun q => Nat.not_lt_zero _ (b2 0 _ q (Array.getElem?_eq_getElem (Nat.lt_of_lt_of_le q b1)))
theorem hset_hset (H:Hp) (a:Addr) (x y:LO) : hset (hset H a x) a y = hset H a y := by funext b; unfold hset; split <;> rfl
set_option tactic.hygienic true in
theorem hset_id {H:Hp} {a:Addr} {x:LO} (h:H a = some x) : hset H a x = H := by
  funext b; unfold hset; split
  · rename_i q; rw [q, h]
  · rfl
theorem Inv.freeze {env:Env} {A:Around} {C:Cm} {Z:Zs} {s:Shared} (I:Inv G k fl env A C Z m H s) {a:Addr} {ps:List (Int × Int)} (hH:H a = some (.pset ps)) : ∃ W ob, W.Perm ps ∧ Inv G k fl env A C Z m (hset H a (.psetx a W ob)) s := by
  obtain ⟨o, es, ep, t, e1, e2, e3, S, sz⟩ := I.pset hH;have hwp := walk_perm G.w a es ep;have X1 := S.ents.of_perm hwp;refine ⟨(walkOf G.w a es ep).map fun e => ptOf G.prog G.w s.heap e.2, o, X1.perm, ?_⟩;have hS : SetAt G.prog G.w s.heap ((walkOf G.w a es ep).map fun e => ptOf G.prog G.w s.heap e.2) es t := ⟨X1.perm.symm.nodup S.nd, S.tok, S.plain, S.led, S.perm.trans X1.perm.symm, S.ent⟩;have := I.upd (tk := s.toks) (h' := s.heap) hH (Heap.SameBut.refl _ _) e1 (o' := .psetx a ((walkOf G.w a es ep).map fun e => ptOf G.prog G.w s.heap e.2) o) ⟨rfl, e2, X1.perm.length_eq ▸ sz, es, ep, t, e3, hS, List.length_map _, fun i e p h1 h2 => ?_⟩
  · exact this
  · rw [List.getElem?_map, h1] at h2;obtain ⟨p', hp, _⟩ := X1.ent e (List.mem_of_getElem? h1);cases Option.some.inj h2;show PKey _ _ _ (ptOf G.prog G.w s.heap e.2) e.2;rw [hp.pt]; exact hp
theorem Inv.thaw {env:Env} {A:Around} {C:Cm} {Z:Zs} {s:Shared} (I:Inv G k fl env A C Z m H s) {a:Addr} {W ps:List (Int × Int)} {ob:Obj} (hH:H a = some (.psetx a W ob)) (hp:W.Perm ps) : Inv G k fl env A C Z m (hset H a (.pset ps)) s := by
  obtain ⟨ob', e1, rfl, e2, sz, es, ep, t, e3, S, hl, hw⟩ := I.st.hp a _ hH;exact I.upd (tk := s.toks) (h' := s.heap) hH (Heap.SameBut.refl _ _) e1 (o' := .pset ps) ⟨e2, by rw [← hp.length_eq]; exact sz, es, ep, t, e3, ⟨hp.nodup S.nd, S.tok, S.plain, S.led, S.perm.trans hp, S.ent⟩⟩
noncomputable def PQ.back (P:PQ) (a:Addr) (W:List (Int × Int)) (ob:Obj) (ps:List (Int × Int)) : PQ :=
  ⟨fun m H => H a = some (.psetx a W ob) ∧ P.n m (hset H a (.pset ps)), fun lv H => H a = some (.psetx a W ob) ∧ P.r lv (hset H a (.pset ps)), fun m H => H a = some (.psetx a W ob) ∧ P.b m (hset H a (.pset ps)),
    fun m H => H a = some (.psetx a W ob) ∧ P.c m (hset H a (.pset ps)), fun ww ww ww => False⟩
theorem EX_freeze {st:Stmt} {P:PQ} {a:Addr} {ps:List (Int × Int)} (hH:H a = some (.pset ps)) (h:∀ W ob, W.Perm ps → EX G k sc st m (hset H a (.psetx a W ob)) (P.back a W ob ps)) : EX G k sc st m H P := fun env A C Z s hs I => by
  obtain ⟨W, ob, hp, J⟩ := I.freeze hH;refine wpAny_mono (h W ob hp env A C Z s hs J) (fun f s1 h1 => ?_) fun e s1 x => (noXsE x).elim;obtain ⟨C1, m1, H1, c1, I1, q1⟩ := h1;cases f with
  | next => exact ⟨C1, m1, _, c1, I1.thaw q1.1 hp, q1.2⟩
  | brk => exact ⟨C1, m1, _, c1, I1.thaw q1.1 hp, q1.2⟩
  | cont => exact ⟨C1, m1, _, c1, I1.thaw q1.1 hp, q1.2⟩
  | ret v => obtain ⟨lv, v1, q2, q3⟩ := q1; exact ⟨C1, m1, _, c1, I1.thaw q2 hp, lv, v1, q3⟩
theorem CALL_len_list {a:Addr} {vs:List LV} (hH:H a = some (.lst vs)) (h:Q (.int vs.length) H) : CALL G k (.builtin "len") [.ref a] H Q X := fun fl env A C Z m s vals I hv => by
  obtain ⟨va, r, rfl, e1, h2⟩ := hv;cases h2; cases e1;obtain ⟨us, l1, l2, l3, l4⟩ := I.list hH;refine PyProof.Rows.len_list l1 (by rw [List.size_toArray]; omega) ?_;rw [List.size_toArray, l3];exact ⟨C, .int _, H, Cle.refl C, I.toks, ⟨_, rfl⟩, h⟩
theorem CALL_len_set {a:Addr} {ps:List (Int × Int)} (hH:H a = some (.pset ps)) (h:Q (.int ps.length) H) : CALL G k (.builtin "len") [.ref a] H Q X := fun fl env A C Z m s vals I hv => by
  obtain ⟨va, r, rfl, e1, h2⟩ := hv;cases h2; cases e1;obtain ⟨o, es, ep, t, g1, g2, g3, S, sz⟩ := I.pset hH;refine PySem.call_len_set g1 g2 g3 S.fits (by rw [S.size]; omega) ?_;rw [S.size];exact ⟨C, .int _, H, Cle.refl C, I.toks, ⟨_, rfl⟩, h⟩
theorem CALL_list {lv:LV} {vs:List LV} (hl:LstOf H lv vs) (hz:vs.length ≤ 4096) (h:∀ a, H a = none → Q (.ref a) (hset H a (.lst vs))) : CALL G k (.type "list") [lv] H Q X := fun fl env A C Z m s vals I hv => by
  obtain ⟨va, r, rfl, e1, h2⟩ := hv;cases h2;obtain ⟨l, us, rfl, ⟨o, l1, l2, n, l3⟩, v2⟩ := hl.at I e1;refine call_list_seq l (.inl rfl) l1 l2 l3 (fun h' c' q1 q2 => ?_) (le_line (show us.length ≤ 4096 from v2.length ▸ hz));obtain ⟨f1, J⟩ := I.allocH (tk := s.toks) (o := .lst vs) (Heap.get?_none_of_le (Nat.le_refl _)) q1 q2 ⟨rfl, rfl, rfl, hz, us, c', rfl, v2⟩;exact ⟨C, .ref _, _, Cle.refl C, J, rfl, h _ f1⟩
theorem CALL_append {a:Addr} {vs:List LV} {lv:LV} (hH:H a = some (.lst vs)) (hz:vs.length < 4096) (h:Q .none (hset H a (.lst (vs ++ [lv])))) : CALL G k (.builtin "list.append") [.ref a, lv] H Q X := fun fl env A C Z m s vals I hv => by
  obtain ⟨va, r, rfl, e1, h2⟩ := hv;obtain ⟨vb, r2, rfl, e2, h3⟩ := h2;cases h3; cases e1;exact list_push I hH hz e2 fun s' I' => ⟨C, .none, _, Cle.refl C, I', rfl, h⟩
theorem VRs.set {C:Cm} {lv:LV} {vc:Value} (h3:VR C lv vc) {ls:List LV} : ∀ {ws:List Value} {j:Nat}, VRs C ls ws → VRs C (ls.set j lv) (ws.set j vc) := by
  induction ls with
  | nil => intro ws j h; cases h; exact rfl
  | cons l ls ih =>
    intro ws j h;obtain ⟨v, r, rfl, q1, q2⟩ := h;cases j with
    | zero => exact ⟨vc, r, rfl, h3, q2⟩
    | succ j => exact ⟨v, r.set j vc, rfl, q1, ih q2⟩
theorem SO_list {a:Addr} {vs:List LV} {i:Int} {lv:LV} {N:Hp → Prop} (hH:H a = some (.lst vs)) (h0:0 ≤ i) (hi:i < vs.length) (h:N (hset H a (.lst (vs.set i.toNat lv)))) : SO G setItem (.ref a) (.int i) lv H N X := fun k fl env A C Z m s va vb vc I h1 ⟨t, h2⟩ h3 => by
  subst h2; cases h1;obtain ⟨us, n, l1, l2, l3, l4⟩ := I.lst hH;have hT := l1.isList.typeIs;unfold setItem
  try with_reducible refine wpAny_holding ?_
  first | refine wpAny_bind (wpAny_pure ?_) | skip
  refine wpAny_bind (wpAny_sequenceKey hT (by decide) ?_)
  refine wpAny_bind (wpAny_callSpecial?_slot (name := ofString "__setitem__") hT slot_list_setitem
    (wpAny_call_entry slot_list_setitem hT entry_list_setitem ?_ (args_list_setitem _ _ _)))
  have hfit : i < 2 ^ 63 := Int.lt_trans hi (lt63 l4);show wpAny _ _ (Builtin.List.listSubscript? (.int i t) >>= _) _ _ s;refine wpAny_bind (wpAny_listSubscript_int (fitsIndex_of h0 hfit) ?_);clear hfit;obtain ⟨j, rfl⟩ := Int.eq_ofNat_of_zero_le h0;have hj : j < us.length := l2.length ▸ Int.ofNat_lt.mp hi;show wpAny _ _ ((seqItemAt a j >>= fun r => pure (r.map (j, ·))) >>= _) _ _ s;refine wpAny_bind (wpAny_bind (wpAny_seqItemAt l1 rfl (wpAny_pure ?_)));rw [List.getElem?_toArray, List.getElem?_eq_getElem hj];show wpAny _ _ (setSeqItemAt a j vc >>= _) _ _ s;obtain ⟨n', hd'⟩ := Obj.data_mapSeq (o := ⟨.type "list", none, .seq (List.toArray us) n, #[]⟩) rfl (·.setIfInBounds j vc);have J := I.upd (tk := s.toks) hH (Heap.SameBut.update ..) (Heap.get?_update_self _ l1 rfl) (o' := .lst (vs.set j lv)) ⟨rfl, rfl, rfl, (List.length_set (as := vs)).symm ▸ l4, us.set j vc, n', hd'.trans (congrArg (fun z => Data.seq z n') (List.setIfInBounds_toArray ..)), l2.set h3⟩;refine wpAny_bind (wpAny_setSeqItemAt l1 rfl ?_)
  first
    | exact wpAny_bind (wpAny_pure (wpAny_pure ⟨.none, rfl, wpAny_pure ⟨C, _, Cle.refl C, J, h⟩⟩))
    | exact wpAny_pure ⟨.none, rfl, wpAny_pure ⟨C, _, Cle.refl C, J, h⟩⟩
end
end
end Go
end
section
namespace Go
open PySem
section
section
variable {prog:Program} {w:World} {A:Around} {E:Value → Shared → Prop} {s:Shared} {a b:Addr} {o ob:Obj} {es eb:Array (Int × Value)} {ep epb:Nat} {t tb:SetTable} {vs qs:List (Int × Int)}
structure Chg (prog:Program) (w:World) (a:Addr) (o:Obj) (h h':Heap) (vs:List (Int × Int)) : Prop where
  but : Heap.SameBut a h h'
  at_ : ∃ es ep t, h'.get? a = some { o with data := .set es ep t } ∧ SetAt prog w h' vs es t
theorem mem_ins {rs:List (Int × Int)} {p x:Int × Int} : (x ∈ if p ∈ rs then rs else p :: rs) ↔ x = p ∨ x ∈ rs := by
  split
  · exact ⟨.inr, fun z => z.elim (fun e => e ▸ ‹_›) id⟩
  · exact List.mem_cons
theorem addAll (hu:A.units < cLine) (hab:a ≠ b) (hc:o.cls = .type "set") (hdb:ob.data = .set eb epb tb) (each:Sem Unit) (hb:s.heap.get? b = some ob)
    (hEach:∀ (h':Heap) (tk:Tok) (Q:Unit → Shared → Prop), h'.get? b = some ob → Q () { s with heap := h', toks := tk } → wpAny (model prog w) A each Q E { s with heap := h', toks := tk })
    (Sb:SetAt prog w s.heap qs eb tb) (hoa:s.heap.get? a = some o) {Q:Unit → Shared → Prop} (l:List (Int × Value)) (hl:∀ e, e ∈ l → ∃ p, PKey prog w s.heap p e.2 ∧ e.1 = phash prog w p) : ∀ (h:Heap) (tk:Tok) (rs:List (Int × Int)), rs.length + l.length ≤ 60 → Chg prog w a o s.heap h rs →
      (∀ h' tk' rs', Chg prog w a o s.heap h' rs' → (∀ x, x ∈ rs' ↔ x ∈ rs ∨ x ∈ l.map fun e => ptOf prog w s.heap e.2) → Q () { s with heap := h', toks := tk' }) →
      wpAny (model prog w) A (forIn l PUnit.unit fun x (_:PUnit) => (do
        let _ ← holding [x.2] (setAddHashed a x.2 x.1)
        each
        if (← setState b).2.1 != epb then unsupported "set.changed-during-merge"
        pure (ForInStep.yield PUnit.unit) : Sem (ForInStep PUnit))) (fun ww => Q ()) E { s with heap := h, toks := tk } := by
  induction l with
  | nil => exact fun h tk rs ww hch hQ => wpAny_pure (hQ h tk rs hch fun x => ⟨.inl, fun z => z.elim id fun z => nomatch z⟩)
  | cons e l ih =>
    intro h tk rs hz hch hQ;obtain ⟨p, hk, he⟩ := hl e List.mem_cons_self;obtain ⟨es1, ep1, t1, g1, S1⟩ := hch.at_;rw [List.map_cons, hk.pt] at hQ;replace ih := ih fun e' h' => hl e' (List.mem_cons_of_mem _ h');rw [List.length_cons, ← Nat.add_assoc, Nat.add_right_comm] at hz;have hz1 : rs.length ≤ 60 := Nat.le_trans (Nat.le_succ _) (Nat.le_trans (Nat.le_add_right ..) hz);rw [List.forIn_cons, he];refine wpAny_bind (wpAny_bind (wpAny_holding (set_addH (s := { s with heap := h, toks := tk }) hu g1 hc rfl S1 (hk.keeps (tup_keeps hoa hc hch.but)) hz1 fun h' es' ep' t' tk' q1 q2 q3 => ?_)));have hb' : h'.get? b = some ob := (q1.2 b (Ne.symm hab)).trans ((hch.but.2 b (Ne.symm hab)).trans hb);refine wpAny_bind (hEach h' tk' _ hb' (wpAny_bind (wpAny_setState_of (s := { s with heap := h', toks := tk' }) hb' hdb Sb.fits (wp_ifn (fun z => bne_self_ne z) (wpAny_pure ?_)))));exact ih h' tk' _ (Nat.le_trans (Nat.add_le_add_right len_ins _) hz) ⟨hch.but.trans q1, es', ep', t', q2, q3⟩ fun h2 tk2 rs' c2 m2 => hQ h2 tk2 rs' c2 fun x => (m2 x).trans ((or_congr_left mem_ins).trans (or_assoc.trans (or_left_comm.trans (or_congr_right List.mem_cons.symm))))
theorem road_fill {t tb:SetTable} (h:t.road tb ≠ .oneByOne) : t.fill = 0 := Classical.byContradiction fun n => h (if_pos (bne_iff_ne.mpr n))
theorem walkUnseen_ok {l:List Addr} {f:Option Addr} (ho:s.heap.get? a = some o) (hd:o.data = .set es ep t) (S:SetAt prog w s.heap vs es t) {Q:Array (Int × Value) → Shared → Prop} (h:Q (walkOf w a es ep).toArray s) : wpAny (model prog w) A (setWalkUnseen a l f) Q E s := by
  unfold setWalkUnseen setsByText;refine wpAny_bind (wpAny_setState_of ho hd S.fits (wpAny_bind (wpAny_bind (wpAny_askSetting (wpAny_pure (wp_ifp (c := (w.params.followText "set-order" || (t.led && t.plain) || decide (es.size ≤ 1)) = true) ?_ (setWalk_ok ho hd S h)))))));cases q : w.params.followText "set-order" with
  | true => rfl
  | false => rw [S.led q, S.plain]; rfl
theorem roomFor_ok {n:Nat} (ho:s.heap.get? a = some o) (hc:o.cls = .type "set") (hd:o.data = .set es ep t) (S:SetAt prog w s.heap vs es t) (sz:vs.length + n ≤ 60) {Q:Unit → Shared → Prop}
    (h:∀ h1 es1 ep1 t1, Heap.SameBut a s.heap h1 → h1.get? a = some { o with data := .set es1 ep1 t1 } → SetAt prog w h1 vs es1 t1 → (t1.fill + n) * 5 < t1.mask * 3 ∨ (vs.length + n) * 2 ≤ t1.mask → Q () { s with heap := h1 }) : wpAny (model prog w) A (setRoomFor a n) Q E s := by
  unfold setRoomFor;refine wpAny_bind (wpAny_setState_of ho hd S.fits ?_);show wpAny _ _ (match t.roomFor n with | some wanted => setRelay a wanted | x => pure ()) _ _ _;unfold SetTable.roomFor
  by_cases hr : (t.fill + n) * 5 ≥ t.mask * 3
  · rw [if_pos hr, show t.place.size = vs.length from (S.tok.len.trans Array.length_toList).trans S.size];refine set_relay ho hd S.fits (Nat.lt_of_le_of_lt (Nat.mul_le_mul_right 2 sz) (by decide)) (Nat.mul_le_mul_right 2 (S.size ▸ Nat.le_add_right ..)) fun es' t' k1 k2 k3 k4 k5 => ?_;have hs1 : Heap.SameBut a s.heap (s.heap.update a (Obj.putSet es' t')) := .update ..;have X := ((S.ents).of_perm k1).keeps (tup_keeps ho hc hs1);exact h _ es' _ t' hs1 (upd_set ho hd es' t') ⟨S.nd, k2, k3.trans S.plain, fun z => k4.trans (S.led z), X.perm, X.ent⟩ (.inr k5)
  · rw [if_neg hr];exact wpAny_pure (h s.heap es ep t (.refl ..) ((obj_self hd).symm ▸ ho) S (.inl (Nat.lt_of_not_le hr)))
theorem room3 {n m k:Nat} (hp:0 < n) (h:(0 + n) * 5 < m * 3 ∨ (0 + n) * 2 ≤ m) : n * 5 < m * 3 := by
  rw [Nat.zero_add] at h;exact h.elim id fun q => Nat.lt_of_lt_of_le ((Nat.mul_lt_mul_left hp).mpr (show 5 < 2 * 3 by decide)) (Nat.mul_assoc n 2 3 ▸ Nat.mul_le_mul_right 3 q)
theorem set_merge (hu:A.units < cLine) (hab:a ≠ b) (ho:s.heap.get? a = some o) (hc:o.cls = .type "set") (hd:o.data = .set es ep t) (S:SetAt prog w s.heap vs es t) (hb:s.heap.get? b = some ob) (hdb:ob.data = .set eb epb tb) (Sb:SetAt prog w s.heap qs eb tb)
    (sz:vs.length + qs.length ≤ 60) (each:Sem Unit)
    (hEach:∀ (h':Heap) (tk:Tok) (Q:Unit → Shared → Prop), h'.get? b = some ob → Q () { s with heap := h', toks := tk } → wpAny (model prog w) A each Q E { s with heap := h', toks := tk }) {Q:Unit → Shared → Prop}
    (h:∀ h' tk rs, Chg prog w a o s.heap h' rs → (∀ x, x ∈ rs ↔ x ∈ vs ∨ x ∈ qs) → Q () { s with heap := h', toks := tk }) : wpAny (model prog w) A (setMerge a b each) Q E s := by
  have hsz := Sb.size;unfold setMerge;refine wp_ifn (fun z => hab (beq_iff_eq.mp z)) (wpAny_bind (wpAny_setState_of hb hdb Sb.fits ?_))
  by_cases hemp : eb.isEmpty = true
  · refine wp_ifp hemp (wpAny_pure (h s.heap s.toks vs ⟨.refl .., es, ep, t, (obj_self hd).symm ▸ ho, S⟩ fun x => ⟨.inl, fun z => z.elim id fun z => ?_⟩));rw [List.length_eq_zero_iff.mp (hsz.symm.trans (Array.isEmpty_iff_size_eq_zero.mp hemp))] at z;exact nomatch z
  refine wp_ifn hemp (wpAny_bind (roomFor_ok ho hc hd S (hsz ▸ sz) fun h1 es1 ep1 t1 sb1 g1 S1 room => ?_));have kb : h1.get? b = some ob := (sb1.2 b (Ne.symm hab)).trans hb;have Sb1 := Sb.keeps (tup_keeps ho hc sb1);have fin : t1.fill = 0 → ∀ (es':Array (Int × Value)) (t':SetTable), TOk t' es'.toList → t'.plain = (t1.plain && tb.plain) → t'.led = (t1.led && tb.led) → es'.toList.Perm eb.toList → wpAny (model prog w) A (storeSet a es' t') Q E { s with heap := h1 } := by
    intro hf es' t' k1 k2 k3 k4;have hz : es'.size = qs.length := Array.length_toList.symm.trans (k4.length_eq.trans (Array.length_toList.trans hsz));have hvs : vs = [] := List.length_eq_zero_iff.mp (S1.size.symm.trans ((Array.length_toList.symm.trans S1.tok.len.symm).trans (Nat.eq_zero_of_add_eq_zero_right hf)));have X := ((Sb1.ents).of_perm k4).keeps (tup_keeps g1 hc (.update h1 a (Obj.putSet es' t')));rw [S1.plain, Sb.plain] at k2;subst hvs;refine wpAny_storeSet_of (s := { s with heap := h1 }) g1 rfl (h _ s.toks qs ⟨sb1.trans (.update ..), es', _, t', upd_set g1 rfl es' t', ⟨Sb.nd, k1, k2, fun q => ?_, X.perm, X.ent⟩⟩ fun x => ⟨.inr, fun z => z.elim (fun z => nomatch z) id⟩) ?_
    · rw [k3, S1.led q, Sb.led q]; rfl
    · rw [hz, sizeLine_eq]; exact Nat.le_trans (Nat.le_add_left ..) (Nat.le_trans sz (by decide))
  refine wpAny_bind (wpAny_setState_of (s := { s with heap := h1 }) g1 rfl S1.fits ?_);show wpAny _ _ (match t1.road tb with | .slotForSlot => _ | .clean => _ | .oneByOne => _) _ _ _;cases hr : t1.road tb with
  | slotForSlot => exact fin (road_fill fun z => nomatch hr.symm.trans z) eb _ ⟨Sb.tok.len, Sb.tok.mask, Sb.tok.rp, Sb.tok.rd, Sb.tok.disj, Sb.tok.lep, Sb.tok.led, Sb.tok.fill, Sb.tok.reach⟩ rfl rfl (.refl _)
  | clean =>
    have hf := road_fill fun z => nomatch hr.symm.trans z;have hvs : vs = [] := List.length_eq_zero_iff.mp (S1.size.symm.trans ((Array.length_toList.symm.trans S1.tok.len.symm).trans (Nat.eq_zero_of_add_eq_zero_right hf)));have hpos : 0 < eb.size := Nat.pos_of_ne_zero fun z => hemp (Array.isEmpty_iff_size_eq_zero.mpr z);rw [hf, hvs] at room;obtain ⟨t', order, e1, e2, e3, e4, e5, e6⟩ := laid_ok S1.tok.mask t1.finger t1.moves (t1.led && tb.led) (t1.plain && tb.plain) eb (room3 (k := 0) hpos room);have hz : (order.filterMap (eb[·]?)).size = eb.size := Array.length_toList.symm.trans (e5.length_eq.trans Array.length_toList);have hfin := fin hf _ t' e6 e3 e4 e5
    show wpAny _ _ ((do
      let some (t, order) := (SetTable.laid t1.mask t1.finger t1.moves (led := t1.led && tb.led) (plain := t1.plain && tb.plain) (eb.map (·.1))) | unsupported "internal:set-table-without-room"
      let es' := order.filterMap (eb[·]?)
      if es'.size != eb.size then unsupported "internal:set-table-lost-an-element"
      pure (es', t) : Sem (Array (Int × Value) × SetTable)) >>= _) _ _ _
    rw [e1];exact wpAny_bind (wp_ifn (fun z => bne_self_ne (hz ▸ z)) (wpAny_pure hfin))
  | oneByOne =>
    have hwp := walk_perm w b eb epb;have hwl : (walkOf w b eb epb).length = qs.length := hwp.length_eq.trans (Array.length_toList.trans hsz);refine wpAny_bind (walkUnseen_ok (s := { s with heap := h1 }) kb hdb Sb1 ?_);rw [← Array.forIn_toList];refine wpAny_bind (wpAny_mono (addAll (Q := Q) hu hab hc hdb each hb hEach Sb ho (walkOf w b eb epb) (fun e he => Sb.ent e (hwp.mem_iff.mp he)) h1 s.toks vs (hwl.symm ▸ sz) ⟨sb1, es1, ep1, t1, g1, S1⟩ fun h' tk' rs' c' m' => h h' tk' rs' c' fun x => (m' x).trans (or_congr_right ((hwp.map _).trans Sb.perm).mem_iff)) (fun ww ww q => wpAny_pure q) fun ww ww x => x)
end
end
end Go
end
section
namespace Go
open PySem PySem.W PyProof.Rows PySem.Calls
section
theorem nodup_le {α:Type} [DecidableEq α] (l:List α) : ∀ (l':List α), l.Nodup → (∀ x, x ∈ l → x ∈ l') → l.length ≤ l'.length := by
  induction l with
  | nil => exact fun ww ww ww => Nat.zero_le _
  | cons a l ih =>
    intro l' nd h;rw [List.nodup_cons] at nd;have ha := h a List.mem_cons_self;have := ih (l'.erase a) nd.2 fun x hx => (List.mem_erase_of_ne fun e => nd.1 (by rw [← e]; exact hx)).mpr (h x (List.mem_cons_of_mem _ hx));rw [List.length_erase_of_mem ha] at this;exact Nat.le_trans (Nat.add_le_add_right this 1) (Nat.le_of_eq (Nat.sub_add_cancel (List.length_pos_of_mem ha)))
section
variable {G:Gl} {k:Nat} {fl:Bool} {sc:Scope} {m:Loc} {H:Hp} {Q:Qv} {X:Xc}
theorem CALL_update {a b:Addr} {ps qs:List (Int × Int)} (hab:a ≠ b) (hH:H a = some (.pset ps)) (hB:H b = some (.pset qs)) (sz:ps.length + qs.length ≤ 60)
    (h:∀ rs, rs.Nodup → (∀ x, x ∈ rs ↔ x ∈ ps ∨ x ∈ qs) → Q .none (hset H a (.pset rs))) : CALL G k (.builtin "set.update") [.ref a, .ref b] H Q X := fun fl env A C Z m s vals I hv => by
  obtain ⟨va, r, rfl, e1, h2⟩ := hv;obtain ⟨vb, r2, rfl, e2, h3⟩ := h2;cases h3; cases e1; cases e2;obtain ⟨o, es, ep, t, g1, g2, g3, S, _⟩ := I.pset hH;obtain ⟨ob, eb, epb, tb, k1, k2, k3, Sb, _⟩ := I.pset hB;have hT : s.TypeIs (.ref a) "set" := ⟨o, g1, g2.1⟩;have hTb : s.TypeIs (.ref b) "set" := ⟨ob, k1, k2.1⟩;have J : ∀ (h':Heap) (tk:Tok) rs, Chg G.prog G.w a o s.heap h' rs → (∀ x, x ∈ rs ↔ x ∈ ps ∨ x ∈ qs) → Post G k fl env A C Z m Q Value.none { s with heap := h', toks := tk } := fun h' tk rs c m' => by
    obtain ⟨es', ep', t', q1, q2⟩ := c.at_;exact ⟨C, .none, _, Cle.refl C, I.upd (tk := tk) hH c.but q1 (o' := .pset rs) ⟨⟨g2.1, g2.2⟩, Nat.le_trans (nodup_le rs (ps ++ qs) q2.nd fun x hx => List.mem_append.mpr ((m' x).mp hx)) (List.length_append.symm ▸ sz), es', ep', t', rfl, q2⟩, rfl, h rs q2.nd m'⟩
  refine wpAny_call_entry F.slot_set_update hT F.entry_set_update ?_ (F.args_set_update_2 _ _);unfold Builtin.«set.update» Builtin.Frozenset.manyOthers;refine wpAny_bind (wpAny_bind (wpAny_pure (wpAny_pure ?_)));show wpAny _ _ (forIn [Value.ref b] PUnit.unit _ >>= _) _ _ _;rw [List.forIn_cons];unfold Builtin.Frozenset.updateFrom Builtin.Frozenset.isAnySet;refine wpAny_bind (wpAny_bind (wpAny_bind (wpAny_bind (wpAny_bind (m := isInstance (.ref b) (.type "set")) (wpAny_isInstance (T := "set") (b := true) hTb PySem.sub_set_self ?_)))));refine wpAny_pure (wp_ifp rfl (wpAny_bind (wpAny_pure ?_)));unfold Builtin.Frozenset.merge setEpoch;refine wpAny_bind (wpAny_bind (wpAny_setState_of k1 k3 Sb.fits (wpAny_pure ?_)));refine set_merge (I.room.u (n := 1) (by decide)) hab g1 g2.1 g3 S k1 k3 Sb sz _ (fun h' tk Q' hb' hq => ?_) fun h' tk rs c m' => wpAny_pure (wpAny_pure (wpAny_pure ⟨_, rfl, J h' tk rs c m'⟩));unfold Builtin.Frozenset.unchanged setEpoch;exact wpAny_bind (wpAny_bind (wpAny_setState_of (s := { s with heap := h', toks := tk }) hb' k3 Sb.fits (wpAny_pure (wp_ifn (fun z => bne_self_ne z) (wpAny_pure hq)))))
end
end
section
noncomputable abbrev Gl.h (G:Gl) : Gl := { G with hr := false }
section
variable {G:Gl} {k:Nat} {fl:Bool} {env:Env} {A:Around} {C C':Cm} {Z:Zs} {m m':Loc} {H H':Hp} {s s':Shared}
theorem St.h (X:St G C Z H s) : St G.h C Z H s := ⟨X.con, X.hp, X.dis, X.base, X.gens, X.os, X.zs⟩
theorem St.unh (X:St G.h C Z H s) : St G C Z H s := ⟨X.con, X.hp, X.dis, X.base, X.gens, X.os, X.zs⟩
theorem setFlC (X:Inv G k fl env A C Z m H s) {ea T:Addr} {oe oT:Obj} {vs ts:Array Value} (he:s.heap.get? ea = some oe) (hd:oe.data = .fields vs) (h1:vs[1]? = some (.ref T)) (hT:s.heap.get? T = some oT) (hdT:oT.data = .fields ts) (h3:3 < ts.size) (c3:C T = none) (c4:H T = none)
    {E:Value → Shared → Prop} {Q:Unit → Shared → Prop} (hQ:∀ s', Inv G k fl env A C Z m H s' → Q () s') : wpAny G.M A (setFlight (.ref ea) none) Q E s := by
  unfold setFlight;refine wpAny_bind (wpAny_field he hd h1 ?_);exact wp_ifp rfl (wpAny_setField hT hdT h3 (hQ _ (X.alien (tk := s.toks) hT hdT c3 c4 (.update ..))))
end
section
variable {G:Gl} {k:Nat} {sc:Scope} {m:Loc} {H:Hp} {P:PQ}
theorem EX_Raise {x:Str} {np pos:Pos} {X N I:String} (hh:G.hr = true) (hc:ExcClass X N I) (hself:isSubtype (.type X) (.type X) = pure true) (hx:sc.names.lookup x = some .globalImplicit) (hg:GNm G x (.type X)) (h:P.x (X, true) m H) (hd:(x == ("__debug__" : Str)) = false := by decide +kernel) :
    EX G k sc (.Raise (some (.Name x np)) none pos) m H P := fun env A C Z s hs J => by
  refine Raise_classB (J.hno hh) hc hself (J.name (kind_of hs hx) hg hd ⟨rfl, rfl⟩) fun h' e hn => ?_;exact ⟨C, _, m, H, Cle.refl C, .new e rfl s.heap J (NewX.of hn true), h⟩
theorem EX_Try {body hb orelse:List Stmt} {b0:Stmt} {tn:Str} {np hpos pos:Pos} {T:String} (hx:sc.names.lookup tn = some .globalImplicit) (hg:GNm G tn (.type T)) (hd:(tn == ("__debug__" : Str)) = false)
    (hexc:isSubtype (.type T) (.type "BaseException") = pure true) (hnt:isSubtype (.type ((Manifest.find? T).elim "type" fun x => x.metatype)) (.type "tuple") = pure false)
    (h:EXS G k sc body m H ⟨fun m' H' => EXS G k sc orelse m' H' P, P.r, P.b, P.c, fun c m' H' => c.2 = true ∧ isSubtype (.type c.1) (.type T) = pure true ∧ EXS G.h k sc (b0 :: hb) m' H' ⟨P.n, P.r, P.b, P.c, fun ww ww ww => False⟩⟩) :
    EX G k sc (.Try body [.ExceptHandler (some (.Name tn np)) none (b0 :: hb) hpos] orelse [] pos) m H P := fun env A C Z s hs I => by
  refine wpAny_Try_except (wpAny_mono (h env A C Z s hs I) (fun f s1 h1 => ?_) fun e s1 h1 => ?_)
  · obtain ⟨C1, m1, H1, c1, I1, q1⟩ := h1;cases f with
    | next => exact wpAny_mono (q1 env A C1 Z s1 hs I1) (fun ww ww x => FPost.up c1 x) fun ww ww x => XsPost.up c1 x
    | brk => exact ⟨C1, m1, H1, c1, I1, q1⟩
    | cont => exact ⟨C1, m1, H1, c1, I1, q1⟩
    | ret v => exact ⟨C1, m1, H1, c1, I1, q1⟩
  · obtain ⟨C1, cls, m1, H1, c1, x1, q1, q2, q3⟩ := h1;refine x1.note fun ea s2 he I2 t2 => ?_;subst he;refine I2.setFl t2 none fun s3 I3 t3 => ?_;obtain ⟨oe, vs, a0, T', oT, ts, e1, e2, e3, e4, e5, e5', e6, e7, e8, e9, d1, d2, d3, d4⟩ := t3;obtain ⟨c4, I4⟩ := I3.shown e1 e3 d1 d2;have J : Inv G.h k true env (A.mark (some (.ref ea))) (cset C1 ea oe) Z m1 H1 s3 :=
      ⟨I4.kind, I4.glob, I4.blt, I4.room, I4.frames, I4.frame, .inr ⟨ea, oe, vs, rfl, cset_same _ _ _, e3, e5' q1⟩, (fun q => nomatch q), I4.st.h, I4.fr⟩
    refine wpAny_handleBy_cons (codeAny_handlers_test (J.name (G := G.h) (kind_of hs hx) hg hd (wpAny_excMatches_type (X := cls.1) (b := true) ⟨oe, e1, e2⟩ hexc hnt q2 (codeAny_handlers_suite ?_)))) (fun x => nomatch x);refine setFlC J e1 e3 e5 e7 e8 (Array.getElem?_eq_some_iff.mp e9).1 ((cset_ne C1 oe e6).trans d3) d4 fun s4 J4 => wpAny_mono (q3 env _ _ Z s4 hs J4) (fun f s5 h5 => ?_) fun e s5 x => (noXsE x).elim;obtain ⟨C5, m5, H5, c5, Y, q5⟩ := h5;have le := (c1.trans c4).trans c5;have I6 : Inv G k true env A C5 Z m5 H5 s5 := ⟨Y.kind, Y.glob, Y.blt, I.room, I.frames, I.frame, I.hd.mono fun a o ww q ww => le _ _ q, I.hno, Y.st.unh, Y.fr⟩;cases f with
    | next => exact ⟨C5, m5, H5, le, I6, q5⟩
    | brk => exact ⟨C5, m5, H5, le, I6, q5⟩
    | cont => exact ⟨C5, m5, H5, le, I6, q5⟩
    | ret v => exact ⟨C5, m5, H5, le, I6, q5⟩
end
end
section
noncomputable def pput : List ((Int × Int) × LV) → (Int × Int) → LV → List ((Int × Int) × LV)
  | [], p, v => [(p, v)]
  | (q, w) :: r, p, v => if q = p then (q, v) :: r else (q, w) :: pput r p v
noncomputable def kk (p:Int × Int) : List Int := [p.1, p.2]
theorem kk_inj {p q:Int × Int} : kk p = kk q ↔ p = q := by
  constructor
  · intro h; unfold kk at h; injection h with h1 h2; injection h2 with h2 _; exact Prod.ext h1 h2
  · rintro rfl; rfl
noncomputable def XsR (C:Cm) : List ((Int × Int) × LV) → List (List Int × Addr × Value) → Prop
  | [], xs => xs = []
  | (p, l) :: fs, xs => ∃ a v r, xs = (kk p, a, v) :: r ∧ VR C (pv p) (.ref a) ∧ VR C l v ∧ XsR C fs r
theorem XsR.of {G:Gl} {C:Cm} {fs:List ((Int × Int) × LV)} : ∀ {es:List DictEntry}, PEnt G.prog G.w C fs es → ∃ xs, es = xs.map (entryOfKey (tupleKind (intKind G.prog G.w))) ∧ XsR C fs xs := by
  induction fs with
  | nil => exact fun h => ⟨[], h, rfl⟩
  | cons f fs ih =>
    intro es h;obtain ⟨e, r, rfl, h1, h2, h3, h4⟩ := h;obtain ⟨xs, x1, x2⟩ := ih h4;obtain ⟨a, vs, e2, r2⟩ := h2;obtain ⟨eh, ek, ev⟩ := e;dsimp only at h1 e2 h3;subst h1 e2;exact ⟨(kk f.1, a, ev) :: xs, by rw [List.map_cons, x1]; rfl, a, ev, xs, rfl, ⟨a, vs, rfl, r2⟩, h3, x2⟩
theorem XsR.to {G:Gl} {C:Cm} {fs:List ((Int × Int) × LV)} : ∀ {xs:List (List Int × Addr × Value)}, XsR C fs xs → PEnt G.prog G.w C fs (xs.map (entryOfKey (tupleKind (intKind G.prog G.w)))) := by
  induction fs with
  | nil => exact fun h => h ▸ rfl
  | cons f fs ih =>
    intro xs h;obtain ⟨a, v, r, rfl, h1, h2, h3⟩ := h;exact ⟨_, _, rfl, rfl, h1, h2, ih h3⟩
theorem XsR.keys {C:Cm} {fs:List ((Int × Int) × LV)} : ∀ {xs:List (List Int × Addr × Value)}, XsR C fs xs → xs.map (·.1) = fs.map fun x => kk x.1 := by
  induction fs with
  | nil => exact fun h => h ▸ rfl
  | cons f fs ih =>
    intro xs h;obtain ⟨a, v, r, rfl, h1, h2, h3⟩ := h;exact congrArg (List.cons _) (ih h3)
theorem XsR.length {C:Cm} {fs:List ((Int × Int) × LV)} {xs:List (List Int × Addr × Value)} (h:XsR C fs xs) : xs.length = fs.length := by
  have := congrArg List.length h.keys
  rwa [List.length_map, List.length_map] at this
theorem XsR.is {G:Gl} {C:Cm} {k:Nat} {fl:Bool} {env:Env} {A:Around} {Z:Zs} {m:Loc} {H:Hp} {s:Shared} (I:Inv G k fl env A C Z m H s) {fs:List ((Int × Int) × LV)} : ∀ {xs:List (List Int × Addr × Value)}, XsR C fs xs → ∀ x, x ∈ xs → (tupleKind (intKind G.prog G.w)).is s.heap x.1 x.2.1 := by
  induction fs with
  | nil => intro xs h x hx; cases h; exact nomatch hx
  | cons f fs ih =>
    intro xs h x hx;obtain ⟨a, v, r, rfl, h1, h2, h3⟩ := h;rcases List.mem_cons.mp hx with rfl | hx
    · obtain ⟨b, e, h⟩ := I.pkey h1; cases e; exact h
    · exact ih h3 x hx
theorem atKey_same {p:Int × Int} {a:Addr} {v:Value} {r:List (List Int × Addr × Value)} : atKey ((kk p, a, v) :: r) (kk p) = some (a, v) := by
  unfold atKey; rw [List.find?_cons, decide_eq_true rfl]; rfl
theorem atKey_ne {p q:Int × Int} {a:Addr} {v:Value} {r:List (List Int × Addr × Value)} (z:q ≠ p) : atKey ((kk q, a, v) :: r) (kk p) = atKey r (kk p) := by
  unfold atKey; rw [List.find?_cons, decide_eq_false fun y => z (kk_inj.mp y)]
theorem XsR.get {C:Cm} {p:Int × Int} {fs:List ((Int × Int) × LV)} : ∀ {xs:List (List Int × Addr × Value)}, XsR C fs xs →
    match fs.lookup p with | some l => ∃ a v, atKey xs (kk p) = some (a, v) ∧ VR C l v | none => atKey xs (kk p) = none := by
  induction fs with
  | nil => exact fun h => h ▸ rfl
  | cons f fs ih =>
    intro xs h;obtain ⟨a, v, r, rfl, h1, h2, h3⟩ := h;rw [List.lookup_cons]
    by_cases z : p = f.1
    · rw [beq_iff_eq.mpr z, z]; exact ⟨a, v, atKey_same, h2⟩
    · rw [beq_false_of_ne z, atKey_ne (Ne.symm z)]; exact ih h3
theorem XsR.put {C:Cm} {p:Int × Int} {a:Addr} {l:LV} {v:Value} (ha:VR C (pv p) (.ref a)) (hv:VR C l v) {fs:List ((Int × Int) × LV)} : ∀ {xs:List (List Int × Addr × Value)}, XsR C fs xs → (xs.map (·.1)).Nodup → XsR C (pput fs p l) (storedH xs (kk p) a v) := by
  induction fs with
  | nil => intro xs h _; cases h; exact ⟨a, v, [], rfl, ha, hv, rfl⟩
  | cons f fs ih =>
    intro xs h nd;obtain ⟨b, u, r, rfl, h1, h2, h3⟩ := h;rw [List.map_cons, List.nodup_cons] at nd;unfold pput
    by_cases z : f.1 = p
    · subst z;rw [if_pos rfl, storedH_old (p := (b, u)) atKey_same, List.map_cons, map_putAt_of_not_mem r (kk f.1) v nd.1];exact ⟨b, v, r, congrArg (· :: r) (if_pos rfl), h1, hv, h3⟩
    · rw [if_neg z];refine ⟨b, u, storedH r (kk p) a v, ?_, h1, h2, ih h3 nd.2⟩;unfold storedH;rw [atKey_ne z]
      split
      · exact congrArg (· :: _) (if_neg fun y => z (kk_inj.mp y))
      · rfl
theorem pput_keys {fs:List ((Int × Int) × LV)} {p:Int × Int} {l:LV} : ∀ x, x ∈ (pput fs p l).map (·.1) → x = p ∨ x ∈ fs.map (·.1) := by
  induction fs with
  | nil => exact fun x hx => .inl (List.mem_singleton.mp hx)
  | cons f fs ih =>
    intro x hx;unfold pput at hx
    split at hx
    · exact .inr hx
    · exact (List.mem_cons.mp hx).elim (fun e => .inr (e ▸ .head _)) fun hx => (ih x hx).imp_right (List.mem_cons_of_mem _)
set_option tactic.hygienic true in
theorem pput_nodup {fs:List ((Int × Int) × LV)} {p:Int × Int} {l:LV} (h:(fs.map (·.1)).Nodup) : ((pput fs p l).map (·.1)).Nodup := by
  induction fs with
  | nil => exact List.nodup_cons.mpr ⟨(fun z => nomatch z), List.nodup_nil⟩
  | cons f fs ih =>
    obtain ⟨q, w⟩ := f;rw [List.map_cons, List.nodup_cons] at h;rw [pput]
    split
    · rw [List.map_cons, List.nodup_cons]; exact h
    · rename_i z;rw [List.map_cons, List.nodup_cons];exact ⟨fun hx => (pput_keys _ hx).elim z h.1, ih h.2⟩
theorem pput_length {fs:List ((Int × Int) × LV)} {p:Int × Int} {l:LV} : (pput fs p l).length ≤ fs.length + 1 := by
  induction fs with
  | nil => simp [pput]
  | cons f fs ih =>
    obtain ⟨q, w⟩ := f;rw [pput]; split <;> simp
    exact ih
end
section
noncomputable abbrev tk2 (G:Gl) : HeapKind G.prog G.w (List Int) := tupleKind (intKind G.prog G.w)
section
variable {G:Gl} {k:Nat} {fl:Bool} {env:Env} {A:Around} {C:Cm} {Z:Zs} {m:Loc} {H:Hp} {s:Shared}
theorem Inv.notSys (I:Inv G k fl env A C Z m H s) {d:Addr} {o:LO} (h:H d = some o) : (d == sysModules) = false := by
  obtain ⟨ob, e⟩ := G.sysm;have h1 := I.st.base _ _ e;have h2 := I.st.dis d o h;have : d ≠ sysModules := fun q => by rw [q, h1] at h2; cases h2
  simpa using this
theorem Inv.pdict (I:Inv G k fl env A C Z m H s) {d:Addr} {fs:List ((Int × Int) × LV)} {ep:Nat} (h:H d = some (.pdict fs ep)) : ∃ xs, s.heap.DictOfH (tk2 G) d xs ∧ XsR C fs xs ∧ fs.length ≤ 100 ∧ (fs.map (·.1)).Nodup ∧
    ∃ o, s.heap.get? d = some o ∧ o.ExactDict ∧ o.data = .dict (List.toArray (xs.map (entryOfKey (tk2 G)))) ep := by
  obtain ⟨ob, e1, a1, a2, a3, nd, z, es, e2, pe⟩ := I.st.hp d _ h;obtain ⟨xs, x1, x2⟩ := XsR.of pe;have nd2 : (xs.map (·.1)).Nodup := by
    rw [x2.keys, show (fs.map fun x => kk x.1) = (fs.map (·.1)).map kk by rw [List.map_map]; rfl];exact List.Pairwise.map _ (fun a b h e => h (kk_inj.mp e)) nd
  subst x1;exact ⟨xs, ⟨ob, _, ep, e1, ⟨a1, a2, a3⟩, e2, rfl, x2.is I, nd2⟩, x2, z, nd, ob, e1, ⟨a1, a2, a3⟩, e2⟩
theorem Inv.pdict_back (I:Inv G k fl env A C Z m H s) {d:Addr} {o:LO} {fs:List ((Int × Int) × LV)} {xs:List (List Int × Addr × Value)} {h':Heap} {tk:Nat} (h:H d = some o) (hs:Heap.SameBut d s.heap h') (hx:h'.DictOfH (tk2 G) d xs) (x:XsR C fs xs) (nd:(fs.map (·.1)).Nodup) (z:fs.length ≤ 100) :
    ∃ ep, Inv G k fl env A C Z m (hset H d (.pdict fs ep)) { s with heap := h', toks := tk } := by
  obtain ⟨ob, es, ep, e1, ⟨a1, a2, a3⟩, e2, e3, _, _⟩ := hx;have pe : PEnt G.prog G.w C fs es.toList := by rw [e3]; exact x.to
  exact ⟨ep, I.upd h hs e1 (o' := .pdict fs ep) ⟨a1, a2, a3, nd, z, es.toList, by rw [e2], pe⟩⟩
end
section
variable {G:Gl} {k:Nat} {fl:Bool} {sc:Scope} {m:Loc} {H:Hp} {Q:Qv} {X:Xc}
theorem room2 {env:Env} {A:Around} {C:Cm} {Z:Zs} {s:Shared} (I:Inv G k fl env A C Z m H s) : (tk2 G).room A.in1 := by
  show A.units + 1 < cLine;have := I.room.2; unfold cLine; omega
theorem BO_inpd {d:Addr} {fs:List ((Int × Int) × LV)} {ep:Nat} {p:Int × Int} (hH:H d = some (.pdict fs ep)) (h:Q (.bool (fs.lookup p).isSome) H) : BO G (compareOp .In) (pv p) (.ref d) H Q X := fun k fl env A C Z m s va vb I h1 h2 => by
  cases h2;obtain ⟨xs, D, x, z, nd, _⟩ := I.pdict hH;obtain ⟨a, rfl, ht⟩ := I.pkey h1;refine wpAny_in_heap (room2 I) (k := kk p) ht (I.notSys hH) D ?_;have g := x.get (p := p);have e : (atKey xs (kk p)).isSome = (fs.lookup p).isSome := by
    cases q : fs.lookup p with
    | none => rw [q] at g; have g : atKey xs (kk p) = none := g; rw [g]; rfl
    | some l => rw [q] at g; obtain ⟨b, v, g, _⟩ := g; rw [g]; rfl
  rw [e];exact ⟨C, .bool _, H, Cle.refl C, I.toks, rfl, h⟩
theorem BO_itempd {d:Addr} {fs:List ((Int × Int) × LV)} {ep:Nat} {p:Int × Int} {lv:LV} (hH:H d = some (.pdict fs ep)) (hl:fs.lookup p = some lv) (h:Q lv H) : BO G getItem (.ref d) (pv p) H Q X := fun k fl env A C Z m s va vb I h1 h2 => by
  cases h1;obtain ⟨xs, D, x, z, nd, _⟩ := I.pdict hH;obtain ⟨a, rfl, ht⟩ := I.pkey h2;have g := x.get (p := p);rw [hl] at g;obtain ⟨b, v, g1, g2⟩ := g;exact wpAny_getItem_heap (room2 I) (k := kk p) ht D g1 ⟨C, lv, H, Cle.refl C, I.toks, g2, h⟩
theorem SO_pd {d:Addr} {fs:List ((Int × Int) × LV)} {ep:Nat} {p:Int × Int} {lv:LV} {N:Hp → Prop} (hH:H d = some (.pdict fs ep)) (z:fs.length < 100) (h:∀ ep', N (hset H d (.pdict (pput fs p lv) ep'))) : SO G setItem (.ref d) (pv p) lv H N X := fun k fl env A C Z m s va vb vc I h1 h2 h3 => by
  cases h1;obtain ⟨xs, D, x, z', nd, _⟩ := I.pdict hH;have h2' := h2;obtain ⟨a, rfl, ht⟩ := I.pkey h2;have D' := D;obtain ⟨_, _, _, _, _, _, _, _, nd2⟩ := D';refine wpAny_setItem_heap (room2 I) (k := kk p) ht D (fun h' q1 q2 => ?_) (by rw [x.length]; unfold sizeLine; omega);obtain ⟨ep', J⟩ := I.pdict_back (tk := s.toks + (tk2 G).draws (kk p)) hH q2 q1 (x.put h2' h3 nd2) (pput_nodup nd) (by have := @pput_length fs p lv; omega);exact ⟨C, _, Cle.refl C, J, h ep'⟩
theorem BO_notinpd {d:Addr} {fs:List ((Int × Int) × LV)} {ep:Nat} {p:Int × Int} (hH:H d = some (.pdict fs ep)) (h:Q (.bool (!(fs.lookup p).isSome)) H) : BO G (compareOp .NotIn) (pv p) (.ref d) H Q X := fun k fl env A C Z m s va vb I h1 h2 => by
  cases h2;obtain ⟨xs, D, x, z, nd, _⟩ := I.pdict hH;obtain ⟨a, rfl, ht⟩ := I.pkey h1;have g := x.get (p := p);have e : (atKey xs (kk p)).isSome = (fs.lookup p).isSome := by
    cases q : fs.lookup p with
    | none => rw [q] at g; have g : atKey xs (kk p) = none := g; rw [g]; rfl
    | some l => rw [q] at g; obtain ⟨b, v, g, _⟩ := g; rw [g]; rfl
  exact wpAny_notIn_heap (room2 I) (k := kk p) ht (I.notSys hH) D ⟨C, .bool _, H, Cle.refl C, I.toks, rfl, e ▸ h⟩
theorem CALL_get {d:Addr} {fs:List ((Int × Int) × LV)} {ep:Nat} {p:Int × Int} (hH:H d = some (.pdict fs ep)) (h:Q ((fs.lookup p).getD .none) H) : CALL G k (.builtin "dict.get") [.ref d, pv p] H Q X := fun fl env A C Z m s vals I hv => by
  obtain ⟨va, r, rfl, e1, h2⟩ := hv;obtain ⟨vb, r2, rfl, e2, h3⟩ := h2;cases h3; cases e1;obtain ⟨xs, D, x, z, nd, _⟩ := I.pdict hH;obtain ⟨a, rfl, ht⟩ := I.pkey e2;refine call_meetsIn F.slot_dict_get D.typeIs F.entry_dict_get (F.args_dict_get_2 _ _) (meetsH_dict_get (tk2 G) d a (I.notSys hH)) ⟨room2 I, kk p, xs, ht, D, ?_⟩;have g := x.get (p := p);cases q : fs.lookup p with
  | none =>
    rw [q] at g h;have g : atKey xs (kk p) = none := g;rw [g];exact ⟨C, .none, H, Cle.refl C, I.toks, rfl, h⟩
  | some l =>
    rw [q] at g h;obtain ⟨b, v, g, g2⟩ := g;rw [g];exact ⟨C, l, H, Cle.refl C, I.toks, g2, h⟩
theorem EV_Dict0 {pos:Pos} (h:∀ d, H d = none → Q (.ref d) (hset H d (.pdict [] 0))) : EV G k fl sc (.Dict [] [] pos) m H Q X := fun env A C Z s hs I =>
  wpAny_Dict_empty (by
    obtain ⟨f1, J⟩ := I.allocH (tk := s.toks) (h' := s.heap.push { cls := .type "dict", data := .dict #[] }) (o := .pdict [] 0) (Heap.get?_none_of_le (Nat.le_refl _)) (fun b o e => Heap.get?_push_of_some _ e) (Heap.get?_push_size _ rfl) ⟨rfl, rfl, rfl, List.nodup_nil, by simp, [], rfl, rfl⟩
    exact ⟨C, .ref _, _, Cle.refl C, J, rfl, h _ f1⟩)
end
end
section
section
variable {prog:Program} {w:World} {A:Around} {E:Value → Shared → Prop} {s:Shared} {it d:Addr} {i ep:Nat} {od:Obj} {es:Array DictEntry}
theorem keyB (hit:s.heap.IsKeyIter it d i es.size ep) (hod:s.heap.get? d = some od) (hdd:od.data = .dict es ep) {Q:Option Value → Shared → Prop}
    (hQ:∀ e, es[i]? = some e → ∀ h', h'.IsKeyIter it d (i + 1) es.size ep → Heap.SameBut it s.heap h' → Q (some e.key) { s with heap := h' })
    (h0:es[i]? = none → (∀ h', Heap.ExtBut it s.heap h' → Hd A h') ∧ ∀ h', Heap.ExtBut it s.heap h' → Q none { s with heap := h' }) : wpAny (model prog w) A (pyNext (.ref it)) Q E s := by
  obtain ⟨o, ho, hc, hd⟩ := id hit;refine pyNext_by hit.typeIs F.slot_dict_keyiterator_next F.entry_dict_keyiterator_next (F.args_dict_keyiterator_next_1 _) fun R X val stop => ?_;refine wpAny_bind (wpAny_pure (wpAny_bind (wpAny_bind (wpAny_bind (wpAny_typeNameOfWhole_keyiter hit.typeIs (wpAny_pure (wpAny_bind (wpAny_fieldsOf ho hd ?_))))))));rw [show Builtin.Dict_items.ownsTuple "dict_keyiterator" = false by decide];refine wp_ifn (c := (Value.ref d == Value.none) = true) Bool.noConfusion (wpAny_bind (wpAny_pure (wpAny_bind (wpAny_dictEntries hod hdd (wp_ifn (fun z => bne_self_ne z) (wpAny_bind (wpAny_pure (wpAny_bind (wpAny_dictEpoch hod hdd (wp_ifn (fun z => bne_self_ne z) (wpAny_pure ?_)))))))))));dsimp only;rw [if_neg (Int.not_lt.mpr (Int.natCast_nonneg i)), Int.toNat_natCast];cases he : es[i]? with
  | some e =>
    have hit' : Heap.IsKeyIter (Shared.heap { s with heap := s.heap.update it (Obj.mapFields (·.setIfInBounds 1 (rawInt ((i:Int) + 1)))) }) it d (i + 1) es.size ep :=
      ⟨_, Heap.get?_update_self _ ho (Obj.isFreed_of_fields (Obj.data_mapFields hd _)), (Obj.cls_mapFields ..).trans hc, Obj.data_mapFields hd _⟩
    refine wpAny_bind (wpAny_bind (wpAny_typeNameOfWhole_keyiter hit.typeIs (wpAny_pure (wpAny_bind (wpAny_isOneOf_keyiter hit.typeIs (wpAny_bind (wpAny_setField (x := rawInt ((i:Int) + 1)) ho hd (show 1 < 4 by decide) ?_)))))));exact wpAny_bind (wpAny_holding (wpAny_bind (wpAny_isOneOf_keyiter hit'.typeIs (wpAny_pure (wpAny_pure (val _ _ (hQ e he _ hit' (Heap.SameBut.update ..))))))))
  | none =>
    obtain ⟨hh, h0⟩ := h0 he;refine wpAny_bind (wpAny_bind (wpAny_typeNameOfWhole_keyiter hit.typeIs (wpAny_pure (wpAny_bind (wpAny_setField ho hd (show 0 < 4 by decide) ?_)))));exact raiseStop (A := A.in1) (hh _ (Heap.SameBut.update ..).extBut) fun e h' hT kp => stop e _ hT (h0 _ fun b o hb e => kp b o ((Heap.SameBut.update ..).extBut b o hb e))
theorem keyIter {Q:Value → Shared → Prop} (hs:(d == sysModules) = false) (ho:s.heap.get? d = some od) (hc:od.ExactDict) (hdat:od.data = .dict es ep)
    (hQ:Q (.ref s.heap.objs.size) { s with heap := s.heap.push { cls := .type "dict_keyiterator", data := .fields #[.ref d, .int 0 0, .int es.size 0, .int ep 0] } }) :
    wpAny (model prog w) A (pyIter (.ref d)) Q E s := by
  have hT : s.TypeIs (.ref d) "dict" := ⟨od, ho, hc.1⟩;refine wpAny_pyIter_slot hT F.slot_dict_iter (wpAny_call_entry F.slot_dict_iter hT F.entry_dict_iter ?_ (F.args_dict_iter_1 _));refine wpAny_bind (wpAny_bind (wpAny_notOrdered_dict hT (wpAny_pure (wpAny_bind (wpAny_pure (wpAny_bind (wp_ifn (c := (d == sysModules) = true) (by rw [hs]; exact Bool.noConfusion) (wpAny_pure (wpAny_bind (wpAny_dictEntries ho hdat (wpAny_bind (wpAny_dictEpoch ho hdat ?_))))))))))));exact wpAny_bind (wpAny_newObj_type (wpAny_pure ⟨_, rfl, "dict_keyiterator", _, ⟨_, Heap.get?_push_size _ rfl, rfl⟩, F.slot_dict_keyiterator_next.lookup, hQ⟩))
end
end
section
theorem XsR.at {C:Cm} {fs:List ((Int × Int) × LV)} : ∀ {xs:List (List Int × Addr × Value)} {i:Nat} {f:(Int × Int) × LV}, XsR C fs xs → fs[i]? = some f → ∃ a v, xs[i]? = some (kk f.1, a, v) ∧ VR C (pv f.1) (.ref a) := by
  induction fs with
  | nil => exact fun ww h => nomatch h
  | cons f fs ih =>
    intro xs i g h e;obtain ⟨a, v, r, rfl, h1, h2, h3⟩ := h;cases i with
    | zero => cases Option.some.inj e; exact ⟨a, v, rfl, h1⟩
    | succ i => exact ih (i := i) h3 e
theorem stpD_next {G:Gl} {k:Nat} {fl:Bool} {env:Env} {A:Around} {C:Cm} {Z:Zs} {m:Loc} {H:Hp} {s:Shared} {it d:Addr} {o:Obj} {i ep:Nat} {fs:List ((Int × Int) × LV)} {E:Value → Shared → Prop} (hh:G.hn = true) (I:Inv G k fl env A C Z m H s) (hg:s.heap.get? it = some o) (hc:o.cls = .type "dict_keyiterator") (hd:o.data = .fields #[.ref d, .int i 0, .int fs.length 0, .int ep 0]) (hC:C it = none) (hH:H it = none) (hH2:H d = some (.pdict fs ep)) :
    wpAny G.M A (pyNext (.ref it)) (NxPost G k fl env A C Z m H (fun _ (x:Addr × Nat × Nat × Nat) o => o.cls = .type "dict_keyiterator" ∧ o.data = .fields #[.ref x.1, .int x.2.1 0, .int x.2.2.1 0, .int x.2.2.2 0]) it ((fs[i]?).map fun f => (pv f.1, (d, i + 1, fs.length, ep)))) E s := by
  obtain ⟨xs, D, x, z, nd, od, e1, e2, e3⟩ := I.pdict hH2;have hsz : (List.toArray (xs.map (entryOfKey (tk2 G)))).size = fs.length := (List.length_map _).trans x.length;have hx : ∀ j, (List.toArray (xs.map (entryOfKey (tk2 G))))[j]? = (xs[j]?).map (entryOfKey (tk2 G)) := fun j => (List.getElem?_toArray ..).trans (List.getElem?_map ..);refine keyB (es := List.toArray (xs.map (entryOfKey (tk2 G)))) ⟨o, hg, hc, hsz.symm ▸ hd⟩ e1 e3 (fun e he h' hit' q => ?_) fun he => ⟨I.hdx hC, fun h' q => ?_⟩
  · obtain ⟨o', g1, g2, g3⟩ := hit';rw [hsz] at g3;obtain ⟨f, hv⟩ : ∃ f, fs[i]? = some f := ⟨_, List.getElem?_eq_getElem (hsz ▸ (Array.getElem?_eq_some_iff.mp he).1)⟩;obtain ⟨a, v, x1, x2⟩ := x.at hv;rw [hx i, x1] at he;obtain rfl := Option.some.inj he;rw [hv];exact ⟨_, C, o', rfl, Cle.refl C, I.alien (tk := s.toks) hg hd hC hH q, x2, hC, g1, g2, g3⟩
  · rw [List.getElem?_eq_none_iff.mpr (hsz ▸ Array.getElem?_eq_none_iff.mp he)];exact ⟨rfl, I.alienE (tk := s.toks) hg hd hC hH q⟩
noncomputable def stpD (G:Gl) : Stp G where
  κ := Addr × Nat × Nat × Nat
  isIt := fun ww x o => o.cls = .type "dict_keyiterator" ∧ o.data = .fields #[.ref x.1, .int x.2.1 0, .int x.2.2.1 0, .int x.2.2.2 0]
  nx := fun H x r => ∃ fs, H x.1 = some (.pdict fs x.2.2.2) ∧ fs.length = x.2.2.1 ∧ r = (fs[x.2.1]?).map fun f => (pv f.1, (x.1, x.2.1 + 1, x.2.2.1, x.2.2.2))
  fields := fun h => ⟨_, h.2⟩
  mono := fun ww h => h
  next := fun E hh I hg i1 hC hH h => by
    obtain ⟨fs, h1, h2, rfl⟩ := h;rw [← h2] at i1 ⊢;exact stpD_next hh I hg i1.1 i1.2 hC hH h1
  go := fun t E I hg i1 hC hH hn hv => go_plain hg i1.1 (by decide) ⟨I, _, hg, i1⟩
  self := by
    rintro A C s it ⟨d, i, n, ep⟩ o E Q hg ⟨hc, hd⟩ hQ;have hT : s.TypeIs (.ref it) "dict_keyiterator" := ⟨o, hg, hc⟩;refine wpAny_pyIter_slot hT F.slot_dict_keyiterator_iter (wpAny_call_entry F.slot_dict_keyiterator_iter hT F.entry_dict_keyiterator_iter ?_ (F.args_dict_keyiterator_iter_1 _));show wpAny _ _ (ret (.ref it)) _ _ s;exact wpAny_pure ⟨_, rfl, "dict_keyiterator", _, hT, F.slot_dict_keyiterator_next.lookup, hQ⟩
section
variable {G:Gl} {k:Nat} {fl:Bool} {sc:Scope} {m:Loc} {H:Hp} {X:Xc}
theorem IV_dict {d:Addr} {fs:List ((Int × Int) × LV)} {ep:Nat} {Q:(stpD G).κ → Hp → Prop} (hH:H d = some (.pdict fs ep)) (h:Q (d, 0, fs.length, ep) H) : IV G (stpD G) (.ref d) H Q X := fun k fl env A C Z m s v I hv => by
  cases hv;obtain ⟨xs, D, x, z, nd, od, e1, e2, e3⟩ := I.pdict hH;have hsz : (List.toArray (xs.map (entryOfKey (tk2 G)))).size = fs.length := by rw [List.size_toArray, List.length_map, x.length]
  refine keyIter (I.notSys hH) e1 e2 e3 ?_;have hn : s.heap.get? s.heap.objs.size = none := Heap.get?_none_of_le (Nat.le_refl _);obtain ⟨f1, f2, _⟩ := I.fresh hn;refine ⟨C, H, _, (d, 0, fs.length, ep), _, rfl, Cle.refl C, I.keeps (tk := s.toks) (fun b o e => Heap.get?_push_of_some _ e), f1, f2, Heap.get?_push_size _ rfl, ⟨rfl, ?_⟩, h⟩;show Data.fields _ = _;rw [hsz]; rfl
end
end
section
section
variable {G:Gl} {k:Nat} {fl:Bool} {sc:Scope} {m:Loc} {H:Hp} {Q:Qv} {X:Xc}
theorem IT_range {x:Str} {np pos:Pos} {e:Expr} {Q:(stpN G).κ → Hp → Prop} (hx:sc.names.lookup x = some .globalImplicit) (hg:GNm G x (.type "range")) (h:EV G k fl sc e m H (fun lv H1 => ∃ n : Int, lv = .int n ∧ 0 ≤ n ∧ n < 2 ^ 60 ∧ Q (0, n.toNat) H1) X)
    (hd:(x == ("__debug__" : Str)) = false := by decide +kernel) (hs':∀ env, starEach [e] env = [(false, eval e env)] := by intro _; with_unfolding_all rfl) : IT G k fl sc (stpN G) (.Call (.Name x np) [e] [] pos) m H Q X := fun env A C Z s hs I => by
  refine Call_Name (trees := [(false, eval e env)]) (by rw [hs']; rfl) (I.name (kind_of hs hx) hg hd ?_);refine PyProof.Rows.callWith_type rfl (evalArgs_any rfl (spliced_cons (wpAny_mono (h env A C Z s hs I) (fun v s1 h1 => spliced_nil ?_) fun ww ww x => x)));obtain ⟨C1, lv, H1, c1, I1, v1, n, rfl, n0, n1, q1⟩ := h1;obtain ⟨t, rfl⟩ := v1;refine call_range_1 ?_;refine wpAny_pyIter_range (IsRange.new s1.heap 0 n 1 s1.toks t (s1.toks + 1)) (small_one (by omega) (by omega) (by omega) (by omega)) ?_;have K1 := I1.keeps (h' := s1.heap.push { cls := .type "range", data := .fields #[.int 0 s1.toks, .int n t, .int 1 (s1.toks + 1)] }) (tk := s1.toks + 1 + 1) (fun b o e => Heap.get?_push_of_some _ e);have hn : (s1.heap.push { cls := .type "range", data := .fields #[.int 0 s1.toks, .int n t, .int 1 (s1.toks + 1)] }).get? (s1.heap.push { cls := .type "range", data := .fields #[.int 0 s1.toks, .int n t, .int 1 (s1.toks + 1)] }).objs.size = none := Heap.get?_none_of_le (Nat.le_refl _);obtain ⟨f1, f2, _⟩ := K1.fresh hn;refine ⟨C1, H1, _, (0, n.toNat), _, rfl, c1, K1.keeps (tk := s1.toks + 1 + 1) (fun b o e => Heap.get?_push_of_some _ e), f1, f2, Heap.get?_push_size _ rfl, ?_, q1⟩;show ({ cls := .type "range_iterator", data := .fields #[rawInt 0, rawInt (Builtin.Range.rangeSize 0 n 1), rawInt 1] } : Obj) = _;rw [rangeSize_one];have : (if (0:Int) < n then n - 0 else 0) = (n.toNat : Int) := by split <;> omega
  rw [this]
theorem EV_Neg {e:Expr} {p:Pos} (h:EV G k fl sc e m H (fun lv H1 => ∃ i : Int, lv = .int i ∧ Q (.int (-i)) H1) X) : EV G k fl sc (.UnaryOp .USub e p) m H Q X := fun env A C Z s hs I =>
  wpAny_UnaryOp (wpAny_mono (h env A C Z s hs I) (fun v s1 h1 => by
    obtain ⟨C1, lv, H1, c1, I1, v1, i, rfl, q1⟩ := h1;obtain ⟨t, rfl⟩ := v1
    exact P.neg_int ⟨C1, .int (-i), H1, c1, I1.toks, ⟨_, rfl⟩, q1⟩) fun ww ww x => x)
inductive OPost (G:Gl) (k:Nat) (fl:Bool) (env:Env) (A:Around) (C:Cm) (Z:Zs) (m:Loc) (Q:Option Int → Hp → Prop) (v:Value) (s':Shared) : Prop
  | mk (C':Cm) (H':Hp) (o:Option Int) (c:Cle C C') (I:Inv G k fl env A C' Z m H' s') (p:IsPart v o) (q:Q o H')
noncomputable def EP (G:Gl) (k:Nat) (fl:Bool) (sc:Scope) (p:Option Expr) (m:Loc) (H:Hp) (Q:Option Int → Hp → Prop) (X:Xc) : Prop :=
  ∀ env A C Z s, env.scope = sc → Inv G k fl env A C Z m H s → wpAny G.M A (evalPart p env) (OPost G k fl env A C Z m Q) (XPost G k fl env A C Z m X) s
theorem EP_none {Q:Option Int → Hp → Prop} (h:Q none H) : EP G k fl sc none m H Q X := fun env A C Z s hs I => wpAny_pure ⟨C, H, none, Cle.refl C, I, .none, h⟩
theorem EP_some {e:Expr} {Q:Option Int → Hp → Prop} (h:EV G k fl sc e m H (fun lv H1 => ∃ i : Int, lv = .int i ∧ Q (some i) H1) X) : EP G k fl sc (some e) m H Q X := fun env A C Z s hs I =>
  wpAny_mono (h env A C Z s hs I) (fun v s1 h1 => by
    obtain ⟨C1, lv, H1, c1, I1, v1, i, rfl, q1⟩ := h1;obtain ⟨t, rfl⟩ := v1
    exact ⟨C1, H1, some i, c1, I1, .int i t, q1⟩) fun ww ww x => x
noncomputable def pickL (vs:List LV) (lo hi st:Option Int) : List LV := (sliceRange (sliceBounds lo hi st vs.length).1 (sliceBounds lo hi st vs.length).2.1 (sliceBounds lo hi st vs.length).2.2).filterMap (vs[·]?)
theorem pickL_ok {C:Cm} {vs:List LV} {us:List Value} (h:VRs C vs us) (lo hi st:Option Int) : VRs C (pickL vs lo hi st) (slicePick us.toArray lo hi st).toList := by
  unfold pickL slicePick;rw [List.size_toArray, h.length];generalize sliceRange (sliceBounds lo hi st vs.length).1 (sliceBounds lo hi st vs.length).2.1 (sliceBounds lo hi st vs.length).2.2 = l
  induction l with
  | nil => rfl
  | cons i l ih =>
    rw [List.filterMap_cons, List.filterMap_cons];cases hv : vs[i]? with
    | none =>
      have : us.toArray[i]? = none := by rw [List.getElem?_toArray, List.getElem?_eq_none_iff, h.length]; exact List.getElem?_eq_none_iff.mp hv
      rw [this]; exact ih
    | some lv =>
      obtain ⟨v, v1, v2⟩ := h.get hv;have : us.toArray[i]? = some v := by rw [List.getElem?_toArray]; exact v1
      rw [this]; exact ⟨v, _, rfl, v2, ih⟩
end
inductive LSl (H:Hp) (a:LV) (l u t:Option Int) (Q:Qv) : Prop
  | mk (vs:List LV) (h:LstOf H a vs) (hl:vs.length ≤ 4096) (ht:t ≠ some 0) (hp:(pickL vs l u t).length ≤ 4096) (hs:SubT H a) (q:∀ b, H b = none → Q (.ref b) (hset H b (.lst (pickL vs l u t))))
section
variable {G:Gl} {k:Nat} {fl:Bool} {sc:Scope} {m:Loc} {H:Hp} {Q:Qv} {X:Xc}
theorem EV_Slice {v:Expr} {lo hi st:Option Expr} {p pos:Pos}
    (h:EV G k fl sc v m H (fun a H1 => EP G k fl sc lo m H1 (fun l H2 => EP G k fl sc hi m H2 (fun u H3 => EP G k fl sc st m H3 (fun t H4 => LSl H4 a l u t Q) X) X) X) X) :
    EV G k fl sc (.Subscript v (.Slice lo hi st p) pos) m H Q X := fun env A C Z s hs I =>
  Subscript_ (wpAny_mono (h env A C Z s hs I) (fun va s1 h1 => by
    obtain ⟨C1, a, H1, c1, I1, v1, q1⟩ := h1;refine wpAny_Slice (wpAny_mono (q1 env A C1 Z s1 hs I1) (fun vl s2 h2 => ?_) fun ww ww x => XPost.up c1 x);obtain ⟨C2, H2, l, c2, I2, p2, q2⟩ := h2;have c2' := c1.trans c2;refine wpAny_mono (q2 env A C2 Z s2 hs I2) (fun vu s3 h3 => ?_) fun ww ww x => XPost.up c2' x;obtain ⟨C3, H3, u, c3, I3, p3, q3⟩ := h3;have c3' := c2'.trans c3;refine wpAny_mono (q3 env A C3 Z s3 hs I3) (fun vt s4 h4 => ?_) fun ww ww x => XPost.up c3' x;obtain ⟨C4, H4, t, c4, I4, p4, vs, l1, z1, t0, z2, t1, q4⟩ := h4;have v4 := v1.mono ((c2.trans c3).trans c4);have I5 := I4.keeps (h' := s4.heap.push { cls := .type "slice", data := .fields #[vl, vu, vt] }) (tk := s4.toks) (fun b o e => Heap.get?_push_of_some _ e);obtain ⟨T, id, hT, hl⟩ := t1.at I5 v4;obtain ⟨b, us, rfl, b1, b2⟩ := l1.at I5 v4;have hsl : subscripted (.Slice lo hi st p) false (.ref b) (.ref s4.heap.objs.size) = operate (if st.isNone then [.ref s4.heap.objs.size, .ref b] else [.ref b, .ref s4.heap.objs.size]) (getItem (.ref b) (.ref s4.heap.objs.size)) := by cases st <;> rfl
    obtain ⟨f1, J⟩ := I5.newList (tk := s4.toks) (pickL_ok b2 l u t) z2;refine tail_any hT hl (wpAny_getItem_list_slice b1 (Heap.IsSliceOf.new ..) p2 p3 p4 t0 ⟨C4, .ref _, _, c3'.trans c4, J, rfl, q4 _ f1⟩ ?_) hsl
    exact Nat.le_trans (Nat.le_of_eq b2.length) (Nat.le_trans z1 (sizeLine_eq ▸ (by decide:4096 ≤ 16777216)))) fun ww ww x => x)
end
end
section
noncomputable abbrev sk (G:Gl) : KeyKind G.prog G.w Str := strKind G.prog G.w
section
variable {G:Gl} {k:Nat} {fl:Bool} {sc:Scope} {m:Loc} {H:Hp} {Q:Qv} {X:Xc}
end
end
section
noncomputable def SV (C:Cm) : List (Str × LV) → List (Str × Value) → Prop
  | [], kvs => kvs = []
  | (x, l) :: fs, kvs => ∃ v r, kvs = (x, v) :: r ∧ VR C l v ∧ SV C fs r
theorem isStr_sk {G:Gl} (x:Str) (t:Tok) : (sk G).is x (.str x t) = true := by unfold sk PySem.strKind; exact decide_eq_true rfl
theorem SV.of {G:Gl} {C:Cm} {fs:List (Str × LV)} : ∀ {es:List DictEntry}, SEnt G.w C fs es → ∃ kvs, Pairs (sk G) es kvs ∧ SV C fs kvs ∧ ∀ e, e ∈ es → ∃ k, (sk G).is k e.key = true ∧ e.hash = (sk G).hash k := by
  induction fs with
  | nil => intro es h; cases h; exact ⟨[], .nil, rfl, fun e he => nomatch he⟩
  | cons f fs ih =>
    intro es h;obtain ⟨e, r, rfl, h1, ⟨t, h2⟩, h3, h4⟩ := h;obtain ⟨kvs, p1, p2, p3⟩ := ih h4;have hk : (sk G).is f.1 e.key = true := by rw [h2]; exact isStr_sk f.1 t
    exact ⟨(f.1, e.val) :: kvs, .cons hk rfl p1, ⟨e.val, kvs, rfl, h3, p2⟩, fun e' he => (List.mem_cons.mp he).elim (fun q => ⟨f.1, by rw [q]; exact hk, by rw [q]; exact h1⟩) (p3 e')⟩
theorem SV.keys {C:Cm} {fs:List (Str × LV)} : ∀ {kvs:List (Str × Value)}, SV C fs kvs → kvs.map (·.1) = fs.map (·.1) := by
  induction fs with
  | nil => exact fun h => h ▸ rfl
  | cons f fs ih =>
    intro kvs h;obtain ⟨v, r, rfl, h1, h2⟩ := h;exact congrArg (List.cons f.1) (ih h2)
theorem SV.val {C:Cm} {x:Str} {l:LV} {fs:List (Str × LV)} : ∀ {kvs:List (Str × Value)}, SV C fs kvs → fs.lookup x = some l → ∃ v, valueAt kvs x = some v ∧ VR C l v := by
  induction fs with
  | nil => exact fun ww e => nomatch e
  | cons f fs ih =>
    intro kvs h e;obtain ⟨v, r, rfl, h1, h2⟩ := h;unfold valueAt at ih ⊢;rw [List.find?_cons]
    by_cases z : x = f.1
    · rw [decide_eq_true z.symm];cases lu_same.symm.trans (z ▸ e);exact ⟨v, rfl, h1⟩
    · rw [decide_eq_false (Ne.symm z)];exact ih h2 ((lu_ne z).symm.trans e)
section
variable {G:Gl} {k:Nat} {fl:Bool} {sc:Scope} {m:Loc} {H:Hp} {Q:Qv} {X:Xc}
end
end
end Go
end
section
namespace Go
open PySem PySem.W PyProof.Rows
section
noncomputable def nthS : List Stmt → Nat → Stmt
  | [], _ => .Pass ⟨0, 0, 0, 0⟩
  | x :: _, 0 => x
  | _ :: r, n + 1 => nthS r n
noncomputable def fbody : Stmt → List Stmt
  | .FunctionDef _ _ b _ _ _ _ _ _ _ => b
  | .ClassDef _ _ _ b _ _ _ _ _ _ _ => b
  | _ => []
noncomputable def fscope : Stmt → Scope
  | .FunctionDef _ _ _ _ _ _ s _ _ _ => s
  | .ClassDef _ _ _ _ _ _ s _ _ _ _ => s
  | _ => { kind := .module, names := [], isGenerator := false, isCoroutine := false }
noncomputable def fname : Stmt → Str
  | .FunctionDef n _ _ _ _ _ _ _ _ _ => n
  | .ClassDef _ _ _ _ _ _ _ _ _ _ _ => ofString ""
  | _ => ofString ""
noncomputable def fparams : Stmt → Arguments
  | .FunctionDef _ p _ _ _ _ _ _ _ _ => p
  | .ClassDef _ _ _ _ _ _ _ _ _ _ _ => { posonlyargs := [], args := [], vararg := none, kwonlyargs := [], kw_defaults := [], kwarg := none, defaults := [] }
  | _ => { posonlyargs := [], args := [], vararg := none, kwonlyargs := [], kw_defaults := [], kwarg := none, defaults := [] }
theorem zip_lookup_some {ns:List Str} : ∀ {vals:List Value}, vals.length = ns.length → ∀ n, n ∈ ns → ¬ (((ns.zip vals).lookup n).isNone = true) := by
  induction ns with
  | nil => exact fun ww ww hn => nomatch hn
  | cons x r ih =>
    intro vals hl n hn;cases vals with
    | nil => cases hl
    | cons v vs =>
      rw [List.zip_cons_cons, List.lookup_cons];cases e : n == x with
      | true => exact Bool.noConfusion
      | false =>
        rcases List.mem_cons.mp hn with z | z
        · exact absurd (beq_iff_eq.mpr z) (e ▸ Bool.noConfusion)
        · exact ih (Nat.succ.inj hl) n z
theorem zip_fm (L:List (Str × Value)) {ns:List Str} : ∀ {vals:List Value}, vals.length = ns.length → (∀ n v, (n, v) ∈ ns.zip vals → L.lookup n = some v) → ns.filterMap (fun n => (L.lookup n).map (n, ·)) = ns.zip vals := by
  induction ns with
  | nil => exact fun ww ww => rfl
  | cons x r ih =>
    intro vals hl h;cases vals with
    | nil => cases hl
    | cons v vs =>
      rw [List.zip_cons_cons] at h ⊢;rw [List.filterMap_cons, h x v List.mem_cons_self];exact congrArg (List.cons (x, v)) (ih (Nat.succ.inj hl) fun n w hm => h n w (List.mem_cons_of_mem _ hm))
theorem zip_filterMap {ns:List Str} (nd:ns.Nodup) {vals:List Value} (hl:vals.length = ns.length) : ns.filterMap (fun n => ((ns.zip vals).lookup n).map (n, ·)) = ns.zip vals := by
  refine zip_fm _ hl fun n v hm => ?_;obtain ⟨i, hi⟩ := List.getElem?_of_mem hm;exact lookup_nodup ((List.map_fst_zip (Nat.le_of_eq hl.symm)).symm ▸ nd) hi
theorem bind_plain {fd:FuncData} {vals:List Value} (h1:fd.params.posonlyargs = []) (h2:fd.params.vararg = none) (h3:fd.params.kwonlyargs = []) (h4:fd.params.kwarg = none) (h5:fd.defaults = .none)
    (nd:(fd.params.args.map (·.arg)).Nodup) (hl:vals.length = fd.params.args.length) : bindArgs fd ⟨vals, []⟩ = pure ((fd.params.args.map (·.arg)).zip vals) := by
  obtain ⟨nm, qn, ⟨po, as, va, ko, kd, kwa, df⟩, bo, sc, gl, cl, dfs⟩ := fd;cases h1; cases h2; cases h3; cases h4; cases h5;have hl' : vals.length = (as.map (·.arg)).length := hl.trans (List.length_map _).symm;have e3 := zip_filterMap nd hl';have e1 : ∀ n, ¬ (!((((as.map (·.arg)).take n).filter (fun n => (((as.map (·.arg)).zip vals).lookup n).isNone)).isEmpty)) = true := fun n => by
    rw [List.filter_eq_nil_iff.mpr fun x hx => zip_lookup_some hl' x (List.mem_of_mem_take hx)];exact Bool.noConfusion
  unfold bindArgs;dsimp only [List.map_nil, List.nil_append];generalize as.map (·.arg) = ns at *
  refine Eq.trans (if_neg fun z => Nat.lt_irrefl _ (hl' ▸ of_decide_eq_true ((Bool.and_eq_true ..).mp z).1)) ?_;refine Eq.trans (if_neg ?_) ?_
  · exact e1 _
  show (forIn ((ns.drop _).zip ((none.getD #[]).toList.drop _)) _ _ >>= _) = _;rw [show ((none.getD (#[] : Array Value)).toList) = [] from rfl];rw [List.drop_nil, List.zip_nil_right];show (pure (List.filterMap (fun n => ((ns.zip vals).lookup n).map (n, ·)) (ns ++ [])) : Sem (List (Str × Value))) = _;rw [List.append_nil, e3]
noncomputable def IsFn (G:Gl) (f:Addr) (st:Stmt) : Prop := ∃ oc od osl qual kV doc pm an cdv ct,
  G.K.lookup f = some ⟨oc, od, .func (fnOf (fname st) qual (fparams st) (fbody st) (fscope st) .none kV doc pm an cdv ct), osl⟩ ∧ codeIn G.K cdv qual = true
noncomputable def Fn (G:Gl) (x:Str) (f:Addr) (st:Stmt) : Prop := GNm G x (.ref f) ∧ keepIn G.K (.ref f) = true ∧ IsFn G f st
noncomputable def Meth (G:Gl) (c:Addr) (x:Str) (f:Addr) (st:Stmt) : Prop := findIn G.K (.ref c) x = some (some (.ref f)) ∧ typeIn G.K (.ref f) = some (.type "function") ∧ keepIn G.K (.ref f) = true ∧ IsFn G f st
noncomputable def FnOk (st:Stmt) (N:Nat) : Bool :=
  (fparams st).posonlyargs.isEmpty && (fparams st).vararg.isNone && (fparams st).kwonlyargs.isEmpty && (fparams st).kwarg.isNone && decide (((fparams st).args.map (·.arg)).Nodup) &&
  decide (((fscope st).names.take N).map (·.1) = (fparams st).args.map (·.arg)) && ((fparams st).args.length == N) && (((fscope st).names.take N).all fun x => x.2 == .local || x.2 == .cell) &&
  decide (((fscope st).names.map (·.1)).Nodup) && (!(fscope st).isCoroutine) && (!(fscope st).isGenerator) && ((fscope st).kind == .function)
theorem CODE_fn {G:Gl} {k:Nat} {f:Addr} {st:Stmt} {as:List LV} {H:Hp} {Q:Qv} {X:Xc} (F:IsFn G f st) (N:Nat) (hN:as.length = N) (hok:FnOk st N = true)
    (h:EXS G k (fscope st) (fbody st) (frame0 (fscope st).names as) H ⟨fun ww H => Q .none H, Q, fun ww ww => False, fun ww ww => False, fun c ww H => X c H⟩) : CODE G (k + 1) (.ref f) as H Q X := by
  obtain ⟨oc, od, osl, qual, kV, doc, pm, an, cdv, ct, h1, h2⟩ := F;subst hN;simp only [FnOk, Bool.and_eq_true, List.isEmpty_iff, Option.isNone_iff_eq_none, decide_eq_true_eq, beq_iff_eq, Bool.not_eq_true'] at hok;obtain ⟨⟨⟨⟨⟨⟨⟨⟨⟨⟨⟨o1, o2⟩, o3⟩, o4⟩, o5⟩, o6⟩, o7⟩, o8⟩, o9⟩, o10⟩, o11⟩, o12⟩ := hok;have hk : (fscope st).kind = .function := by revert o12; cases (fscope st).kind <;> simp <;> decide
  exact CODE_def h1 h2 (fun vals hv => bind_plain o1 o2 o3 o4 rfl o5 (hv.trans o7.symm)) o6 (by rw [List.length_map]; exact o7) o8 o9 o10 o11 hk h
theorem ne_of {H:Hp} {a b:Addr} {o:LO} (ha:H a = none) (hb:H b = some o) : b ≠ a := fun e => by subst e; rw [ha] at hb; cases hb
noncomputable def Ext (H H':Hp) : Prop := ∀ a o, H a = some o → H' a = some o
theorem Ext.refl (H:Hp) : Ext H H := fun ww ww e => e
theorem Ext.trans {H H' H'':Hp} (x:Ext H H') (y:Ext H' H'') : Ext H H'' := fun a o e => y a o (x a o e)
theorem Ext.set {H H':Hp} {a:Addr} {o:LO} (x:Ext H H') (h:H a = none) : Ext H (hset H' a o) := fun b p e => by
  rw [hset_ne _ _ (ne_of h e)]; exact x b p e
theorem Ext.none {H H':Hp} (x:Ext H H') {a:Addr} (h:H' a = .none) : H a = .none := by
  cases q : H a with
  | none => rfl
  | some o => rw [x a o q] at h; cases h
end
section
section
variable {G:Gl} {k:Nat} {fl:Bool} {sc:Scope} {m:Loc} {H:Hp} {Q:Qv} {X:Xc}
theorem OfT_lst {a:Addr} {vs:List LV} (h:H a = some (.lst vs)) : OfT H "list" (.ref a) := by show (H a).elim False _; rw [h]; exact rfl
theorem OfT_pset {a:Addr} {vs:List (Int × Int)} (h:H a = some (.pset vs)) : OfT H "set" (.ref a) := by show (H a).elim False _; rw [h]; exact rfl
theorem OfT_pd {a:Addr} {vs:List ((Int × Int) × LV)} {ep:Nat} (h:H a = some (.pdict vs ep)) : OfT H "dict" (.ref a) := by show (H a).elim False _; rw [h]; exact rfl
theorem SubT_lst {a:Addr} {vs:List LV} (h:H a = some (.lst vs)) : SubT H (.ref a) := by show (H a).elim False _; rw [h]; exact trivial
theorem SubT_pd {a:Addr} {vs:List ((Int × Int) × LV)} {ep:Nat} (h:H a = some (.pdict vs ep)) : SubT H (.ref a) := by show (H a).elim False _; rw [h]; exact trivial
theorem truth_lst {a:Addr} {vs:List LV} (h:H a = some (.lst vs)) : truthOf H (.ref a) = some (!vs.isEmpty) := by show truthR (H a) = _; rw [h]; rfl
theorem truth_pset {a:Addr} {vs:List (Int × Int)} (h:H a = some (.pset vs)) : truthOf H (.ref a) = some (!vs.isEmpty) := by show truthR (H a) = _; rw [h]; rfl
variable {a b:Int}
theorem BO_inset2 {d:Addr} {ps:List (Int × Int)} (hH:H d = some (.pset ps)) (h:Q (.bool (decide ((a, b) ∈ ps))) H) : BO G (compareOp .In) (.tup [.int a, .int b]) (.ref d) H Q X := BO_inset (p := (a, b)) hH h
theorem BO_notinset2 {d:Addr} {ps:List (Int × Int)} (hH:H d = some (.pset ps)) (h:Q (.bool (!decide ((a, b) ∈ ps))) H) : BO G (compareOp .NotIn) (.tup [.int a, .int b]) (.ref d) H Q X := BO_notinset (p := (a, b)) hH h
theorem CALL_add2 {d:Addr} {ps:List (Int × Int)} (hH:H d = some (.pset ps)) (sz:ps.length < 60) (h:Q .none (hset H d (.pset (if (a, b) ∈ ps then ps else (a, b) :: ps)))) : CALL G k (.builtin "set.add") [.ref d, .tup [.int a, .int b]] H Q X := CALL_set_add (p := (a, b)) hH sz h
end
theorem EXS_at {G:Gl} {k:Nat} {sc:Scope} {b:List Stmt} {m m':Loc} {H:Hp} {P:PQ} (e:m = m') (h:EXS G k sc b m' H P) : EXS G k sc b m H P := e ▸ h
end
section
section
variable {G:Gl} {k:Nat} {sc:Scope} {m:Loc} {H:Hp} {P:PQ}
theorem EXS_mono {b:List Stmt} {m:Loc} {H:Hp} {P P':PQ} (h:EXS G k sc b m H P) (hn:∀ m' H', P.n m' H' → P'.n m' H') (hr:∀ v H', P.r v H' → P'.r v H') (hb:∀ m' H', P.b m' H' → P'.b m' H') (hc:∀ m' H', P.c m' H' → P'.c m' H') (hx:∀ c m' H', P.x c m' H' → P'.x c m' H') : EXS G k sc b m H P' := by
  intro env A C Z s hs I;refine wpAny_mono (h env A C Z s hs I) (fun f s' hf => ?_) (fun e s' he => ?_)
  · obtain ⟨C', m', H', h1, h2, h3⟩ := hf;refine ⟨C', m', H', h1, h2, ?_⟩;cases f with
    | next => exact hn _ _ h3
    | brk => exact hb _ _ h3
    | cont => exact hc _ _ h3
    | ret v => obtain ⟨lv, h4, h5⟩ := h3; exact ⟨lv, h4, hr _ _ h5⟩
  · obtain ⟨C', cls, m', H', h1, h2, h3⟩ := he;exact ⟨C', cls, m', H', h1, h2, hx _ _ _ h3⟩
theorem AS.mono {fl:Bool} {t:Expr} {lv:LV} {N N':Loc → Hp → Prop} {X:Xk → Loc → Hp → Prop} (h:AS G k fl sc t lv m H N X) (hn:∀ m' H', N m' H' → N' m' H') : AS G k fl sc t lv m H N' X :=
  fun env A C Z s v hs I hv => wpAny_mono (h env A C Z s v hs I hv) (fun _ _ ⟨C', m', H', a, b, c⟩ => ⟨C', m', H', a, b, hn _ _ c⟩) fun ww ww x => x
theorem IT.mono {fl:Bool} {S:Stp G} {e:Expr} {Q Q':S.κ → Hp → Prop} {X:Xc} (h:IT G k fl sc S e m H Q X) (hQ:∀ x H', Q x H' → Q' x H') : IT G k fl sc S e m H Q' X := by
  intro env A C Z s hs I;refine wpAny_mono (h env A C Z s hs I) (fun x s1 h1 => ?_) fun ww ww x => x;refine wpAny_mono h1 (fun r s2 h2 => ?_) fun ww ww x => x;obtain ⟨C', H', it, x, o, a, b, c, d, e, f, g, h⟩ := h2;exact ⟨C', H', it, x, o, a, b, c, d, e, f, g, hQ _ _ h⟩
noncomputable def Ys {G:Gl} (S:Stp G) (K:Hp → Prop) : S.κ → List LV → Prop
  | x, [] => ∀ H, K H → S.nx H x none
  | x, v :: vs => ∃ x', (∀ H, K H → S.nx H x (some (v, x'))) ∧ Ys S K x' vs
theorem ys_list {a:Addr} {vs:List LV} : ∀ {ws:List LV} {i:Nat}, vs.drop i = ws → Ys (stpL G) (fun H => H a = some (.lst vs)) (a, i) ws
  | [], i, h => fun H hH => ⟨vs, hH, by rw [List.getElem?_eq_none (List.drop_eq_nil_iff.mp h)]; rfl⟩
  | w :: ws, i, h => by
    have e : vs[i]? = some w := by rw [show vs[i]? = (vs.drop i)[0]? by simp, h]; rfl
    refine ⟨(a, i + 1), fun H hH => ⟨vs, hH, by rw [e]; rfl⟩, ys_list ?_⟩;rw [← List.drop_drop, h]; rfl
theorem ys_set {a:Addr} {W:List (Int × Int)} {ob:Obj} : ∀ {ws:List (Int × Int)} {i:Nat}, W.drop i = ws → Ys (stpP G) (fun H => H a = some (.psetx a W ob)) (a, ob, i) (ws.map pv)
  | [], i, h => fun H hH => ⟨W, hH, by rw [List.getElem?_eq_none (List.drop_eq_nil_iff.mp h)]; rfl⟩
  | w :: ws, i, h => by
    have e : W[i]? = some w := by rw [show W[i]? = (W.drop i)[0]? by simp, h]; rfl
    refine ⟨(a, ob, i + 1), fun H hH => ⟨W, hH, by rw [e]; rfl⟩, ys_set ?_⟩;rw [← List.drop_drop, h]; rfl
theorem ys_dict {d:Addr} {fs:List ((Int × Int) × LV)} {ep:Nat} : ∀ {ws:List ((Int × Int) × LV)} {i:Nat}, fs.drop i = ws → Ys (stpD G) (fun H => H d = some (.pdict fs ep)) (d, i, fs.length, ep) (ws.map fun f => pv f.1)
  | [], i, h => fun H hH => ⟨fs, hH, rfl, by rw [List.getElem?_eq_none (List.drop_eq_nil_iff.mp h)]; rfl⟩
  | w :: ws, i, h => by
    have e : fs[i]? = some w := by rw [show fs[i]? = (fs.drop i)[0]? by simp, h]; rfl
    refine ⟨(d, i + 1, fs.length, ep), fun H hH => ⟨fs, hH, rfl, by rw [e]; rfl⟩, ys_dict ?_⟩;rw [← List.drop_drop, h]; rfl
theorem ys_range : ∀ {n:Nat} {a:Int}, Ys (stpN G) (fun H => True) (a, n) ((List.range n).map fun (i:Nat) => LV.int (a + i))
  | 0, a => fun H hH => rfl
  | n + 1, a => by
    rw [List.range_succ_eq_map, List.map_cons, List.map_map];refine ⟨(a + 1, n), fun H hH => ?_, ?_⟩
    · show _ = some _; simp; rfl
    · have := ys_range (n := n) (a := a + 1);refine (congrArg (Ys (stpN G) (fun H => True) (a + 1, n)) ?_).mp this;apply List.map_congr_left; intro i _; simp [Function.comp]; omega
end
end
section
noncomputable def Sim : Loc → Loc → Prop
  | [], m => m = []
  | (x, none) :: r, m => ∃ o r', m = (x, o) :: r' ∧ Sim r r'
  | (x, some v) :: r, m => ∃ r', m = (x, some v) :: r' ∧ Sim r r'
theorem Sim.refl : ∀ (m:Loc), Sim m m
  | [] => rfl
  | (_, none) :: r => ⟨_, _, rfl, Sim.refl r⟩
  | (_, some _) :: r => ⟨_, rfl, Sim.refl r⟩
section
variable {G:Gl} {k:Nat} {fl:Bool} {sc:Scope} {m:Loc} {H:Hp} {X:Xc}
theorem TSs.mono {ifs:List Expr} {Q Q':Bool → Hp → Prop} (h:TSs G k sc ifs m H Q) (hQ:∀ b H', Q b H' → Q' b H') : TSs G k sc ifs m H Q' :=
  fun env A C Z s hs I => wpAny_mono (h env A C Z s hs I) (fun _ _ ⟨C', H', a, b, c⟩ => ⟨C', H', a, b, hQ _ _ c⟩) fun ww ww x => x
end
end
end Go
end
section
namespace Go
open PySem
section
noncomputable abbrev Pt := Int × Int
noncomputable def On (n:Nat) (p:Pt) : Prop := 0 ≤ p.1 ∧ p.1 < n ∧ 0 ≤ p.2 ∧ p.2 < n
instance (n:Nat) (p:Pt) : Decidable (On n p) := by unfold On; infer_instance
noncomputable def nb4 (p:Pt) : List Pt := [(p.1 - 1, p.2), (p.1 + 1, p.2), (p.1, p.2 - 1), (p.1, p.2 + 1)]
noncomputable def nbs (n:Nat) (p:Pt) : List Pt := (nb4 p).filter fun q => decide (On n q)
noncomputable abbrev Grd := Pt → Option Str
theorem mem_nb4 {p q:Pt} : q ∈ nb4 p ↔ (q.1 = p.1 - 1 ∧ q.2 = p.2) ∨ (q.1 = p.1 + 1 ∧ q.2 = p.2) ∨ (q.1 = p.1 ∧ q.2 = p.2 - 1) ∨ (q.1 = p.1 ∧ q.2 = p.2 + 1) := by
  have e : ∀ {x:Pt}, q = x ↔ q.1 = x.1 ∧ q.2 = x.2 := Prod.ext_iff;exact List.mem_cons.trans (or_congr e (List.mem_cons.trans (or_congr e (List.mem_cons.trans (or_congr e (List.mem_singleton.trans e))))))
theorem nb4_symm {p q:Pt} (h:q ∈ nb4 p) : p ∈ nb4 q := by
  rw [mem_nb4] at h ⊢;rcases h with ⟨a, b⟩ | ⟨a, b⟩ | ⟨a, b⟩ | ⟨a, b⟩
  · exact .inr (.inl ⟨a ▸ (Int.sub_add_cancel ..).symm, b.symm⟩)
  · exact .inl ⟨a ▸ (Int.add_sub_cancel ..).symm, b.symm⟩
  · exact .inr (.inr (.inr ⟨a.symm, b ▸ (Int.sub_add_cancel ..).symm⟩))
  · exact .inr (.inr (.inl ⟨a.symm, b ▸ (Int.add_sub_cancel ..).symm⟩))
theorem mem_nbs {n:Nat} {p q:Pt} : q ∈ nbs n p ↔ q ∈ nb4 p ∧ On n q := List.mem_filter.trans (and_congr_right fun ww => decide_eq_true_iff)
theorem nbs_symm {n:Nat} {p q:Pt} (hp:On n p) (h:q ∈ nbs n p) : p ∈ nbs n q := by
  rw [mem_nbs] at h ⊢; exact ⟨nb4_symm h.1, hp⟩
noncomputable def ptsN (n i:Nat) : List Pt := (List.range i).flatMap fun (r:Nat) => (List.range n).map fun (c:Nat) => ((r:Int), (c:Int))
theorem ptsN_succ (n i:Nat) : ptsN n (i + 1) = ptsN n i ++ (List.range n).map fun (c:Nat) => ((i:Int), (c:Int)) := by
  unfold ptsN;rw [List.range_succ, List.flatMap_append, List.flatMap_cons, List.flatMap_nil, List.append_nil]
theorem ptsN_len (n i:Nat) : (ptsN n i).length = i * n := by
  induction i with
  | zero => exact (Nat.zero_mul n).symm
  | succ i ih => rw [ptsN_succ, List.length_append, ih, List.length_map, List.length_range, Nat.succ_mul]
theorem mem_ptsN {n i:Nat} {p:Pt} : p ∈ ptsN n i ↔ 0 ≤ p.1 ∧ p.1 < i ∧ 0 ≤ p.2 ∧ p.2 < n := by
  obtain ⟨a, b⟩ := p;constructor
  · intro h;obtain ⟨r, hr, h⟩ := List.mem_flatMap.mp h;obtain ⟨c, hc, e⟩ := List.mem_map.mp h;cases e;exact ⟨Int.natCast_nonneg r, Int.ofNat_lt.mpr (List.mem_range.mp hr), Int.natCast_nonneg c, Int.ofNat_lt.mpr (List.mem_range.mp hc)⟩
  · intro h;obtain ⟨h1, h2, h3, h4⟩ := h;obtain ⟨r, rfl⟩ := Int.eq_ofNat_of_zero_le h1;obtain ⟨c, rfl⟩ := Int.eq_ofNat_of_zero_le h3;exact List.mem_flatMap.mpr ⟨r, List.mem_range.mpr (Int.ofNat_lt.mp h2), List.mem_map.mpr ⟨c, List.mem_range.mpr (Int.ofNat_lt.mp h4), rfl⟩⟩
theorem ptsN_nodup {n i:Nat} : (ptsN n i).Nodup := by
  induction i with
  | zero => exact List.nodup_nil
  | succ i ih =>
    rw [ptsN_succ];refine List.nodup_append.mpr ⟨ih, List.Pairwise.map _ (fun a b h e => h (Int.ofNat.inj (congrArg Prod.snd e))) List.nodup_range, fun x hx y hy e => ?_⟩;obtain ⟨c, _, rfl⟩ := List.mem_map.mp hy;subst e;exact Int.lt_irrefl _ (mem_ptsN.mp hx).2.1
noncomputable def pts (n:Nat) : List Pt := ptsN n n
theorem mem_pts {n:Nat} {p:Pt} : p ∈ pts n ↔ On n p := mem_ptsN
theorem pts_length {n:Nat} : (pts n).length = n * n := ptsN_len n n
theorem pts_nodup {n:Nat} : (pts n).Nodup := ptsN_nodup
theorem on_length {n:Nat} {l:List Pt} (nd:l.Nodup) (h:∀ p, p ∈ l → On n p) : l.length ≤ n * n := by
  rw [← pts_length]; exact nodup_le l (pts n) nd fun x hx => mem_pts.mpr (h x hx)
inductive Conn (n:Nat) (g:Grd) (p:Pt) : Pt → Prop
  | refl : Conn n g p p
  | step {q r:Pt} : Conn n g p q → r ∈ nbs n q → g r = g p → Conn n g p r
theorem Conn.color {n:Nat} {g:Grd} {p q:Pt} (h:Conn n g p q) : g q = g p := by
  cases h with
  | refl => rfl
  | step _ _ h => exact h
theorem Conn.on {n:Nat} {g:Grd} {p q:Pt} (h:Conn n g p q) (hp:On n p) : On n q := by
  cases h with
  | refl => exact hp
  | step _ h _ => exact (mem_nbs.mp h).2
theorem Conn.trans {n:Nat} {g:Grd} {p q r:Pt} (h:Conn n g p q) (k:Conn n g q r) : Conn n g p r := by
  induction k with
  | refl => exact h
  | step a b c ih => exact .step ih b (c.trans h.color)
theorem Conn.symm {n:Nat} {g:Grd} {p q:Pt} (h:Conn n g p q) (hp:On n p) : Conn n g q p := by
  induction h with
  | refl => exact .refl
  | @step q r a b c ih =>
    have hq := a.on hp;exact Conn.trans (.step .refl (nbs_symm hq b) (a.color.trans c.symm)) ih
inductive Alive (n:Nat) (g:Grd) : Pt → Prop
  | lib {p q:Pt} : g p ≠ none → q ∈ nbs n p → g q = none → Alive n g p
  | step {p q:Pt} : g p ≠ none → q ∈ nbs n p → g q = g p → Alive n g q → Alive n g p
theorem Alive.some {n:Nat} {g:Grd} {p:Pt} (h:Alive n g p) : g p ≠ none := by cases h <;> assumption
theorem Alive.of_conn {n:Nat} {g:Grd} {p q r:Pt} (hg:g p ≠ none) (hp:On n p) (h:Conn n g p q) (hr:r ∈ nbs n q) (hn:g r = none) : Alive n g p := by
  have : ∀ {q}, Conn n g p q → Alive n g q → Alive n g p := by
    intro q h
    induction h with
    | refl => exact id
    | @step q r a b c ih => intro hr; exact ih (.step (a.color.symm ▸ hg) b (c.trans a.color.symm) hr)
  exact this h (.lib (h.color.symm ▸ hg) hr hn)
theorem Alive.conn {n:Nat} {g:Grd} {p:Pt} (h:Alive n g p) : ∃ q, Conn n g p q ∧ ∃ r, r ∈ nbs n q ∧ g r = none := by
  induction h with
  | @lib p q a b c => exact ⟨p, .refl, q, b, c⟩
  | @step p q a b c d ih =>
    obtain ⟨r, h1, h2⟩ := ih;exact ⟨r, Conn.trans (.step .refl b c) h1, h2⟩
theorem Alive.across {n:Nat} {g:Grd} {p q:Pt} (hp:On n p) (h:Conn n g p q) (ha:Alive n g q) : Alive n g p := by
  obtain ⟨r, h1, s, h2, h3⟩ := ha.conn;exact Alive.of_conn (h.color ▸ ha.some) hp (h.trans h1) h2 h3
noncomputable def Legal (n:Nat) (g:Grd) : Prop := ∀ p, On n p → g p ≠ none → Alive n g p
end
section
noncomputable def Few (n:Nat) (g:Grd) : Prop := ∀ l : List Pt, l.Nodup → (∀ p, p ∈ l → On n p ∧ g p ≠ none) → l.length ≤ 49
structure MC (n:Nat) (g:Grd) (p0:Pt) (P T:List Pt) (D:Pt → Pt → Prop) : Prop where
  ndP : P.Nodup
  ndT : T.Nodup
  dis : ∀ q, q ∈ T → q ∉ P
  cP : ∀ q, q ∈ P → Conn n g p0 q
  cT : ∀ q, q ∈ T → Conn n g p0 q
  st0 : p0 ∈ P ∨ p0 ∈ T
  cl : ∀ q, q ∈ P → ∀ r, D q r → r ∈ nbs n q → g r = g p0 → r ∈ P ∨ r ∈ T
structure MG (n:Nat) (g:Grd) (p0:Pt) (P T:List Pt) (sur:Bool) (D:Pt → Pt → Prop) : Prop extends MC n g p0 P T D where
  su : sur = true ↔ ∀ q, q ∈ P → ∀ r, D q r → r ∈ nbs n q → g r ≠ none
noncomputable def tk (t:Pt) (i:Nat) (q r:Pt) : Prop := q = t → r ∈ (nb4 t).take i
theorem MC.init {n:Nat} {g:Grd} {p:Pt} : MC n g p [] [p] (fun ww ww => True) :=
  ⟨List.nodup_nil, List.nodup_cons.mpr ⟨(fun z => nomatch z), List.nodup_nil⟩, (fun ww ww z => nomatch z), (fun ww z => nomatch z), fun q hq => List.mem_singleton.mp hq ▸ .refl, .inr (.head _), (fun ww z => nomatch z)⟩
theorem MG.init {n:Nat} {g:Grd} {p:Pt} : MG n g p [] [p] true (fun ww ww => True) := ⟨.init, ⟨(fun ww ww z => nomatch z), fun ww => rfl⟩⟩
theorem MG.lenP {n:Nat} {g:Grd} {p0:Pt} {P T:List Pt} {sur:Bool} {D:Pt → Pt → Prop} (h:MG n g p0 P T sur D) (f:Few n g) (hp:On n p0) (hg:g p0 ≠ none) : P.length ≤ 49 :=
  f P h.ndP fun q hq => ⟨(h.cP q hq).on hp, (h.cP q hq).color.symm ▸ hg⟩
theorem MG.lenT {n:Nat} {g:Grd} {p0:Pt} {P T:List Pt} {sur:Bool} {D:Pt → Pt → Prop} (h:MG n g p0 P T sur D) (f:Few n g) (hp:On n p0) (hg:g p0 ≠ none) : T.length ≤ 49 :=
  f T h.ndT fun q hq => ⟨(h.cT q hq).on hp, (h.cT q hq).color.symm ▸ hg⟩
theorem tk_old {t q r:Pt} {P:List Pt} (hq:q ∈ t :: P) (hD:tk t 0 q r) : q ∈ P := (List.mem_cons.mp hq).elim (fun e => nomatch hD e) id
theorem MC.pop {n:Nat} {g:Grd} {p0 t:Pt} {P T:List Pt} (h:MC n g p0 P T (fun ww ww => True)) (ht:t ∈ T) : MC n g p0 (t :: P) (T.erase t) (tk t 0) := by
  have me : ∀ {x}, x ∈ T.erase t ↔ x ≠ t ∧ x ∈ T := h.ndT.mem_erase_iff;have up : ∀ {x}, x ∈ P ∨ x ∈ T → x ∈ t :: P ∨ x ∈ T.erase t := fun {x} z => by
    by_cases e : x = t
    · exact .inl (List.mem_cons.mpr (.inl e))
    · exact z.imp (List.mem_cons_of_mem _) fun z => me.mpr ⟨e, z⟩
  exact ⟨List.nodup_cons.mpr ⟨h.dis t ht, h.ndP⟩, h.ndT.erase _, fun q hq z => (List.mem_cons.mp z).elim (me.mp hq).1 (h.dis q (me.mp hq).2), fun q hq => (List.mem_cons.mp hq).elim (fun e => h.cT q (e ▸ ht)) (h.cP q), fun q hq => h.cT q (List.mem_of_mem_erase hq), up h.st0,
    fun q hq r hD hr hc => up (h.cl q (tk_old hq hD) r trivial hr hc)⟩
theorem MG.pop {n:Nat} {g:Grd} {p0 t:Pt} {P T:List Pt} {sur:Bool} (h:MG n g p0 P T sur (fun ww ww => True)) (ht:t ∈ T) : MG n g p0 (t :: P) (T.erase t) sur (tk t 0) :=
  ⟨h.toMC.pop ht, h.su.trans ⟨fun a q hq r hD hr => a q (tk_old hq hD) r trivial hr, fun a q hq r ww hr => a q (List.mem_cons_of_mem _ hq) r (fun e => (h.dis t ht (e ▸ hq)).elim) hr⟩⟩
theorem tk_succ {t r:Pt} {i:Nat} (hr:(nb4 t)[i]? = some r) {q s:Pt} : tk t (i + 1) q s ↔ (tk t i q s ∨ (q = t ∧ s = r)) := by
  unfold tk;rw [List.take_add_one, hr];constructor
  · intro h
    by_cases e : q = t
    · exact (List.mem_append.mp (h e)).elim (fun z => .inl fun ww => z) fun z => .inr ⟨e, List.mem_singleton.mp z⟩
    · exact .inl fun z => absurd z e
  · exact fun h e => List.mem_append.mpr (h.elim (fun z => .inl (z e)) fun z => .inr (List.mem_singleton.mpr z.2))
theorem MC.nxt {n:Nat} {g:Grd} {p0 t r:Pt} {i:Nat} {P T:List Pt} (h:MC n g p0 P T (tk t i)) (hr:(nb4 t)[i]? = some r) (cl:On n r → g r = g p0 → r ∈ P ∨ r ∈ T) : MC n g p0 P T (tk t (i + 1)) :=
  ⟨h.ndP, h.ndT, h.dis, h.cP, h.cT, h.st0, fun q hq s hD hs' hc => ((tk_succ hr).mp hD).elim (fun z => h.cl q hq s z hs' hc) fun z => by cases z.2; exact cl (mem_nbs.mp hs').2 hc⟩
theorem MC.more {n:Nat} {g:Grd} {p0 t r:Pt} {i:Nat} {P T:List Pt} (h:MC n g p0 P T (tk t i)) (hr:(nb4 t)[i]? = some r) (ht:t ∈ P) (ho:On n r) (hg:g r = g p0) (hP:r ∉ P) : MC n g p0 P (if r ∈ T then T else r :: T) (tk t (i + 1)) := by
  have hc : Conn n g p0 r := .step (h.cP t ht) (mem_nbs.mpr ⟨List.mem_of_getElem? hr, ho⟩) hg
  by_cases hT : r ∈ T
  · rw [if_pos hT];exact h.nxt hr fun ww ww => .inr hT
  · rw [if_neg hT];have h' : MC n g p0 P (r :: T) (tk t i) := ⟨h.ndP, List.nodup_cons.mpr ⟨hT, h.ndT⟩, fun q hq => (List.mem_cons.mp hq).elim (fun e => e ▸ hP) (h.dis q), h.cP, fun q hq => (List.mem_cons.mp hq).elim (fun e => e ▸ hc) (h.cT q), h.st0.imp_right (List.mem_cons_of_mem _), fun q hq s hD hs hc => (h.cl q hq s hD hs hc).imp_right (List.mem_cons_of_mem _)⟩;exact h'.nxt hr fun ww ww => .inr (.head _)
theorem tk_full {n:Nat} {t q r:Pt} (hr:r ∈ nbs n q) : tk t 4 q r := fun e => e ▸ (mem_nbs.mp hr).1
theorem MC.all {n:Nat} {g:Grd} {p0 t:Pt} {P T:List Pt} (h:MC n g p0 P T (tk t 4)) : MC n g p0 P T (fun ww ww => True) :=
  ⟨h.ndP, h.ndT, h.dis, h.cP, h.cT, h.st0, fun q hq r ww hr hc => h.cl q hq r (tk_full hr) hr hc⟩
theorem MC.last {n:Nat} {g:Grd} {p0:Pt} {P:List Pt} (h:MC n g p0 P [] (fun ww ww => True)) (q:Pt) : q ∈ P ↔ Conn n g p0 q := by
  have no : ∀ {x}, x ∈ P ∨ x ∈ [] → x ∈ P := fun z => z.elim id fun z => nomatch z;refine ⟨h.cP q, fun c => ?_⟩
  induction c with
  | refl => exact no h.st0
  | step a b c ih => exact no (h.cl _ ih _ trivial b c)
theorem su_nxt {n:Nat} {g:Grd} {t r:Pt} {i:Nat} {P:List Pt} {sur:Bool} (h:sur = true ↔ ∀ q, q ∈ P → ∀ r, tk t i q r → r ∈ nbs n q → g r ≠ none) (hr:(nb4 t)[i]? = some r) (su:On n r → g r ≠ none) : sur = true ↔ ∀ q, q ∈ P → ∀ r, tk t (i + 1) q r → r ∈ nbs n q → g r ≠ none :=
  h.trans ⟨fun a q hq s hD hs' => ((tk_succ hr).mp hD).elim (fun z => a q hq s z hs') fun z => by cases z.2; exact su (mem_nbs.mp hs').2, fun a q hq s hD hs' => a q hq s ((tk_succ hr).mpr (.inl hD)) hs'⟩
theorem MG.skip {n:Nat} {g:Grd} {p0 t r:Pt} {i:Nat} {P T:List Pt} {sur:Bool} (h:MG n g p0 P T sur (tk t i)) (hr:(nb4 t)[i]? = some r) (hs:On n r → g r ≠ g p0 ∧ g r ≠ none) : MG n g p0 P T sur (tk t (i + 1)) :=
  ⟨h.toMC.nxt hr fun o e => absurd e (hs o).1, su_nxt h.su hr fun o => (hs o).2⟩
theorem MG.free {n:Nat} {g:Grd} {p0 t r:Pt} {i:Nat} {P T:List Pt} {sur:Bool} (h:MG n g p0 P T sur (tk t i)) (hr:(nb4 t)[i]? = some r) (ht:t ∈ P) (ho:On n r) (hg:g r = none) (h0:g p0 ≠ none) : MG n g p0 P T false (tk t (i + 1)) :=
  ⟨h.toMC.nxt hr fun ww e => absurd (e.symm.trans hg) h0, ⟨(fun z => nomatch z), fun a => absurd hg (a t ht r ((tk_succ hr).mpr (.inr ⟨rfl, rfl⟩)) (mem_nbs.mpr ⟨List.mem_of_getElem? hr, ho⟩))⟩⟩
theorem MG.seen {n:Nat} {g:Grd} {p0 t r:Pt} {i:Nat} {P T:List Pt} {sur:Bool} (h:MG n g p0 P T sur (tk t i)) (hr:(nb4 t)[i]? = some r) (hg:g r = g p0) (h0:g p0 ≠ none) (hP:r ∈ P) : MG n g p0 P T sur (tk t (i + 1)) :=
  ⟨h.toMC.nxt hr fun ww ww => .inl hP, su_nxt h.su hr fun ww => hg.symm ▸ h0⟩
theorem MG.more {n:Nat} {g:Grd} {p0 t r:Pt} {i:Nat} {P T:List Pt} {sur:Bool} (h:MG n g p0 P T sur (tk t i)) (hr:(nb4 t)[i]? = some r) (ht:t ∈ P) (ho:On n r) (hg:g r = g p0) (h0:g p0 ≠ none) (hP:r ∉ P) :
    MG n g p0 P (if r ∈ T then T else r :: T) sur (tk t (i + 1)) := ⟨h.toMC.more hr ht ho hg hP, su_nxt h.su hr fun ww => hg.symm ▸ h0⟩
theorem MG.all {n:Nat} {g:Grd} {p0 t:Pt} {P T:List Pt} {sur:Bool} (h:MG n g p0 P T sur (tk t 4)) : MG n g p0 P T sur (fun ww ww => True) :=
  ⟨h.toMC.all, h.su.trans ⟨fun a q hq r ww hr => a q hq r (tk_full hr) hr, fun a q hq r ww hr => a q hq r trivial hr⟩⟩
theorem MG.last {n:Nat} {g:Grd} {p0:Pt} {P:List Pt} {sur:Bool} (h:MG n g p0 P [] sur (fun ww ww => True)) (hp:On n p0) (h0:g p0 ≠ none) :
    P.Nodup ∧ (∀ q, q ∈ P ↔ Conn n g p0 q) ∧ (sur = true ↔ ¬ Alive n g p0) := by
  have hc := h.toMC.last;exact ⟨h.ndP, hc, h.su.trans ⟨fun a al => (al.conn).elim fun q z => z.2.elim fun r w => a q ((hc q).mpr z.1) r trivial w.1 w.2, fun a q hq r ww hr hn => a (Alive.of_conn h0 hp ((hc q).mp hq) hr hn)⟩⟩
end
section
structure GI where
  x : Addr
  d : Addr
  a : Addr
  c : Str
  P : List Pt
structure FG (n:Nat) (g:Grd) (L:List Pt) (hs:List Pt) (gs:List GI) : Prop where
  nd : hs.Nodup
  hs : ∀ q, q ∈ hs ↔ ∃ p, p ∈ L ∧ On n p ∧ g p ≠ none ∧ Conn n g p q
  g1 : ∀ gi, gi ∈ gs → gi.P.Nodup ∧ ∃ p, p ∈ L ∧ On n p ∧ g p = some gi.c ∧ ¬ Alive n g p ∧ ∀ q, q ∈ gi.P ↔ Conn n g p q
  cov : ∀ p, p ∈ L → On n p → g p ≠ none → ¬ Alive n g p → ∃ gi, gi ∈ gs ∧ p ∈ gi.P
  dis : gs.Pairwise fun a b => ∀ p, p ∈ a.P → p ∉ b.P
  len : gs.length ≤ L.length
theorem mem_snoc {α:Type} {L:List α} {x p:α} : x ∈ L ++ [p] ↔ x ∈ L ∨ x = p := List.mem_append.trans (or_congr_right List.mem_singleton)
theorem FG.init {n:Nat} {g:Grd} : FG n g [] [] [] := ⟨List.nodup_nil, fun q => ⟨(fun z => nomatch z), fun ⟨_, z, _⟩ => nomatch z⟩, (fun ww z => nomatch z), (fun ww z => nomatch z), .nil, Nat.le_refl _⟩
theorem FG.len1 {n:Nat} {g:Grd} {L hs:List Pt} {gs:List GI} {p:Pt} (h:FG n g L hs gs) : gs.length ≤ (L ++ [p]).length := Nat.le_trans h.len (List.length_append ▸ Nat.le_add_right ..)
theorem FG.up1 {n:Nat} {g:Grd} {L hs:List Pt} {gs:List GI} {p:Pt} (h:FG n g L hs gs) {gi:GI} (hg:gi ∈ gs) : gi.P.Nodup ∧ ∃ p', p' ∈ L ++ [p] ∧ On n p' ∧ g p' = some gi.c ∧ ¬ Alive n g p' ∧ ∀ q, q ∈ gi.P ↔ Conn n g p' q :=
  (h.g1 gi hg).imp_right fun z => z.imp fun p' w => ⟨List.mem_append_left _ w.1, w.2⟩
theorem FG.skip {n:Nat} {g:Grd} {L hs:List Pt} {gs:List GI} {p:Pt} (h:FG n g L hs gs) (hp:On n p → g p ≠ none → p ∈ hs) : FG n g (L ++ [p]) hs gs := by
  have key : On n p → g p ≠ none → ∃ p', p' ∈ L ∧ On n p' ∧ g p' ≠ none ∧ Conn n g p' p := fun a b => (h.hs p).mp (hp a b);refine ⟨h.nd, fun q => (h.hs q).trans ⟨fun z => z.imp fun p' w => ⟨List.mem_append_left _ w.1, w.2⟩, fun z => ?_⟩, fun gi hg => h.up1 hg, fun q hq a b c => ?_, h.dis, h.len1⟩
  · obtain ⟨p', h1, h2, h3, h4⟩ := z;rcases mem_snoc.mp h1 with z | rfl
    · exact ⟨p', z, h2, h3, h4⟩
    · obtain ⟨p'', k1, k2, k3, k4⟩ := key h2 h3;exact ⟨p'', k1, k2, k3, k4.trans h4⟩
  · rcases mem_snoc.mp hq with z | rfl
    · exact h.cov q z a b c
    · obtain ⟨p', k1, k2, k3, k4⟩ := key a b;obtain ⟨gi, g1, g2⟩ := h.cov p' k1 k2 k3 fun al => c (Alive.across a (k4.symm k2) al);obtain ⟨_, p0, _, o0, _, _, e⟩ := h.g1 gi g1;exact ⟨gi, g1, (e _).mpr (((e _).mp g2).trans k4)⟩
theorem FG.new_dis {n:Nat} {g:Grd} {L hs:List Pt} {gs:List GI} {p:Pt} (h:FG n g L hs gs) (hp:On n p) (hn:p ∉ hs) {q:Pt} (hc:Conn n g p q) : q ∉ hs := by
  intro hq;obtain ⟨p', h1, h2, h3, h4⟩ := (h.hs q).mp hq;exact hn ((h.hs p).mpr ⟨p', h1, h2, h3, h4.trans (hc.symm hp)⟩)
theorem FG.sub {n:Nat} {g:Grd} {L hs:List Pt} {gs:List GI} (h:FG n g L hs gs) {gi:GI} (hg:gi ∈ gs) {q:Pt} (hq:q ∈ gi.P) : q ∈ hs := by
  obtain ⟨_, p, h1, h2, h3, _, h4⟩ := h.g1 gi hg;exact (h.hs q).mpr ⟨p, h1, h2, (fun z => nomatch z.symm.trans h3), (h4 q).mp hq⟩
theorem FG.hs1 {n:Nat} {g:Grd} {L hs hs':List Pt} {gs:List GI} {p:Pt} {P:List Pt} (h:FG n g L hs gs) (hp:On n p) (hg:g p ≠ none) (hP:∀ q, q ∈ P ↔ Conn n g p q) (hm:∀ q, q ∈ hs' ↔ q ∈ hs ∨ q ∈ P) (q:Pt) : q ∈ hs' ↔ ∃ p', p' ∈ L ++ [p] ∧ On n p' ∧ g p' ≠ none ∧ Conn n g p' q := by
  refine (hm q).trans ((or_congr (h.hs q) (hP q)).trans ⟨fun z => z.elim (fun z => z.imp fun p' w => ⟨List.mem_append_left _ w.1, w.2⟩) fun z => ⟨p, List.mem_append_right _ (.head _), hp, hg, z⟩, fun z => ?_⟩);obtain ⟨p', h1, h2⟩ := z;rcases mem_snoc.mp h1 with z | rfl
  · exact .inl ⟨p', z, h2⟩
  · exact .inr h2.2.2
theorem FG.alive {n:Nat} {g:Grd} {L hs hs':List Pt} {gs:List GI} {p:Pt} {P:List Pt} (h:FG n g L hs gs) (hp:On n p) (hg:g p ≠ none) (hn:p ∉ hs) (hP:∀ q, q ∈ P ↔ Conn n g p q) (nd:hs'.Nodup) (hm:∀ q, q ∈ hs' ↔ q ∈ hs ∨ q ∈ P) (ha:Alive n g p) :
    FG n g (L ++ [p]) hs' gs :=
  ⟨nd, h.hs1 hp hg hP hm, fun gi hg => h.up1 hg, fun q hq a b c => (mem_snoc.mp hq).elim (fun z => h.cov q z a b c) fun e => (c (e ▸ ha)).elim, h.dis, h.len1⟩
theorem FG.dead {n:Nat} {g:Grd} {L hs hs':List Pt} {gs:List GI} {p:Pt} {P:List Pt} {c:Str} {x d a:Addr} (h:FG n g L hs gs) (hp:On n p) (hg:g p = some c) (hn:p ∉ hs) (hP:∀ q, q ∈ P ↔ Conn n g p q) (ndP:P.Nodup) (nd:hs'.Nodup) (hm:∀ q, q ∈ hs' ↔ q ∈ hs ∨ q ∈ P) (ha:¬ Alive n g p) :
    FG n g (L ++ [p]) hs' (gs ++ [⟨x, d, a, c, P⟩]) := by
  refine ⟨nd, h.hs1 hp (fun z => nomatch z.symm.trans hg) hP hm, fun gi hgi => ?_, fun q hq a b c => ?_, List.pairwise_append.mpr ⟨h.dis, List.pairwise_singleton _ _, fun gi hgi b hb q hq hq' => ?_⟩, ?_⟩
  · rcases mem_snoc.mp hgi with z | rfl
    · exact h.up1 z
    · exact ⟨ndP, p, List.mem_append_right _ (.head _), hp, hg, ha, hP⟩
  · rcases mem_snoc.mp hq with z | rfl
    · exact (h.cov q z a b c).imp fun gi w => ⟨List.mem_append_left _ w.1, w.2⟩
    · exact ⟨_, List.mem_append_right _ (.head _), (hP _).mpr .refl⟩
  · cases List.mem_singleton.mp hb;exact h.new_dis hp hn ((hP q).mp hq') (h.sub hgi hq)
  · rw [List.length_append, List.length_append]; exact Nat.add_le_add_right h.len 1
end
section
noncomputable def gset (g:Grd) (p:Pt) (o:Option Str) : Grd := fun q => if q = p then o else g q
theorem gset_same {g:Grd} {p:Pt} {o:Option Str} : gset g p o p = o := if_pos rfl
theorem gset_ne {g:Grd} {p q:Pt} {o:Option Str} (h:q ≠ p) : gset g p o q = g q := if_neg h
noncomputable def Breathed (n:Nat) (g g':Grd) : Prop := ∀ p, On n p → (Alive n g p → g' p = g p) ∧ (¬ Alive n g p → g' p = none)
noncomputable def Dead (n:Nat) (g:Grd) (p:Pt) : Prop := On n p ∧ g p ≠ none ∧ ¬ Alive n g p
noncomputable def Played (n:Nat) (g1:Grd) (c:Str) (g2:Grd) : Prop :=
  ((∃ q, Dead n g1 q ∧ g1 q ≠ some c) ∧ ∀ p, On n p → (Dead n g1 p ∧ g1 p ≠ some c → g2 p = none) ∧ (¬ (Dead n g1 p ∧ g1 p ≠ some c) → g2 p = g1 p)) ∨
  ((¬ ∃ q, Dead n g1 q ∧ g1 q ≠ some c) ∧ Breathed n g1 g2)
noncomputable def KoAt (n:Nat) (g1:Grd) (c:Str) (p0 q:Pt) : Prop :=
  Dead n g1 q ∧ g1 q ≠ some c ∧ (∀ r, Dead n g1 r → g1 r ≠ some c → r = q) ∧ Dead n g1 p0 ∧ ∀ r, Dead n g1 r → g1 r = some c → r = p0
theorem Alive.mono {n:Nat} {g g':Grd} {p:Pt} (h:Alive n g p) (h1:∀ q, Alive n g q → On n q ∨ q = p → g' q = g q) (h2:∀ q, On n q → g q = none → g' q = none) : Alive n g' p := by
  induction h with
  | @lib p q a b c =>
    have e := h1 p (.lib a b c) (.inr rfl);exact .lib (e.symm ▸ a) b (h2 q (mem_nbs.mp b).2 c)
  | @step p q a b c d ih =>
    have e := h1 p (.step a b c d) (.inr rfl);have e' := h1 q d (.inl (mem_nbs.mp b).2);exact .step (e.symm ▸ a) b (e'.trans (c.trans e.symm)) (ih fun r hr ho => h1 r hr (.inl (ho.elim id fun o => o ▸ (mem_nbs.mp b).2)))
theorem Breathed.legal {n:Nat} {g g':Grd} (h:Breathed n g g') : Legal n g' := by
  intro p hp hg;have ha : Alive n g p := Classical.byContradiction fun na => hg ((h p hp).2 na);exact ha.mono (fun q hq ho => (h q (ho.elim id fun o => o ▸ hp)).1 hq) fun q ho hn => (h q ho).2 fun al => al.some hn
theorem Breathed.unique {n:Nat} {g g' g'':Grd} (h:Breathed n g g') (h':Breathed n g g'') {p:Pt} (hp:On n p) : g' p = g'' p := by
  by_cases ha : Alive n g p
  · rw [(h p hp).1 ha, (h' p hp).1 ha]
  · rw [(h p hp).2 ha, (h' p hp).2 ha]
theorem dead_near {n:Nat} {g:Grd} {p0:Pt} {c:Str} (hl:Legal n g) (hp0:On n p0) (hg0:g p0 = none) {r:Pt} (hd:Dead n (gset g p0 (some c)) r) :
    ∃ p, p ∈ p0 :: nbs n p0 ∧ On n p ∧ Conn n (gset g p0 (some c)) p r := by
  have hne : ∀ {q}, q ≠ p0 → gset g p0 (some c) q = g q := gset_ne;generalize gset g p0 (some c) = g1 at *
  by_cases hr : r = p0
  · exact hr ▸ ⟨r, List.mem_cons_self, hr ▸ hp0, .refl⟩
  · obtain ⟨ho, hs, na⟩ := hd;have ha := hl r ho (hne hr ▸ hs);clear hs hr
    induction ha with
    | @lib p q a b e =>
      have hpp : p ≠ p0 := fun z => a (z ▸ hg0)
      by_cases hq : q = p0
      · exact ⟨p, List.mem_cons_of_mem _ (hq ▸ nbs_symm ho b), ho, .refl⟩
      · exact (na (.lib (hne hpp ▸ a) b ((hne hq).trans e))).elim
    | @step p q a b e d ih =>
      have hpp : p ≠ p0 := fun z => a (z ▸ hg0);have eq : g1 q = g1 p := (hne fun z => d.some (by rw [z]; exact hg0)).trans (e.trans (hne hpp).symm);obtain ⟨x, h1, h2, h3⟩ := ih (mem_nbs.mp b).2 fun al => na (.step (hne hpp ▸ a) b eq al);exact ⟨x, h1, h2, .step h3 (nbs_symm ho b) (eq.symm.trans h3.color)⟩
theorem dead_own {n:Nat} {g:Grd} {p0:Pt} {c:Str} (hl:Legal n g) (hp0:On n p0) (hg0:g p0 = none) {r:Pt} (hd:Dead n (gset g p0 (some c)) r) (hc:gset g p0 (some c) r = some c) :
    Conn n (gset g p0 (some c)) p0 r := by
  obtain ⟨p, h1, h2, h3⟩ := dead_near hl hp0 hg0 hd;rcases List.mem_cons.mp h1 with e | h1
  · exact e ▸ h3
  · exact Conn.trans (.step .refl h1 (h3.color.symm.trans (hc.trans gset_same.symm))) h3
theorem dead_foe {n:Nat} {g:Grd} {p0:Pt} {c:Str} (hl:Legal n g) (hp0:On n p0) (hg0:g p0 = none) {r:Pt} (hd:Dead n (gset g p0 (some c)) r) (hc:gset g p0 (some c) r ≠ some c) :
    ∃ p, p ∈ nbs n p0 ∧ Dead n (gset g p0 (some c)) p ∧ gset g p0 (some c) p = gset g p0 (some c) r ∧ Conn n (gset g p0 (some c)) p r := by
  obtain ⟨p, h1, h2, h3⟩ := dead_near hl hp0 hg0 hd;rcases List.mem_cons.mp h1 with e | h1
  · exact (hc (h3.color.trans (e ▸ gset_same))).elim
  · exact ⟨p, h1, ⟨h2, h3.color ▸ hd.2.1, fun al => hd.2.2 (Alive.across hd.1 (h3.symm h2) al)⟩, h3.color.symm, h3⟩
theorem Played.legal {n:Nat} {g g2:Grd} {p0:Pt} {c:Str} (hl:Legal n g) (hp0:On n p0) (hg0:g p0 = none) (h:Played n (gset g p0 (some c)) c g2) : Legal n g2 := by
  rcases h with ⟨⟨q, hq, hqc⟩, h⟩ | ⟨_, h⟩
  · obtain ⟨x, x1, x2, x3, _⟩ := dead_foe hl hp0 hg0 hq hqc;have own := fun r => dead_own hl hp0 hg0 (r := r) (c := c);have hs0 : gset g p0 (some c) p0 = some c := gset_same;clear hl hg0;generalize gset g p0 (some c) = g1 at *
    intro p hp hg;have npd : ¬ (Dead n g1 p ∧ g1 p ≠ some c) := fun z => hg ((h p hp).1 z);have e := (h p hp).2 npd
    by_cases ha : Alive n g1 p
    · exact ha.mono (fun q hq ho => (h q (ho.elim id fun o => o ▸ hp)).2 fun z => z.1.2.2 hq) fun q ho hn => ((h q ho).2 fun z => z.1.2.1 hn).trans hn
    · have hd : Dead n g1 p := ⟨hp, e ▸ hg, ha⟩;have hco := own p hd (Classical.byContradiction fun z => npd ⟨hd, z⟩);have same : ∀ q, On n q → g1 q = some c → g2 q = some c := fun q ho hc => ((h q ho).2 fun z => z.2 hc).trans hc;have hx : g2 x = none := (h x x2.1).1 ⟨x2, x3 ▸ hqc⟩;have h0 : g2 p0 = some c := same p0 hp0 hs0;have hco2 : Conn n g2 p0 p := by
        clear hd e npd hg ha hp
        induction hco with
        | refl => exact .refl
        | @step q r a b cc ih => exact .step ih b ((same r (mem_nbs.mp b).2 (cc.trans hs0)).trans h0.symm)
      exact Alive.across hp (hco2.symm hp0) (.lib (fun z => nomatch z.symm.trans h0) x1 hx)
  · exact h.legal
theorem line_conn {n:Nat} {T:Int → Prop} (hT:∀ x : Int, 0 ≤ x → x + 1 < n → (T x ↔ T (x + 1))) {b d:Int} (b0:0 ≤ b) (b1:b < n) (d0:0 ≤ d) (d1:d < n) (h:T b) : T d := by
  have key : ∀ k : Nat, k < n → (T 0 ↔ T k) := by
    intro k
    induction k with
    | zero => exact fun ww => Iff.rfl
    | succ k ih => exact fun hk => (ih (Nat.lt_of_succ_lt hk)).trans (hT k (Int.natCast_nonneg k) (Int.ofNat_lt.mpr hk))
  obtain ⟨b, rfl⟩ := Int.eq_ofNat_of_zero_le b0;obtain ⟨d, rfl⟩ := Int.eq_ofNat_of_zero_le d0;exact (key d (Int.ofNat_lt.mp d1)).mp ((key b (Int.ofNat_lt.mp b1)).mpr h)
theorem board_conn {n:Nat} {S:Pt → Prop} {p:Pt} (hp:On n p) (h0:S p) (hS:∀ q r, On n q → S q → r ∈ nbs n q → S r) : ∀ r, On n r → S r := by
  have up : ∀ {x:Int}, x + 1 < n → x < n := fun h => Int.lt_trans (Int.lt_succ _) h;have nn : ∀ {x:Int}, 0 ≤ x → 0 ≤ x + 1 := fun h => Int.le_trans h (Int.le_of_lt (Int.lt_succ _));obtain ⟨a, b⟩ := p;intro r hr;obtain ⟨c, d⟩ := r;obtain ⟨p1, p2, p3, p4⟩ := hp;obtain ⟨r1, r2, r3, r4⟩ := hr
  have s1 : S (a, d) := line_conn (T := fun x => S (a, x)) (fun x h0 h1 => ⟨fun h => hS (a, x) (a, x + 1) ⟨p1, p2, h0, up h1⟩ h (mem_nbs.mpr ⟨mem_nb4.mpr (.inr (.inr (.inr ⟨rfl, rfl⟩))), p1, p2, nn h0, h1⟩),
    fun h => hS (a, x + 1) (a, x) ⟨p1, p2, nn h0, h1⟩ h (mem_nbs.mpr ⟨mem_nb4.mpr (.inr (.inr (.inl ⟨rfl, (Int.add_sub_cancel x 1).symm⟩))), p1, p2, h0, up h1⟩)⟩) p3 p4 r3 r4 h0
  exact line_conn (T := fun x => S (x, d)) (fun x h0 h1 => ⟨fun h => hS (x, d) (x + 1, d) ⟨h0, up h1, r3, r4⟩ h (mem_nbs.mpr ⟨mem_nb4.mpr (.inr (.inl ⟨rfl, rfl⟩)), nn h0, h1, r3, r4⟩),
    fun h => hS (x + 1, d) (x, d) ⟨nn h0, h1, r3, r4⟩ h (mem_nbs.mpr ⟨mem_nb4.mpr (.inl ⟨(Int.add_sub_cancel x 1).symm, rfl⟩), h0, up h1, r3, r4⟩)⟩) p1 p2 r1 r2 s1
end
section
noncomputable def setAll (g:Grd) (L:List Pt) (o:Option Str) : Grd := fun p => if p ∈ L then o else g p
theorem setAll_nil {g:Grd} {o:Option Str} : setAll g [] o = g := funext fun ww => if_neg (fun z => nomatch z)
theorem setAll_snoc {g:Grd} {L:List Pt} {p:Pt} {o:Option Str} : gset (setAll g L o) p o = setAll g (L ++ [p]) o := by
  funext q;unfold gset setAll
  by_cases e : q = p
  · rw [if_pos e, if_pos (List.mem_append_right L (List.mem_singleton.mpr e))]
  · rw [if_neg e]
    by_cases h : q ∈ L
    · rw [if_pos h, if_pos (List.mem_append_left _ h)]
    · rw [if_neg h, if_neg fun z => (List.mem_append.mp z).elim h fun z => e (List.mem_singleton.mp z)]
noncomputable def clrG (g:Grd) (gs:List GI) : Grd := fun p => if ∃ gi, gi ∈ gs ∧ p ∈ gi.P then none else g p
theorem clrG_pos {g:Grd} {gs:List GI} {p:Pt} (h:∃ gi, gi ∈ gs ∧ p ∈ gi.P) : clrG g gs p = none := if_pos h
theorem clrG_neg {g:Grd} {gs:List GI} {p:Pt} (h:¬ ∃ gi, gi ∈ gs ∧ p ∈ gi.P) : clrG g gs p = g p := if_neg h
theorem clrG_nil {g:Grd} : clrG g [] = g := funext fun ww => clrG_neg fun ⟨_, z, _⟩ => nomatch z
theorem clrG_snoc {g:Grd} {gs:List GI} {gi:GI} {W:List Pt} (h:W.Perm gi.P) : setAll (clrG g gs) W none = clrG g (gs ++ [gi]) := by
  funext q;unfold setAll
  by_cases e : q ∈ W
  · rw [if_pos e, clrG_pos ⟨gi, List.mem_append_right _ (.head _), h.mem_iff.mp e⟩]
  · rw [if_neg e]
    by_cases e' : ∃ gj, gj ∈ gs ∧ q ∈ gj.P
    · rw [clrG_pos e', clrG_pos];obtain ⟨gj, a, b⟩ := e';exact ⟨gj, List.mem_append_left _ a, b⟩
    · rw [clrG_neg e', clrG_neg];intro z;obtain ⟨gj, a, b⟩ := z;rcases List.mem_append.mp a with z | z
      · exact e' ⟨gj, z, b⟩
      · cases List.mem_singleton.mp z; exact e (h.mem_iff.mpr b)
theorem FG.breathed {n:Nat} {g:Grd} {hs:List Pt} {gs:List GI} (h:FG n g (pts n) hs gs) : Breathed n g (clrG g gs) := by
  intro p hp;refine ⟨fun ha => clrG_neg fun z => ?_, fun ha => ?_⟩
  · obtain ⟨gi, g1, g2⟩ := z;obtain ⟨_, p0, _, o0, c0, na, e⟩ := h.g1 gi g1;exact na (Alive.across o0 ((e p).mp g2) ha)
  · by_cases hg : g p = none
    · by_cases e : ∃ gi, gi ∈ gs ∧ p ∈ gi.P
      · exact clrG_pos e
      · exact (clrG_neg e).trans hg
    · exact clrG_pos (h.cov p (mem_pts.mpr hp) hp hg ha)
theorem some_ne {α:Type} {x:Option α} {y:α} (h:x = some y) : x ≠ none := fun z => nomatch z.symm.trans h
theorem FG.legal {n:Nat} {g:Grd} {hs:List Pt} {gs:List GI} (h:FG n g (pts n) hs gs) : gs = [] ↔ Legal n g := by
  constructor
  · rintro rfl p hp hg;refine Classical.byContradiction fun na => ?_;obtain ⟨gi, g1, _⟩ := h.cov p (mem_pts.mpr hp) hp hg na;exact nomatch g1
  · intro hl;cases gs with
    | nil => rfl
    | cons gi r =>
      obtain ⟨_, p0, _, o0, c0, na, _⟩ := h.g1 gi (.head _);exact (na (hl p0 o0 (some_ne c0))).elim
section
variable {n:Nat} {g:Grd} {p0:Pt} {c:Str} {hs:List Pt} {gs:List GI}
theorem FG.ne {L:List Pt} {g1:Grd} (h:FG n g1 L hs gs) {gi:GI} (hg:gi ∈ gs) : ∃ r, r ∈ gi.P ∧ g1 r = some gi.c ∧ Dead n g1 r ∧ ∀ q, q ∈ gi.P ↔ Conn n g1 r q := by
  obtain ⟨_, p, _, o, e, na, hP⟩ := h.g1 gi hg;exact ⟨p, (hP p).mpr .refl, e, ⟨o, some_ne e, na⟩, hP⟩
theorem FG.col {L:List Pt} {g1:Grd} (h:FG n g1 L hs gs) {gi:GI} (hg:gi ∈ gs) {r:Pt} (hr:r ∈ gi.P) : g1 r = some gi.c ∧ Dead n g1 r := by
  obtain ⟨p, _, e, ⟨o, _, na⟩, hP⟩ := h.ne hg;have hc := (hP r).mp hr;have e := hc.color.trans e;exact ⟨e, hc.on o, some_ne e, fun al => na (Alive.across o hc al)⟩
theorem FG.dead_iff (hl:Legal n g) (hp0:On n p0) (hg0:g p0 = none) (h:FG n (gset g p0 (some c)) (p0 :: nb4 p0) hs gs) {r:Pt} : Dead n (gset g p0 (some c)) r ↔ ∃ gi, gi ∈ gs ∧ r ∈ gi.P := by
  constructor
  · intro hd;obtain ⟨p, h1, h2, h3⟩ := dead_near hl hp0 hg0 hd;have hm : p ∈ p0 :: nb4 p0 := by
      rcases List.mem_cons.mp h1 with z | z
      · exact List.mem_cons.mpr (.inl z)
      · exact List.mem_cons_of_mem _ (mem_nbs.mp z).1
    obtain ⟨gi, g1, g2⟩ := h.cov p hm h2 (h3.color ▸ hd.2.1) (fun al => hd.2.2 (Alive.across hd.1 (h3.symm h2) al));obtain ⟨_, p1, _, _, _, _, hP⟩ := h.g1 gi g1;exact ⟨gi, g1, (hP r).mpr (((hP p).mp g2).trans h3)⟩
  · rintro ⟨gi, g1, g2⟩; exact (h.col g1 g2).2
theorem play_nil (hl:Legal n g) (hp0:On n p0) (hg0:g p0 = none) (h:FG n (gset g p0 (some c)) (p0 :: nb4 p0) hs []) : Played n (gset g p0 (some c)) c (gset g p0 (some c)) ∧ ∀ q, ¬ KoAt n (gset g p0 (some c)) c p0 q := by
  have nd : ∀ r, ¬ Dead n (gset g p0 (some c)) r := fun r hd => ((h.dead_iff hl hp0 hg0).mp hd).elim fun ww q => (nomatch q.1);refine ⟨.inr ⟨fun ⟨q, a, _⟩ => nd q a, fun p hp => ⟨fun ww => rfl, fun na => ?_⟩⟩, fun q hk => nd q hk.1⟩;exact Classical.byContradiction fun e => nd p ⟨hp, e, na⟩
theorem clr_one {gi:GI} (hl:Legal n g) (hp0:On n p0) (hg0:g p0 = none) (h:FG n (gset g p0 (some c)) (p0 :: nb4 p0) hs [gi]) {p:Pt} (hp:On n p) :
    (Alive n (gset g p0 (some c)) p → clrG (gset g p0 (some c)) [gi] p = gset g p0 (some c) p) ∧ (¬ Alive n (gset g p0 (some c)) p → clrG (gset g p0 (some c)) [gi] p = none) := by
  have hdi := h.dead_iff hl hp0 hg0 (r := p);generalize gset g p0 (some c) = g1 at *
  by_cases e : ∃ gj, gj ∈ [gi] ∧ p ∈ gj.P
  · exact ⟨fun al => absurd al (hdi.mpr e).2.2, fun ww => clrG_pos e⟩
  · refine ⟨fun ww => clrG_neg e, fun na => (clrG_neg e).trans ?_⟩;exact Classical.byContradiction fun z => e (hdi.mp ⟨hp, z, na⟩)
theorem play_one {gi:GI} (hl:Legal n g) (hp0:On n p0) (hg0:g p0 = none) (h:FG n (gset g p0 (some c)) (p0 :: nb4 p0) hs [gi]) : Played n (gset g p0 (some c)) c (clrG (gset g p0 (some c)) [gi]) ∧ (∀ q, ¬ KoAt n (gset g p0 (some c)) c p0 q) ∧
    (gi.P.length = n * n ↔ ∀ p, On n p → clrG (gset g p0 (some c)) [gi] p = none) := by
  have h1 := fun p (hp:On n p) => clr_one hl hp0 hg0 h hp;have hdi := fun r => h.dead_iff hl hp0 hg0 (r := r);have hs0 : gset g p0 (some c) p0 = some c := gset_same;clear hl hg0;generalize gset g p0 (some c) = g1 at *
  have in1 : ∀ {r}, (∃ gj, gj ∈ [gi] ∧ r ∈ gj.P) ↔ r ∈ gi.P := fun {r} => ⟨fun ⟨gj, a, b⟩ => List.mem_singleton.mp a ▸ b, fun b => ⟨gi, .head _, b⟩⟩;have hd : ∀ {r}, Dead n g1 r ↔ r ∈ gi.P := fun {r} => (hdi r).trans in1;have hcol : ∀ {r}, r ∈ gi.P → g1 r = some gi.c := fun {r} hr => (h.col (.head _) hr).1;refine ⟨?_, fun q hk => ?_, ?_⟩
  · by_cases e : ∃ q, Dead n g1 q ∧ g1 q ≠ some c
    · obtain ⟨q, q1, q2⟩ := e;have hcc : some gi.c ≠ some c := fun z => q2 ((hcol (hd.mp q1)).trans z);exact .inl ⟨⟨q, q1, q2⟩, fun p hp => ⟨fun z => (h1 p hp).2 z.1.2.2, fun z => clrG_neg fun w => z ⟨hd.mpr (in1.mp w), fun y => hcc ((hcol (in1.mp w)).symm.trans y)⟩⟩⟩
    · exact .inr ⟨e, fun p hp => h1 p hp⟩
  · obtain ⟨k1, k2, _, k4, _⟩ := hk;exact k2 ((hcol (hd.mp k1)).trans ((hcol (hd.mp k4)).symm.trans hs0))
  · obtain ⟨nd, p1, _, o1, c1, na, hP⟩ := h.g1 gi (.head _);constructor
    · intro hlen p hp;refine clrG_pos (in1.mpr (Classical.byContradiction fun hn => ?_));have := on_length (n := n) (l := p :: gi.P) (List.nodup_cons.mpr ⟨hn, nd⟩) fun q hq => (List.mem_cons.mp hq).elim (fun e => e ▸ hp) fun z => (hd.mpr z).1;rw [List.length_cons, hlen] at this;exact Nat.not_succ_le_self _ this
    · intro hall;have hstone : ∀ q, On n q → g1 q ≠ none → q ∈ gi.P := fun q ho hs => Classical.byContradiction fun z => hs ((clrG_neg fun w => z (in1.mp w)).symm.trans (hall q ho));have full : ∀ r, On n r → r ∈ gi.P := board_conn (S := fun r => r ∈ gi.P) o1 ((hP _).mpr .refl) fun q r ho hq hr => hstone r (mem_nbs.mp hr).2 fun hn => (h.col (.head _) hq).2.2.2 (.lib (some_ne (hcol hq)) hr hn);exact Nat.le_antisymm (on_length nd fun q hq => (hd.mpr hq).1) (pts_length (n := n) ▸ nodup_le (pts n) gi.P pts_nodup fun q hq => full q (mem_pts.mp hq))
theorem filter_two {α:Type} (p:α → Bool) (l:List α) : l.length = (l.filter p).length + (l.filter fun a => !p a).length := by
  induction l with
  | nil => rfl
  | cons a l ih =>
    rw [List.filter_cons, List.filter_cons, List.length_cons, ih];cases p a with
    | false => rfl
    | true => exact (Nat.succ_add ..).symm
theorem split_len {l:List GI} {c opp:Str} (ho:∀ gi, gi ∈ l → (gi.c = opp ↔ gi.c ≠ c)) : l.length = (l.filter fun gi => decide (gi.c = c)).length + (l.filter fun gi => decide (gi.c = opp)).length := by
  have e : l.filter (fun gi => decide (gi.c = opp)) = l.filter (fun gi => !decide (gi.c = c)) := List.filter_congr fun gi hg => (decide_eq_decide.mpr (ho gi hg)).trans decide_not;rw [e]; exact filter_two _ l
theorem own_one {l:List GI} {c:Str} {p0:Pt} (hp:l.Pairwise (fun a b => ∀ p, p ∈ a.P → p ∉ b.P)) (ho:∀ gi, gi ∈ l → gi.c = c → p0 ∈ gi.P) : (l.filter fun gi => decide (gi.c = c)).length ≤ 1 := by
  have hp' := hp.filter (fun gi => decide (gi.c = c));have hm : ∀ gi, gi ∈ l.filter (fun gi => decide (gi.c = c)) → p0 ∈ gi.P := fun gi h => ho gi (List.mem_filter.mp h).1 (of_decide_eq_true (List.mem_filter.mp h).2);cases hf : l.filter (fun gi => decide (gi.c = c)) with
  | nil => exact Nat.zero_le _
  | cons a t =>
    cases t with
    | nil => exact Nat.le_refl _
    | cons b t =>
      rw [hf] at hp' hm;exact ((List.pairwise_cons.mp hp').1 b (.head _) p0 (hm a (.head _)) (hm b (.tail _ (.head _)))).elim
theorem all_one {l:List Pt} {q:Pt} (nd:l.Nodup) (hne:l ≠ []) (h:∀ r, r ∈ l → r = q) : l = [q] := by
  cases l with
  | nil => exact absurd rfl hne
  | cons a t =>
    cases t with
    | nil => rw [h a (.head _)]
    | cons b t =>
      rw [h a (.head _), h b (.tail _ (.head _))] at nd;exact ((List.nodup_cons.mp nd).1 (.head _)).elim
theorem play_many (hl:Legal n g) (hp0:On n p0) (hg0:g p0 = none) (h:FG n (gset g p0 (some c)) (p0 :: nb4 p0) hs gs) (h2:2 ≤ gs.length) {opp:Str} (ho:∀ gi, gi ∈ gs → (gi.c = opp ↔ gi.c ≠ c)) :
    Played n (gset g p0 (some c)) c (clrG (gset g p0 (some c)) (gs.filter fun gi => decide (gi.c = opp))) ∧ clrG (gset g p0 (some c)) (gs.filter fun gi => decide (gi.c = opp)) p0 = some c ∧
    (∀ f q, gs.filter (fun gi => decide (gi.c = opp)) = [f] → f.P = [q] → ∃ o, gs.filter (fun gi => decide (gi.c = c)) = [o] ∧ (o.P.length = 1 ↔ KoAt n (gset g p0 (some c)) c p0 q)) ∧
    ((∀ f, gs.filter (fun gi => decide (gi.c = opp)) = [f] → f.P.length ≠ 1) → ∀ q, ¬ KoAt n (gset g p0 (some c)) c p0 q) ∧
    (∀ f q, gs.filter (fun gi => decide (gi.c = opp)) = [f] → f.P = [q] → ∀ q', KoAt n (gset g p0 (some c)) c p0 q' → q' = q) := by
  have hdi := fun r => h.dead_iff hl hp0 hg0 (r := r)
  -- own groups all hold p0
  have own : ∀ gi, gi ∈ gs → gi.c = c → p0 ∈ gi.P := fun gi hg hc => by
    obtain ⟨r, r1, r2, r3, hP⟩ := h.ne hg;exact (hP p0).mpr ((dead_own hl hp0 hg0 r3 (hc ▸ r2)).symm hp0)
  have hs0 : gset g p0 (some c) p0 = some c := gset_same;clear hl hg0 hp0;generalize gset g p0 (some c) = g1 at *
  have hd : ∀ {r}, Dead n g1 r ↔ ∃ gi, gi ∈ gs ∧ r ∈ gi.P := fun {r} => hdi r;have hown := own_one h.dis own;have hsplit := split_len ho;have fm : ∀ {gi}, gi ∈ (gs.filter fun gi => decide (gi.c = opp)) ↔ gi ∈ gs ∧ gi.c ≠ c := fun {gi} => List.mem_filter.trans ⟨fun z => ⟨z.1, (ho gi z.1).mp (of_decide_eq_true z.2)⟩, fun z => ⟨z.1, decide_eq_true ((ho gi z.1).mpr z.2)⟩⟩;have om : ∀ {gi}, gi ∈ (gs.filter fun gi => decide (gi.c = c)) ↔ gi ∈ gs ∧ gi.c = c := fun {gi} => List.mem_filter.trans ⟨fun z => ⟨z.1, of_decide_eq_true z.2⟩, fun z => ⟨z.1, decide_eq_true z.2⟩⟩;have fdis := h.dis.filter (fun gi => decide (gi.c = opp));generalize (gs.filter fun gi => decide (gi.c = opp)) = F at *
  generalize (gs.filter fun gi => decide (gi.c = c)) = O at *
  have hF0 : F ≠ [] := fun e => by
    rw [hsplit, e] at h2;exact Nat.not_succ_le_self 1 (Nat.le_trans h2 hown)
  have foe : ∀ {r}, (∃ gi, gi ∈ F ∧ r ∈ gi.P) ↔ Dead n g1 r ∧ g1 r ≠ some c := fun {r} => by
    constructor
    · intro z;obtain ⟨gi, a, b⟩ := z;obtain ⟨c1, c2⟩ := fm.mp a;obtain ⟨e, d⟩ := h.col c1 b;exact ⟨d, fun y => c2 (Option.some.inj (e.symm.trans y))⟩
    · intro z;obtain ⟨gi, a, b⟩ := hd.mp z.1;exact ⟨gi, fm.mpr ⟨a, fun q => z.2 ((h.col a b).1.trans (congrArg some q))⟩, b⟩
  have nef : ∀ gi, gi ∈ F → gi.P ≠ [] ∧ gi.P.Nodup := fun gi hf => ⟨fun e => (h.ne (fm.mp hf).1).elim fun r z => (nomatch e ▸ z.1), (h.g1 gi (fm.mp hf).1).1⟩;refine ⟨.inl ⟨?_, fun p hp => ⟨fun z => clrG_pos (foe.mpr z), fun z => clrG_neg fun w => z (foe.mp w)⟩⟩, (clrG_neg fun w => (foe.mp w).2 hs0).trans hs0, fun f q hf hq => ?_, fun hno q hk => ?_, fun f q hf hq q' hk => ?_⟩
  · cases F with
    | nil => exact absurd rfl hF0
    | cons f t =>
      obtain ⟨r, r1, _⟩ := h.ne (fm.mp (.head _)).1;exact ⟨r, foe.mp ⟨f, .head _, r1⟩⟩
  · subst hf;rw [hsplit] at h2;obtain ⟨o, rfl⟩ := List.length_eq_one_iff.mp (Nat.le_antisymm hown (Nat.le_of_succ_le_succ h2));have hom := om.mp (.head []);have hp0o := own o hom.1 hom.2;have hqD := foe.mp ⟨f, .head _, hq.symm ▸ List.Mem.head _⟩;have allf : ∀ r, Dead n g1 r → g1 r ≠ some c → r = q := fun r a b => by
      obtain ⟨gi, c1, c2⟩ := foe.mpr ⟨a, b⟩;cases List.mem_singleton.mp c1;exact List.mem_singleton.mp (hq ▸ c2)
    have allo : ∀ r, (Dead n g1 r ∧ g1 r = some c) ↔ r ∈ o.P := fun r => by
      constructor
      · intro z;obtain ⟨gi, c1, c2⟩ := hd.mp z.1;have := om.mpr ⟨c1, Option.some.inj ((h.col c1 c2).1.symm.trans z.2)⟩;exact List.mem_singleton.mp this ▸ c2
      · intro hr;obtain ⟨e, d⟩ := h.col hom.1 hr;exact ⟨d, hom.2 ▸ e⟩
    refine ⟨o, rfl, fun hlen => ?_, fun k => ?_⟩
    · obtain ⟨x, hx⟩ := List.length_eq_one_iff.mp hlen;have ox : ∀ r, r ∈ o.P → r = p0 := fun r hr => (List.mem_singleton.mp (hx ▸ hr)).trans (List.mem_singleton.mp (hx ▸ hp0o)).symm;exact ⟨hqD.1, hqD.2, allf, ((allo p0).mpr hp0o).1, fun r a b => ox r ((allo r).mp ⟨a, b⟩)⟩
    · obtain ⟨_, _, _, _, k5⟩ := k;rw [all_one (q := p0) (h.g1 o hom.1).1 (fun e => nomatch e ▸ hp0o) fun r hr => k5 r ((allo r).mpr hr).1 ((allo r).mpr hr).2]; rfl
  · obtain ⟨k1, k2, k3, k4, k5⟩ := hk;have one : ∀ gi, gi ∈ F → gi.P = [q] := fun gi hg => all_one (nef gi hg).2 (nef gi hg).1 fun r hr => k3 r (foe.mp ⟨gi, hg, hr⟩).1 (foe.mp ⟨gi, hg, hr⟩).2;cases F with
    | nil => exact hF0 rfl
    | cons a t =>
      cases t with
      | nil => exact hno a rfl ((one a (.head _)).symm ▸ rfl)
      | cons b t => exact (List.pairwise_cons.mp fdis).1 b (.head _) q ((one a (.head _)).symm ▸ List.Mem.head _) ((one b (.tail _ (.head _))).symm ▸ List.Mem.head _)
  · obtain ⟨gi, a, b⟩ := foe.mpr ⟨hk.1, hk.2.1⟩;rw [hf] at a;cases List.mem_singleton.mp a;exact List.mem_singleton.mp (hq ▸ b)
end
end
end Go
end
section
namespace Go
open PySem PySem.W PyProof.Rows PySem.Calls
section
noncomputable abbrev top (i:Nat) : Stmt := nthS PySem.Challenge.pw_im0127_05.main.body i
noncomputable abbrev brd : Stmt := top 6
noncomputable def inS : Stmt := nthS (fbody brd) 0
noncomputable def cpS : Stmt := nthS (fbody brd) 1
noncomputable def mgS : Stmt := nthS (fbody brd) 2
noncomputable def fsS : Stmt := nthS (fbody brd) 4
noncomputable def faS : Stmt := nthS (fbody brd) 5
noncomputable def ieS : Stmt := nthS (fbody brd) 6
noncomputable def geS : Stmt := nthS (fbody brd) 7
noncomputable def plS : Stmt := nthS (fbody brd) 8
noncomputable def asS : Stmt := nthS (fbody brd) 9
noncomputable def loS : Stmt := nthS (fbody brd) 10
noncomputable def opS : Stmt := top 3
noncomputable abbrev sb : Str := ofString "b"
noncomputable abbrev sw : Str := ofString "w"
noncomputable def ODict (G:Gl) (d:Addr) (fs:List (Str × LV)) : Prop := ∃ ob es n, G.K.lookup d = some ob ∧ ob.cls = .type "dict" ∧ ob.dict = none ∧ ob.slots = #[] ∧ ob.data = .dict (List.toArray es) n ∧ SEnt G.w (fun ww => none) fs es ∧ (fs.map (·.1)).Nodup
theorem EV_odict {G:Gl} {k:Nat} {fl:Bool} {sc:Scope} {m:Loc} {H:Hp} {Q:Qv} {X:Xc} {d:Addr} {fs:List (Str × LV)} {x:Str} {lv:LV} {v i:Expr} {pos:Pos} (D:ODict G d fs) (hl:fs.lookup x = some lv)
    (h:EV G k fl sc v m H (fun a H1 => a = .ref d ∧ EV G k fl sc i m H1 (fun b H2 => b = .str x ∧ Q lv H2) X) X)
    (hs':∀ o i', subscripted i false o i' = operate [o, i'] (getItem o i') := by intro _ _; with_unfolding_all rfl) : EV G k fl sc (.Subscript v i pos) m H Q X := fun env A C Z s hs I =>
  Subscript_ (wpAny_mono (h env A C Z s hs I) (fun va s1 ⟨C1, a, H1, c1, I1, v1, e1, q1⟩ =>
    wpAny_mono (q1 env A C1 Z s1 hs I1) (fun vb s2 ⟨C2, b, H2, c2, I2, v2, e2, q2⟩ => by
      subst e2; subst e1; cases v1;obtain ⟨t, rfl⟩ := v2;obtain ⟨ob, es, n, k1, k2, k3, k4, k5, k6, nd⟩ := D;have k0 := I2.kin _ _ k1;obtain ⟨kvs, p1, p2, p3⟩ := SV.of k6;have DD : s2.heap.DictOf (sk G) d kvs := ⟨ob, _, n, k0, ⟨k2, k3, k4⟩, k5, fun e he => p3 e (by simpa using he), p1, by rw [p2.keys]; exact nd⟩;obtain ⟨w, w1, w2⟩ := p2.val hl
      exact tail_any ⟨ob, k0, k2⟩ F.slot_dict_getitem.lookup (wpAny_getItem_of (knd := sk G) (k := x) (isStr_sk x t) DD.mapOf w1 ⟨C2, lv, H2, c1.trans c2, I2.toks, w2.mono (fun ww ww e => by cases e), q2⟩) (hs' _ _)) fun ww ww x => XPost.up c1 x) fun ww ww x => x)
structure BW (G:Gl) where
  bc : Addr
  gc : Addr
  rc : Addr
  fin : Addr
  fcp : Addr
  fmg : Addr
  fme : Addr
  ffs : Addr
  ffa : Addr
  fie : Addr
  fge : Addr
  fpl : Addr
  fas : Addr
  flo : Addr
  far : Addr
  fop : Addr
  frg : Addr
  aop : Addr
  hh : G.hn = true
  n_set : GNm G (ofString "set") (.type "set")
  n_list : GNm G (ofString "list") (.type "list")
  n_range : GNm G (ofString "range") (.type "range")
  n_len : GNm G (ofString "len") (.builtin "len")
  n_ie : GNm G (ofString "IndexError") (.type "IndexError")
  n_ve : GNm G (ofString "ValueError") (.type "ValueError")
  n_ke : GNm G (ofString "KeyError") (.type "KeyError")
  n_board : GNm G (ofString "Board") (.ref bc) ∧ keepIn G.K (.ref bc) = true
  n_group : GNm G (ofString "_Group") (.ref gc) ∧ keepIn G.K (.ref gc) = true
  n_op : Fn G (ofString "opponent_of") fop opS
  n_opd : GNm G (ofString "_opponents") (.ref aop)
  opd : ODict G aop [(sb, .str sw), (sw, .str sb)]
  ob : ObjCls G.K bc = true
  og : ObjCls G.K gc = true
  mb : makesIn G.K bc = true
  mgr : makesIn G.K gc = true
  ib : findIn G.K (.ref bc) "__init__" = some (some (.ref fin)) ∧ typeIn G.K (.ref fin) = some (.type "function") ∧ IsFn G fin inS
  ig : findIn G.K (.ref gc) "__init__" = some (some (.builtin "object.__init__"))
  m_cp : Meth G bc (ofString "copy") fcp cpS
  m_mg : Meth G bc (ofString "_make_group") fmg mgS
  m_fs : Meth G bc (ofString "_find_surrounded_groups") ffs fsS
  m_fa : Meth G bc (ofString "_find_all_surrounded_groups") ffa faS
  m_ie : Meth G bc (ofString "is_empty") fie ieS
  m_ge : Meth G bc (ofString "get") fge geS
  m_pl : Meth G bc (ofString "play") fpl plS
  m_as : Meth G bc (ofString "apply_setup") fas asS
  m_lo : Meth G bc (ofString "list_occupied_points") flo loS
  a_side : NoAttr G.K bc (ofString "side") = true
  a_pts : NoAttr G.K bc (ofString "board_points") = true
  a_brd : NoAttr G.K bc (ofString "board") = true
  a_emp : NoAttr G.K bc (ofString "_is_empty") = true
  g_col : NoAttr G.K gc (ofString "colour") = true
  g_pts : NoAttr G.K gc (ofString "points") = true
  g_sur : NoAttr G.K gc (ofString "is_surrounded") = true
noncomputable def cv : Option Str → LV
  | none => .none
  | some x => .str x
noncomputable def bns (n:Nat) (pl bl:Addr) (em:Bool) : List (Str × LV) := [(ofString "side", .int n), (ofString "board_points", .ref pl), (ofString "board", .ref bl), (ofString "_is_empty", .bool em)]
noncomputable def gns (c:Str) (a:Addr) (b:Bool) : List (Str × LV) := [(ofString "colour", .str c), (ofString "points", .ref a), (ofString "is_surrounded", .bool b)]
theorem ne1 : (ofString "board_points" == ofString "side") = false := by decide +kernel
theorem ne2 : (ofString "board" == ofString "side") = false := by decide +kernel
theorem ne3 : (ofString "board" == ofString "board_points") = false := by decide +kernel
theorem ne4 : (ofString "_is_empty" == ofString "side") = false := by decide +kernel
theorem ne5 : (ofString "_is_empty" == ofString "board_points") = false := by decide +kernel
theorem ne6 : (ofString "_is_empty" == ofString "board") = false := by decide +kernel
theorem ne7 : (ofString "points" == ofString "colour") = false := by decide +kernel
theorem ne8 : (ofString "is_surrounded" == ofString "colour") = false := by decide +kernel
theorem ne9 : (ofString "is_surrounded" == ofString "points") = false := by decide +kernel
theorem bns_side {n:Nat} {pl bl:Addr} {em:Bool} : (bns n pl bl em).lookup (ofString "side") = some (.int n) := by simp [bns]
theorem bns_pts {n:Nat} {pl bl:Addr} {em:Bool} : (bns n pl bl em).lookup (ofString "board_points") = some (.ref pl) := by simp [bns, List.lookup_cons, ne1]
theorem bns_brd {n:Nat} {pl bl:Addr} {em:Bool} : (bns n pl bl em).lookup (ofString "board") = some (.ref bl) := by simp [bns, List.lookup_cons, ne2, ne3]
theorem bns_emp {n:Nat} {pl bl:Addr} {em:Bool} : (bns n pl bl em).lookup (ofString "_is_empty") = some (.bool em) := by simp [bns, List.lookup_cons, ne4, ne5, ne6]
theorem gns_col {c:Str} {a:Addr} {b:Bool} : (gns c a b).lookup (ofString "colour") = some (.str c) := by simp [gns]
theorem gns_pts {c:Str} {a:Addr} {b:Bool} : (gns c a b).lookup (ofString "points") = some (.ref a) := by simp [gns, List.lookup_cons, ne7]
theorem gns_sur {c:Str} {a:Addr} {b:Bool} : (gns c a b).lookup (ofString "is_surrounded") = some (.bool b) := by simp [gns, List.lookup_cons, ne8, ne9]
structure Bd where
  x : Addr
  d : Addr
  pl : Addr
  bl : Addr
  rows : List Addr
noncomputable def rowL (n:Nat) (g:Grd) (i:Nat) : List LV := (List.range n).map fun (j:Nat) => cv (g (i, j))
structure BAt (H:Hp) (b:Bd) (n:Nat) (g:Grd) (em:Bool) : Prop where
  ns : H b.d = some (.ns (bns n b.pl b.bl em))
  pl : H b.pl = some (.lst ((pts n).map pv))
  bl : H b.bl = some (.lst (b.rows.map .ref))
  len : b.rows.length = n
  row : ∀ i a, b.rows[i]? = some a → H a = some (.lst (rowL n g i))
  nd : b.rows.Nodup
  two : 2 ≤ n
  nine : n ≤ 9
  col : ∀ p c, g p = some c → c = sb ∨ c = sw
theorem BAt.ext {H H':Hp} {b:Bd} {n:Nat} {g:Grd} {em:Bool} (h:BAt H b n g em) (e:Ext H H') : BAt H' b n g em :=
  ⟨e _ _ h.ns, e _ _ h.pl, e _ _ h.bl, h.len, fun i a q => e _ _ (h.row i a q), h.nd, h.two, h.nine, h.col⟩
section
variable {G:Gl} {k:Nat} {fl:Bool} {sc:Scope} {m:Loc} {H:Hp} {Q:Qv} {X:Xc} (B:BW G)
theorem SA_g1 {c0:Addr} (hc0:c0 = B.gc) {x d:Addr} {v:LV} {N:Hp → Prop} (hd:H d = some (.ns [])) (h:N (hset H d (.ns [(ofString "colour", v)]))) : SA G (ofString "colour") (.inst c0 x d) v H N X := by
  subst hc0; exact SA_of hd B.og B.g_col (by simp) h
theorem SA_g2 {c0:Addr} (hc0:c0 = B.gc) {x d:Addr} {v w:LV} {N:Hp → Prop} (hd:H d = some (.ns [(ofString "colour", v)])) (h:N (hset H d (.ns [(ofString "colour", v), (ofString "points", w)]))) : SA G (ofString "points") (.inst c0 x d) w H N X := by
  subst hc0; exact SA_of hd B.og B.g_pts (by simp) (by rw [aput, if_neg (fun e => by have := ne7; rw [e] at this; simp at this)]; exact h)
theorem SA_g3 {c0:Addr} (hc0:c0 = B.gc) {x d:Addr} {c:Str} {a:Addr} {b:Bool} {N:Hp → Prop} (hd:H d = some (.ns [(ofString "colour", .str c), (ofString "points", .ref a)])) (h:N (hset H d (.ns (gns c a b)))) : SA G (ofString "is_surrounded") (.inst c0 x d) (.bool b) H N X := by
  subst hc0; exact SA_of hd B.og B.g_sur (by simp) (by rw [aput, if_neg (fun e => by have := ne8; rw [e] at this; simp at this), aput, if_neg (fun e => by have := ne9; rw [e] at this; simp at this)]; exact h)
theorem SA_emp {c0:Addr} (hc0:c0 = B.bc) {x d:Addr} {n:Nat} {pl bl:Addr} {em em':Bool} {N:Hp → Prop} (hd:H d = some (.ns (bns n pl bl em))) (h:N (hset H d (.ns (bns n pl bl em')))) : SA G (ofString "_is_empty") (.inst c0 x d) (.bool em') H N X := by
  subst hc0; exact SA_of hd B.ob B.a_emp (by simp [bns]) (by rw [bns, aput, if_neg (fun e => by have := ne4; rw [e] at this; simp at this), aput, if_neg (fun e => by have := ne5; rw [e] at this; simp at this), aput, if_neg (fun e => by have := ne6; rw [e] at this; simp at this), aput, if_pos rfl]; exact h)
theorem SA_brd {c0:Addr} (hc0:c0 = B.bc) {x d:Addr} {n:Nat} {pl bl bl':Addr} {em:Bool} {N:Hp → Prop} (hd:H d = some (.ns (bns n pl bl em))) (h:N (hset H d (.ns (bns n pl bl' em)))) : SA G (ofString "board") (.inst c0 x d) (.ref bl') H N X := by
  subst hc0; exact SA_of hd B.ob B.a_brd (by simp [bns]) (by rw [bns, aput, if_neg (fun e => by have := ne2; rw [e] at this; simp at this), aput, if_neg (fun e => by have := ne3; rw [e] at this; simp at this), aput, if_pos rfl]; exact h)
theorem SA_b1 {c0:Addr} (hc0:c0 = B.bc) {x d:Addr} {v:LV} {N:Hp → Prop} (hd:H d = some (.ns [])) (h:N (hset H d (.ns [(ofString "side", v)]))) : SA G (ofString "side") (.inst c0 x d) v H N X := by
  subst hc0; exact SA_of hd B.ob B.a_side (by simp) h
theorem SA_b2 {c0:Addr} (hc0:c0 = B.bc) {x d:Addr} {v w:LV} {N:Hp → Prop} (hd:H d = some (.ns [(ofString "side", v)])) (h:N (hset H d (.ns [(ofString "side", v), (ofString "board_points", w)]))) : SA G (ofString "board_points") (.inst c0 x d) w H N X := by
  subst hc0; exact SA_of hd B.ob B.a_pts (by simp) (by rw [aput, if_neg (fun e => by have := ne1; rw [e] at this; simp at this)]; exact h)
theorem SA_b3 {c0:Addr} (hc0:c0 = B.bc) {x d:Addr} {v w u:LV} {N:Hp → Prop} (hd:H d = some (.ns [(ofString "side", v), (ofString "board_points", w)])) (h:N (hset H d (.ns [(ofString "side", v), (ofString "board_points", w), (ofString "board", u)]))) : SA G (ofString "board") (.inst c0 x d) u H N X := by
  subst hc0; exact SA_of hd B.ob B.a_brd (by simp) (by rw [aput, if_neg (fun e => by have := ne2; rw [e] at this; simp at this), aput, if_neg (fun e => by have := ne3; rw [e] at this; simp at this)]; exact h)
theorem SA_b4 {c0:Addr} (hc0:c0 = B.bc) {x d:Addr} {n:Nat} {pl bl:Addr} {em:Bool} {N:Hp → Prop} (hd:H d = some (.ns [(ofString "side", .int n), (ofString "board_points", .ref pl), (ofString "board", .ref bl)])) (h:N (hset H d (.ns (bns n pl bl em)))) : SA G (ofString "_is_empty") (.inst c0 x d) (.bool em) H N X := by
  subst hc0; exact SA_of hd B.ob B.a_emp (by simp) (by rw [aput, if_neg (fun e => by have := ne4; rw [e] at this; simp at this), aput, if_neg (fun e => by have := ne5; rw [e] at this; simp at this), aput, if_neg (fun e => by have := ne6; rw [e] at this; simp at this)]; exact h)
end
section
variable {G:Gl} {k:Nat} {fl:Bool} {sc:Scope} {m:Loc} {H:Hp} {Q:Qv} {X:Xc} (B:BW G)
end
noncomputable def IsCol (c:Str) : Prop := c = sb ∨ c = sw
theorem IsCol.lay {c:Str} (h:IsCol c) : PyData.canLay0 (.str c) = true := by
  rcases h with rfl | rfl <;> decide +kernel
theorem eqv_str {a b:Str} : PyData.eqv (.str a) (.str b) = decide (a = b) := by
  simp [PyData.eqv]
  by_cases h : a = b <;> simp [h]
theorem BO_eqs {G:Gl} {H:Hp} {Q:Qv} {X:Xc} {a b:Str} (ha:IsCol a) (hb:IsCol b) (h:Q (.bool (decide (a = b))) H) : BO G (compareOp .Eq) (.str a) (.str b) H Q X :=
  BO_eq (.str ha.lay) (.str hb.lay) (by rw [eqv_str]; exact h) (by simp [PyData.depth])
theorem BO_nes {G:Gl} {H:Hp} {Q:Qv} {X:Xc} {a b:Str} (ha:IsCol a) (hb:IsCol b) (h:Q (.bool (!decide (a = b))) H) : BO G (compareOp .NotEq) (.str a) (.str b) H Q X :=
  BO_ne (.str ha.lay) (.str hb.lay) (by rw [eqv_str]; exact h) (by simp [PyData.depth])
theorem len1 {α:Type} {l:List α} (h:l.length = 1) : ∃ a, l = [a] := by match l, h with | [a], _ => exact ⟨_, rfl⟩
end
section
inductive EnAt (C:Cm) (H:Hp) (s:Shared) (e it l:Addr) (i:Nat) : Prop
  | mk (old:Value) (ce:C e = none) (he:H e = none) (ci:C it = none) (hi:H it = none) (ne:e ≠ it) (h1:IsEnum s.heap e it i old) (h2:s.heap.IsListIter it l i)
inductive LpE (G:Gl) (k:Nat) (env:Env) (A:Around) (Z:Zs) (C0:Cm) (e it l:Addr) (N:Nat) (J:Nat → Loc → Hp → Prop) (n:Nat) (s:Shared) : Prop
  | mk (C1:Cm) (m1:Loc) (H1:Hp) (i:Nat) (c:Cle C0 C1) (I:Inv G k true env A C1 Z m1 H1 s) (a:EnAt C1 H1 s e it l i) (j:J i m1 H1) (hn:n = N - i)
section
variable {G:Gl} {k:Nat} {fl:Bool} {env:Env} {A:Around} {C:Cm} {Z:Zs} {m:Loc} {H:Hp} {s:Shared} {e it l:Addr} {i:Nat}
theorem enum_step {lv:LV} {vs:List LV} {E:Value → Shared → Prop} {Q:Option Value → Shared → Prop} (I:Inv G k fl env A C Z m H s) (a:EnAt C H s e it l i) (hl:H l = some (.lst vs)) (hv:vs[i]? = some lv)
    (h:∀ C1 (T:Addr) s1, Cle C C1 → VR C1 (.tup [.int i, lv]) (.ref T) → (∃ x, IsEnumOut s1.heap e it ((i + 1 : Nat) : Int) x T) → s1.heap.IsListIter it l (i + 1) → C1 e = none → C1 it = none → Inv G k fl env A C1 Z m H s1 → Q (some (.ref T)) s1) : wpAny G.M A (pyNext (.ref e)) Q E s := by
  obtain ⟨old, ce, he, ci, hi, ne, h1, h2⟩ := a;obtain ⟨us, hL, hvs, _⟩ := I.list hl;obtain ⟨v, v1, v2⟩ := hvs.get hv;obtain ⟨oi, w1, w2, w3⟩ := id h2;refine wpAny_pyNext_enum_item h1 h2 hL (x := v) (by rw [List.getElem?_toArray]; exact v1) ne fun h' heo hit hT hz kp => ?_;obtain ⟨oj, g1, g2, g3⟩ := id hit;obtain ⟨c1, K1⟩ := I.allocC (tk := s.toks) (h' := s.heap.push { cls := .type "tuple", data := .seq #[.int i s.toks, v] }) (Heap.get?_none_of_le (Nat.le_refl _)) (fun b o x => Heap.get?_push_of_some _ x) (Heap.get?_push_size _ rfl);have se : e ≠ s.heap.objs.size := Nat.ne_of_lt (Heap.lt_size h1);have si : it ≠ s.heap.objs.size := Nat.ne_of_lt (Heap.lt_size w1);have ce' := (cset_ne C { cls := .type "tuple", data := .seq #[.int i s.toks, v] } se).trans ce;have ci' := (cset_ne C { cls := .type "tuple", data := .seq #[.int i s.toks, v] } si).trans ci;have K2 := K1.alien (tk := s.toks) (a := it) (h' := (s.heap.push { cls := .type "tuple", data := .seq #[.int i s.toks, v] }).update it fun ww => oj) (Heap.get?_push_of_some _ w1) w3 ci' hi (.update ..);have K3 := K2.alienE (tk := s.toks + 1) (it := e) (h' := h') (Heap.get?_update_of_ne _ ne.symm (Heap.get?_push_of_some _ h1)) rfl ce' he fun b o hb x => by
    by_cases q : b = it
    · cases q;exact Option.some.inj ((Heap.get?_update_self (fun ww => oj) (Heap.get?_push_of_some _ w1) (Obj.isFreed_of_fields g3)).symm.trans x) ▸ g1
    · have x := (Heap.get?_update_other _ _ (Ne.symm q)).symm.trans x;rcases Heap.get?_push_cases x with ⟨rfl, rfl⟩ | x
      · exact hT
      · exact kp b o hb q x
  exact h _ _ _ c1 ⟨_, [.int i s.toks, v], rfl, ⟨_, _, cset_same _ _ _, rfl, rfl⟩, _, _, rfl, ⟨_, rfl⟩, _, _, rfl, v2.mono c1, rfl⟩ ⟨v, heo⟩ hit ce' ci' K3
end
section
variable {G:Gl} {k:Nat} {sc:Scope} {m:Loc} {H:Hp} {P:PQ}
theorem EX_ForE {x:Str} {np cp tp p:Pos} {ts:List Expr} {kk:Nat} {ae:Expr} {b:List Stmt} (hr:G.hr = true) (hx:sc.names.lookup x = some .globalImplicit) (hg:GNm G x (.type "enumerate")) (hd:(x == ("__debug__" : Str)) = false)
    (hs':∀ env, starEach [ae] env = [(false, eval ae env)])
    (h:EV G k true sc ae m H (fun lv H1 => ∃ l vs, ∃ J : Nat → Loc → Hp → Prop, lv = .ref l ∧ J 0 m H1 ∧ ∀ i m H, J i m H → H l = some (.lst vs) ∧ (vs[i]? = none → P.n m H) ∧ ∀ lv, vs[i]? = some lv → AS G k true sc (.Tuple ts kk tp) (.tup [.int i, lv]) m H (fun m1 H1 => EXS G k sc b m1 H1 ⟨J (i + 1), P.r, P.n, J (i + 1), P.x⟩) P.x) (fun c H' => P.x c m H')) :
    EX G k sc (.For (.Tuple ts kk tp) (.Call (.Name x np) [ae] [] cp) b [] p) m H P := fun env A C Z s hs I => by
  refine wpAny_For (Call_Name (trees := [(false, eval ae env)]) (by rw [hs']; rfl) (I.name (kind_of hs hx) hg hd
    (PyProof.Rows.callWith_type rfl (evalArgs_any rfl (spliced_cons (wpAny_mono (h env A C Z s hs I) (fun v s1 h1 => spliced_nil ?_) fun ww ww x => x.xs fun ww ww q => q)))))) fun ww => rfl
  obtain ⟨C0, lv, H0, c0, I0, v1, l, vs, J, rfl, j0, hJ⟩ := h1;cases v1;obtain ⟨us, nn, hL, hvs, hlen, _⟩ := I0.lst (hJ 0 m H0 j0).1;refine call_enumerate_1 hL fun h' he hit hz kp => wpAny_pyIter_enum he ?_;have K0 := I0.keeps (tk := s1.toks) kp;obtain ⟨f1, f2, _⟩ := I0.fresh (a := s1.heap.objs.size + 1) (Heap.get?_none_of_le (Nat.le_succ _));obtain ⟨f3, f4, _⟩ := I0.fresh (a := s1.heap.objs.size) (Heap.get?_none_of_le (Nat.le_refl _));have up : ∀ {C'}, Cle C C' → ∀ e s', XsPost G k true env A C' Z P.x e s' → notedBy G.M A env (fun e s' => cameBackBy G.M A env (XsPost G k true env A C Z P.x) e s') e s' := fun c e s' x => (XsPost.up c x).came;refine codeAny_forLoop_any (fun n s => LpE G k env A Z C0 (s1.heap.objs.size + 1) s1.heap.objs.size l vs.length J n s) (fun n s2 h2 => ?_) vs.length ⟨C0, m, H0, 0, Cle.refl _, K0, ⟨_, f1, f2, f3, f4, Nat.succ_ne_self _, he, hit⟩, j0, rfl⟩;obtain ⟨C1, m1, H1, i, c1, I1, a1, j1, rfl⟩ := h2;obtain ⟨q0, q1, q2⟩ := hJ i m1 H1 j1;have cc := c0.trans c1;cases hv : vs[i]? with
  | none =>
    obtain ⟨old, ce, hE, ci, hi, ne, g1, g2⟩ := a1;obtain ⟨us1, hL1, hvs1, _⟩ := I1.list q0;obtain ⟨oi, w1, w2, w3⟩ := id g2;exact wpAny_pyNext_enum_end (I1.hno hr) g1 g2 hL1 (by rw [List.getElem?_toArray, List.getElem?_eq_none_iff, hvs1.length]; exact List.getElem?_eq_none_iff.mp hv) fun h3 hx3 => wpAny_mono (EXS_nil (q1 hv) env A C1 Z _ hs (I1.alienE (tk := s2.toks) w1 w3 ci hi hx3)) (fun f s4 h4 => FPost.up cc h4) fun e s' x => up cc e s' x
  | some lv =>
    obtain ⟨eE, iE⟩ : H1 (s1.heap.objs.size + 1) = none ∧ H1 s1.heap.objs.size = none := by obtain ⟨_, _, a, _, b, _⟩ := a1; exact ⟨a, b⟩
    refine enum_step I1 a1 q0 hv fun C2 T s3 c2 v2 ⟨w, heo⟩ hit2 ce ci K3 => wpAny_letOwnedTupleGo_enum heo fun h4 he4 hs4 => ?_;have K4 := K3.alien (tk := s3.toks) heo rfl ce eE hs4;obtain ⟨oi, w1, w2, w3⟩ := hit2.extBut hs4.extBut (Nat.ne_of_lt (Nat.lt_succ_self _));obtain ⟨c5, K5⟩ := K4.shown he4 rfl ce eE;have ci5 := (cset_ne C2 { cls := .type "enumerate", dict := none, data := .fields #[.none, .bool false, .ref s1.heap.objs.size, rawInt ((i + 1 : Nat) : Int), .none, w], slots := #[] } (Nat.ne_of_lt (Nat.lt_succ_self _))).trans ci;obtain ⟨c6, K6⟩ := K5.shown w1 w3 ci5 iE;refine wpAny_mono (q2 lv hv env A _ Z _ (.ref T) hs K6 ((v2.mono c5).mono c6)) (fun ww s6 h6 => ?_) fun e s' x => up (((cc.trans c2).trans c5).trans c6) e s' x;obtain ⟨C6, m6, H6, d6, I6, q6⟩ := h6;refine wpAny_mono (q6 env A C6 Z s6 hs I6) (fun f s7 h7 => ?_) fun e s' x => up ((((cc.trans c2).trans c5).trans c6).trans d6) e s' x;obtain ⟨C7, m7, H7, c7, I7, q7⟩ := h7;have d7 := d6.trans c7;obtain ⟨y1, y2, y3, y4, y5, y6, y7⟩ := Inv.hidden K5 ci5 (c6.trans d7) I7 (d7 _ _ (cset_same _ _ _)) (w3 ▸ rfl);obtain ⟨z1, z2, z3, z4, z5, z6, z7⟩ := Inv.hidden K4 ce (c5.trans y1) y2 (y1 _ _ (cset_same _ _ _)) rfl;have lt : i < vs.length := (List.getElem?_eq_some_iff.mp hv).1;have nx : J (i + 1) m7 H7 → ∃ n', n' < vs.length - i ∧ LpE G k env A Z C0 (s1.heap.objs.size + 1) s1.heap.objs.size l vs.length J n' s7 := fun j => ⟨_, Nat.sub_succ_lt_self _ _ lt, _, m7, H7, i + 1, (c1.trans c2).trans z1, z2, ⟨_, z3, z4, (if_neg (Nat.ne_of_lt (Nat.lt_succ_self _))).trans y3, y4, Nat.succ_ne_self _, z5, ⟨_, y5, w2, w3⟩⟩, j, rfl⟩;cases f with
    | next => exact nx q7
    | cont => exact nx q7
    | brk => exact ⟨_, m7, H7, (cc.trans c2).trans z1, z2, q7⟩
    | ret v' => obtain ⟨lr, r1, r2⟩ := q7; exact ⟨_, m7, H7, (cc.trans c2).trans z1, z2, lr, z7 (y7 r1), r2⟩
end
end
end Go
end
section
namespace Go
open PySem PySem.W PyProof.Rows
structure Gd where
  ta : Str
  tb : Str
  xs : Str
  xr : Str
  scope : Scope
  pos : Pos
  q : Nat → Pos
  kd : Nat
namespace Gd
noncomputable def it (g:Gd) (i:Nat) : Expr := .Call (.Name g.xr (g.q i)) [.Name g.xs (g.q (i + 1))] [] (g.q (i + 2))
noncomputable def elt (g:Gd) : Expr := .Tuple [.Name g.ta (g.q 1), .Name g.tb (g.q 2)] g.kd (g.q 3)
noncomputable def gens (g:Gd) : List Comprehension := [⟨.Name g.ta (g.q 4), g.it 5, [], 0⟩, ⟨.Name g.tb (g.q 8), g.it 9, [], 0⟩]
noncomputable def fr (g:Gd) (z:Str) (n:Nat) (o0 o1 o2:Option LV) : Loc := [(z, o0), (g.ta, o1), (g.tb, o2), (g.xs, some (.int n))]
structure Ok (g:Gd) (G:Gl) (sc:Scope) : Prop where
  hh : G.hn = true
  r : GNm G g.xr (.type "range")
  a : sc.names.lookup g.ta = some .local
  b : sc.names.lookup g.tb = some .local
  x : sc.names.lookup g.xr = some .globalImplicit
  na : (g.ta == ("__classdict__" : Str)) = false ∧ (g.ta == ("__debug__" : Str)) = false
  nb : (g.tb == ("__classdict__" : Str)) = false ∧ (g.tb == ("__debug__" : Str)) = false
  nx : (g.xs == ("__classdict__" : Str)) = false ∧ (g.xs == ("__debug__" : Str)) = false
  nr : (g.xr == ("__debug__" : Str)) = false
end Gd
inductive GJ (g:Gd) (z:Str) (n:Nat) (H1:Hp) (D:Addr) : Nat → Int × Nat → Loc → Hp → Prop
  | mk (i w:Nat) (h:i + w = n) (o0 o1 o2:Option LV) (H:Hp) (e:Ext H1 H) (l:H D = some (.lst ((ptsN n i).map pv))) : GJ g z n H1 D w (i, w) (g.fr z n o0 o1 o2) H
inductive GK (g:Gd) (z:Str) (n:Nat) (H1:Hp) (D:Addr) (i:Nat) : Nat → Int × Nat → Loc → Hp → Prop
  | mk (j w:Nat) (h:j + w = n) (o0 o2:Option LV) (H:Hp) (e:Ext H1 H) (l:H D = some (.lst ((ptsN n i ++ (List.range j).map fun (c:Nat) => ((i:Int), (c:Int))).map pv))) : GK g z n H1 D i w (j, w) (g.fr z n o0 (some (.int i)) o2) H
theorem grid_len {n i j:Nat} (hn:n ≤ 60) (hi:i ≤ n) (hj:j ≤ n) : ((ptsN n i ++ (List.range j).map fun (c:Nat) => ((i:Int), (c:Int))).map pv).length < 4096 := by
  rw [List.length_map, List.length_append, ptsN_len, List.length_map, List.length_range];exact Nat.lt_of_le_of_lt (Nat.add_le_add (Nat.mul_le_mul (Nat.le_trans hi hn) hn) (Nat.le_trans hj hn)) (by decide)
theorem CS_grid {G:Gl} {k:Nat} {sc:Scope} {D:Addr} {H1:Hp} {n:Nat} {z:Str} {g:Gd} {N:Loc → Hp → Prop} (O:g.Ok G sc) (hn:n ≤ 60) (hD:H1 D = none) (hN:∀ m' H', Ext H1 H' → H' D = some (.lst ((pts n).map pv)) → N m' H') :
    CS G k sc (stpN G) (.ListComp g.elt g.gens g.scope g.pos) 0 D (0, n) (g.fr z n none none none) (hset H1 D (.lst [])) N := by
  refine CS_loop (S := stpN G) rfl O.hh (GJ g z n H1 D) (.mk 0 n (Nat.zero_add n) none none none _ ((Ext.refl _).set hD) (hset_same ..)) fun w x m H j => ?_;obtain ⟨i, w, hw, o0, o1, o2, H, hE, hL⟩ := j;cases w with
  | zero => exact ⟨none, rfl, fun ww => hN _ H hE ((show i = n from hw) ▸ hL), (fun ww ww q => nomatch q)⟩
  | succ w =>
    refine ⟨some (.int i, ((i:Int) + 1, w)), rfl, (fun q => nomatch q), fun lv x' q => ?_⟩;cases q;have hi : i ≤ n := hw ▸ Nat.le_add_right ..;refine AS_Name (m' := g.fr z n o0 (some (.int i)) o2) (.there .here) (TSs_nil ⟨fun ww => INN_comp (S := stpN G) rfl (IT_range O.x O.r (EV_Name (.tail _ (.tail _ (.tail _ (.head _)))) ⟨n, rfl, Int.natCast_nonneg n, Int.ofNat_lt.mpr (Nat.lt_of_le_of_lt hn (by decide)), ?_⟩ O.nx.1 O.nx.2) O.nr fun ww => by with_unfolding_all rfl) (fun ww ww => by with_unfolding_all rfl), (fun q => nomatch q)⟩) (.inr O.a);refine CS_loop (S := stpN G) rfl O.hh (GK g z n H1 D i) (.mk 0 n (Nat.zero_add n) o0 o2 H hE ((List.append_nil (ptsN n i)).symm ▸ hL)) fun w' x m H' j => ?_;obtain ⟨j, w', hw', o0', o2', H', hE', hL'⟩ := j;cases w' with
    | zero => exact ⟨none, rfl, fun ww => ⟨w, Nat.lt_succ_self w, .mk (i + 1) w (Nat.succ_add_eq_add_succ i w ▸ hw) _ _ _ H' hE' (ptsN_succ n i ▸ (show j = n from hw') ▸ hL')⟩, (fun ww ww q => nomatch q)⟩
    | succ w' =>
      refine ⟨some (.int j, ((j:Int) + 1, w')), rfl, (fun q => nomatch q), fun lv x' q => ?_⟩;cases q;have hj : j ≤ n := hw' ▸ Nat.le_add_right ..;refine AS_Name (m' := g.fr z n o0' (some (.int i)) (some (.int j))) (.there (.there .here)) (TSs_nil ⟨fun ww => INN_append rfl ?_, (fun q => nomatch q)⟩) (.inr O.b);refine EV_Tuple (AR_cons (EV_Name (lv := .int i) (.tail _ (.head _)) (AR_cons (EV_Name (lv := .int j) (.tail _ (.tail _ (.head _))) (AR_nil ⟨Nat.le_of_ble_eq_true rfl, _, hL', grid_len hn hi hj, w', Nat.lt_succ_self w', .mk (j + 1) w' (Nat.succ_add_eq_add_succ j w' ▸ hw') o0' _ _ (hE'.set hD) ?_⟩) O.nb.1 O.nb.2)) O.na.1 O.na.2));rw [hset_same, List.range_succ, List.map_append (l₂ := [j]), ← List.append_assoc, List.map_append (l₂ := List.map _ [j])];rfl
end Go
end
section
namespace Go
open PySem PySem.W PyProof.Rows
section
theorem pickL_seg {vs:List LV} {lo hi:Option Int} {a b:Nat} (h:sliceBounds lo hi none vs.length = ((a:Int), (b:Int), 1)) (hb:b ≤ vs.length) : pickL vs lo hi none = (vs.drop a).take (b - a) := by
  rw [pickL, h];dsimp only;rw [sliceRange_one, List.filterMap_map];have : ∀ c, a + c ≤ vs.length → (List.range c).filterMap ((fun x => vs[x]?) ∘ (a + ·)) = (vs.drop a).take c := by
    intro c hc
    induction c with
    | zero => simp
    | succ c ih =>
      rw [List.range_succ, List.filterMap_append, ih (by omega), List.take_add_one];simp [List.getElem?_drop];have e : vs[a + c]? = some vs[a + c] := List.getElem?_eq_getElem (by omega);simp [e]
  by_cases hab : a ≤ b
  · exact this _ (by omega)
  · have : b - a = 0 := by omega
    rw [this]; simp
theorem pickL_all {vs:List LV} : pickL vs none none none = vs := by
  rw [pickL_seg (a := 0) (b := vs.length) (by simp [sliceBounds]) (Nat.le_refl _)]; simp
end
end Go
end
section
namespace Go
open PySem PySem.W PyProof.Rows
end Go
end
section
namespace Go
open PySem PySem.W PyProof.Rows
section
theorem AS_set1 {G:Gl} {k:Nat} {fl:Bool} {sc:Scope} {m:Loc} {H:Hp} {N:Loc → Hp → Prop} {X:Xk → Loc → Hp → Prop} {t:Expr} {kd:Nat} {pp:Pos} {a:Addr} {p:Int × Int} (hH:H a = some (.pset [p])) (h:ASs G k fl sc [t] [pv p] m H N X) (hh:G.hn = true) : AS G k fl sc (.Tuple [t] kd pp) (.ref a) m H N X := fun env A C Z s v hs I hv => by
  cases hv;obtain ⟨W, ob, hp, J⟩ := I.freeze hH;have hW : W = [p] := List.perm_singleton.mp hp;subst hW;obtain ⟨s1, s2⟩ := h.1.2 env;obtain ⟨ob', e1, e2, hex, _⟩ := J.st.hp a _ (hset_same _ _ _);have hT : s.TypeIs (.ref a) "set" := ⟨ob', e1, by subst e2; exact hex.1⟩;rw [arm_assign_Tuple];refine wpAny_bind (wpAny_standAt ?_);unfold unpack;rw [s2, s1];refine wpAny_bind (wpAny_holding ?_);unfold unpackItems;refine wpAny_bind ?_;unfold notIterableAtAll;refine wpAny_bind (wpAny_specialOf hT PySem.F.slot_set_iter.lookup (wpAny_pure (wp_ifn Bool.noConfusion (wpAny_bind (wpAny_holding ?_)))));refine wpAny_mono (IV_set (X := fun ww ww => False) (Q := fun x H' => x = (a, ob, 0) ∧ H' = hset H a (.psetx a [p] ob)) (hset_same _ _ _) ⟨rfl, rfl⟩ k fl env A C Z m s (.ref a) J rfl) (fun r s3 hr => ?_) (fun e s3 he => (noXE he).elim);obtain ⟨C1, H1, it, x, o, rfl, c1, I1, n1, n2, g1, i1, rfl, rfl⟩ := hr;have nx1 : (stpP G).nx (hset H a (.psetx a [p] ob)) (a, ob, 0) (some (pv p, (a, ob, 1))) := ⟨[p], hset_same _ _ _, rfl⟩;have nx2 : (stpP G).nx (hset H a (.psetx a [p] ob)) (a, ob, 1) none := ⟨[p], hset_same _ _ _, rfl⟩;refine wpAny_bind (wpAny_holding ?_);show wpAny _ _ (draw (.ref it) 1) _ _ _;unfold draw;refine wpAny_bind (wpAny_mono ((stpP G).next _ hh I1 g1 i1 n1 n2 nx1) (fun r s4 hr => ?_) fun ww ww x => x);obtain ⟨w, C2, o2, rfl, c2, I2, v2, n3, g2, i2⟩ := hr;dsimp only;refine wpAny_bind (wpAny_holding ?_);unfold draw;refine wpAny_pure (wpAny_pure ?_);dsimp only [List.length_cons, List.length_nil];rw [if_neg (by decide)];refine wpAny_bind (wpAny_holding ?_);refine wpAny_mono ((stpP G).next _ hh I2 g2 i2 n3 n2 nx2) (fun r s5 hr => ?_) fun ww ww x => x;obtain ⟨rfl, I3⟩ := hr;simp only [Option.isSome_none, Bool.false_eq_true, if_false];refine wpAny_pure ?_;have I4 := I3.thaw (hset_same _ _ _) (List.Perm.refl [p]);rw [hset_hset, hset_id hH] at I4;refine wpAny_mono (h.2 env A C2 Z s5 [w] hs I4 ⟨w, [], rfl, v2, rfl⟩) (fun _ s6 ⟨C', m', H', a, b, c⟩ => ⟨C', m', H', (c1.trans c2).trans a, b, c⟩) fun e s6 he => ?_;exact XsPost.up (c1.trans c2) he
end
end Go
end
section
namespace Go
open PySem PySem.W PyProof.Rows PySem.Calls
section
noncomputable abbrev VF := List (Option LV)
noncomputable abbrev zl (ns:List Str) (v:VF) : Loc := ns.zip v
noncomputable abbrev vget : VF → Nat → Option LV
  | [], _ => none
  | o :: _, 0 => o
  | _ :: v, n + 1 => vget v n
noncomputable abbrev vset : VF → Nat → LV → VF
  | [], _, _ => []
  | _ :: v, 0, x => some x :: v
  | o :: v, n + 1, x => o :: vset v n x
noncomputable def ix : List Str → Str → Nat
  | [], _ => 0
  | y :: ns, x => bif x == y then 0 else ix ns x + 1
structure PW where
  n : VF → Hp → Prop
  r : Qv
  b : VF → Hp → Prop
  c : VF → Hp → Prop
  x : VF → Xc
structure PW.le (I B C:VF → Hp → Prop) (P P':PW) : Prop where
  n : ∀ {v H}, I v H → P'.n v H
  b : ∀ {v H}, B v H → P'.b v H
  c : ∀ {v H}, C v H → P'.c v H
  r : ∀ {x H}, P.r x H → P'.r x H
  x : ∀ {v c H}, P.x v c H → P'.x v c H
structure PW.lt (I:VF → Hp → Prop) (T:String) (D:VF → Hp → Prop) (P P':PW) : Prop where
  n : ∀ {v H}, I v H → P'.n v H
  b : ∀ {v H}, P.b v H → P'.b v H
  c : ∀ {v H}, P.c v H → P'.c v H
  r : ∀ {x H}, P.r x H → P'.r x H
  x : ∀ {v H}, D v H → P'.x v (T, true) H
noncomputable abbrev PW.nf (P:PW) : PW := ⟨fun ww ww => False, P.r, P.b, P.c, P.x⟩
noncomputable abbrev PW.frz (P:PW) (a:Addr) (W:List (Int × Int)) (ob:Obj) (ps:List (Int × Int)) (R:VF → Hp → Prop) : PW :=
  ⟨fun v H => H a = some (.psetx a W ob) ∧ R v (hset H a (.pset ps)), fun x H => H a = some (.psetx a W ob) ∧ P.r x (hset H a (.pset ps)), fun ww ww => False, fun ww ww => False, fun ww ww ww => False⟩
noncomputable abbrev Tr (α:Type) := Gl → Nat → VF → Hp → (α → Hp → Prop) → Xc → Prop
noncomputable abbrev ITr := (G:Gl) → Nat → (S:Stp G) → VF → Hp → (S.κ → Hp → Prop) → Xc → Prop
noncomputable abbrev ST := Gl → Nat → VF → Hp → PW → Prop
structure BMeth (T:String) (name:Str) (id:String) : Prop where
  pa : PlainAttrs T
  slot : Slot T name id
  hty : typeOf (.builtin id) = pure (.type "method_descriptor")
inductive LCall (G:Gl) (f:Str) (K:Value → Prop) : Prop
  | mk (fv:Value) (hn:GNm G f fv) (hk:(∃ id, fv = .builtin id) ∨ (∃ T, fv = .type T) ∨ keepIn G.K fv = true) (q:K fv)
inductive LBm (name:Str) (H:Hp) (lv:LV) (K:String → Prop) : Prop
  | mk (T id:String) (b:BMeth T name id) (o:OfT H T lv) (q:K id)
inductive LNeg (lv:LV) (K:Int → Prop) : Prop
  | mk (i:Int) (e:lv = .int i) (q:K i)
inductive LTr (H:Hp) (lv:LV) (K:Bool → Prop) : Prop
  | mk (b:Bool) (h:truthOf H lv = some b) (q:K b)
inductive LBl (lv:LV) (K:Bool → Prop) : Prop
  | mk (b:Bool) (e:lv = .bool b) (q:K b)
inductive LTw (H:Hp) (lv:LV) (K:LV → LV → Prop) : Prop
  | mk (x y:LV) (e:lv = .tup [x, y]) (q:K x y)
inductive LTl (H:Hp) (lv:LV) (K:LV → LV → Prop) : Prop
  | mk (a:Addr) (x y:LV) (e:lv = .ref a) (h:H a = some (.lst [x, y])) (q:K x y)
inductive LOne (H:Hp) (lv:LV) (K:LV → Prop) : Prop
  | mk (a:Addr) (p:Int × Int) (e:lv = .ref a) (h:H a = some (.pset [p])) (q:K (pv p))
inductive LThr (H:Hp) (lv:LV) (K:LV → LV → LV → Prop) : Prop
  | mk (a:Addr) (x y z:LV) (e:lv = .ref a) (h:H a = some (.lst [x, y, z])) (q:K x y z)
inductive LCell (G:Gl) (v:VF) (H:Hp) (a i j:Nat) (K:LV → Prop) (KX:Prop) : Prop
  | mk (B:BW G) (b:Bd) (n:Nat) (g:Grd) (em:Bool) (r c:Int) (e1:vget v a = some (.inst B.bc b.x b.d)) (e2:vget v i = some (.int r)) (e3:vget v j = some (.int c)) (hB:BAt H b n g em) (ho:On n (r, c)) (q:K (cv (g (r, c))))
  | out (B:BW G) (hr:G.hr = true) (b:Bd) (n:Nat) (g:Grd) (em:Bool) (r c:Int) (e1:vget v a = some (.inst B.bc b.x b.d)) (e2:vget v i = some (.int r)) (e3:vget v j = some (.int c)) (hB:BAt H b n g em) (h0:0 ≤ r) (h1:0 ≤ c) (h2:r < 2 ^ 63) (h3:c < 2 ^ 63) (ho:¬ On n (r, c)) (q:KX)
inductive LOnb (G:Gl) (v:VF) (H:Hp) (a i j:Nat) (K:Bool → Prop) (neg:Bool) : Prop
  | mk (B:BW G) (b:Bd) (n:Nat) (g:Grd) (em:Bool) (r c:Int) (e1:vget v a = some (.inst B.bc b.x b.d)) (e2:vget v i = some (.int r)) (e3:vget v j = some (.int c)) (hB:BAt H b n g em) (q:K (neg != decide (On n (r, c))))
inductive LCut (R:VF → Hp → Prop) (P:PW) (K:PW → Prop) : Prop
  | mk (M:VF → Hp → Prop) (h:∀ H v, M v H → R v H) (q:∀ P', PW.le M P.b P.c P P' → K P')
inductive LEn (len:Nat) (lv:LV) (v:VF) (H:Hp) (R:VF → Hp → Prop) (P:PW) (B:Nat → LV → VF → Hp → PW → Prop) : Prop
  | mk (l:Addr) (vs:List LV) (I:Nat → VF → Hp → Prop) (e:lv = .ref l) (i0:I 0 v H) (hk:∀ i v H, I i v H → v.length = len ∧ H l = some (.lst vs)) (ht:∀ P' i lv H', PW.le (I (i + 1)) R (I (i + 1)) P P' → vs[i]? = some lv → ∀ v', I i v' H' → B i lv v' H' P') (hd:∀ v' H', I vs.length v' H' → R v' H')
inductive LTry (G:Gl) (T:String) (R:VF → Hp → Prop) (D:(VF → Hp → Prop) → VF → Hp → Prop) (P:PW) (K:PW → Prop) : Prop
  | mk (hn:GNm G (ofString T) (.type T)) (M:VF → Hp → Prop) (h:∀ H v, M v H → R v H) (q:∀ P', PW.lt M T (D M) P P' → K P')
inductive LFrz (H:Hp) (K:Addr → List (Int × Int) → List (Int × Int) → Obj → Prop) : Prop
  | mk (a:Addr) (ps:List (Int × Int)) (h:H a = some (.pset ps)) (q:∀ W ob, W.Perm ps → K a ps W ob)
inductive LS (G:Gl) (K:Stp G → Prop) : Prop
  | mk (S:Stp G) (q:K S)
inductive LRng (G:Gl) (H:Hp) (lv:LV) (K:(stpN G).κ → Hp → Prop) : Prop
  | mk (n:Int) (e:lv = .int n) (h0:0 ≤ n) (h1:n < 2 ^ 60) (q:K (0, n.toNat) H)
inductive LNS {G:Gl} : (S:Stp G) → (S.κ → Hp → Prop) → (((stpN G).κ → Hp → Prop) → Prop) → Prop
  | mk {Q:(stpN G).κ → Hp → Prop} {K:((stpN G).κ → Hp → Prop) → Prop} (hn:GNm G (ofString "range") (.type "range")) (q:K Q) : LNS (stpN G) Q K
inductive LLC (G:Gl) (S:Stp G) (x:S.κ) (H:Hp) (El:LV → Hp → (Hp → Prop) → (LV → Hp → Prop) → Prop) (Q:Qv) : Prop
  | gen (K:Hp → Prop) (vs:List LV) (y:Ys S K x vs) (I:Addr → Nat → List LV → Hp → Prop) (i0:∀ D, H D = none → I D 0 [] (hset H D (.lst []))) (hk:∀ D i acc H', I D i acc H' → K H')
    (el:∀ D i lv acc H', vs[i]? = some lv → I D i acc H' → El lv H' (I D (i + 1) acc) fun u H5 => H5 D = some (.lst acc) ∧ acc.length < 4096 ∧ I D (i + 1) (acc ++ [u]) (hset H5 D (.lst (acc ++ [u])))) (fin:∀ D acc H', H D = none → I D vs.length acc H' → Q (.ref D) H')
theorem LLC.fm {G:Gl} {S:Stp G} {x:S.κ} {H:Hp} {El:LV → Hp → (Hp → Prop) → (LV → Hp → Prop) → Prop} {Q:Qv} (K:Hp → Prop) (vs:List LV) (f:LV → Option LV) (y:Ys S K x vs) (hk:∀ H', Ext H H' → K H') (hl:vs.length ≤ 4096)
    (el:∀ lv, lv ∈ vs → ∀ H3 K0 K1, Ext H H3 → (f lv = none → ∀ H4, Ext H3 H4 → K0 H4) → (∀ u, f lv = some u → ∀ H5, Ext H3 H5 → K1 u H5) → El lv H3 K0 K1) (fin:∀ D H', H D = none → Ext H H' → H' D = some (.lst (vs.filterMap f)) → Q (.ref D) H') : LLC G S x H El Q := by
  refine .gen K vs y (fun D i acc H' => H D = none ∧ Ext H H' ∧ acc = (vs.take i).filterMap f ∧ H' D = some (.lst acc)) (fun D hD => ⟨hD, (Ext.refl H).set hD, rfl, hset_same _ _ _⟩) (fun D i acc H' ⟨_, e, _⟩ => hk H' e) (fun D i lv acc H' hi ⟨hD, e, ha, h⟩ => ?_) fun D acc H' _ ⟨hD, e, ha, h⟩ => fin D H' hD e (by rw [ha, List.take_length] at h; exact h);have ht : (vs.take (i + 1)).filterMap f = acc ++ (f lv).toList := by
    rw [List.take_add_one, hi, List.filterMap_append, ha];show _ ++ List.filterMap f [lv] = _;rw [List.filterMap_cons]; cases f lv <;> rfl
  refine el lv (List.mem_of_getElem? hi) H' _ _ e (fun q H4 e4 => ⟨hD, e.trans e4, ?_, e4 _ _ h⟩) fun u q H5 e5 => ⟨e5 _ _ h, ?_, hD, (e.trans e5).set hD, ?_, hset_same _ _ _⟩
  · rw [ht, q]; exact (List.append_nil _).symm
  · rw [ha];exact Nat.lt_of_le_of_lt (List.length_filterMap_le _ _) (Nat.lt_of_le_of_lt (Nat.le_of_eq List.length_take) (Nat.lt_of_le_of_lt (Nat.min_le_left _ _) (Nat.lt_of_lt_of_le (List.getElem?_eq_some_iff.mp hi).1 hl)))
  · rw [ht, q]; rfl
inductive LLt (J:Nat → VF → Hp → Prop) (n:Nat) (v:VF) (H:Hp) : Prop
  | mk (n':Nat) (lt:n' < n) (j:J n' v H)
inductive LWhl (len:Nat) (v:VF) (H:Hp) (R:VF → Hp → Prop) (P:PW) (B:VF → Hp → PW → Prop) : Prop
  | mk (J:Nat → VF → Hp → Prop) (n:Nat) (j:J n v H) (q:∀ P' n H', PW.le (LLt J n) R (LLt J n) P P' → ∀ v', J n v' H' → v'.length = len ∧ B v' H' P')
inductive LFor {G:Gl} (S:Stp G) (x:S.κ) (len:Nat) (v:VF) (H:Hp) (R:VF → Hp → Prop) (P:PW) (B:LV → VF → Hp → PW → Prop) : Prop
  | gen (J:Nat → S.κ → VF → Hp → Prop) (n:Nat) (j:J n x v H)
    (ht:∀ n x H' v', J n x v' H' → v'.length = len ∧ ∃ r, S.nx H' x r ∧ (r = none → R v' H') ∧ ∀ lv x', r = some (lv, x') → ∀ P', PW.le (LLt (fun n => J n x') n) R (LLt (fun n => J n x') n) P P' → B lv v' H' P')
theorem LFor.ys {G:Gl} {S:Stp G} {x:S.κ} {len:Nat} {v:VF} {H:Hp} {R:VF → Hp → Prop} {P:PW} {B:LV → VF → Hp → PW → Prop} (K:Hp → Prop) (vs:List LV) (I:Nat → VF → Hp → Prop) (y:Ys S K x vs) (i0:I 0 v H) (hk:∀ i H' v', I i v' H' → v'.length = len ∧ K H')
    (ht:∀ P' i lv H', PW.le (I (i + 1)) R (I (i + 1)) P P' → vs[i]? = some lv → ∀ v', I i v' H' → B lv v' H' P') (hd:∀ H' v', I vs.length v' H' → R v' H') : LFor S x len v H R P B := by
  refine .gen (fun n x v H => ∃ i, Ys S K x (vs.drop i) ∧ n = vs.length - i ∧ i ≤ vs.length ∧ I i v H) vs.length ⟨0, y, rfl, Nat.zero_le _, i0⟩ fun n x H' v' ⟨i, y, e, hi, h⟩ => ⟨(hk i H' v' h).1, ?_⟩;have hK := (hk i H' v' h).2;cases hl : vs.drop i with
  | nil =>
    rw [hl] at y;refine ⟨none, y _ hK, fun ww => hd H' v' ?_, (fun ww ww q => nomatch q)⟩
    rwa [Nat.le_antisymm hi (List.drop_eq_nil_iff.mp hl)] at h
  | cons w ws =>
    rw [hl] at y;obtain ⟨x', y1, y2⟩ := y;have hlt : i < vs.length := Nat.lt_of_not_le fun q => by rw [List.drop_eq_nil_iff.mpr q] at hl; cases hl
    rw [List.drop_eq_getElem_cons hlt] at hl;cases hl;have up : ∀ {v H}, I (i + 1) v H → LLt (fun n => fun v H => ∃ i, Ys S K x' (vs.drop i) ∧ n = vs.length - i ∧ i ≤ vs.length ∧ I i v H) n v H := fun h => ⟨vs.length - (i + 1), e ▸ Nat.sub_succ_lt_self _ _ hlt, i + 1, y2, rfl, hlt, h⟩;exact ⟨_, y1 _ hK, (fun q => nomatch q), fun lv x2 q P' hP => by cases q; exact ht P' i _ H' ⟨fun h => hP.n (up h), hP.b, fun h => hP.c (up h), hP.r, hP.x⟩ (List.getElem?_eq_getElem hlt) v' h⟩
noncomputable def El (K:(VF → Prop) → Prop) (v:VF) : Prop := ∀ p : VF → Prop, K p → p v
theorem El.el {K:(VF → Prop) → Prop} {p:VF → Prop} (k:K p) (v:VF) (h:El K v) : p v := h p k
theorem LFor.grow {G:Gl} {a:Addr} {len:Nat} {v:VF} {H:Hp} {R:VF → Hp → Prop} {P:PW} {B:LV → VF → Hp → PW → Prop} (N:Nat) (I:Nat → VF → Hp → Prop) (i0:I 0 v H)
    (ht:∀ i H' v', I i v' H' → v'.length = len ∧ ∃ vs, H' a = some (.lst vs) ∧ vs.length ≤ N ∧ (vs.length ≤ i → R v' H') ∧ ∀ lv, vs[i]? = some lv → ∀ P', PW.le (I (i + 1)) R (I (i + 1)) P P' → B lv v' H' P') : LFor (stpL G) (a, 0) len v H R P B := by
  refine .gen (fun n x v H => x.1 = a ∧ n = N - x.2 ∧ I x.2 v H) N ⟨rfl, rfl, i0⟩ fun n ⟨a', i⟩ H' v' ⟨e1, e2, h⟩ => ?_;obtain rfl : a' = a := e1;obtain ⟨hl, vs, h1, h2, h3, h4⟩ := ht i H' v' h;refine ⟨hl, _, ⟨vs, h1, rfl⟩, fun q => h3 ?_, fun lv x' q P' hP => ?_⟩
  · cases e : vs[i]? with
    | none => exact List.getElem?_eq_none_iff.mp e
    | some w => rw [e] at q; cases q
  · cases e : vs[i]? with
    | none => rw [e] at q; cases q
    | some w =>
      rw [e] at q; cases q;have hi : i < N := Nat.lt_of_lt_of_le (List.getElem?_eq_some_iff.mp e).1 h2;have up : ∀ {v H}, I (i + 1) v H → LLt (fun n v H => (a', i + 1).1 = a' ∧ n = N - (a', i + 1).2 ∧ I (a', i + 1).2 v H) n v H := fun h => ⟨N - (i + 1), e2 ▸ Nat.sub_succ_lt_self _ _ hi, rfl, rfl, h⟩;exact h4 _ e P' ⟨fun h => hP.n (up h), hP.b, fun h => hP.c (up h), hP.r, hP.x⟩
section
variable (G:Gl)
noncomputable abbrev int2 (a b:LV) (f:Int → Int → Prop) (d:Prop) : Prop := match a, b with
  | .int i, .int j => f i j
  | _, _ => d
noncomputable abbrev wpB (op:Operator) (a b:LV) (H:Hp) (Q:Qv) (X:Xc) : Prop := match op with
  | .Add => int2 a b (fun i j => Q (.int (i + j)) H) (BO G (binaryOp .Add) a b H Q X)
  | .Sub => int2 a b (fun i j => Q (.int (i - j)) H) (BO G (binaryOp .Sub) a b H Q X)
  | op => BO G (binaryOp op) a b H Q X
noncomputable abbrev wpI (op:Operator) (a b:LV) (H:Hp) (Q:Qv) (X:Xc) : Prop := match op with
  | .Add => int2 a b (fun i j => Q (.int (i + j)) H) (BO G (inplaceOp .Add) a b H Q X)
  | op => BO G (inplaceOp op) a b H Q X
noncomputable abbrev wpC (op:CmpOp) (a b:LV) (H:Hp) (Q:Qv) (X:Xc) : Prop := match op with
  | .Lt => int2 a b (fun i j => Q (.bool (decide (i < j))) H) (BO G (compareOp .Lt) a b H Q X)
  | .LtE => int2 a b (fun i j => Q (.bool (decide (i ≤ j))) H) (BO G (compareOp .LtE) a b H Q X)
  | .Gt => int2 a b (fun i j => Q (.bool (decide (i > j))) H) (BO G (compareOp .Gt) a b H Q X)
  | .GtE => int2 a b (fun i j => Q (.bool (decide (i ≥ j))) H) (BO G (compareOp .GtE) a b H Q X)
  | .Eq => int2 a b (fun i j => Q (.bool (i == j)) H) (BO G (compareOp .Eq) a b H Q X)
  | .NotEq => int2 a b (fun i j => Q (.bool (i != j)) H) (BO G (compareOp .NotEq) a b H Q X)
  | op => BO G (compareOp op) a b H Q X
noncomputable abbrev vgot (o:Option LV) (P:LV → Prop) : Prop := match o with
  | some lv => P lv
  | none => False
noncomputable abbrev allV : List (Option Nat) → VF → (VF → Prop) → Prop
  | [], v, P => P []
  | none :: fr, v, P => ∀ o : Option LV, allV fr v fun w => P (o :: w)
  | some i :: fr, v, P => vgot (vget v i) fun lv => allV fr v fun w => P (some lv :: w)
end
noncomputable abbrev tBad {α:Type} : Tr α := fun ww ww ww ww ww ww => False
noncomputable abbrev tC (lv:LV) : Tr LV := fun ww ww ww H Q ww => Q lv H
noncomputable abbrev tVar (i:Nat) : Tr LV := fun ww ww v H Q ww => vgot (vget v i) fun lv => Q lv H
noncomputable abbrev tBin (op:Operator) (a b:Tr LV) : Tr LV := fun G k v H Q X => a G k v H (fun x H1 => b G k v H1 (fun y H2 => wpB G op x y H2 Q X) X) X
noncomputable abbrev tCmp (op:CmpOp) (a b:Tr LV) : Tr LV := fun G k v H Q X => a G k v H (fun x H1 => b G k v H1 (fun y H2 => wpC G op x y H2 Q X) X) X
noncomputable abbrev tNeg (a:Tr LV) : Tr LV := fun G k v H Q X => a G k v H (fun x H1 => LNeg x fun i => Q (.int (-i)) H1) X
noncomputable abbrev tNot (a:Tr LV) : Tr LV := fun G k v H Q X => a G k v H (fun lv H1 => LTr H1 lv fun b => Q (.bool (!b)) H1) X
noncomputable abbrev tAttr (a:Tr LV) (x:Str) : Tr LV := fun G k v H Q X => a G k v H (fun lv H1 => LAt G x H1 lv fun r => Q r H1) X
noncomputable abbrev tSub (a b:Tr LV) : Tr LV := fun G k v H Q X => a G k v H (fun x H1 => b G k v H1 (fun y H2 => SubT H2 x ∧ BO G getItem x y H2 Q X) X) X
noncomputable abbrev tCell (a i j:Nat) : Tr LV := fun G ww v H Q X => LCell G v H a i j (fun r => Q r H) (X ("IndexError", true) H)
noncomputable abbrev tNil : Tr (List LV) := fun ww ww ww H Q ww => Q [] H
noncomputable abbrev tCons (a:Tr LV) (r:Tr (List LV)) : Tr (List LV) := fun G k v H Q X => a G k v H (fun lv H1 => r G k v H1 (fun l H2 => Q (lv :: l) H2) X) X
noncomputable abbrev tTup (l:Tr (List LV)) : Tr LV := fun G k v H Q X => l G k v H (fun lvs H1 => Q (.tup lvs) H1) X
noncomputable abbrev tLst (l:Tr (List LV)) : Tr LV := fun G k v H Q X => l G k v H (fun lvs H1 => ∀ a, H1 a = none → Q (.ref a) (hset H1 a (.lst lvs))) X
noncomputable abbrev tD0 : Tr LV := fun ww ww ww H Q ww => ∀ a, H a = none → Q (.ref a) (hset H a (.pdict [] 0))
noncomputable abbrev tLeaf (sc:Scope) (ns:List Str) (e:Expr) : Tr LV := fun G k v H Q X => ∀ fl, EV G k fl sc e (zl ns v) H Q X
noncomputable abbrev tCall (f:Str) (l:Tr (List LV)) : Tr LV := fun G k v H Q X => LCall G f fun fv => l G k v H (fun lvs H1 => CALL G k fv lvs H1 Q X) X
noncomputable abbrev tBm (a:Tr LV) (x:Str) (l:Tr (List LV)) : Tr LV := fun G k v H Q X => a G k v H (fun lv H1 => LBm x H1 lv fun id => l G k v H1 (fun lvs H2 => CALL G k (.builtin id) (lv :: lvs) H2 Q X) X) X
noncomputable abbrev tOm (a:Tr LV) (x:Str) (l:Tr (List LV)) : Tr LV := fun G k v H Q X => a G k v H (fun lv H1 => LOm G x H1 lv fun f => l G k v H1 (fun lvs H2 => CALL G k (.ref f) (lv :: lvs) H2 Q X) X) X
noncomputable abbrev tP0 : Tr (Option Int) := fun ww ww ww H Q ww => Q none H
noncomputable abbrev tP1 (a:Tr LV) : Tr (Option Int) := fun G k v H Q X => a G k v H (fun lv H1 => LNeg lv fun i => Q (some i) H1) X
noncomputable abbrev tSlc (a:Tr LV) (l u t:Tr (Option Int)) : Tr LV := fun G k v H Q X => a G k v H (fun lv H1 => l G k v H1 (fun i H2 => u G k v H2 (fun j H3 => t G k v H3 (fun d H4 => LSl H4 lv i j d Q) X) X) X) X
noncomputable abbrev tTv (a:Tr LV) : Tr Bool := fun G k v H Q X => a G k v H (fun lv H1 => LTr H1 lv fun b => Q b H1) X
noncomputable abbrev tCmpT (op:CmpOp) (a b:Tr LV) : Tr Bool := fun G k v H Q X => a G k v H (fun x H1 => b G k v H1 (fun y H2 => wpC G op x y H2 (fun lv H3 => LBl lv fun c => Q c H3) X) X) X
noncomputable abbrev tCmp2 (o1 o2:CmpOp) (a b c:Tr LV) : Tr Bool := fun G k v H Q X => a G k v H (fun x H1 => b G k v H1 (fun y H2 => wpC G o1 x y H2 (fun lv H3 => LBl lv fun d => (d = true → c G k v H3 (fun z H4 => wpC G o2 y z H4 (fun lv' H5 => LBl lv' fun d' => Q d' H5) X) X) ∧ (d = false → Q false H3)) X) X) X
noncomputable abbrev tNotT (t:Tr Bool) : Tr Bool := fun G k v H Q X => t G k v H (fun b H1 => Q (!b) H1) X
noncomputable abbrev tAnd (t r:Tr Bool) : Tr Bool := fun G k v H Q X => t G k v H (fun b H1 => (b = true → r G k v H1 Q X) ∧ (b = false → Q false H1)) X
noncomputable abbrev tOr (t r:Tr Bool) : Tr Bool := fun G k v H Q X => t G k v H (fun b H1 => (b = true → Q true H1) ∧ (b = false → r G k v H1 Q X)) X
noncomputable abbrev tLit (b:Bool) : Tr Bool := fun ww ww ww H Q ww => Q b H
noncomputable abbrev tOnb (a i j:Nat) : Tr Bool := fun G ww v H Q ww => LOnb G v H a i j (fun b => Q b H) false
noncomputable abbrev tOffb (a i j:Nat) : Tr Bool := fun G ww v H Q ww => LOnb G v H a i j (fun b => Q b H) true
noncomputable abbrev tAndV (a r:Tr LV) : Tr LV := fun G k v H Q X => a G k v H (fun lv H1 => LTr H1 lv fun b => (b = true → r G k v H1 Q X) ∧ (b = false → Q lv H1)) X
noncomputable abbrev tIte (t:Tr Bool) (a b:Tr LV) : Tr LV := fun G k v H Q X => t G k v H (fun c H1 => (c = true → a G k v H1 Q X) ∧ (c = false → b G k v H1 Q X)) X
noncomputable abbrev tItV (a:Tr LV) : ITr := fun G k S v H Q X => a G k v H (fun lv H1 => IV G S lv H1 Q X) X
noncomputable abbrev tItN (a:Tr LV) : ITr := fun G k S v H Q X => LNS S Q fun Q' => a G k v H (fun lv H1 => LRng G H1 lv Q') X
noncomputable abbrev Tg := Hp → LV → VF → (VF → Prop) → Prop
noncomputable abbrev g0 : Tg := fun ww ww ww ww => False
noncomputable abbrev g1 (i:Nat) : Tg := fun ww lv v F => F (vset v i lv)
noncomputable abbrev g2 (i j:Nat) : Tg := fun H lv v F => LTw H lv fun x y => F (vset (vset v i x) j y)
noncomputable abbrev g2l (i j:Nat) : Tg := fun H lv v F => LTl H lv fun x y => F (vset (vset v i x) j y)
noncomputable abbrev g3 (i j l:Nat) : Tg := fun H lv v F => LThr H lv fun x y z => F (vset (vset (vset v i x) j y) l z)
noncomputable abbrev gS (i:Nat) : Tg := fun H lv v F => LOne H lv fun x => F (vset v i x)
noncomputable abbrev tLc (fr:List (Option Nat)) (it:ITr) (g:Tg) (c:Tr Bool) (e:Tr LV) : Tr LV := fun G k v H Q X => LS G fun S => it G k S v H (fun x H2 => LLC G S x H2 (fun lv H3 K0 K1 => allV fr v fun w => g H3 lv w fun w3 => c G k w3 H3 (fun ok H4 => (ok = false → K0 H4) ∧ (ok = true → e G k w3 H4 K1 noX)) noX) Q) X
noncomputable abbrev sBad : ST := fun ww ww ww ww ww => False
noncomputable abbrev sNil : ST := fun ww ww v H P => P.n v H
noncomputable abbrev sAsg (a:Tr LV) (g:Tg) (r:ST) : ST := fun G k v H P => a G k v H (fun lv H1 => g H1 lv v fun v1 => r G k v1 H1 P) (P.x v)
noncomputable abbrev sSet (o i e:Tr LV) (r:ST) : ST := fun G k v H P => e G k v H (fun w H1 => o G k v H1 (fun a H2 => i G k v H2 (fun b H3 => SO G setItem a b w H3 (fun H4 => r G k v H4 P) (P.x v)) (P.x v)) (P.x v)) (P.x v)
noncomputable abbrev sAtt (o:Tr LV) (x:Str) (e:Tr LV) (r:ST) : ST := fun G k v H P => e G k v H (fun w H1 => o G k v H1 (fun a H2 => SA G x a w H2 (fun H4 => r G k v H4 P) (P.x v)) (P.x v)) (P.x v)
noncomputable abbrev sAug (i:Nat) (op:Operator) (e:Tr LV) (r:ST) : ST := fun G k v H P => vgot (vget v i) fun lv => e G k v H (fun lw H1 => wpI G op lv lw H1 (fun y H2 => r G k (vset v i y) H2 P) (P.x v)) (P.x v)
noncomputable abbrev sAugS (o i:Tr LV) (op:Operator) (e:Tr LV) (r:ST) : ST := fun G k v H P => o G k v H (fun a H1 => i G k v H1 (fun b H2 => BO G getItem a b H2 (fun old H3 => e G k v H3 (fun w H4 => wpI G op old w H4 (fun nw H5 => SO G setItem a b nw H5 (fun H6 => r G k v H6 P) (P.x v)) (P.x v)) (P.x v)) (P.x v)) (P.x v)) (P.x v)
noncomputable abbrev sEx (e:Tr LV) (r:ST) : ST := fun G k v H P => e G k v H (fun ww H1 => r G k v H1 P) (P.x v)
noncomputable abbrev sRet (e:Tr LV) : ST := fun G k v H P => e G k v H P.r (P.x v)
noncomputable abbrev sBrk : ST := fun ww ww v H P => P.b v H
noncomputable abbrev sCnt : ST := fun ww ww v H P => P.c v H
noncomputable abbrev sRs (T:String) : ST := fun G ww v H P => G.hr = true ∧ GNm G (ofString T) (.type T) ∧ P.x v (T, true) H
noncomputable abbrev sIf (t:Tr Bool) (b o:ST) : ST := fun G k v H P => t G k v H (fun c H1 => (c = true → b G k v H1 P) ∧ (c = false → o G k v H1 P)) (P.x v)
noncomputable abbrev sIfJ (t:Tr Bool) (b r:ST) : ST := fun G k v H P => t G k v H (fun c H1 => (c = true → b G k v H1 P.nf) ∧ (c = false → r G k v H1 P)) (P.x v)
noncomputable abbrev sIfR (t:Tr Bool) (b o r:ST) : ST := fun G k v H P => LCut (fun v1 H1 => r G k v1 H1 P) P fun P' => t G k v H (fun c H1 => (c = true → b G k v H1 P') ∧ (c = false → o G k v H1 P')) (P'.x v)
noncomputable abbrev sWhl (t:Tr Bool) (b r:ST) : ST := fun G k v H P => LWhl v.length v H (fun v1 H1 => r G k v1 H1 P) P fun v1 H1 P' => t G k v1 H1 (fun d H2 => (d = true → b G k v1 H2 P') ∧ (d = false → P'.b v1 H2)) (P'.x v1)
noncomputable abbrev sFor (g:Tg) (it:ITr) (b r:ST) : ST := fun G k v H P => LS G fun S => it G k S v H (fun x H2 => LFor S x v.length v H2 (fun v1 H1 => r G k v1 H1 P) P fun lv v1 H1 P' => g H1 lv v1 fun v2 => b G k v2 H1 P') (P.x v)
noncomputable abbrev sForE (g:Tg) (a:Tr LV) (b r:ST) : ST := fun G k v H P => G.hr = true ∧ GNm G (ofString "enumerate") (.type "enumerate") ∧ a G k v H (fun lv H1 => LEn v.length lv v H1 (fun v1 H2 => r G k v1 H2 P) P fun i lv v1 H2 P' => g H2 (.tup [.int i, lv]) v1 fun v2 => b G k v2 H2 P') (P.x v)
noncomputable abbrev sFrz (g:Tg) (it:ITr) (b r:ST) : ST := fun G k v H P => LFrz H fun a ps W ob => sFor g it b sNil G k v (hset H a (.psetx a W ob)) (P.frz a W ob ps fun v1 H1 => r G k v1 H1 P)
noncomputable abbrev sTryA (T:String) (i:Nat) (lv:LV) (b r:ST) : ST := fun G k v H P => LTry G T (fun v1 H1 => r G k v1 H1 P) (fun M v1 H1 => M (vset v1 i lv) H1) P fun P' => b G k v H P'
noncomputable abbrev sTryH (T:String) (h b r:ST) : ST := fun G k v H P => LTry G T (fun v1 H1 => r G k v1 H1 P) (fun M v1 H1 => h G.h k v1 H1 ⟨M, P.r, P.b, P.c, fun ww ww ww => False⟩) P fun P' => b G k v H P'
noncomputable abbrev sTryR (T:String) (lv:LV) (b r:ST) : ST := fun G k v H P => LTry G T (fun v1 H1 => r G k v1 H1 P) (fun ww ww H1 => P.r lv H1) P fun P' => b G k v H P'
end
section
noncomputable def kd : Expr → Nat
  | .Call .. => 1
  | .Slice .. => 2
  | .Starred .. => 3
  | .ListComp .. => 4
  | .SetComp .. => 4
  | .DictComp .. => 4
  | .Set .. => 5
  | .UnaryOp .. => 6
  | .BoolOp .. => 6
  | .IfExp .. => 6
  | .Compare .. => 6
  | .Tuple .. => 7
  | _ => 0
theorem kd_base {e:Expr} (h:Nat.beq (kd e) 1 = false) (n:Str) (env:Env) (w:Sem Value) : attributeBase e n env w = w := by
  cases e <;> first | rfl | exact Bool.noConfusion h
theorem kd_sub {e:Expr} (h:Nat.beq (kd e) 2 = false) (o i:Value) : subscripted e false o i = operate [o, i] (getItem o i) := by
  cases e <;> first | rfl | exact Bool.noConfusion h
theorem kd_aug {e:Expr} (h:Nat.beq (kd e) 2 = false) (ov iv new:Value) : augStore e ov iv new = (do holding [new, ov, iv] (setItem ov iv new); release [new, ov, iv] []; pure .next) := by
  cases e <;> first | rfl | exact Bool.noConfusion h
theorem kd_star {e:Expr} (h:Nat.beq (kd e) 3 = false) (es:List Expr) (env:Env) : starEach (e :: es) env = (false, eval e env) :: starEach es env := by
  cases e <;> first | rfl | exact Bool.noConfusion h
theorem kd_sw {e:Expr} (h:Nat.beq (kd e) 4 = false) (t:Option Expr) (l:Nat) (env:Env) : swapsWith e t l env = pure false := by
  cases e <;> first | rfl | exact Bool.noConfusion h
theorem kd_fold {e:Expr} (h:Nat.beq (kd e) 5 = false) (env:Env) (x:Value) : foldedSetIterable e env x = pure x := by
  cases e <;> first | rfl | exact Bool.noConfusion h
theorem kd_mark {e:Expr} (h:Nat.beq (kd e) 5 = false) (op:CmpOp) : behindInMarks op e = false := by
  cases e <;> first | rfl | exact Bool.noConfusion h
theorem kd_true {e:Expr} (h:Nat.beq (kd e) 6 = false) (env:Env) (w:Sem Value) : isTrue e env w = (do let v ← w; standAt e.pos; holding [v] (truthy v)) := by
  cases e <;> first | rfl | exact Bool.noConfusion h
theorem kd_tup {e:Expr} (h:Nat.beq (kd e) 7 = false) (ts:List Expr) (kd':Nat) (p:Pos) (env:Env) : swappedStores [.Tuple ts kd' p] e env = pure none := by
  cases e <;> first | rfl | exact Bool.noConfusion h
theorem kd_stars {es:List Expr} (h:es.all (fun e => !Nat.beq (kd e) 3) = true) (pos:Pos) (env:Env) : (backTo pos (starEach es env)).all (fun x => !x.1) = true := by
  induction es with
  | nil => rfl
  | cons e es ih =>
    rw [List.all_cons, Bool.and_eq_true, Bool.not_eq_true'] at h;rw [kd_star h.1]; exact ih h.2
theorem kd_any {es:List Expr} (h:es.all (fun e => !Nat.beq (kd e) 3) = true) (pos:Pos) (env:Env) : (backTo pos (starEach es env)).any (·.1) = false := by
  rw [← Bool.not_eq_true, List.any_eq_true];exact fun ⟨x, h1, h2⟩ => by have := List.all_eq_true.mp (kd_stars h pos env) x h1; rw [h2] at this; cases this
noncomputable def gd {α:Type} (b:Bool) (t:Tr α) : Tr α := bif b then t else tBad
noncomputable def nm (x:Str) : Bool := !(x == ("__classdict__" : Str)) && !(x == ("__debug__" : Str))
noncomputable def glb (sc:Scope) (x:Str) : Bool := sc.names.lookup x == some .globalImplicit && !(x == ("__debug__" : Str))
noncomputable def stars (es:List Expr) : Bool := es.all (fun e => !Nat.beq (kd e) 3) && Nat.blt es.length 30
noncomputable def asN : Expr → Option Str
  | .Name x _ => some x
  | _ => none
noncomputable def asC : Expr → Option Const
  | .Constant c _ _ => some c
  | _ => none
noncomputable def iff (b:Bool) {α:Type} (o:Option α) : Option α := bif b then o else none
noncomputable def asAt (n:Str) : Expr → Option Str
  | .Attribute o m _ => iff (m == n) (asN o)
  | _ => none
noncomputable def asB : Expr → Option (Str × Str)
  | .Subscript b i _ => (asAt (ofString "board") b).bind fun a => (asN i).bind fun i => some (a, i)
  | _ => none
noncomputable def one {α:Type} : List α → Option α
  | [a] => some a
  | _ => none
noncomputable def asR : Expr → Option (Str × Expr)
  | .Call f es ks _ => iff ks.isEmpty ((asN f).bind fun x => (one es).bind fun a => some (x, a))
  | _ => none
noncomputable def bms : List Str := ["add", "append", "pop", "update", "insert", "get"]
noncomputable def cfN : List (Str × NameKind) → List Str
  | [] => []
  | (_, .globalImplicit) :: r => cfN r
  | (n, _) :: r => n :: cfN r
noncomputable def cfF (ns:List Str) : List (Str × NameKind) → List (Option Nat)
  | [] => []
  | (_, .local) :: r => none :: cfF ns r
  | (n, .free) :: r => some (ix ns n) :: cfF ns r
  | (_, _) :: r => cfF ns r
noncomputable def cfK : List (Str × NameKind) → Bool
  | [] => true
  | (_, .local) :: r => cfK r
  | (_, .free) :: r => cfK r
  | (_, .globalImplicit) :: r => cfK r
  | _ => false
section
variable (E:Expr → Tr LV) (sc:Scope) (ns:List Str)
noncomputable def trA (es:List Expr) : Tr (List LV) := gd (stars es) (es.foldr (fun e r => tCons (E e) r) tNil)
noncomputable def trP : Option Expr → Tr (Option Int)
  | none => tP0
  | some e => tP1 (E e)
noncomputable def trO (T:Expr → Tr Bool) (op:BoolOp) (es:List Expr) : Tr Bool := match op with
  | .And => es.foldr (fun e r => tAnd (T e) r) (tLit true)
  | .Or => es.foldr (fun e r => tOr (T e) r) (tLit false)
noncomputable def trN (T:Expr → Tr Bool) (op:UnaryOp) (x:Expr) : Tr Bool := match op with
  | .Not => tNotT (T x)
  | _ => tBad
noncomputable def trX (l:Expr) (ops:List CmpOp) (rs:List Expr) : Tr Bool := match ops, rs with
  | [op], [r] => gd (!Nat.beq (kd r) 5) (tCmpT op (E l) (E r))
  | [o1, o2], [r, r2] => gd (!Nat.beq (kd r2) 5) (tCmp2 o1 o2 (E l) (E r) (E r2))
  | _, _ => tBad
noncomputable def trT : Nat → Expr → Tr Bool
  | 0, _ => tBad
  | n + 1, e => match e with
    | .BoolOp op es _ => trO (trT n) op es
    | .UnaryOp op x _ => trN (trT n) op x
    | .Compare l ops rs _ => trX E l ops rs
    | e => gd (!Nat.beq (kd e) 6) (tTv (E e))
noncomputable def trI (e:Expr) : ITr := match (asR e).bind fun p => iff (p.1 == ofString "range" && glb sc p.1 && stars [p.2]) (some p.2) with
  | some a => tItN (E a)
  | none => tItV (E e)
noncomputable def trU (v i:Expr) : Tr LV := match i with
  | .Slice lo hi st _ => tSlc (E v) (trP E lo) (trP E hi) (trP E st)
  | i => match (asB v).bind fun p => (asN i).bind fun c => iff (nm p.1 && nm p.2 && nm c) (some (p.1, p.2, c)) with
    | some (a, r, c) => tCell (ix ns a) (ix ns r) (ix ns c)
    | none => tSub (E v) (E i)
noncomputable def trF (f:Expr) (es:List Expr) (p:Pos) : Tr LV := match f with
  | .Name x _ => gd (glb sc x) (tCall x (trA E es))
  | .Attribute o x ap => gd (!Nat.beq (kd o) 1 && ap.endLine == p.line && stars es) (bif bms.contains x && !(x == ofString "get" && Nat.beq es.length 2) then tBm (E o) x (trA E es) else tOm (E o) x (trA E es))
  | _ => tBad
noncomputable def trK : Const → Tr LV
  | .int i => tC (.int i)
  | .str s => tC (.str s)
  | .bool b => tC (.bool b)
  | .none => tC .none
  | _ => tBad
noncomputable def names : List Expr → Option (List Str)
  | [] => some []
  | e :: es => (asN e).bind fun x => (names es).bind fun l => some (x :: l)
noncomputable def gg (b:Bool) (g:Tg) : Tg := bif b then g else g0
noncomputable def trL (ok:Str → Bool) : Option (List Str) → Tg
  | some [x] => gg (ok x) (gS (ix ns x))
  | some [x, y] => gg (ok x && ok y) (g2 (ix ns x) (ix ns y))
  | some [x, y, z] => gg (ok x && ok y && ok z) (g3 (ix ns x) (ix ns y) (ix ns z))
  | _ => g0
noncomputable def trL2 (ok:Str → Bool) : Option (List Str) → Tg
  | some [x, y] => gg (ok x && ok y) (g2l (ix ns x) (ix ns y))
  | _ => g0
noncomputable def trG (ok:Str → Bool) (t:Expr) : Tg := match t with
  | .Name x _ => gg (ok x) (g1 (ix ns x))
  | .Tuple es _ _ => trL ns ok (names es)
  | _ => g0
end
noncomputable def LcI (G:Gl) (k:Nat) (fl:Bool) (sc:Scope) (elt:Expr) (gens:List Comprehension) (scope:Scope) (pos:Pos) (m:Loc) (H:Hp) (Q:Qv) (X:Xc) : Prop :=
  compOk scope sc m = true ∧ ∃ S target iter ifs rest, gens = ⟨target, iter, ifs, 0⟩ :: rest ∧ (∀ env x, foldedSetIterable iter env x = pure x) ∧
    IT G k fl sc S iter m H (fun x H1 => ∀ D, H1 D = none → CS G k (relS scope sc) S (.ListComp elt gens scope pos) 0 D x (comp0 scope.names m) (hset H1 D (.lst [])) (fun ww H2 => Q (.ref D) H2)) X
noncomputable abbrev tLcL (sc:Scope) (ns:List Str) (elt:Expr) (gens:List Comprehension) (scope:Scope) (pos:Pos) : Tr LV := fun G k v H Q X => ∀ fl (Q':Qv), (∀ lv H', Q lv H' → Q' lv H') → LcI G k fl sc elt gens scope pos (zl ns v) H Q' X
noncomputable def okC (sc:Scope) (ns:List Str) (fr:List (Option Nat)) (x:Str) : Bool := sc.names.lookup x == some .local && fr[ix ns x]? == some none
noncomputable def trIf (E:Expr → Tr LV) (n:Nat) : List Expr → Tr Bool
  | [] => tLit true
  | [c] => trT E n c
  | _ => tBad
noncomputable def cOk (scope sc:Scope) (ns:List Str) (g:Comprehension) : Bool := cfK scope.names && compOk scope sc (ns.map fun n => (n, none)) && g.is_async == 0 && !Nat.beq (kd g.iter) 5
noncomputable def trC (E:Scope → List Str → Expr → Tr LV) (n:Nat) (sc:Scope) (ns:List Str) (elt:Expr) (gens:List Comprehension) (scope:Scope) (pos:Pos) : Tr LV := match gens with
  | [g] => gd (cOk scope sc ns g) (tLc (cfF ns scope.names) (trI (E sc ns) sc g.iter) (trG (cfN scope.names) (okC (relS scope sc) (cfN scope.names) (cfF ns scope.names)) g.target) (trIf (E (relS scope sc) (cfN scope.names)) n g.ifs) (E (relS scope sc) (cfN scope.names) elt))
  | gens => tLcL sc ns elt gens scope pos
noncomputable def trD (sc:Scope) (ns:List Str) (ks:List (Option Expr)) (vs:List Expr) (p:Pos) : Tr LV := match ks, vs with
  | [], [] => tD0
  | ks, vs => tLeaf sc ns (.Dict ks vs p)
section
variable (E:Expr → Tr LV) (sc:Scope)
noncomputable def trY (op:UnaryOp) (x:Expr) : Tr LV := match op with
  | .USub => tNeg (E x)
  | .Not => tNot (E x)
  | _ => tBad
noncomputable def trZ (l:Expr) (ops:List CmpOp) (rs:List Expr) : Tr LV := match ops, rs with
  | [op], [r] => gd (!Nat.beq (kd r) 5) (tCmp op (E l) (E r))
  | _, _ => tBad
noncomputable def trV : List Expr → Tr LV
  | [] => tBad
  | [e] => E e
  | e :: es => tAndV (E e) (trV es)
noncomputable def trW (op:BoolOp) (es:List Expr) : Tr LV := match op with
  | .And => trV E es
  | .Or => tBad
noncomputable def trQ (f:Expr) (es:List Expr) (ks:List Keyword) (p:Pos) : Tr LV := match ks with
  | [] => trF E sc f es p
  | _ => tBad
end
noncomputable def trE : Nat → Scope → List Str → Expr → Tr LV
  | 0, _, _, _ => tBad
  | n + 1, sc, ns, e => match e with
    | .Name x _ => gd (nm x) (tVar (ix ns x))
    | .Constant c _ _ => trK c
    | .BinOp l op r _ => tBin op (trE n sc ns l) (trE n sc ns r)
    | .UnaryOp op x _ => trY (trE n sc ns) op x
    | .Compare l ops rs _ => trZ (trE n sc ns) l ops rs
    | .BoolOp op es _ => trW (trE n sc ns) op es
    | .IfExp t b o _ => tIte (trT (trE n sc ns) n t) (trE n sc ns b) (trE n sc ns o)
    | .Attribute o x _ => gd (!Nat.beq (kd o) 1) (tAttr (trE n sc ns o) x)
    | .Subscript v i _ => trU (trE n sc ns) ns v i
    | .Tuple es _ _ => tTup (trA (trE n sc ns) es)
    | .List es _ => tLst (trA (trE n sc ns) es)
    | .Dict ks vs p => trD sc ns ks vs p
    | .Call f es ks p => trQ (trE n sc ns) sc f es ks p
    | .ListComp elt gens scope p => trC (trE n) n sc ns elt gens scope p
    | _ => tBad
noncomputable def jmp : List Stmt → Bool
  | [] => false
  | [s] => match s with
    | .Return .. => true
    | .Break .. => true
    | .Continue .. => true
    | .Raise .. => true
    | _ => false
  | _ :: r => jmp r
noncomputable def excOf (x:Str) : Option String := ["IndexError", "ValueError", "KeyError"].find? fun s => x == ofString s
noncomputable def isSl : Expr → Bool
  | .Subscript _ (.Slice ..) _ => true
  | _ => false
noncomputable def isPts : Expr → Bool
  | .Attribute _ m _ => m == ofString "points"
  | _ => false
noncomputable def gs (b:Bool) (t:ST) : ST := bif b then t else sBad
noncomputable def mem (ns:List Str) (x:Str) : Bool := Nat.blt (ix ns x) ns.length
noncomputable def constV : Expr → Option LV := fun e => (asC e).bind fun
  | .bool b => some (.bool b)
  | _ => none
section
variable (E:Expr → Tr LV) (sc:Scope) (ns:List Str)
noncomputable def trAt (t:Expr) (e:Expr) (p:Pos) (r:ST) : ST := match t with
  | .Name x xp => match e with
    | .ListComp _ _ scope pos => gs (mem ns x && (sc.names.lookup x == some .cell || sc.names.lookup x == some .local && xp.line == pos.line && !(scope.names.any fun (n, k) => n == x && (k == .local || k == .cell)))) (sAsg (E e) (g1 (ix ns x)) r)
    | e => gs (mem ns x && !Nat.beq (kd e) 4) (sAsg (E e) (g1 (ix ns x)) r)
  | .Tuple ts _ _ => gs (!Nat.beq (kd e) 4 && !Nat.beq (kd e) 7) (sAsg (E e) (bif isSl e then trL2 ns (mem ns) (names ts) else trG ns (mem ns) t) r)
  | .Subscript o i _ => sSet (E o) (E i) (E e) r
  | .Attribute o x _ => sAtt (E o) x (E e) r
  | _ => sBad
noncomputable def trAs (ts:List Expr) (e:Expr) (p:Pos) (r:ST) : ST := match ts with
  | [t] => trAt E sc ns t e p r
  | _ => sBad
noncomputable def trAug (t:Expr) (op:Operator) (e:Expr) (r:ST) : ST := match t with
  | .Name x _ => gs (mem ns x && !(x == ("__classdict__" : Str))) (sAug (ix ns x) op (E e) r)
  | .Subscript o i _ => gs (!Nat.beq (kd i) 2) (sAugS (E o) (E i) op (E e) r)
  | _ => sBad
noncomputable def trIfS (t:Tr Bool) (jb oe re:Bool) (b o r:ST) : ST := bif jb && oe then sIfJ t b r else bif re then sIf t b o else sIfR t b o r
noncomputable def asEn (e:Expr) : Option Expr := (asR e).bind fun p => iff (p.1 == ofString "enumerate" && glb sc p.1 && stars [p.2]) (some p.2)
noncomputable def trForE (t a:Expr) (b r:ST) : ST := match t with
  | .Tuple ts kk p => sForE (trG ns (mem ns) (.Tuple ts kk p)) (E a) b r
  | _ => sBad
noncomputable def trFor (t it:Expr) (b r:ST) : ST := gs (!Nat.beq (kd it) 5) (match asEn sc it with
  | some a => trForE E ns t a b r
  | none => bif isPts it then sFrz (trG ns (mem ns) t) (trI E sc it) b r else sFor (trG ns (mem ns) t) (trI E sc it) b r)
noncomputable def trRs (x:Option Expr) (c:Option Expr) : ST := match x, c with
  | some e, none => match (asN e).bind fun x => iff (glb sc x) (excOf x) with
    | some T => sRs T
    | none => sBad
  | _, _ => sBad
noncomputable def trH (T:String) (h:Stmt) (b r:ST) : ST := match h with
  | .Return o _ => match o with
    | some e => match constV e with
      | some lv => sTryR T lv b r
      | none => sBad
    | none => sBad
  | .Assign ts e _ => match ts with
    | [t] => match (asN t).bind fun x => (constV e).bind fun lv => iff (mem ns x) (some (x, lv)) with
      | some (x, lv) => sTryA T (ix ns x) lv b r
      | none => sBad
    | _ => sBad
  | _ => sBad
noncomputable def trTry1 (hS:List Stmt → ST) (o:Option Expr) (n:Option Str) (l:List Stmt) (b r:ST) : ST := match o, n, l with
  | some e, none, [h] => match (asN e).bind fun x => iff (glb sc x) (excOf x) with
    | some T => trH ns T h b r
    | none => sBad
  | some e, none, h :: h1 :: l => match (asN e).bind fun x => iff (glb sc x) (excOf x) with
    | some T => sTryH T (hS (h :: h1 :: l)) b r
    | none => sBad
  | _, _, _ => sBad
noncomputable def trTry (hS:List Stmt → ST) (hs:List ExceptHandler) (b r:ST) : ST := match hs with
  | [.ExceptHandler o n l _] => trTry1 sc ns hS o n l b r
  | _ => sBad
noncomputable def trS : Nat → List Stmt → ST
  | 0, _ => sBad
  | _ + 1, [] => sNil
  | n + 1, s :: r => match s with
    | .Assign ts e p => trAs E sc ns ts e p (trS n r)
    | .AugAssign t op e _ => trAug E ns t op e (trS n r)
    | .Expr e _ => gs (!Nat.beq (kd e) 4) (sEx (E e) (trS n r))
    | .If t b o _ => trIfS (trT E 30 t) (jmp b) o.isEmpty r.isEmpty (trS n b) (trS n o) (trS n r)
    | .Return x _ => match x with
      | some e => sRet (E e)
      | none => sBad
    | .While t b o _ => match o with
      | [] => sWhl (trT E 30 t) (trS n b) (trS n r)
      | _ => sBad
    | .For t it b o _ => match o with
      | [] => trFor E sc ns t it (trS n b) (trS n r)
      | _ => sBad
    | .Break _ => sBrk
    | .Continue _ => sCnt
    | .Raise x c _ => trRs sc x c
    | .Try b hs o f _ => match o, f with
      | [], [] => trTry sc ns (trS n) hs (trS n b) (trS n r)
      | _, _ => sBad
    | _ => sBad
end
end
section
section
variable {G:Gl} {k:Nat} {fl:Bool} {sc:Scope} {m:Loc} {H:Hp} {X X':Xc}
theorem xp_up {env:Env} {A:Around} {C:Cm} {Z:Zs} (hX:∀ c H', X c H' → X' c H') {e:Value} {s:Shared} (h:XPost G k fl env A C Z m X e s) : XPost G k fl env A C Z m X' e s :=
  match h with | ⟨a, b, c, d, e, q⟩ => ⟨a, b, c, d, e, hX _ _ q⟩
theorem EV.up {e:Expr} {Q Q':Qv} (h:EV G k fl sc e m H Q X) (hQ:∀ lv H', Q lv H' → Q' lv H') (hX:∀ c H', X c H' → X' c H') : EV G k fl sc e m H Q' X' :=
  fun env A C Z s hs I => wpAny_mono (EV.mono h hQ env A C Z s hs I) (fun ww ww x => x) fun ww ww x => xp_up hX x
theorem TS.up {e:Expr} {Q Q':Bool → Hp → Prop} (h:TS G k fl sc e m H Q X) (hQ:∀ l H', Q l H' → Q' l H') (hX:∀ c H', X c H' → X' c H') : TS G k fl sc e m H Q' X' :=
  fun env A C Z s hs I => wpAny_mono (h env A C Z s hs I) (fun _ _ ⟨a, b, c, d, q⟩ => ⟨a, b, c, d, hQ _ _ q⟩) fun ww ww x => xp_up hX x
theorem TS.mono {e:Expr} {Q Q':Bool → Hp → Prop} (h:TS G k fl sc e m H Q X) (hQ:∀ l H', Q l H' → Q' l H') : TS G k fl sc e m H Q' X := h.up hQ fun ww ww x => x
theorem AR.up {es:List Expr} {Q Q':List LV → Hp → Prop} (h:AR G k fl sc es m H Q X) (hQ:∀ l H', Q l H' → Q' l H') : AR G k fl sc es m H Q' X :=
  ⟨h.1, fun pos env A C Z s hs I => wpAny_mono (h.2 pos env A C Z s hs I) (fun _ _ ⟨a, b, c, d, e, f, q⟩ => ⟨a, b, c, d, e, f, hQ _ _ q⟩) fun ww ww x => x⟩
theorem EP.up {p:Option Expr} {Q Q':Option Int → Hp → Prop} (h:EP G k fl sc p m H Q X) (hQ:∀ l H', Q l H' → Q' l H') : EP G k fl sc p m H Q' X :=
  fun env A C Z s hs I => wpAny_mono (h env A C Z s hs I) (fun _ _ ⟨a, b, c, d, e, f, q⟩ => ⟨a, b, c, d, e, f, hQ _ _ q⟩) fun ww ww x => x
theorem BO_up {t:Value → Value → Sem Value} {a b:LV} {Q Q':Qv} (h:BO G t a b H Q X) (hQ:∀ lv H', Q lv H' → Q' lv H') : BO G t a b H Q' X :=
  fun k fl env A C Z m s va vb I h1 h2 => wpAny_mono (h k fl env A C Z m s va vb I h1 h2) (fun _ _ ⟨a, b, c, d, e, f, q⟩ => ⟨a, b, c, d, e, f, hQ _ _ q⟩) fun ww ww x => x
variable {Q:Qv}
theorem EV_MethE {o:Expr} {name:Str} {apos pos:Pos} {es:List Expr}
    (h:EV G k fl sc o m H (fun lv H1 => LBm name H1 lv fun id => AR G k fl sc es m H1 (fun lvs H2 => CALL G k (.builtin id) (lv :: lvs) H2 Q X) X) X)
    (hbase:∀ env, attributeBase o name env (eval o env) = eval o env)
    (hfew:∀ env, ((backTo pos (starEach es env)).all (fun x => !x.1) && (backToKw pos (keywordEach [] env)).all (fun x => x.1.isSome) && decide (es.length + ([] : List Keyword).length + (if ([] : List Keyword).isEmpty then 0 else 1) < 30)) = true)
    (hline:(apos.endLine == pos.line) = true) : EV G k fl sc (.Call (.Attribute o name apos) es [] pos) m H Q X := fun env A C Z s hs I =>
  wpAny_Call_method_late (hbase env) (hfew env) hline rfl (wpAny_mono (h env A C Z s hs I) (fun v s1 ⟨C1, lv, H1, c1, I1, v1, T, id, bm, o1, q1⟩ => by
    obtain ⟨t1, t2⟩ := o1.at I1 v1;refine ⟨T, id, bm.pa, bm.slot, bm.hty, t1, t2, ?_⟩
    exact wpAny_mono (callB hs I1 (lfirst := [lv]) (first := [v]) (VRs.single v1) q1) (fun ww ww x => Post.up c1 x) fun ww ww x => XPost.up c1 x) fun ww ww x => x)
theorem int2_ok {a b:LV} {f:Int → Int → Prop} {d r:Prop} (h:int2 a b f d) (h1:∀ i j, a = .int i → b = .int j → f i j → r) (h2:d → r) : r := by
  unfold int2 at h; split at h
  · exact h1 _ _ rfl rfl h
  · exact h2 h
theorem wpB_ok {op:Operator} {a b:LV} (h:wpB G op a b H Q X) : BO G (binaryOp op) a b H Q X := by
  cases op with
  | Add => exact int2_ok h (fun ww ww e1 e2 q => by subst e1 e2; exact BO_add q) id
  | Sub => exact int2_ok h (fun ww ww e1 e2 q => by subst e1 e2; exact BO_sub q) id
  | _ => exact h
theorem wpI_ok {op:Operator} {a b:LV} (h:wpI G op a b H Q X) : BO G (inplaceOp op) a b H Q X := by
  cases op with
  | Add => exact int2_ok h (fun ww ww e1 e2 q => by subst e1 e2; exact BO_iadd q) id
  | _ => exact h
theorem wpC_ok {op:CmpOp} {a b:LV} (h:wpC G op a b H Q X) : BO G (compareOp op) a b H Q X := by
  cases op with
  | Lt => exact int2_ok h (fun ww ww e1 e2 q => by subst e1 e2; exact BO_lt q) id
  | LtE => exact int2_ok h (fun ww ww e1 e2 q => by subst e1 e2; exact BO_le q) id
  | Gt => exact int2_ok h (fun ww ww e1 e2 q => by subst e1 e2; exact BO_gt q) id
  | GtE => exact int2_ok h (fun ww ww e1 e2 q => by subst e1 e2; exact BO_ge q) id
  | Eq => exact int2_ok h (fun ww ww e1 e2 q => by subst e1 e2; exact BO_eqi q) id
  | NotEq => exact int2_ok h (fun ww ww e1 e2 q => by subst e1 e2; exact BO_nei q) id
  | _ => exact h
theorem vgot_ok {o:Option LV} {P:LV → Prop} (h:vgot o P) : ∃ lv, o = some lv ∧ P lv := by
  cases o with
  | some lv => exact ⟨lv, rfl, h⟩
  | none => exact h.elim
end
theorem vset_len : ∀ (v:VF) (i:Nat) (x:LV), (vset v i x).length = v.length
  | [], _, _ => rfl
  | _ :: _, 0, _ => rfl
  | _ :: v, n + 1, x => congrArg Nat.succ (vset_len v n x)
theorem ix_le : ∀ (ns:List Str) (x:Str), x ∈ ns ∨ ix ns x = ns.length
  | [], _ => .inr rfl
  | y :: ns, x => by
    by_cases e : x = y
    · exact .inl (e ▸ List.mem_cons_self)
    · rcases ix_le ns x with h | h
      · exact .inl (List.mem_cons_of_mem _ h)
      · exact .inr (by rw [ix, beq_false_of_ne e, cond_false, h]; rfl)
theorem mem_ix {x:Str} {lv:LV} : ∀ {ns:List Str} {v:VF}, vget v (ix ns x) = some lv → v.length = ns.length → (x, some lv) ∈ zl ns v
  | [], [], h, _ => nomatch h
  | y :: ns, o :: v, h, hl => by
    by_cases e : x = y
    · subst e; rw [ix, beq_self_eq_true, cond_true] at h; cases (show o = some lv from h); exact List.mem_cons_self
    · rw [ix, beq_false_of_ne e, cond_false] at h; exact List.mem_cons_of_mem _ (mem_ix h (Nat.succ.inj hl))
theorem put_ix {x:Str} {lv:LV} : ∀ {ns:List Str} {v:VF}, x ∈ ns → v.length = ns.length → Put (zl ns v) x lv (zl ns (vset v (ix ns x) lv))
  | [], _, h, _ => nomatch h
  | y :: ns, o :: v, h, hl => by
    by_cases e : x = y
    · subst e; rw [ix, beq_self_eq_true, cond_true]; exact .here
    · rw [ix, beq_false_of_ne e, cond_false]; exact .there (put_ix ((List.mem_cons.mp h).resolve_left e) (Nat.succ.inj hl))
structure OkE (sc:Scope) (ns:List Str) (e:Expr) (t:Tr LV) : Prop where
  ok : ∀ {G:Gl} {k:Nat} {fl:Bool} {v:VF} {H:Hp} {Q:Qv} {X:Xc}, G.hn = true → v.length = ns.length → t G k v H Q X → EV G k fl sc e (zl ns v) H Q X
structure OkT (sc:Scope) (ns:List Str) (e:Expr) (t:Tr Bool) : Prop where
  ok : ∀ {G:Gl} {k:Nat} {fl:Bool} {v:VF} {H:Hp} {Q:Bool → Hp → Prop} {X:Xc}, G.hn = true → v.length = ns.length → t G k v H Q X → TS G k fl sc e (zl ns v) H Q X
section
variable {E:Expr → Tr LV} {sc:Scope} {ns:List Str} (hE:∀ e, OkE sc ns e (E e))
theorem gd_ok {α:Type} {b:Bool} {t:Tr α} {G:Gl} {k:Nat} {v:VF} {H:Hp} {Q:α → Hp → Prop} {X:Xc} (h:gd b t G k v H Q X) : b = true ∧ t G k v H Q X := by
  cases b with
  | true => exact ⟨rfl, h⟩
  | false => exact h.elim
theorem nb {n m:Nat} (h:(!Nat.beq n m) = true) : Nat.beq n m = false := Bool.not_eq_true' _ ▸ h
include hE
theorem trA1 {G:Gl} {k:Nat} {fl:Bool} {v:VF} {X:Xc} (hh:G.hn = true) (hv:v.length = ns.length) : ∀ {es:List Expr} {H:Hp} {Q:List LV → Hp → Prop}, es.all (fun e => !Nat.beq (kd e) 3) = true → es.foldr (fun e r => tCons (E e) r) tNil G k v H Q X → AR G k fl sc es (zl ns v) H (fun l H1 => l.length = es.length ∧ Q l H1) X
  | [], _, _, _, h => AR_nil ⟨rfl, h⟩
  | e :: es, _, _, h2, h => have ⟨a, b⟩ := Bool.and_eq_true _ _ ▸ h2
    AR_cons (((hE e).ok hh hv h).mono fun ww ww q => (trA1 hh hv b q).up fun _ _ ⟨c, d⟩ => ⟨congrArg Nat.succ c, d⟩) (fun pos env => kd_any b pos env) (kd_star (nb a) es)
theorem trA_ok {es:List Expr} {G:Gl} {k:Nat} {fl:Bool} {v:VF} {H:Hp} {Q:List LV → Hp → Prop} {X:Xc} (hh:G.hn = true) (hv:v.length = ns.length) (h:trA E es G k v H Q X) : stars es = true ∧ AR G k fl sc es (zl ns v) H (fun l H1 => l.length ≤ 4096 ∧ Q l H1) X := by
  obtain ⟨h1, h⟩ := gd_ok h;have h3 : es.length < 30 := Nat.blt_eq.mp (Bool.and_eq_true _ _ ▸ h1).2;exact ⟨h1, (trA1 hE hh hv (Bool.and_eq_true _ _ ▸ h1).1 h).up fun l H1 ⟨a, b⟩ => ⟨a ▸ Nat.le_trans (Nat.le_of_lt h3) (by decide), b⟩⟩
theorem trP_ok {o:Option Expr} {G:Gl} {k:Nat} {fl:Bool} {v:VF} {H:Hp} {Q:Option Int → Hp → Prop} {X:Xc} (hh:G.hn = true) (hv:v.length = ns.length) (h:trP E o G k v H Q X) : EP G k fl sc o (zl ns v) H Q X := by
  cases o with
  | none => exact EP_none h
  | some e => exact EP_some (((hE e).ok hh hv h).mono fun _ _ ⟨i, e, q⟩ => ⟨i, e, q⟩)
omit hE in
theorem trAnd {T:Expr → Tr Bool} (hT:∀ e, OkT sc ns e (T e)) {G:Gl} {k:Nat} {fl:Bool} {v:VF} {Q:Bool → Hp → Prop} {X:Xc} (hh:G.hn = true) (hv:v.length = ns.length) : ∀ {es:List Expr} {H:Hp}, es.foldr (fun e r => tAnd (T e) r) (tLit true) G k v H Q X → AT G k fl sc .And es (zl ns v) H Q X
  | [], _, q => AT_nil q
  | e :: es, _, q => AT_and (((hT e).ok hh hv q).mono fun b _ ⟨q1, q2⟩ => by
      cases b with
      | true => exact trAnd hT hh hv (q1 rfl)
      | false => exact q2 rfl)
omit hE in
theorem trOr {T:Expr → Tr Bool} (hT:∀ e, OkT sc ns e (T e)) {G:Gl} {k:Nat} {fl:Bool} {v:VF} {Q:Bool → Hp → Prop} {X:Xc} (hh:G.hn = true) (hv:v.length = ns.length) : ∀ {es:List Expr} {H:Hp}, es.foldr (fun e r => tOr (T e) r) (tLit false) G k v H Q X → AT G k fl sc .Or es (zl ns v) H Q X
  | [], _, q => AT_nil q
  | e :: es, _, q => AT_or (((hT e).ok hh hv q).mono fun b _ ⟨q1, q2⟩ => by
      cases b with
      | true => exact q1 rfl
      | false => exact trOr hT hh hv (q2 rfl))
theorem trT_tv {e:Expr} : OkT sc ns e (gd (!Nat.beq (kd e) 6) (tTv (E e))) := ⟨fun hh hv q => have ⟨a, q⟩ := gd_ok q; TS_val (((hE e).ok hh hv q).mono fun _ _ ⟨b, e, q⟩ => ⟨b, e, q⟩) (kd_true (nb a))⟩
theorem trT_c1 {l r:Expr} {op:CmpOp} {p:Pos} : OkT sc ns (.Compare l [op] [r] p) (gd (!Nat.beq (kd r) 5) (tCmpT op (E l) (E r))) :=
  ⟨fun hh hv q => have ⟨a, q⟩ := gd_ok q; TS_Compare1 (((hE l).ok hh hv q).mono fun ww ww q => ((hE r).ok hh hv q).mono fun ww ww q => BO_up (wpC_ok q) fun _ _ ⟨b, e, q⟩ => ⟨b, e, q⟩) (kd_mark (nb a) _)⟩
theorem trT_c2 {l r r2:Expr} {o1 o2:CmpOp} {p:Pos} : OkT sc ns (.Compare l [o1, o2] [r, r2] p) (gd (!Nat.beq (kd r2) 5) (tCmp2 o1 o2 (E l) (E r) (E r2))) :=
  ⟨fun hh hv q => have ⟨a, q⟩ := gd_ok q; TS_Compare2 (((hE l).ok hh hv q).mono fun ww ww q => ((hE r).ok hh hv q).mono fun ww ww q => BO_up (wpC_ok q) fun _ _ ⟨d, e, q1, q2⟩ => ⟨d, e, by
      cases d with
      | true => exact ((hE r2).ok hh hv (q1 rfl)).mono fun ww ww q => BO_up (wpC_ok q) fun _ _ ⟨b, e, q⟩ => ⟨b, e, q⟩
      | false => exact q2 rfl⟩) (kd_mark (nb a) _)⟩
theorem trT_c {l:Expr} {p:Pos} : ∀ {ops:List CmpOp} {rs:List Expr}, OkT sc ns (.Compare l ops rs p) (trX E l ops rs)
  | [_], [_] => trT_c1 hE
  | [_, _], [_, _] => trT_c2 hE
  | [], _ => ⟨fun ww ww q => q.elim⟩
  | [_], [] => ⟨fun ww ww q => q.elim⟩
  | [_], _ :: _ :: _ => ⟨fun ww ww q => q.elim⟩
  | [_, _], [] => ⟨fun ww ww q => q.elim⟩
  | [_, _], [_] => ⟨fun ww ww q => q.elim⟩
  | [_, _], _ :: _ :: _ :: _ => ⟨fun ww ww q => q.elim⟩
  | _ :: _ :: _ :: _, _ => ⟨fun ww ww q => q.elim⟩
theorem trT_b {T:Expr → Tr Bool} (hT:∀ e, OkT sc ns e (T e)) {op:BoolOp} {es:List Expr} {p:Pos} : OkT sc ns (.BoolOp op es p) (trO T op es) := by
  cases op with
  | And => exact ⟨fun hh hv q => TS_Bool (trAnd hT hh hv q)⟩
  | Or => exact ⟨fun hh hv q => TS_Bool (trOr hT hh hv q)⟩
theorem trT_n {T:Expr → Tr Bool} (hT:∀ e, OkT sc ns e (T e)) {op:UnaryOp} {x:Expr} {p:Pos} : OkT sc ns (.UnaryOp op x p) (trN T op x) := by
  cases op with
  | Not => exact ⟨fun hh hv q => TS_Not ((hT x).ok hh hv q)⟩
  | _ => exact ⟨fun ww ww q => q.elim⟩
theorem trT_ok (n:Nat) : ∀ (e:Expr), OkT sc ns e (trT E n e) := by
  induction n with
  | zero => exact fun ww => ⟨fun ww ww q => q.elim⟩
  | succ n ih =>
    intro e;cases e with
    | BoolOp op es p => exact trT_b hE ih
    | UnaryOp op x p => exact trT_n hE ih
    | Compare l ops rs p => exact trT_c hE
    | _ => exact trT_tv hE
end
end
section
theorem no {α:Type} {x:α} {p:Prop} (h:none = some x) : p := nomatch h
theorem bnd {α β:Type} {o:Option α} {f:α → Option β} {b:β} (h:o.bind f = some b) : ∃ a, o = some a ∧ f a = some b := Option.bind_eq_some_iff.mp h
theorem ift {b:Bool} {α:Type} {o:Option α} {x:α} (h:iff b o = some x) : b = true ∧ o = some x := by
  cases b with
  | true => exact ⟨rfl, h⟩
  | false => exact no h
theorem asN_ok {e:Expr} {x:Str} (h:asN e = some x) : ∃ p, e = .Name x p := by
  cases e with
  | Name y p => exact ⟨p, congrArg (Expr.Name · p) (Option.some.inj h)⟩
  | _ => exact no h
theorem asC_ok {e:Expr} {c:Const} (h:asC e = some c) : ∃ k p, e = .Constant c k p := by
  cases e with
  | Constant y k p => exact ⟨k, p, congrArg (Expr.Constant · k p) (Option.some.inj h)⟩
  | _ => exact no h
theorem asAt_ok {n x:Str} {e:Expr} (h:asAt n e = some x) : ∃ p q, e = .Attribute (.Name x p) n q := by
  cases e with
  | Attribute o m q =>
    obtain ⟨h1, h2⟩ := ift h;obtain ⟨p, rfl⟩ := asN_ok h2;exact ⟨p, q, congrArg (Expr.Attribute _ · q) (eq_of_beq h1)⟩
  | _ => exact no h
theorem asB_ok {a r:Str} {e:Expr} (h:asB e = some (a, r)) : ∃ p q p2 p3, e = .Subscript (.Attribute (.Name a p) (ofString "board") q) (.Name r p2) p3 := by
  cases e with
  | Subscript b i p3 =>
    obtain ⟨_, h1, h⟩ := bnd h;obtain ⟨_, h2, h⟩ := bnd h;cases h;obtain ⟨p, q, rfl⟩ := asAt_ok h1;obtain ⟨p2, rfl⟩ := asN_ok h2;exact ⟨p, q, p2, p3, rfl⟩
  | _ => exact no h
theorem one_ok {α:Type} {l:List α} {a:α} (h:one l = some a) : l = [a] := by
  match l with
  | [b] => exact congrArg (fun x => [x]) (Option.some.inj h)
  | [] => exact no h
  | _ :: _ :: _ => exact no h
theorem asR_ok {x:Str} {a e:Expr} (h:asR e = some (x, a)) : ∃ p q, e = .Call (.Name x p) [a] [] q := by
  cases e with
  | Call f es ks q =>
    obtain ⟨h0, h⟩ := ift h;obtain ⟨_, h1, h⟩ := bnd h;obtain ⟨_, h2, h⟩ := bnd h;cases h;obtain ⟨p, rfl⟩ := asN_ok h1;rw [one_ok h2, List.isEmpty_iff.mp h0];exact ⟨p, q, rfl⟩
  | _ => exact no h
theorem mcall {o:Expr} {x:Str} {ap p:Pos} {env:Env} {ov:Value} {n:Nat} {A:List (Bool × Sem Value)} {K:List (Option Str × Sem Value)} (h1:methodCallForm n A K = true) (h2:(ap.endLine == p.line) = true) :
    methodCall o x ap p env ov n A K = (do let (f, first) ← holding [ov] (getMethod ov x (do return (← importBound o env).getD true)); callWith p f first A K) := by
  have e : methodCallPos true o env ap p = pure p := if_pos h2;unfold methodCall;rw [h1, e];rfl
theorem nm_ok {x:Str} (h:nm x = true) : (x == ("__classdict__" : Str)) = false ∧ (x == ("__debug__" : Str)) = false := by
  obtain ⟨a, b⟩ := Bool.and_eq_true _ _ ▸ h;exact ⟨Bool.not_eq_true' _ ▸ a, Bool.not_eq_true' _ ▸ b⟩
theorem glb_ok {sc:Scope} {x:Str} (h:glb sc x = true) : sc.names.lookup x = some .globalImplicit ∧ (x == ("__debug__" : Str)) = false := by
  obtain ⟨a, b⟩ := Bool.and_eq_true _ _ ▸ h;exact ⟨eq_of_beq a, Bool.not_eq_true' _ ▸ b⟩
section
variable {G:Gl} {k:Nat} {sc:Scope} {ns:List Str}
theorem at_side (B:BW G) {H:Hp} {b:Bd} {n:Nat} {g:Grd} {em:Bool} (hB:BAt H b n g em) {K:LV → Prop} (q:K (.int n)) : LAt G (ofString "side") H (.inst B.bc b.x b.d) K := ⟨_, _, _, _, _, rfl, hB.ns, B.ob, B.a_side, bns_side, q⟩
theorem at_brd (B:BW G) {H:Hp} {b:Bd} {n:Nat} {g:Grd} {em:Bool} (hB:BAt H b n g em) {K:LV → Prop} (q:K (.ref b.bl)) : LAt G (ofString "board") H (.inst B.bc b.x b.d) K := ⟨_, _, _, _, _, rfl, hB.ns, B.ob, B.a_brd, bns_brd, q⟩
theorem at_bpts (B:BW G) {H:Hp} {b:Bd} {n:Nat} {g:Grd} {em:Bool} (hB:BAt H b n g em) {K:LV → Prop} (q:K (.ref b.pl)) : LAt G (ofString "board_points") H (.inst B.bc b.x b.d) K := ⟨_, _, _, _, _, rfl, hB.ns, B.ob, B.a_pts, bns_pts, q⟩
theorem at_emp (B:BW G) {H:Hp} {b:Bd} {n:Nat} {g:Grd} {em:Bool} (hB:BAt H b n g em) {K:LV → Prop} (q:K (.bool em)) : LAt G (ofString "_is_empty") H (.inst B.bc b.x b.d) K := ⟨_, _, _, _, _, rfl, hB.ns, B.ob, B.a_emp, bns_emp, q⟩
theorem row_at {H:Hp} {b:Bd} {n:Nat} {g:Grd} {em:Bool} (hB:BAt H b n g em) {i:Int} (h0:0 ≤ i) (h1:i < n) : ∃ a, (b.rows.map LV.ref)[i.toNat]? = some (.ref a) ∧ H a = some (.lst (rowL n g i.toNat)) := by
  have e := List.getElem?_eq_getElem (hB.len ▸ (Int.toNat_lt h0).mpr h1 : i.toNat < b.rows.length);exact ⟨_, by rw [List.getElem?_map, e]; rfl, hB.row i.toNat _ e⟩
theorem cell_at {n:Nat} {g:Grd} {i j:Int} (hi:0 ≤ i) (h0:0 ≤ j) (h1:j < n) : (rowL n g i.toNat)[j.toNat]? = some (cv (g (i, j))) := by
  rw [rowL, List.getElem?_map, List.getElem?_range ((Int.toNat_lt h0).mpr h1)];exact (congrArg (fun x => some (cv (g (_, x)))) (Int.toNat_of_nonneg h0)).trans (congrArg (fun x => some (cv (g (x, _)))) (Int.toNat_of_nonneg hi))
theorem cell_in {B:BW G} {b:Bd} {n:Nat} {g:Grd} {em:Bool} {r c:Int} {H:Hp} {Q:Qv} {X:Xc} (hB:BAt H b n g em) (ho:On n (r, c)) (q:Q (cv (g (r, c))) H) :
    LAt G (ofString "board") H (.inst B.bc b.x b.d) fun y => SubT H y ∧ BO G getItem y (.int r) H (fun y H => SubT H y ∧ BO G getItem y (.int c) H Q X) X := by
  obtain ⟨a, h1, h2⟩ := row_at hB ho.1 ho.2.1;exact at_brd B hB ⟨SubT_lst hB.bl, BO_item_list hB.bl ho.1 h1 ⟨SubT_lst h2, BO_item_list h2 ho.2.2.1 (cell_at ho.1 ho.2.2.1 ho.2.2.2) q⟩⟩
theorem cell_out {B:BW G} (hr:G.hr = true) {b:Bd} {n:Nat} {g:Grd} {em:Bool} {r c:Int} {H:Hp} {Q:Qv} {X:Xc} (hB:BAt H b n g em) (o1:0 ≤ r) (o3:0 ≤ c) (hb:r < 2 ^ 63) (hb':c < 2 ^ 63) (ho:¬ On n (r, c)) (q:X ("IndexError", true) H) :
    LAt G (ofString "board") H (.inst B.bc b.x b.d) fun y => SubT H y ∧ BO G getItem y (.int r) H (fun y H => SubT H y ∧ BO G getItem y (.int c) H Q X) X := by
  have lo : ∀ {i:Int}, 0 ≤ i → (-(2 ^ 63) : Int) ≤ i := fun h => Int.le_trans (by decide) h;refine at_brd B hB ⟨SubT_lst hB.bl, ?_⟩
  by_cases hi : r < n
  · obtain ⟨a, h1, h2⟩ := row_at hB o1 hi;refine BO_item_list hB.bl o1 h1 ⟨SubT_lst h2, BO_item_out h2 hr (.inr ?_) (lo o3) hb' q⟩;rw [rowL, List.length_map, List.length_range];exact Int.not_lt.mp fun hj => ho ⟨o1, hi, o3, hj⟩
  · exact BO_item_out hB.bl hr (.inr (by rw [List.length_map, hB.len]; exact Int.not_lt.mp hi)) (lo o1) hb q
theorem vgv {o:Option LV} {lv:LV} {P:LV → Prop} (e:o = some lv) (h:P lv) : vgot o P := e ▸ h
theorem cell_le {a i j:Nat} {v:VF} {H:Hp} {Q:Qv} {X:Xc} (q:tCell a i j G k v H Q X) : tSub (tSub (tAttr (tVar a) (ofString "board")) (tVar i)) (tVar j) G k v H Q X := by
  have K : ∀ {r c:Int} {a':LV}, vget v a = some a' → vget v i = some (.int r) → vget v j = some (.int c) →
      LAt G (ofString "board") H a' (fun y => SubT H y ∧ BO G getItem y (.int r) H (fun y H => SubT H y ∧ BO G getItem y (.int c) H Q X) X) → tSub (tSub (tAttr (tVar a) (ofString "board")) (tVar i)) (tVar j) G k v H Q X := fun e1 e2 e3 ⟨c', x, d, fs, r', z1, z2, z3, z4, z5, z6, z7⟩ =>
    vgv e1 ⟨c', x, d, fs, r', z1, z2, z3, z4, z5, vgv e2 ⟨z6, BO_up z7 fun y H' q => vgv e3 q⟩⟩
  rcases q with ⟨B, b, n, g, em, r, c, e1, e2, e3, hB, ho, q⟩ | ⟨B, hr, b, n, g, em, r, c, e1, e2, e3, hB, o1, o3, hb, hb', ho, q⟩
  · exact K e1 e2 e3 (cell_in hB ho q)
  · exact K e1 e2 e3 (cell_out hr hB o1 o3 hb hb' ho q)
variable {E:Expr → Tr LV} (hE:∀ e, OkE sc ns e (E e))
theorem name_ok {x:Str} {p:Pos} : OkE sc ns (.Name x p) (gd (nm x) (tVar (ix ns x))) := ⟨fun hh hv q =>
  have ⟨a, q⟩ := gd_ok q;have ⟨_, e, q⟩ := vgot_ok q
  EV_Name (mem_ix e hv) q (nm_ok a).1 (nm_ok a).2⟩
theorem name1 {x:Str} {p:Pos} (h:nm x = true) : OkE sc ns (.Name x p) (tVar (ix ns x)) :=
  have e : gd (nm x) (tVar (ix ns x)) = tVar (ix ns x) := by rw [h]; rfl
  e ▸ name_ok
theorem trK_ok {c:Const} {kk:Nat} {p:Pos} : OkE sc ns (.Constant c kk p) (trK c) := by
  cases c with
  | int i => exact ⟨fun ww ww q => EV_int q⟩
  | str s => exact ⟨fun ww ww q => EV_str q⟩
  | bool b => exact ⟨fun ww ww q => EV_bool q⟩
  | none => exact ⟨fun ww ww q => EV_none q⟩
  | _ => exact ⟨fun ww ww q => q.elim⟩
omit hE in
theorem attr_ok {o:Expr} {x:Str} {p:Pos} {a:Tr LV} (ho:OkE sc ns o a) (h:Nat.beq (kd o) 1 = false) : OkE sc ns (.Attribute o x p) (tAttr a x) := ⟨fun hh hv q =>
  EV_Attr (ho.ok hh hv q) fun env => by
    with_unfolding_all exact congrArg (fun w:Sem Value => (do let o' ← w; standAt p.atName; let r ← holding [o'] (getAttr o' x true); letTemporaryGo o o' r; pure r : Sem Value)) (kd_base h x env (eval o env))⟩
omit hE in
theorem sub_ok {u i:Expr} {p:Pos} {a b:Tr LV} (hu:OkE sc ns u a) (hi:OkE sc ns i b) (h:Nat.beq (kd i) 2 = false) : OkE sc ns (.Subscript u i p) (tSub a b) := ⟨fun hh hv q =>
  EV_Sub ((hu.ok hh hv q).mono fun ww ww q => hi.ok hh hv q) (kd_sub h)⟩
include hE
theorem trU_gen {u i:Expr} {p:Pos} (hk:Nat.beq (kd i) 2 = false) : OkE sc ns (.Subscript u i p) (match (asB u).bind fun p => (asN i).bind fun c => iff (nm p.1 && nm p.2 && nm c) (some (p.1, p.2, c)) with
    | some (a, r, c) => tCell (ix ns a) (ix ns r) (ix ns c)
    | none => tSub (E u) (E i)) := by
  cases h : (asB u).bind fun p => (asN i).bind fun c => iff (nm p.1 && nm p.2 && nm c) (some (p.1, p.2, c)) with
  | none => exact sub_ok (hE u) (hE i) hk
  | some x =>
    obtain ⟨⟨a, r⟩, h1, h⟩ := bnd h;obtain ⟨c, h2, h⟩ := bnd h;obtain ⟨z, h⟩ := ift h;cases h;obtain ⟨p1, q1, p2, p3, rfl⟩ := asB_ok h1;obtain ⟨p4, rfl⟩ := asN_ok h2;obtain ⟨z1, z2⟩ := Bool.and_eq_true _ _ ▸ z;obtain ⟨z3, z4⟩ := Bool.and_eq_true _ _ ▸ z1;exact ⟨fun hh hv q => (sub_ok (sub_ok (attr_ok (name1 z3) rfl) (name1 z4) rfl) (name1 z2) rfl).ok hh hv (cell_le q)⟩
theorem trU_ok {u i:Expr} {p:Pos} : OkE sc ns (.Subscript u i p) (trU E ns u i) := by
  cases i with
  | Slice lo hi st q => exact ⟨fun hh hv q => EV_Slice (((hE u).ok hh hv q).mono fun ww ww q => EP.up (trP_ok hE hh hv q) fun ww ww q => EP.up (trP_ok hE hh hv q) fun ww ww q => trP_ok hE hh hv q)⟩
  | _ => exact trU_gen hE rfl
theorem trF_name {x:Str} {np p:Pos} {es:List Expr} : OkE sc ns (.Call (.Name x np) es [] p) (gd (glb sc x) (tCall x (trA E es))) := ⟨fun hh hv q => by
  obtain ⟨z, fv, g, y, q⟩ := gd_ok q;obtain ⟨hx, hd⟩ := glb_ok z;rcases y with ⟨id, rfl⟩ | ⟨T, rfl⟩ | y
  · exact EV_CallB hx g ((trA_ok hE hh hv q).2.up fun ww ww q => q.2) hd
  · exact EV_CallT hx g ((trA_ok hE hh hv q).2.up fun ww ww q => q.2) hd
  · exact EV_CallK hx g y ((trA_ok hE hh hv q).2.up fun ww ww q => q.2) hd⟩
omit hE in
theorem stars_few {es:List Expr} (hs:stars es = true) (p:Pos) (env:Env) : ((backTo p (starEach es env)).all (fun x => !x.1) && (backToKw p (keywordEach [] env)).all (fun x => x.1.isSome) && decide (es.length + ([] : List Keyword).length + (if ([] : List Keyword).isEmpty then 0 else 1) < 30)) = true := by
  obtain ⟨a, b⟩ := Bool.and_eq_true _ _ ▸ hs;rw [kd_stars a];exact decide_eq_true (Nat.blt_eq.mp b)
theorem trF_bm {o:Expr} {x:Str} {ap p:Pos} {es:List Expr} (z1:Nat.beq (kd o) 1 = false) (hl:(ap.endLine == p.line) = true) (hs:stars es = true) : OkE sc ns (.Call (.Attribute o x ap) es [] p) (tBm (E o) x (trA E es)) :=
  ⟨fun hh hv q => EV_MethE (((hE o).ok hh hv q).mono fun _ _ ⟨T, id, b, o, q⟩ => ⟨T, id, b, o, (trA_ok hE hh hv q).2.up fun ww ww q => q.2⟩) (fun env => kd_base z1 x env (eval o env)) (stars_few hs p) hl⟩
theorem trF_om {o:Expr} {x:Str} {ap p:Pos} {es:List Expr} (z1:Nat.beq (kd o) 1 = false) (hl:(ap.endLine == p.line) = true) (hs:stars es = true) : OkE sc ns (.Call (.Attribute o x ap) es [] p) (tOm (E o) x (trA E es)) :=
  ⟨fun hh hv q => EV_OMeth (pl := fun env => (do return (← importBound o env).getD true)) (((hE o).ok hh hv q).mono fun ww ww h => h.up fun ww q => (trA_ok hE hh hv q).2.up fun ww ww q => q.2) fun env =>
    Eq.trans (b := (do let ov ← attributeBase o x env (eval o env); standAt ap.atName; methodCall o x ap p env ov (es.length + ([] : List Keyword).length) (backTo p (starEach es env)) (backToKw p (keywordEach [] env)) : Sem Value)) (by with_unfolding_all rfl)
      ((congrArg (fun w:Sem Value => (do let ov ← w; standAt ap.atName; methodCall o x ap p env ov (es.length + ([] : List Keyword).length) (backTo p (starEach es env)) (backToKw p (keywordEach [] env)) : Sem Value)) (kd_base z1 x env (eval o env))).trans (bind_congr fun ov => bind_congr fun ww => mcall (stars_few hs p env) hl))⟩
theorem trF_at {o:Expr} {x:Str} {ap p:Pos} {es:List Expr} : OkE sc ns (.Call (.Attribute o x ap) es [] p) (gd (!Nat.beq (kd o) 1 && ap.endLine == p.line && stars es) (bif bms.contains x && !(x == ofString "get" && Nat.beq es.length 2) then tBm (E o) x (trA E es) else tOm (E o) x (trA E es))) := ⟨fun hh hv q => by
  obtain ⟨z, q⟩ := gd_ok q;obtain ⟨z0, hs⟩ := Bool.and_eq_true _ _ ▸ z;obtain ⟨z1, hl⟩ := Bool.and_eq_true _ _ ▸ z0;cases hm : bms.contains x && !(x == ofString "get" && Nat.beq es.length 2) with
  | true => rw [hm] at q; exact (trF_bm hE (nb z1) hl hs).ok hh hv q
  | false => rw [hm] at q; exact (trF_om hE (nb z1) hl hs).ok hh hv q⟩
theorem trF_ok {f:Expr} {es:List Expr} {p:Pos} : OkE sc ns (.Call f es [] p) (trF E sc f es p) := by
  cases f with
  | Name x np => exact trF_name hE
  | Attribute o x ap => exact trF_at hE
  | _ => exact ⟨fun ww ww q => q.elim⟩
end
end
section
theorem okBad {sc:Scope} {ns:List Str} {e:Expr} : OkE sc ns e tBad := ⟨fun ww ww q => q.elim⟩
structure OkV (ok:Str → Bool) (sc:Scope) (ns:List Str) (fl:Bool) (I:VF → Prop) : Prop where
  set : ∀ {x w lv}, ok x = true → I w → Put (zl ns w) x lv (zl ns (vset w (ix ns x) lv)) ∧ I (vset w (ix ns x) lv) ∧ (fl = true ∨ sc.names.lookup x = some .local)
theorem names_cons {es:List Expr} {x:Str} {l:List Str} (h:names es = some (x :: l)) : ∃ p r, es = .Name x p :: r ∧ names r = some l := by
  cases es with
  | nil => cases h
  | cons e es =>
    obtain ⟨_, h1, h⟩ := bnd h;obtain ⟨_, h2, h⟩ := bnd h;cases h;obtain ⟨p, rfl⟩ := asN_ok h1;exact ⟨p, es, rfl, h2⟩
theorem names_nil {es:List Expr} (h:names es = some []) : es = [] := by
  cases es with
  | nil => rfl
  | cons e es =>
    obtain ⟨_, h1, h⟩ := bnd h;obtain ⟨_, h2, h⟩ := bnd h;cases h
theorem gg_ok {b:Bool} {g:Tg} {H:Hp} {lv:LV} {w:VF} {F:VF → Prop} (q:gg b g H lv w F) : b = true ∧ g H lv w F := by
  cases b with
  | true => exact ⟨rfl, q⟩
  | false => exact q.elim
section
variable {G:Gl} {k:Nat} {fl:Bool} {sc:Scope} {ns:List Str} {ok:Str → Bool} {I:VF → Prop} (hh:G.hn = true) (hI:OkV ok sc ns fl I) {H:Hp} {lv:LV} {w:VF} {F:VF → Prop} {N:Loc → Hp → Prop} {X:Xk → Loc → Hp → Prop}
include hI
theorem ASs_n {x:Str} {p:Pos} {ts:List Expr} {lvs:List LV} (hx:ok x = true) (hw:I w) (h:I (vset w (ix ns x) lv) → ASs G k fl sc ts lvs (zl ns (vset w (ix ns x) lv)) H N X) : ASs G k fl sc (.Name x p :: ts) (lv :: lvs) (zl ns w) H N X :=
  have ⟨b, c, d⟩ := hI.set (lv := lv) hx hw
  ASs_cons b (h c) d
include hh
theorem trL_ok {es:List Expr} {kk:Nat} {p:Pos} (hw:I w) (h:∀ w1, I w1 → F w1 → N (zl ns w1) H) : ∀ {o:Option (List Str)}, names es = o → trL ns ok o H lv w F → AS G k fl sc (.Tuple es kk p) lv (zl ns w) H N X
  | some [x], e, q => by
    obtain ⟨a, ad, pt, rfl, hH, q1⟩ := gg_ok q;obtain ⟨_, _, rfl, e1⟩ := names_cons e;cases names_nil e1;exact AS_set1 hH (ASs_n hI a hw fun c => ASs_nil (h _ c q1)) hh
  | some [x, y], e, q => by
    obtain ⟨a, u, v, rfl, q1⟩ := gg_ok q;obtain ⟨a1, a2⟩ := Bool.and_eq_true _ _ ▸ a;obtain ⟨_, _, rfl, e1⟩ := names_cons e;obtain ⟨_, _, rfl, e2⟩ := names_cons e1;cases names_nil e2;exact AS_tuple (ASs_n hI a1 hw fun c => ASs_n hI a2 c fun c => ASs_nil (h _ c q1)) hh
  | some [x, y, z], e, q => by
    obtain ⟨a, ad, u, v, t, rfl, hH, q1⟩ := gg_ok q;obtain ⟨a0, a3⟩ := Bool.and_eq_true _ _ ▸ a;obtain ⟨a1, a2⟩ := Bool.and_eq_true _ _ ▸ a0;obtain ⟨_, _, rfl, e1⟩ := names_cons e;obtain ⟨_, _, rfl, e2⟩ := names_cons e1;obtain ⟨_, _, rfl, e3⟩ := names_cons e2;cases names_nil e3;exact AS_list hH (ASs_n hI a1 hw fun c => ASs_n hI a2 c fun c => ASs_n hI a3 c fun c => ASs_nil (h _ c q1)) hh
  | some (_ :: _ :: _ :: _ :: _), _, q => q.elim
  | some [], _, q => q.elim
  | none, _, q => q.elim
theorem trL2_ok {es:List Expr} {kk:Nat} {p:Pos} (hw:I w) (h:∀ w1, I w1 → F w1 → N (zl ns w1) H) : ∀ {o:Option (List Str)}, names es = o → trL2 ns ok o H lv w F → AS G k fl sc (.Tuple es kk p) lv (zl ns w) H N X
  | some [x, y], e, q => by
    obtain ⟨a, ad, u, v, rfl, hH, q1⟩ := gg_ok q;obtain ⟨a1, a2⟩ := Bool.and_eq_true _ _ ▸ a;obtain ⟨_, _, rfl, e1⟩ := names_cons e;obtain ⟨_, _, rfl, e2⟩ := names_cons e1;cases names_nil e2;exact AS_list hH (ASs_n hI a1 hw fun c => ASs_n hI a2 c fun c => ASs_nil (h _ c q1)) hh
  | some [_], _, q => q.elim
  | some (_ :: _ :: _ :: _), _, q => q.elim
  | some [], _, q => q.elim
  | none, _, q => q.elim
theorem trG_ok {t:Expr} (hw:I w) (q:trG ns ok t H lv w F) (h:∀ w1, I w1 → F w1 → N (zl ns w1) H) : AS G k fl sc t lv (zl ns w) H N X := by
  cases t with
  | Name x p =>
    obtain ⟨a, q⟩ := gg_ok q;obtain ⟨b, c, d⟩ := hI.set (lv := lv) a hw;exact AS_Name b (h _ c q) d
  | Tuple es kk p => exact trL_ok hh hI hw h rfl q
  | _ => exact q.elim
end
section
variable {sc:Scope} {ns:List Str} {E:Expr → Tr LV} (hE:∀ e, OkE sc ns e (E e))
include hE
theorem trI_ok {e:Expr} {G:Gl} {k:Nat} {fl:Bool} {S:Stp G} {v:VF} {H:Hp} {Q:S.κ → Hp → Prop} {X:Xc} (hh:G.hn = true) (hv:v.length = ns.length) (q:trI E sc e G k S v H Q X) : IT G k fl sc S e (zl ns v) H Q X := by
  unfold trI at q;generalize ho : ((asR e).bind fun p => iff (p.1 == ofString "range" && glb sc p.1 && stars [p.2]) (some p.2)) = o at q;cases o with
  | none => exact IT_val ((hE e).ok hh hv q)
  | some a =>
    obtain ⟨⟨x, a⟩, h1, h⟩ := bnd ho;obtain ⟨z, h⟩ := ift h;cases h;obtain ⟨z1, b4⟩ := Bool.and_eq_true _ _ ▸ z;obtain ⟨b3, b2⟩ := Bool.and_eq_true _ _ ▸ z1;obtain ⟨p, q', rfl⟩ := asR_ok h1;cases eq_of_beq b3;cases q with
    | mk hn q => exact IT_range (glb_ok b2).1 hn (((hE a).ok hh hv q).mono fun _ _ ⟨n, e, h0, h1, q⟩ => ⟨n, e, h0, h1, q⟩) (glb_ok b2).2 fun env => kd_star (nb (Bool.and_eq_true _ _ ▸ (Bool.and_eq_true _ _ ▸ b4).1).1) [] env
end
end
section
theorem lk_ix {x:Str} {o:Option LV} : ∀ {ns:List Str} (v:VF), vget v (ix ns x) = o → v.length = ns.length → lk (zl ns v) x = o
  | [], [], h, _ => h
  | y :: ns, u :: v, h, hl => by
    by_cases e : x = y
    · subst e;rw [ix, beq_self_eq_true, cond_true] at h;rw [← (show u = o from h)];unfold lk zl;rw [List.zip_cons_cons, List.lookup_cons, beq_self_eq_true]; rfl
    · rw [ix, beq_false_of_ne e, cond_false] at h;refine Eq.trans ?_ (lk_ix v h (Nat.succ.inj hl));unfold lk zl;rw [List.zip_cons_cons, List.lookup_cons, beq_false_of_ne e]
noncomputable def frv (fr:List (Option Nat)) (v:VF) : VF := fr.map fun
  | none => none
  | some i => vget v i
theorem cf_ok {ns:List Str} {v:VF} (hv:v.length = ns.length) : ∀ {nm:List (Str × NameKind)}, cfK nm = true → (cfN nm).length = (cfF ns nm).length ∧ comp0 nm (zl ns v) = zl (cfN nm) (frv (cfF ns nm) v)
  | [], _ => ⟨rfl, rfl⟩
  | (n, .local) :: r, h => have ⟨a, b⟩ := cf_ok hv (nm := r) h; ⟨congrArg Nat.succ a, congrArg _ b⟩
  | (n, .free) :: r, h => have ⟨a, b⟩ := cf_ok hv (nm := r) h; ⟨congrArg Nat.succ a, by rw [comp0, b, lk_ix v rfl hv]; rfl⟩
  | (n, .globalImplicit) :: r, h => cf_ok hv (nm := r) h
  | (n, .cell) :: r, h => Bool.noConfusion h
  | (n, .globalExplicit) :: r, h => Bool.noConfusion h
theorem compOk_zl {scope sc:Scope} {ns:List Str} {v:VF} (hv:v.length = ns.length) (h:compOk scope sc (ns.map fun n => (n, none)) = true) : compOk scope sc (zl ns v) = true := by
  have e : (zl ns v).map (·.1) = (ns.map fun n => ((n, none) : Str × Option LV)).map (·.1) := by
    rw [List.map_fst_zip (Nat.le_of_eq hv.symm), List.map_map]; exact (List.map_id _).symm
  unfold compOk at h ⊢;rw [e]; exact h
noncomputable def Wsim (v:VF) : List (Option Nat) → VF → Prop
  | [], w => w = []
  | none :: fr, w => ∃ o r, w = o :: r ∧ Wsim v fr r
  | some i :: fr, w => ∃ lv r, vget v i = some lv ∧ w = some lv :: r ∧ Wsim v fr r
theorem Wsim.set {v:VF} {lv:LV} : ∀ {fr:List (Option Nat)} {w:VF} {i:Nat}, fr[i]? = some none → Wsim v fr w → Wsim v fr (vset w i lv)
  | none :: fr, _, 0, _, ⟨o, r, e, s⟩ => ⟨some lv, r, congrArg (fun w => vset w 0 lv) e, s⟩
  | none :: fr, _, i + 1, h, ⟨o, r, e, s⟩ => ⟨o, _, congrArg (fun w => vset w (i + 1) lv) e, Wsim.set (fr := fr) h s⟩
  | some j :: fr, _, i + 1, h, ⟨l, r, e0, e, s⟩ => ⟨l, _, e0, congrArg (fun w => vset w (i + 1) lv) e, Wsim.set (fr := fr) h s⟩
theorem Wsim.sim {v:VF} : ∀ {fr:List (Option Nat)} {w:VF} {ns:List Str}, ns.length = fr.length → Wsim v fr w → Sim (zl ns (frv fr v)) (zl ns w)
  | [], w, [], _, e => rfl
  | none :: fr, _, n :: ns, hl, ⟨o, r, e, s⟩ => ⟨o, zl ns r, by rw [e]; rfl, Wsim.sim (fr := fr) (Nat.succ.inj hl) s⟩
  | some i :: fr, _, n :: ns, hl, ⟨l, r, e0, e, s⟩ => by
    show Sim ((n, vget v i) :: zl ns (frv fr v)) _;rw [e0];exact ⟨zl ns r, by rw [e]; rfl, Wsim.sim (fr := fr) (Nat.succ.inj hl) s⟩
theorem allV_sim {v:VF} : ∀ {fr:List (Option Nat)} {ns:List Str} {P:VF → Prop} {m:Loc}, ns.length = fr.length → allV fr v P → Sim (zl ns (frv fr v)) m → ∃ w, w.length = ns.length ∧ m = zl ns w ∧ Wsim v fr w ∧ P w
  | [], [], P, m, _, q, s => ⟨[], rfl, s, rfl, q⟩
  | none :: fr, n :: ns, P, m, e, q, ⟨o, r, e1, s⟩ => have ⟨w, a, b, c, d⟩ := allV_sim (Nat.succ.inj e) (q o) s; ⟨o :: w, congrArg Nat.succ a, e1.trans (congrArg _ b), ⟨o, w, rfl, c⟩, d⟩
  | some i :: fr, n :: ns, P, m, e, q, s => by
    obtain ⟨lv, e0, q⟩ := vgot_ok q;have s : Sim ((n, vget v i) :: zl ns (frv fr v)) m := s;rw [e0] at s;obtain ⟨r, e1, s⟩ := s;obtain ⟨w, a, b, c, d⟩ := allV_sim (Nat.succ.inj e) q s;exact ⟨some lv :: w, congrArg Nat.succ a, e1.trans (congrArg _ b), ⟨lv, w, e0, rfl, c⟩, d⟩
end
section
theorem LcI.ev {G:Gl} {k:Nat} {fl:Bool} {sc:Scope} {elt:Expr} {gens:List Comprehension} {scope:Scope} {pos:Pos} {m:Loc} {H:Hp} {Q:Qv} {X:Xc} (h:LcI G k fl sc elt gens scope pos m H Q X) : EV G k fl sc (.ListComp elt gens scope pos) m H Q X := by
  obtain ⟨h1, S, t, i, f, r, rfl, h2, h3⟩ := h;exact EV_ListComp (S := S) h3 h1 h2
theorem LcI.asg {G:Gl} {k:Nat} {sc:Scope} {elt:Expr} {gens:List Comprehension} {scope:Scope} {xp pos spos:Pos} {m:Loc} {H:Hp} {x:Str} {P:PQ} (h:LcI G k true sc elt gens scope pos m H (fun lv H' => ∃ m', Put m x lv m' ∧ P.n m' H') (fun c H' => P.x c m H')) (hk:sc.kind = .function) (hx:sc.names.lookup x = some .local) (hl:(xp.line == pos.line) = true)
    (hv:(scope.names.any fun (n, k) => n == x && (k == .local || k == .cell)) = false) : EX G k sc (.Assign [.Name x xp] (.ListComp elt gens scope pos) spos) m H P := by
  obtain ⟨h1, S, t, i, f, r, rfl, h2, h3⟩ := h;exact EX_AssignComp (S := S) h3 h1 hk hx hl hv h2
inductive AccJ {G:Gl} (S:Stp G) (K:Hp → Prop) (vs:List LV) (m0:Loc) (I:Nat → List LV → Hp → Prop) : Nat → S.κ → Loc → Hp → Prop
  | mk {x:S.κ} {m:Loc} {H:Hp} {acc:List LV} (i:Nat) (y:Ys S K x (vs.drop i)) (hi:i ≤ vs.length) (hs:Sim m0 m) (hI:I i acc H) : AccJ S K vs m0 I (vs.length - i) x m H
set_option tactic.hygienic true in
theorem CS_acc {G:Gl} {k:Nat} {sc:Scope} {S:Stp G} {elt target iter:Expr} {ifs:List Expr} {scope:Scope} {pos:Pos} {D:Addr} {x:S.κ} {K:Hp → Prop} {vs:List LV} {m0:Loc} {H:Hp} {I:Nat → List LV → Hp → Prop} {N:Loc → Hp → Prop} (hh:G.hn = true)
    (hy:Ys S K x vs) (i0:I 0 [] H) (hk:∀ i acc H', I i acc H' → K H') (he:∀ i lv acc H', vs[i]? = some lv → I i acc H' → ∀ m2, Sim m0 m2 → AS G k false sc target lv m2 H' (fun m3 H3 => Sim m0 m3 ∧ TSs G k sc ifs m3 H3 fun ok H4 =>
      (ok = false → I (i + 1) acc H4) ∧ (ok = true → EV G k false sc elt m3 H4 (fun u H5 => H5 D = some (.lst acc) ∧ acc.length < 4096 ∧ I (i + 1) (acc ++ [u]) (hset H5 D (.lst (acc ++ [u])))) noX)) (fun ww ww ww => False))
    (hN:∀ m' acc H', I vs.length acc H' → N m' H') : CS G k sc S (.ListComp elt [⟨target, iter, ifs, 0⟩] scope pos) 0 D x m0 H N := by
  refine CS_loop (S := S) rfl hh (AccJ S K vs m0 I) (.mk 0 hy (Nat.zero_le _) (Sim.refl _) i0) fun n x m H j => ?_;obtain ⟨i, y, hi, hs, hI⟩ := j;rename_i acc;cases hd : vs.drop i with
  | nil =>
    rw [hd] at y;exact ⟨none, y H (hk _ _ _ hI), fun ww => hN m acc H (Nat.le_antisymm hi (List.drop_eq_nil_iff.mp hd) ▸ hI), (fun lv x' q => nomatch q)⟩
  | cons w ws =>
    rw [hd] at y;obtain ⟨x', y1, y2⟩ := y;have hlt : i < vs.length := Nat.lt_of_not_le fun q => nomatch hd.symm.trans (List.drop_eq_nil_iff.mpr q);rw [List.drop_eq_getElem_cons hlt] at hd;cases hd;have up : ∀ {acc m H}, Sim m0 m → I (i + 1) acc H → ∃ n', n' < vs.length - i ∧ AccJ S K vs m0 I n' x' m H := fun s h => ⟨vs.length - (i + 1), Nat.sub_succ_lt_self _ _ hlt, .mk (i + 1) y2 hlt s h⟩;refine ⟨_, y1 H (hk _ _ _ hI), (fun q => nomatch q), fun lv x2 q => ?_⟩;cases q;exact (he i _ acc H (List.getElem?_eq_getElem hlt) hI m hs).mono fun m1 H2 h => h.2.mono fun ok H3 h3 => ⟨fun q => INN_append rfl ((h3.2 q).mono fun u H5 h5 => ⟨acc, h5.1, h5.2.1, up h.1 h5.2.2⟩), fun q => up h.1 (h3.1 q)⟩
section
variable {E:Scope → List Str → Expr → Tr LV} (hE:∀ sc ns e, OkE sc ns e (E sc ns e))
include hE
theorem trIf_ok {sc:Scope} {ns:List Str} {n:Nat} {ifs:List Expr} {G:Gl} {k:Nat} {v:VF} {H:Hp} {Q:Bool → Hp → Prop} (hh:G.hn = true) (hv:v.length = ns.length) (q:trIf (E sc ns) n ifs G k v H Q noX) : TSs G k sc ifs (zl ns v) H Q := by
  match ifs with
  | [] => exact TSs_nil q
  | [c] => exact TSs_one ((trT_ok (hE sc ns) n c).ok hh hv q)
  | _ :: _ :: _ => exact q.elim
theorem trC_ok {n:Nat} {sc:Scope} {ns:List Str} {elt:Expr} {gens:List Comprehension} {scope:Scope} {pos:Pos} {G:Gl} {k:Nat} {fl:Bool} {v:VF} {H:Hp} {Q Q':Qv} {X:Xc} (hh:G.hn = true) (hv:v.length = ns.length) (q:trC E n sc ns elt gens scope pos G k v H Q X) (hQ:∀ lv H', Q lv H' → Q' lv H') : LcI G k fl sc elt gens scope pos (zl ns v) H Q' X := by
  match gens with
  | [] => exact q _ _ hQ
  | _ :: _ :: _ => exact q _ _ hQ
  | [g] =>
    obtain ⟨z, S, q⟩ := gd_ok q;obtain ⟨z1, z2⟩ := Bool.and_eq_true _ _ ▸ z;obtain ⟨z3, z4⟩ := Bool.and_eq_true _ _ ▸ z1;obtain ⟨z5, z6⟩ := Bool.and_eq_true _ _ ▸ z3;obtain ⟨t, it, ifs, as⟩ := g;cases eq_of_beq z4;obtain ⟨c1, c2⟩ := cf_ok hv z5;refine ⟨compOk_zl hv z6, S, t, it, ifs, [], rfl, kd_fold (nb z2), (trI_ok (hE sc ns) hh hv q).mono fun x H1 ⟨K, vs, y, I, i0, hk, el, fin⟩ D hD => ?_⟩;rw [c2];refine CS_acc (I := I D) hh y (i0 D hD) (hk D) (fun i lv acc H' hi hI m2 hs => ?_) fun m' acc H' a => hQ _ _ (fin D acc H' hD a);obtain ⟨w, w1, rfl, w3, w4⟩ := allV_sim c1 (el D i lv acc H' hi hI) hs;refine trG_ok (I := fun w => w.length = (cfN scope.names).length ∧ Wsim v (cfF ns scope.names) w) hh ⟨fun {x w lv} hx ⟨l, s⟩ => ?_⟩ ⟨w1, w3⟩ w4 fun w5 ⟨w6, w7⟩ q => ⟨w7.sim c1, (trIf_ok hE hh w6 q).mono fun ok H4 ⟨q1, q2⟩ => ⟨q1, fun e => (hE _ _ _).ok hh w6 (q2 e)⟩⟩;obtain ⟨x1, x2⟩ := Bool.and_eq_true _ _ ▸ hx;have x3 := eq_of_beq x2;have x4 : x ∈ cfN scope.names := (ix_le _ _).resolve_right fun e => by rw [e, c1, List.getElem?_eq_none (Nat.le_refl _)] at x3; cases x3
    exact ⟨put_ix x4 l, ⟨(vset_len _ _ _).trans l, s.set x3⟩, .inr (eq_of_beq x1)⟩
end
theorem trD_ok {sc:Scope} {ns:List Str} {p:Pos} : ∀ {ks:List (Option Expr)} {vs:List Expr}, OkE sc ns (.Dict ks vs p) (trD sc ns ks vs p)
  | [], [] => ⟨fun ww ww q => EV_Dict0 q⟩
  | [], _ :: _ => ⟨fun ww ww q => q _⟩
  | _ :: _, _ => ⟨fun ww ww q => q _⟩
section
variable {sc:Scope} {ns:List Str} {E:Expr → Tr LV} (hE:∀ e, OkE sc ns e (E e))
include hE
theorem trY_ok {op:UnaryOp} {x:Expr} {p:Pos} : OkE sc ns (.UnaryOp op x p) (trY E op x) := by
  cases op with
  | USub => exact ⟨fun hh hv q => EV_Neg (((hE x).ok hh hv q).mono fun _ _ ⟨i, e, q⟩ => ⟨i, e, q⟩)⟩
  | Not => exact ⟨fun hh hv q => EV_Not (((hE x).ok hh hv q).mono fun _ _ ⟨b, e, q⟩ => ⟨b, e, q⟩)⟩
  | _ => exact okBad
theorem trZ_ok {l:Expr} {p:Pos} : ∀ {ops:List CmpOp} {rs:List Expr}, OkE sc ns (.Compare l ops rs p) (trZ E l ops rs)
  | [op], [r] => ⟨fun hh hv q => have ⟨a, q⟩ := gd_ok q; EV_Compare1 (((hE l).ok hh hv q).mono fun ww ww q => ((hE r).ok hh hv q).mono fun ww ww q => wpC_ok q) (kd_mark (nb a) _)⟩
  | [], _ => okBad
  | [_], [] => okBad
  | [_], _ :: _ :: _ => okBad
  | _ :: _ :: _, _ => okBad
theorem bin_ok {op:Operator} {l r:Expr} {p:Pos} : OkE sc ns (.BinOp l op r p) (tBin op (E l) (E r)) := ⟨fun hh hv q => EV_BinOp (((hE l).ok hh hv q).mono fun ww ww q => ((hE r).ok hh hv q).mono fun ww ww q => wpB_ok q)⟩
theorem tup_ok {es:List Expr} {kk:Nat} {p:Pos} : OkE sc ns (.Tuple es kk p) (tTup (trA E es)) := ⟨fun hh hv q => EV_Tuple (trA_ok hE hh hv q).2⟩
theorem lst_ok {es:List Expr} {p:Pos} : OkE sc ns (.List es p) (tLst (trA E es)) := ⟨fun hh hv q => EV_List (trA_ok hE hh hv q).2⟩
theorem attg_ok {o:Expr} {x:Str} {p:Pos} : OkE sc ns (.Attribute o x p) (gd (!Nat.beq (kd o) 1) (tAttr (E o) x)) := ⟨fun hh hv q => have ⟨a, q⟩ := gd_ok q; (attr_ok (hE o) (nb a)).ok hh hv q⟩
theorem trV_ok {p:Pos} : ∀ {es:List Expr}, OkE sc ns (.BoolOp .And es p) (trV E es)
  | [] => okBad
  | [e] => ⟨fun hh hv q => EV_one ((hE e).ok hh hv q)⟩
  | e :: e2 :: es => ⟨fun hh hv q => EV_and (((hE e).ok hh hv q).mono fun _ _ ⟨b, h, q1, q2⟩ => ⟨b, h, by
      cases b with
      | true => exact (trV_ok (es := e2 :: es)).ok hh hv (q1 rfl)
      | false => exact q2 rfl⟩)⟩
theorem trW_ok {op:BoolOp} {es:List Expr} {p:Pos} : OkE sc ns (.BoolOp op es p) (trW E op es) := by
  cases op with
  | And => exact trV_ok hE
  | Or => exact okBad
theorem ife_ok {t b o:Expr} {p:Pos} {n:Nat} : OkE sc ns (.IfExp t b o p) (tIte (trT E n t) (E b) (E o)) := ⟨fun hh hv q =>
  EV_IfExp (((trT_ok hE n t).ok hh hv q).mono fun c _ ⟨q1, q2⟩ => by
    cases c with
    | true => exact (hE b).ok hh hv (q1 rfl)
    | false => exact (hE o).ok hh hv (q2 rfl))⟩
theorem trQ_ok {f:Expr} {es:List Expr} {ks:List Keyword} {p:Pos} : OkE sc ns (.Call f es ks p) (trQ E sc f es ks p) := by
  cases ks with
  | nil => exact trF_ok hE
  | cons => exact okBad
end
theorem trE_ok (n:Nat) : ∀ (sc:Scope) (ns:List Str) (e:Expr), OkE sc ns e (trE n sc ns e) := by
  induction n with
  | zero => exact fun ww ww ww => okBad
  | succ n ih =>
    intro sc ns e;cases e with
    | Name x p => exact name_ok
    | Constant c k p => exact trK_ok
    | BinOp l op r p => exact bin_ok (ih sc ns)
    | UnaryOp op x p => exact trY_ok (ih sc ns)
    | Compare l ops rs p => exact trZ_ok (ih sc ns)
    | BoolOp op es p => exact trW_ok (ih sc ns)
    | IfExp t b o p => exact ife_ok (ih sc ns)
    | Attribute o x p => exact attg_ok (ih sc ns)
    | Subscript v i p => exact trU_ok (ih sc ns)
    | Tuple es k p => exact tup_ok (ih sc ns)
    | List es p => exact lst_ok (ih sc ns)
    | Dict ks vs p => exact trD_ok
    | Call f es ks p => exact trQ_ok (ih sc ns)
    | ListComp elt gens scope p => exact ⟨fun hh hv q => (trC_ok ih hh hv q fun ww ww x => x).ev⟩
    | _ => exact okBad
end
section
inductive WN (ns:List Str) (N:VF → Hp → Prop) : Loc → Hp → Prop
  | mk {H:Hp} (v:VF) (h:v.length = ns.length) (q:N v H) : WN ns N (zl ns v) H
noncomputable def pq (ns:List Str) (P:PW) : PQ := ⟨WN ns P.n, P.r, WN ns P.b, WN ns P.c, fun c => WN ns fun v => P.x v c⟩
structure OkS (sc:Scope) (ns:List Str) (ss:List Stmt) (t:ST) : Prop where
  ok : ∀ {G:Gl} {k:Nat} {v:VF} {H:Hp} {P:PW}, G.hn = true → v.length = ns.length → t G k v H P → EXS G k sc ss (zl ns v) H (pq ns P)
section
variable {G:Gl} {k:Nat} {sc:Scope} {ns:List Str}
theorem gs_ok {b:Bool} {t:ST} {v:VF} {H:Hp} {P:PW} (h:gs b t G k v H P) : b = true ∧ t G k v H P := by
  cases b with
  | true => exact ⟨rfl, h⟩
  | false => exact h.elim
theorem and2 {a b:Bool} (h:(a && b) = true) : a = true ∧ b = true := Bool.and_eq_true _ _ ▸ h
theorem mem_ok {x:Str} (h:mem ns x = true) : x ∈ ns := (ix_le ns x).resolve_right (Nat.ne_of_lt (Nat.blt_eq.mp h))
theorem sBad_ok {ss:List Stmt} : OkS sc ns ss sBad := ⟨fun ww ww q => q.elim⟩
theorem wx {P:PW} {v:VF} (hv:v.length = ns.length) (c:Xk) (H:Hp) (q:P.x v c H) : (pq ns P).x c (zl ns v) H := ⟨v, hv, q⟩
theorem EV.wx {fl:Bool} {e:Expr} {v:VF} {H:Hp} {Q Q':Qv} {P:PW} (h:EV G k fl sc e (zl ns v) H Q (P.x v)) (hv:v.length = ns.length) (hQ:∀ lv H', Q lv H' → Q' lv H') : EV G k fl sc e (zl ns v) H Q' (fun c H' => (pq ns P).x c (zl ns v) H') := h.up hQ (Go.wx hv)
theorem BO.wx {t:Value → Value → Sem Value} {a b:LV} {v:VF} {H:Hp} {Q Q':Qv} {P:PW} (h:BO G t a b H Q (P.x v)) (hv:v.length = ns.length) (hQ:∀ lv H', Q lv H' → Q' lv H') : BO G t a b H Q' (fun c H' => (pq ns P).x c (zl ns v) H') :=
  fun k fl env A C Z m s va vb I h1 h2 => wpAny_mono (BO_up h hQ k fl env A C Z m s va vb I h1 h2) (fun ww ww x => x) fun ww ww x => xp_up (Go.wx hv) x
theorem SO.wx {t:Value → Value → Value → Sem Unit} {a b c:LV} {v:VF} {H:Hp} {N N':Hp → Prop} {P:PW} (h:SO G t a b c H N (P.x v)) (hv:v.length = ns.length) (hN:∀ H', N H' → N' H') : SO G t a b c H N' (fun c H' => (pq ns P).x c (zl ns v) H') :=
  fun k fl env A C Z m s va vb vc I h1 h2 h3 => wpAny_mono (h k fl env A C Z m s va vb vc I h1 h2 h3) (fun _ _ ⟨a, b, c, d, q⟩ => ⟨a, b, c, d, hN _ q⟩) fun ww ww x => xp_up (Go.wx hv) x
theorem SA.wx {x:Str} {a c:LV} {v:VF} {H:Hp} {N N':Hp → Prop} {P:PW} (h:SA G x a c H N (P.x v)) (hv:v.length = ns.length) (hN:∀ H', N H' → N' H') : SA G x a c H N' (fun c H' => (pq ns P).x c (zl ns v) H') :=
  fun k fl env A C Z m s va vc I h1 h2 => wpAny_mono (h k fl env A C Z m s va vc I h1 h2) (fun _ _ ⟨a, b, c, d, q⟩ => ⟨a, b, c, d, hN _ q⟩) fun ww ww x => xp_up (Go.wx hv) x
theorem okv : OkV (mem ns) sc ns true fun v => v.length = ns.length := ⟨fun hx hw => ⟨put_ix (mem_ok hx) hw, (vset_len _ _ _).trans hw, .inl rfl⟩⟩
variable {E:Expr → Tr LV} (hE:∀ e, OkE sc ns e (E e)) {r:List Stmt} {R:ST} (hr:OkS sc ns r R)
include hE hr
theorem asg_ok {x:Str} {xp p:Pos} {e:Expr} (hx:mem ns x = true) (hk:Nat.beq (kd e) 4 = false) : OkS sc ns (.Assign [.Name x xp] e p :: r) (sAsg (E e) (g1 (ix ns x)) R) := ⟨fun hh hv q =>
  EXS_cons (EX_Assign (((hE e).ok hh hv q).wx hv fun lv H' q => ⟨_, put_ix (mem_ok hx) hv, hr.ok hh ((vset_len _ _ _).trans hv) q⟩) (kd_sw hk _ _))⟩
theorem asgT_ok {ts:List Expr} {kk:Nat} {tp p:Pos} {e:Expr} (hk:Nat.beq (kd e) 4 = false) (hk2:Nat.beq (kd e) 7 = false) : OkS sc ns (.Assign [.Tuple ts kk tp] e p :: r) (sAsg (E e) (trG ns (mem ns) (.Tuple ts kk tp)) R) := ⟨fun hh hv q =>
  EXS_cons (EX_AssignTup (((hE e).ok hh hv q).wx hv fun lv H' q => trG_ok hh okv hv q fun w hw q => hr.ok hh hw q) (fun env => kd_sw hk (some (.Tuple ts kk tp)) p.line env) (kd_tup hk2 _ _ _))⟩
theorem asgT2_ok {ts:List Expr} {kk:Nat} {tp p:Pos} {e:Expr} (hk:Nat.beq (kd e) 4 = false) (hk2:Nat.beq (kd e) 7 = false) : OkS sc ns (.Assign [.Tuple ts kk tp] e p :: r) (sAsg (E e) (trL2 ns (mem ns) (names ts)) R) := ⟨fun hh hv q =>
  EXS_cons (EX_AssignTup (((hE e).ok hh hv q).wx hv fun lv H' q => trL2_ok hh okv hv (fun w hw q => hr.ok hh hw q) rfl q) (fun env => kd_sw hk (some (.Tuple ts kk tp)) p.line env) (kd_tup hk2 _ _ _))⟩
theorem asgS_ok {o i e:Expr} {tp p:Pos} : OkS sc ns (.Assign [.Subscript o i tp] e p :: r) (sSet (E o) (E i) (E e) R) := ⟨fun hh hv q =>
  EXS_cons (EX_AssignSub (((hE e).ok hh hv q).wx hv fun ww ww q => ((hE o).ok hh hv q).wx hv fun ww ww q => ((hE i).ok hh hv q).wx hv fun ww ww q => q.wx hv fun ww q => hr.ok hh hv q) fun env => by cases e <;> rfl)⟩
theorem asgA_ok {o e:Expr} {x:Str} {tp p:Pos} : OkS sc ns (.Assign [.Attribute o x tp] e p :: r) (sAtt (E o) x (E e) R) := ⟨fun hh hv q =>
  EXS_cons (EX_AssignAttr (((hE e).ok hh hv q).wx hv fun ww ww q => ((hE o).ok hh hv q).wx hv fun ww ww q => q.wx hv fun ww q => hr.ok hh hv q) fun env => by cases e <;> rfl)⟩
theorem aug_ok {x:Str} {xp p:Pos} {op:Operator} {e:Expr} (hx:mem ns x = true) (hn:(x == ("__classdict__" : Str)) = false) : OkS sc ns (.AugAssign (.Name x xp) op e p :: r) (sAug (ix ns x) op (E e) R) := ⟨fun hh hv q =>
  have ⟨_, e', q⟩ := vgot_ok q
  EXS_cons (EX_AugName (mem_ix e' hv) (((hE e).ok hh hv q).wx hv fun ww ww q => (wpI_ok q).wx hv fun ww ww q => ⟨_, put_ix (mem_ok hx) hv, hr.ok hh ((vset_len _ _ _).trans hv) q⟩) hn)⟩
theorem augS_ok {o i e:Expr} {tp p:Pos} {op:Operator} (hk:Nat.beq (kd i) 2 = false) : OkS sc ns (.AugAssign (.Subscript o i tp) op e p :: r) (sAugS (E o) (E i) op (E e) R) := ⟨fun hh hv q =>
  EXS_cons (EX_AugSub (((hE o).ok hh hv q).wx hv fun ww ww q => ((hE i).ok hh hv q).wx hv fun ww ww q => q.wx hv fun ww ww q => ((hE e).ok hh hv q).wx hv fun ww ww q => (wpI_ok q).wx hv fun ww ww q => q.wx hv fun ww q => hr.ok hh hv q) (kd_aug hk))⟩
theorem ex_ok {e:Expr} {p:Pos} (hf:sc.kind = .function) (hk:Nat.beq (kd e) 4 = false) : OkS sc ns (.Expr e p :: r) (sEx (E e) R) := ⟨fun hh hv q =>
  EXS_cons (EX_Expr (((hE e).ok hh hv q).wx hv fun ww ww q => hr.ok hh hv q) hf (kd_sw hk _ _))⟩
omit hr in
theorem ret_ok {e:Expr} {p:Pos} : OkS sc ns (.Return (some e) p :: r) (sRet (E e)) := ⟨fun hh hv q =>
  EXS_cons (EX_Return (((hE e).ok hh hv q).wx hv fun ww ww q => q))⟩
omit hE hr in
theorem TS.wx {e:Expr} {v:VF} {H:Hp} {Q Q':Bool → Hp → Prop} {P:PW} (h:TS G k true sc e (zl ns v) H Q (P.x v)) (hv:v.length = ns.length) (hQ:∀ lv H', Q lv H' → Q' lv H') : TS G k true sc e (zl ns v) H Q' (fun c H' => (pq ns P).x c (zl ns v) H') := h.up hQ (Go.wx hv)
end
section
variable {sc:Scope} {ns:List Str} {t:Expr} {T:Tr Bool} (hT:OkT sc ns t T) {b o r:List Stmt} {B O R:ST} (hb:OkS sc ns b B) (ho:OkS sc ns o O) (hr:OkS sc ns r R) {p:Pos}
include hT hb
theorem ifJ_ok (hr:OkS sc ns r R) : OkS sc ns (.If t b [] p :: r) (sIfJ T B R) := ⟨fun hh hv q =>
  EXS_cons (EX_If ((hT.ok hh hv q).wx hv fun _ _ ⟨q1, q2⟩ => ⟨fun e => EXS_mono (hb.ok hh hv (q1 e)) (fun _ _ ⟨_, _, q⟩ => q.elim) (fun ww ww x => x) (fun ww ww x => x) (fun ww ww x => x) fun ww ww ww x => x, fun e => EXS_nil (hr.ok hh hv (q2 e))⟩))⟩
include ho
theorem if_ok : OkS sc ns (.If t b o p :: []) (sIf T B O) := ⟨fun hh hv q =>
  EXS_cons (EX_If ((hT.ok hh hv q).wx hv fun _ _ ⟨q1, q2⟩ => ⟨fun e => EXS_mono (hb.ok hh hv (q1 e)) (fun ww ww q => EXS_nil q) (fun ww ww x => x) (fun ww ww x => x) (fun ww ww x => x) fun ww ww ww x => x, fun e => EXS_mono (ho.ok hh hv (q2 e)) (fun ww ww q => EXS_nil q) (fun ww ww x => x) (fun ww ww x => x) (fun ww ww x => x) fun ww ww ww x => x⟩))⟩
include hr
theorem ifR_ok : OkS sc ns (.If t b o p :: r) (sIfR T B O R) := ⟨fun {G k v H P} hh hv ⟨M, h, q⟩ => by
  have q := q ⟨M, P.r, P.b, P.c, P.x⟩ ⟨id, id, id, id, id⟩;refine EXS_cons (EX_If ((hT.ok hh hv q).wx hv fun _ _ ⟨q1, q2⟩ => ?_));have up : ∀ {ss m H'}, EXS G k sc ss m H' (pq ns ⟨M, P.r, P.b, P.c, P.x⟩) → EXS G k sc ss m H' ⟨fun m' H' => EXS G k sc r m' H' (pq ns P), (pq ns P).r, (pq ns P).b, (pq ns P).c, (pq ns P).x⟩ := fun x =>
    EXS_mono x (fun m' H' q => by cases q with | mk v hv q => exact hr.ok hh hv (h _ _ q)) (fun ww ww x => x) (fun ww ww x => x) (fun ww ww x => x) fun ww ww ww x => x
  exact ⟨fun e => up (hb.ok hh hv (q1 e)), fun e => up (ho.ok hh hv (q2 e))⟩⟩
end
theorem EX_AssignCell {G:Gl} {k:Nat} {sc:Scope} {m:Loc} {H:Hp} {P:PQ} {x:Str} {xp p pos:Pos} {elt:Expr} {gens:List Comprehension} {scope:Scope} (h:EV G k true sc (.ListComp elt gens scope pos) m H (fun lv H1 => ∃ m', Put m x lv m' ∧ P.n m' H1) (fun c H' => P.x c m H')) (hx:sc.names.lookup x = some .cell) :
    EX G k sc (.Assign [.Name x xp] (.ListComp elt gens scope pos) p) m H P := fun env A C Z s hs I =>
  wpAny_Assign_Name (wpAny_mono (h env A C Z s hs I) (fun v s1 ⟨C1, lv, H1, c1, I1, v1, m', q1, q2⟩ => I1.store q1 v1 (.inl rfl) fun s2 I2 => ⟨C1, m', H1, c1, I2, q2⟩) fun ww ww x => x.xs fun ww ww q => q) (by
    have e2 : env.kindOf x = some .cell := by show env.scope.names.lookup x = _; rw [hs]; exact hx
    unfold swapsWith;simp only [e2];have : (some NameKind.cell == some NameKind.local) = false := rfl
    rw [this]; simp)
end
section
section
variable {sc:Scope} {ns:List Str} {b r:List Stmt} {B R:ST} (hb:OkS sc ns b B) (hr:OkS sc ns r R)
include hb hr
theorem whl_ok {t:Expr} {T:Tr Bool} {p:Pos} (hT:OkT sc ns t T) : OkS sc ns (.While t b [] p :: r) (sWhl T B R) := ⟨fun {G k v H P} hh hv ⟨J, n, j, q⟩ => by
  refine EXS_cons (EX_While (fun n => WN ns (J n)) (fun n m H h => ?_) n ⟨v, hv, j⟩);cases h with
  | mk v1 _ j =>
    obtain ⟨hl, q⟩ := q ⟨LLt J n, P.r, fun v H => R G k v H P, LLt J n, P.x⟩ n H ⟨id, id, id, id, id⟩ v1 j;have hl := hl.trans hv;have lt : ∀ {m H}, WN ns (LLt J n) m H → ∃ n', n' < n ∧ WN ns (J n') m H := fun h => by
      cases h with | mk v h q => obtain ⟨n', a, b⟩ := q; exact ⟨n', a, v, h, b⟩
    exact (hT.ok hh hl q).wx hl fun d H1 ⟨q1, q2⟩ => ⟨fun e => EXS_mono (hb.ok hh hl (q1 e)) (fun ww ww q => lt q) (fun ww ww x => x) (fun ww ww q => by cases q with | mk v h q => exact hr.ok hh h q) (fun ww ww q => lt q) fun ww ww ww x => x, fun e => EXS_nil (hr.ok hh hl (q2 e))⟩⟩
variable {E:Expr → Tr LV} (hE:∀ e, OkE sc ns e (E e))
include hE
omit hb hr hE in
theorem IT_wx {G:Gl} {k:Nat} {S:Stp G} {e:Expr} {v:VF} {H:Hp} {Q Q':S.κ → Hp → Prop} {P:PW} (h:IT G k true sc S e (zl ns v) H Q (P.x v)) (hv:v.length = ns.length) (hQ:∀ x H', Q x H' → Q' x H') : IT G k true sc S e (zl ns v) H Q' (fun c H' => (pq ns P).x c (zl ns v) H') :=
  fun env A C Z s hs I => wpAny_mono (h.mono hQ env A C Z s hs I) (fun ww ww h => wpAny_mono h (fun ww ww x => x) fun ww ww x => xp_up (wx hv) x) fun ww ww x => xp_up (wx hv) x
omit hr in
theorem for_ex {t it:Expr} {p:Pos} (hf:Nat.beq (kd it) 5 = false) {G:Gl} {k:Nat} {v:VF} {H:Hp} {P:PW} {R:VF → Hp → Prop} {N B' C':Loc → Hp → Prop} {S:Stp G} (hh:G.hn = true) (hv:v.length = ns.length) (hN:∀ v H, v.length = ns.length → R v H → N (zl ns v) H)
    (q:trI E sc it G k S v H (fun x H2 => LFor S x v.length v H2 R P fun lv v1 H1 P' => trG ns (mem ns) t H1 lv v1 fun v2 => B G k v2 H1 P') (P.x v)) : EX G k sc (.For t it b [] p) (zl ns v) H ⟨N, P.r, B', C', (pq ns P).x⟩ := by
  refine EX_For (S := S) hh (fun n x m H => ∃ J : Nat → S.κ → VF → Hp → Prop, (∀ n x H' v', J n x v' H' → v'.length = v.length ∧ ∃ r', S.nx H' x r' ∧ (r' = none → R v' H') ∧ ∀ lv x', r' = some (lv, x') → ∀ P', PW.le (LLt (fun n => J n x') n) R (LLt (fun n => J n x') n) P P' →
    trG ns (mem ns) t H' lv v' fun v2 => B G k v2 H' P') ∧ WN ns (J n x) m H) (IT_wx (trI_ok hE hh hv q) hv fun x H' ⟨J, n, j, ht⟩ => ⟨n, J, ht, v, hv, j⟩) (fun n x m H1 ⟨J, ht, h⟩ => ?_) (kd_fold hf)
  cases h with
  | mk v' hv' j =>
    obtain ⟨_, r', h1, h2, h3⟩ := ht n x H1 v' j;refine ⟨r', h1, fun e => EXS_nil (hN _ _ hv' (h2 e)), fun lv x' e => trG_ok hh okv hv' (h3 lv x' e ⟨_, P.r, R, _, P.x⟩ ⟨id, id, id, id, id⟩) fun w hw q => ?_⟩
    have lt : ∀ {m H}, WN ns (LLt (fun n => J n x') n) m H → ∃ n', n' < n ∧ ∃ J : Nat → S.κ → VF → Hp → Prop, (∀ n x H' v', J n x v' H' → v'.length = v.length ∧ ∃ r', S.nx H' x r' ∧ (r' = none → R v' H') ∧ ∀ lv x', r' = some (lv, x') → ∀ P', PW.le (LLt (fun n => J n x') n) R (LLt (fun n => J n x') n) P P' →
      trG ns (mem ns) t H' lv v' fun v2 => B G k v2 H' P') ∧ WN ns (J n' x') m H := fun h => by
      cases h with | mk v h q => obtain ⟨n', a, c⟩ := q; exact ⟨n', a, J, ht, v, h, c⟩
    exact EXS_mono (hb.ok hh hw q) (fun ww ww q => lt q) (fun ww ww x => x) (fun ww ww q => by cases q with | mk v h q => exact hN _ _ h q) (fun ww ww q => lt q) fun ww ww ww x => x
theorem for_ok {t it:Expr} {p:Pos} (hf:Nat.beq (kd it) 5 = false) : OkS sc ns (.For t it b [] p :: r) (sFor (trG ns (mem ns) t) (trI E sc it) B R) := ⟨fun {G k v H P} hh hv ⟨S, q⟩ =>
  EXS_cons (for_ex hb hE hf hh hv (fun v H hv q => hr.ok hh hv q) q)⟩
omit hb hr hE in
theorem EX_up {G:Gl} {k:Nat} {m:Loc} {H:Hp} {st:Stmt} {P P':PQ} (h:EX G k sc st m H P) (hn:∀ m' H', P.n m' H' → P'.n m' H') (hr:∀ v H', P.r v H' → P'.r v H') (hb:∀ m' H', P.b m' H' → P'.b m' H') (hc:∀ m' H', P.c m' H' → P'.c m' H') (hx:∀ c m' H', P.x c m' H' → P'.x c m' H') : EX G k sc st m H P' :=
  fun env A C Z s hs I => wpAny_mono (h env A C Z s hs I) (fun f _ ⟨a, b, c, d, e, q⟩ => ⟨a, b, c, d, e, by
    cases f with
    | next => exact hn _ _ q
    | brk => exact hb _ _ q
    | cont => exact hc _ _ q
    | ret v => exact (let ⟨lv, v1, q⟩ := q; ⟨lv, v1, hr _ _ q⟩)⟩) fun _ _ ⟨a, b, c, d, e, f, q⟩ => ⟨a, b, c, d, e, f, hx _ _ _ q⟩
theorem frz_ok {t it:Expr} {p:Pos} (hf:Nat.beq (kd it) 5 = false) : OkS sc ns (.For t it b [] p :: r) (sFrz (trG ns (mem ns) t) (trI E sc it) B R) := ⟨fun {G k v H P} hh hv ⟨a, ps, h, q⟩ =>
  EXS_cons (EX_freeze h fun W ob hp => have ⟨S, q⟩ := q W ob hp
    EX_up (for_ex (P := P.frz a W ob ps fun v1 H1 => R G k v1 H1 P) hb hE hf hh hv (B' := fun ww ww => False) (C' := fun ww ww => False) (fun v H hv q => ⟨q.1, hr.ok hh hv q.2⟩) q) (fun ww ww q => q) (fun ww ww q => q) (fun ww ww q => q.elim) (fun ww ww q => q.elim) fun ww ww ww q => by cases q with | mk v h q => exact q.elim)⟩
omit hb hE in
theorem asgL_ok {x:Str} {xp p pos:Pos} {elt:Expr} {gens:List Comprehension} {scope:Scope} {A:Tr LV} (hA:∀ {G:Gl} {k:Nat} {v:VF} {H:Hp} {Q Q':Qv} {X:Xc}, G.hn = true → v.length = ns.length → A G k v H Q X → (∀ lv H', Q lv H' → Q' lv H') → LcI G k true sc elt gens scope pos (zl ns v) H Q' X)
    (hf:sc.kind = .function) (hx:mem ns x = true) (hl:sc.names.lookup x = some .local) (h1:(xp.line == pos.line) = true) (h2:(scope.names.any fun (n, k) => n == x && (k == .local || k == .cell)) = false) : OkS sc ns (.Assign [.Name x xp] (.ListComp elt gens scope pos) p :: r) (sAsg A (g1 (ix ns x)) R) := ⟨fun {G k v H P} hh hv q => by
  obtain ⟨c, S, t, it, f, r', e, h3, h4⟩ := hA (Q' := fun lv H' => ∃ m', Put (zl ns v) x lv m' ∧ EXS G k sc r m' H' (pq ns P)) hh hv q fun lv H' q => ⟨_, put_ix (mem_ok hx) hv, hr.ok hh ((vset_len _ _ _).trans hv) q⟩
  exact EXS_cons (LcI.asg ⟨c, S, t, it, f, r', e, h3, IT_wx h4 hv fun ww ww x => x⟩ hf hl h1 h2)⟩
end
section
variable {sc:Scope} {ns:List Str}
theorem exc_ok {e:Expr} {T:String} (h:((asN e).bind fun x => iff (glb sc x) (excOf x)) = some T) : ∃ p, e = .Name (ofString T) p ∧ sc.names.lookup (ofString T) = some .globalImplicit ∧ (ofString T == ("__debug__" : Str)) = false ∧ (T = "IndexError" ∨ T = "ValueError" ∨ T = "KeyError") := by
  obtain ⟨x, h1, h2⟩ := bnd h;obtain ⟨h3, h4⟩ := ift h2;obtain ⟨p, rfl⟩ := asN_ok h1;have h5 := List.find?_some (p := fun s => x == ofString s) h4;obtain rfl : x = ofString T := eq_of_beq h5;exact ⟨p, rfl, (glb_ok h3).1, (glb_ok h3).2, by simpa using List.mem_of_find?_eq_some (p := fun s => _ == ofString s) h4⟩
theorem rs_ok {x c:Option Expr} {p:Pos} {r:List Stmt} : OkS sc ns (.Raise x c p :: r) (trRs sc x c) := by
  cases x with
  | none => exact sBad_ok
  | some e =>
    cases c with
    | some c => exact sBad_ok
    | none =>
      show OkS sc ns _ (match (asN e).bind fun x => iff (glb sc x) (excOf x) with | some T => sRs T | none => sBad);cases h : (asN e).bind fun x => iff (glb sc x) (excOf x) with
      | none => exact sBad_ok
      | some T =>
        obtain ⟨p, rfl, h1, h2, h3⟩ := exc_ok h;refine ⟨fun hh hv ⟨hr, hg, q⟩ => EXS_cons ?_⟩;rcases h3 with rfl | rfl | rfl
        · exact EX_Raise hr excClass_IndexError (by rfl) h1 hg ⟨_, hv, q⟩ h2
        · exact EX_Raise hr excClass_ValueError (by rfl) h1 hg ⟨_, hv, q⟩ h2
        · exact EX_Raise hr excClass_KeyError (by rfl) h1 hg ⟨_, hv, q⟩ h2
theorem constV_ok {e:Expr} {lv:LV} (h:constV e = some lv) : ∃ b k p, e = .Constant (.bool b) k p ∧ lv = .bool b := by
  obtain ⟨c, h1, h2⟩ := bnd h;obtain ⟨k, p, rfl⟩ := asC_ok h1;cases c with
  | bool b => exact ⟨b, k, p, rfl, (Option.some.inj h2).symm⟩
  | _ => exact no h2
theorem sub_T {T:String} (h:T = "IndexError" ∨ T = "ValueError" ∨ T = "KeyError") : isSubtype (.type T) (.type "BaseException") = pure true ∧ isSubtype (.type ((Manifest.find? T).elim "type" fun x => x.metatype)) (.type "tuple") = pure false ∧ isSubtype (.type T) (.type T) = pure true := by
  rcases h with rfl | rfl | rfl <;> exact ⟨by rfl, by rfl, by rfl⟩
variable {b r:List Stmt} {B R:ST} (hb:OkS sc ns b B) (hr:OkS sc ns r R)
include hb hr
theorem try_ok {T:String} {D:Gl → Nat → PW → (VF → Hp → Prop) → VF → Hp → Prop} {h:Stmt} {hs:List Stmt} {p1 p2 p3:Pos} (h1:sc.names.lookup (ofString T) = some .globalImplicit) (h2:(ofString T == ("__debug__" : Str)) = false) (h3:T = "IndexError" ∨ T = "ValueError" ∨ T = "KeyError")
    (hD:∀ {G:Gl} {k:Nat} {v:VF} {H:Hp} {P:PW} {M:VF → Hp → Prop} {N:Loc → Hp → Prop}, G.hn = true → v.length = ns.length → (∀ v H, v.length = ns.length → M v H → N (zl ns v) H) → D G k P M v H → EXS G.h k sc (h :: hs) (zl ns v) H ⟨N, P.r, WN ns P.b, WN ns P.c, fun ww ww ww => False⟩)
    {G:Gl} {k:Nat} {v:VF} {H:Hp} {P:PW} (hh:G.hn = true) (hv:v.length = ns.length) (q:LTry G T (fun v1 H1 => R G k v1 H1 P) (D G k P) P fun P' => B G k v H P') : EXS G k sc (.Try b [.ExceptHandler (some (.Name (ofString T) p1)) none (h :: hs) p2] [] [] p3 :: r) (zl ns v) H (pq ns P) := by
  obtain ⟨hn, M, hM, q⟩ := q;have q := q ⟨M, P.r, P.b, P.c, fun v c H => c = (T, true) ∧ D G k P M v H⟩ ⟨id, id, id, id, fun q => ⟨rfl, q⟩⟩;obtain ⟨s1, s2, s3⟩ := sub_T h3;have fin : ∀ v H, v.length = ns.length → M v H → EXS G k sc r (zl ns v) H (pq ns P) := fun v H hv q => hr.ok hh hv (hM H v q);refine EXS_cons (EX_Try (T := T) h1 hn h2 s1 s2 (EXS_mono (hb.ok hh hv q) (fun m' H' q => EXS_nil ?_) (fun ww ww x => x) (fun ww ww x => x) (fun ww ww x => x) fun c m' H' q => ?_))
  · cases q with | mk v h q => exact fin v _ h q
  · cases q with
    | mk v h q =>
      obtain ⟨rfl, q⟩ := q;exact ⟨rfl, s3, hD hh h fin q⟩
theorem trTry_ok {hS:List Stmt → ST} (hH:∀ l, OkS sc ns l (hS l)) {hs:List ExceptHandler} {p3:Pos} : OkS sc ns (.Try b hs [] [] p3 :: r) (trTry sc ns hS hs B R) := by
  match hs with
  | [] => exact sBad_ok
  | .ExceptHandler .. :: _ :: _ => exact sBad_ok
  | [.ExceptHandler none _ _ _] => exact sBad_ok
  | [.ExceptHandler (some _) (some _) _ _] => exact sBad_ok
  | [.ExceptHandler (some _) none [] _] => exact sBad_ok
  | [.ExceptHandler (some e) none (h :: h1 :: l) p] =>
    show OkS sc ns _ (match (asN e).bind fun x => iff (glb sc x) (excOf x) with | some T => sTryH T (hS (h :: h1 :: l)) B R | none => sBad);cases ho : (asN e).bind fun x => iff (glb sc x) (excOf x) with
    | none => exact sBad_ok
    | some T =>
      obtain ⟨p1, rfl, h1', h2, h3⟩ := exc_ok ho;exact ⟨fun hh hv q => try_ok hb hr (D := fun G k P M v1 H1 => hS (h :: h1 :: l) G.h k v1 H1 ⟨M, P.r, P.b, P.c, fun ww ww ww => False⟩) h1' h2 h3 (fun {G k v H P M N} hh hv hN q => EXS_mono ((hH _).ok (G := G.h) hh hv q) (fun m' H' q => by cases q with | mk v h q => exact hN v _ h q) (fun ww ww x => x) (fun ww ww x => x) (fun ww ww x => x) fun ww ww ww x => by cases x with | mk v h q => exact q) hh hv q⟩
  | [.ExceptHandler (some e) none [h] p] =>
    show OkS sc ns _ (match (asN e).bind fun x => iff (glb sc x) (excOf x) with | some T => trH ns T h B R | none => sBad);cases ho : (asN e).bind fun x => iff (glb sc x) (excOf x) with
    | none => exact sBad_ok
    | some T =>
      obtain ⟨p1, rfl, h1, h2, h3⟩ := exc_ok ho;cases h with
      | Return o p =>
        cases o with
        | none => exact sBad_ok
        | some e =>
          show OkS sc ns _ (match constV e with | some lv => sTryR T lv B R | none => sBad);cases hc : constV e with
          | none => exact sBad_ok
          | some lv =>
            obtain ⟨b, k, p, rfl, rfl⟩ := constV_ok hc;exact ⟨fun hh hv q => try_ok hb hr (D := fun ww ww P ww ww H1 => P.r (.bool b) H1) h1 h2 h3 (fun ww ww ww q => EXS_cons (EX_Return (EV_bool q))) hh hv q⟩
      | Assign ts e p =>
        match ts with
        | [] => exact sBad_ok
        | _ :: _ :: _ => exact sBad_ok
        | [t] =>
          show OkS sc ns _ (match (asN t).bind fun x => (constV e).bind fun lv => iff (mem ns x) (some (x, lv)) with | some (x, lv) => sTryA T (ix ns x) lv B R | none => sBad);cases hc : (asN t).bind fun x => (constV e).bind fun lv => iff (mem ns x) (some (x, lv)) with
          | none => exact sBad_ok
          | some z =>
            obtain ⟨x, e1, hc⟩ := bnd hc;obtain ⟨lv, e2, hc⟩ := bnd hc;obtain ⟨hm, hc⟩ := ift hc;cases hc;obtain ⟨p5, rfl⟩ := asN_ok e1;obtain ⟨b, k, p6, rfl, rfl⟩ := constV_ok e2;exact ⟨fun hh hv q => try_ok hb hr (D := fun ww ww P M v1 H1 => M (vset v1 (ix ns x) (.bool b)) H1) h1 h2 h3 (fun ww hv hN q => EXS_cons (EX_Assign (EV_bool ⟨_, put_ix (mem_ok hm) hv, EXS_nil (hN _ _ ((vset_len _ _ _).trans hv) q)⟩) fun ww => rfl)) hh hv q⟩
      | _ => exact sBad_ok
end
section
variable {E:Expr → Tr LV} {sc:Scope} {ns:List Str} (hE:∀ e, OkE sc ns e (E e)) (hf:sc.kind = .function)
include hE
theorem trAug_ok {t:Expr} {op:Operator} {e:Expr} {p:Pos} {r:List Stmt} {R:ST} (hr:OkS sc ns r R) : OkS sc ns (.AugAssign t op e p :: r) (trAug E ns t op e R) := by
  cases t with
  | Name x xp => exact ⟨fun hh hv q => have ⟨a, q⟩ := gs_ok q; (aug_ok hE hr (and2 a).1 (Bool.not_eq_true' _ ▸ (and2 a).2)).ok hh hv q⟩
  | Subscript o i tp => exact ⟨fun hh hv q => have ⟨a, q⟩ := gs_ok q; (augS_ok hE hr (nb a)).ok hh hv q⟩
  | _ => exact sBad_ok
omit hE in
theorem trIfS_ok {t:Expr} {T:Tr Bool} (hT:OkT sc ns t T) {b o r:List Stmt} {B O R:ST} (hb:OkS sc ns b B) (ho:OkS sc ns o O) (hr:OkS sc ns r R) {p:Pos} : OkS sc ns (.If t b o p :: r) (trIfS T (jmp b) o.isEmpty r.isEmpty B O R) := by
  have gen : OkS sc ns (.If t b o p :: r) (bif r.isEmpty then sIf T B O else sIfR T B O R) := by
    cases r with
    | nil => exact if_ok hT hb ho
    | cons => exact ifR_ok hT hb ho hr
  unfold trIfS;cases jmp b with
  | false => exact gen
  | true =>
    cases o with
    | nil => exact ifJ_ok hT hb hr
    | cons => exact gen
theorem forE_ok {ts:List Expr} {kk:Nat} {tp np cp p:Pos} {a:Expr} {b r:List Stmt} {B R:ST} (hb:OkS sc ns b B) (hr:OkS sc ns r R) (h1:sc.names.lookup (ofString "enumerate") = some .globalImplicit) (h2:(ofString "enumerate" == ("__debug__" : Str)) = false) (h3:∀ env, starEach [a] env = [(false, eval a env)]) :
    OkS sc ns (.For (.Tuple ts kk tp) (.Call (.Name (ofString "enumerate") np) [a] [] cp) b [] p :: r) (sForE (trG ns (mem ns) (.Tuple ts kk tp)) (E a) B R) := ⟨fun {G k v H P} hh hv ⟨r1, hg, q⟩ => by
  refine EXS_cons (EX_ForE r1 h1 hg h2 h3 (((hE a).ok hh hv q).wx hv fun lv H1 ⟨l, vs, I, e, i0, hk, ht, hd⟩ => ⟨l, vs, fun i => fun m H => i ≤ vs.length ∧ WN ns (I i) m H, e, ⟨Nat.zero_le _, v, hv, i0⟩, fun i m H2 ⟨le, w⟩ => ?_⟩));cases w with
  | mk v1 hv1 j =>
    obtain ⟨_, k2⟩ := hk i v1 H2 j;refine ⟨k2, fun z => hr.ok hh hv1 (hd v1 H2 (Nat.le_antisymm le (List.getElem?_eq_none_iff.mp z) ▸ j)), fun lv1 z => ?_⟩;have lt := (List.getElem?_eq_some_iff.mp z).1
    refine trG_ok hh okv hv1 (ht ⟨I (i + 1), P.r, fun v H => R G k v H P, I (i + 1), P.x⟩ i lv1 H2 ⟨id, id, id, id, id⟩ z v1 j) fun w hw q => EXS_mono (hb.ok hh hw q) (fun ww ww q => ⟨lt, q⟩) (fun ww ww x => x) (fun ww ww q => by cases q with | mk v h q => exact hr.ok hh h q) (fun ww ww q => ⟨lt, q⟩) fun ww ww ww x => x⟩
theorem trFor_ok {t it:Expr} {p:Pos} {b r:List Stmt} {B R:ST} (hb:OkS sc ns b B) (hr:OkS sc ns r R) : OkS sc ns (.For t it b [] p :: r) (trFor E sc ns t it B R) := ⟨fun hh hv q => by
  obtain ⟨a, q⟩ := gs_ok q;cases ho : asEn sc it with
  | none =>
    rw [ho] at q;cases hi : isPts it with
    | true => rw [hi] at q; exact (frz_ok hb hr hE (nb a)).ok hh hv q
    | false => rw [hi] at q; exact (for_ok hb hr hE (nb a)).ok hh hv q
  | some ae =>
    rw [ho] at q;obtain ⟨⟨x, a'⟩, h1, h⟩ := bnd ho;obtain ⟨z, h⟩ := ift h;cases h;obtain ⟨z1, b4⟩ := and2 z;obtain ⟨b3, b2⟩ := and2 z1;obtain ⟨_, q', rfl⟩ := asR_ok h1;cases eq_of_beq b3;cases t with
    | Tuple ts kk tp => exact (forE_ok hE hb hr (glb_ok b2).1 (glb_ok b2).2 fun env => kd_star (nb (and2 (and2 b4).1).1) [] env).ok hh hv q
    | _ => exact q.elim⟩
include hf
theorem trAt_ok {t e:Expr} {p:Pos} {r:List Stmt} {R:ST} (hr:OkS sc ns r R) (hC:∀ {elt gens scope pos} {G:Gl} {k:Nat} {v:VF} {H:Hp} {Q Q':Qv} {X:Xc}, G.hn = true → v.length = ns.length → E (.ListComp elt gens scope pos) G k v H Q X → (∀ lv H', Q lv H' → Q' lv H') → LcI G k true sc elt gens scope pos (zl ns v) H Q' X) :
    OkS sc ns (.Assign [t] e p :: r) (trAt E sc ns t e p R) := by
  cases t with
  | Name x xp =>
    have gen : OkS sc ns (.Assign [.Name x xp] e p :: r) (gs (mem ns x && !Nat.beq (kd e) 4) (sAsg (E e) (g1 (ix ns x)) R)) := ⟨fun hh hv q => have ⟨a, q⟩ := gs_ok q; (asg_ok hE hr (and2 a).1 (nb (and2 a).2)).ok hh hv q⟩;cases e with
    | ListComp elt gens scope pos => exact ⟨fun hh hv q => by
        obtain ⟨a, q⟩ := gs_ok q;obtain ⟨a1, a⟩ := and2 a;rcases Bool.or_eq_true _ _ ▸ a with a | a
        · exact EXS_cons (EX_AssignCell (((hE _).ok hh hv q).wx hv fun lv H' q => ⟨_, put_ix (mem_ok a1) hv, hr.ok hh ((vset_len _ _ _).trans hv) q⟩) (eq_of_beq a))
        · obtain ⟨a, a4⟩ := and2 a;obtain ⟨a2, a3⟩ := and2 a
          exact (asgL_ok hr hC hf a1 (eq_of_beq a2) a3 (Bool.not_eq_true' _ ▸ a4)).ok hh hv q⟩
    | _ => exact gen
  | Tuple ts kk tp => exact ⟨fun hh hv q => by
      obtain ⟨a, q⟩ := gs_ok q;cases hs : isSl e with
      | true => rw [hs] at q; exact (asgT2_ok hE hr (nb (and2 a).1) (nb (and2 a).2)).ok hh hv q
      | false => rw [hs] at q; exact (asgT_ok hE hr (nb (and2 a).1) (nb (and2 a).2)).ok hh hv q⟩
  | Subscript o i tp => exact asgS_ok hE hr
  | Attribute o x tp => exact asgA_ok hE hr
  | _ => exact sBad_ok
theorem trS_ok (hC:∀ {elt gens scope pos} {G:Gl} {k:Nat} {v:VF} {H:Hp} {Q Q':Qv} {X:Xc}, G.hn = true → v.length = ns.length → E (.ListComp elt gens scope pos) G k v H Q X → (∀ lv H', Q lv H' → Q' lv H') → LcI G k true sc elt gens scope pos (zl ns v) H Q' X) (n:Nat) : ∀ (ss:List Stmt), OkS sc ns ss (trS E sc ns n ss) := by
  induction n with
  | zero => exact fun ww => sBad_ok
  | succ n ih =>
    intro ss;cases ss with
    | nil => exact ⟨fun ww hv q => EXS_nil ⟨_, hv, q⟩⟩
    | cons s r =>
      have R := ih r;cases s with
      | Assign ts e p =>
        match ts with
        | [] => exact sBad_ok
        | _ :: _ :: _ => exact sBad_ok
        | [t] => exact trAt_ok hE hf R hC
      | AugAssign t op e p => exact trAug_ok hE R
      | Expr e p => exact ⟨fun hh hv q => have ⟨a, q⟩ := gs_ok q; (ex_ok hE R hf (nb a)).ok hh hv q⟩
      | If t b o p => exact trIfS_ok (trT_ok hE 30 t) (ih b) (ih o) R
      | Return x p =>
        cases x with
        | none => exact sBad_ok
        | some e => exact ret_ok hE
      | While t b o p =>
        cases o with
        | nil => exact whl_ok (ih b) R (trT_ok hE 30 t)
        | cons => exact sBad_ok
      | For t it b o p =>
        cases o with
        | nil => exact trFor_ok hE (ih b) R
        | cons => exact sBad_ok
      | Break p => exact ⟨fun hh hv q => EXS_cons (EX_Break ⟨_, hv, q⟩)⟩
      | Continue p => exact ⟨fun hh hv q => EXS_cons (EX_Continue ⟨_, hv, q⟩)⟩
      | Raise x c p => exact rs_ok
      | Try b hs o f p =>
        cases o with
        | cons => exact sBad_ok
        | nil =>
          cases f with
          | cons => exact sBad_ok
          | nil => exact trTry_ok (ih b) R ih
      | _ => exact sBad_ok
end
noncomputable abbrev trB (st:Stmt) (ns:List Str) : ST := trS (trE 30 (fscope st) ns) (fscope st) ns 200 (fbody st)
structure Fp (P:PW) (Q:Qv) (X:Xc) : Prop where
  n : ∀ {v H}, Q .none H → P.n v H
  r : ∀ {lv H}, Q lv H → P.r lv H
  x : ∀ {v c H}, X c H → P.x v c H
theorem CODE_q {G:Gl} {k:Nat} {f:Addr} {st:Stmt} {ns:List Str} {as:List LV} {H:Hp} {Q:Qv} {X:Xc} {t:ST} (F:IsFn G f st) (hh:G.hn = true) (N:Nat) (hN:as.length = N) (hok:FnOk st N = true) (v:VF) (e:trB st ns = t) (hf:(fscope st).kind = .function) (hz:frame0 (fscope st).names as = zl ns v) (hv:v.length = ns.length)
    (h:∀ P, Fp P Q X → t G k v H P) : CODE G (k + 1) (.ref f) as H Q X := by
  subst e;refine CODE_fn F N hN hok (hz ▸ EXS_mono ((trS_ok (trE_ok 30 _ ns) hf (fun hh hv q hQ => trC_ok (trE_ok 29) hh hv q hQ) 200 _).ok hh hv (h ⟨fun ww H => Q .none H, Q, fun ww ww => False, fun ww ww => False, fun ww => X⟩ ⟨id, id, id⟩)) (fun ww ww q => by cases q with | mk v h q => exact q) (fun ww ww x => x) (fun ww ww q => by cases q with | mk v h q => exact q) (fun ww ww q => by cases q with | mk v h q => exact q) fun ww ww ww q => by cases q with | mk v h q => exact q)
end
section
theorem bm_sadd : BMeth "set" "add" "set.add" := ⟨PySem.F.plainAttrs_set, PySem.F.slot_set_add, PySem.F.type_set_add⟩
theorem bm_spop : BMeth "set" "pop" "set.pop" := ⟨PySem.F.plainAttrs_set, PySem.F.slot_set_pop, PySem.F.type_set_pop⟩
theorem bm_supd : BMeth "set" "update" "set.update" := ⟨PySem.F.plainAttrs_set, PySem.F.slot_set_update, PySem.F.type_set_update⟩
theorem bm_lapp : BMeth "list" "append" "list.append" := ⟨PySem.F.plainAttrs_list, PySem.F.slot_list_append, PySem.F.type_list_append⟩
theorem bm_dpop : BMeth "dict" "pop" "dict.pop" := ⟨PySem.F.plainAttrs_dict, PySem.F.slot_dict_pop, PySem.F.type_dict_pop⟩
theorem bm_dget : BMeth "dict" "get" "dict.get" := ⟨PySem.F.plainAttrs_dict, PySem.F.slot_dict_get, PySem.F.type_dict_get⟩
section
variable {G:Gl} (B:BW G) {H:Hp} {K:LV → Prop} {x d:Addr}
theorem at_gcol {c:Str} {a:Addr} {b:Bool} (h:H d = some (.ns (gns c a b))) (q:K (.str c)) : LAt G (ofString "colour") H (.inst B.gc x d) K := ⟨_, _, _, _, _, rfl, h, B.og, B.g_col, gns_col, q⟩
theorem at_gpts {c:Str} {a:Addr} {b:Bool} (h:H d = some (.ns (gns c a b))) (q:K (.ref a)) : LAt G (ofString "points") H (.inst B.gc x d) K := ⟨_, _, _, _, _, rfl, h, B.og, B.g_pts, gns_pts, q⟩
theorem at_gsur {c:Str} {a:Addr} {b:Bool} (h:H d = some (.ns (gns c a b))) (q:K (.bool b)) : LAt G (ofString "is_surrounded") H (.inst B.gc x d) K := ⟨_, _, _, _, _, rfl, h, B.og, B.g_sur, gns_sur, q⟩
theorem lm {name:Str} {f:Addr} {st:Stmt} {n:Nat} {pl bl:Addr} {em:Bool} {K:Addr → Prop} (M:Meth G B.bc name f st) (hbn:(name == ofString "side") = false ∧ (name == ofString "board_points") = false ∧ (name == ofString "board") = false ∧ (name == ofString "_is_empty") = false)
    (h:H d = some (.ns (bns n pl bl em))) (q:K f) : LOm G name H (.inst B.bc x d) K := ⟨_, _, _, _, _, rfl, h, B.ob, M.1, M.2.1, M.2.2.1, by simp [bns, List.lookup_cons, hbn], q⟩
end
noncomputable def asgE : Stmt → Expr
  | .Assign _ e _ => e
  | _ => .Constant .none 0 ⟨0, 0, 0, 0⟩
noncomputable def lcE : Expr → Expr
  | .ListComp e _ _ _ => e
  | e => e
noncomputable def lcG : Expr → List Comprehension
  | .ListComp _ g _ _ => g
  | _ => []
noncomputable def lcS : Expr → Scope
  | .ListComp _ _ s _ => s
  | _ => ⟨.function, [], false, false, []⟩
noncomputable def lcP : Expr → Pos
  | .ListComp _ _ _ p => p
  | _ => ⟨0, 0, 0, 0⟩
theorem hit {H:Hp} {a:Addr} {o:LO} : Go.hset H a o a = some o := hset_same _ _ _
theorem miss {H:Hp} {a b:Addr} {o:LO} {x:Option LO} (n:a ≠ b) (h:H a = x) : Go.hset H b o a = x := (hset_ne _ _ n).trans h
theorem on_of {n:Nat} {p:Pt} (h:(true != decide (On n p)) = false) : On n p := by
  cases hd : decide (On n p) with
  | true => exact of_decide_eq_true hd
  | false => rw [hd] at h; cases h
theorem mem_of_nd {α:Prop} [Decidable α] (h:(!decide α) = false) : α := by
  by_cases e : α
  · exact e
  · rw [decide_eq_false e] at h; cases h
theorem not_of_nd {α:Prop} [Decidable α] (h:(!decide α) = true) : ¬ α := fun e => by rw [decide_eq_true e] at h; cases h
theorem vget_ne : ∀ {v:VF} {i j:Nat} {x:LV}, i ≠ j → vget (vset v j x) i = vget v i
  | [], _, _, _, _ => rfl
  | _ :: _, 0, 0, _, h => absurd rfl h
  | _ :: _, 0, _ + 1, _, _ => rfl
  | _ :: _, _ + 1, 0, _, _ => rfl
  | _ :: v, i + 1, j + 1, _, h => vget_ne (v := v) fun e => h (congrArg _ e)
theorem vget_eq : ∀ {v:VF} {j:Nat} {x:LV}, j < v.length → vget (vset v j x) j = some x
  | _ :: _, 0, _, _ => rfl
  | _ :: v, j + 1, _, h => vget_eq (v := v) (Nat.lt_of_succ_lt_succ h)
structure Ag (js:List Nat) (v v':VF) : Prop where
  l : v'.length = v.length
  g : ∀ {i o}, js.contains i = false → vget v i = o → vget v' i = o
theorem Ag.refl {js:List Nat} {v:VF} : Ag js v v := ⟨rfl, fun ww e => e⟩
theorem Ag.set {js:List Nat} {v v':VF} {j:Nat} (x:LV) (h:Ag js v v') (hj:js.contains j = true) : Ag js v (vset v' j x) :=
  ⟨(vset_len _ _ _).trans h.l, fun hi e => (vget_ne fun q => by rw [q, hj] at hi; cases hi).trans (h.g hi e)⟩
noncomputable abbrev tOn (a i j:Nat) : Tr Bool := tAnd (tCmp2 .LtE .Lt (tC (.int 0)) (tVar i) (tAttr (tVar a) (ofString "side"))) (tAnd (tCmp2 .LtE .Lt (tC (.int 0)) (tVar j) (tAttr (tVar a) (ofString "side"))) (tLit true))
noncomputable abbrev tOff (a i j:Nat) : Tr Bool := tOr (tCmpT .Lt (tVar i) (tC (.int 0))) (tOr (tCmpT .Lt (tVar j) (tC (.int 0))) (tOr (tCmpT .GtE (tVar i) (tAttr (tVar a) (ofString "side"))) (tOr (tCmpT .GtE (tVar j) (tAttr (tVar a) (ofString "side"))) (tLit false))))
section
variable {G:Gl} {k:Nat} {v:VF} {H:Hp} {a i j:Nat}
theorem on_le {Q:Bool → Hp → Prop} {X:Xc} (q:tOnb a i j G k v H Q X) : tOn a i j G k v H Q X := by
  obtain ⟨B, b, n, g, em, r, c, e1, e2, e3, hB, q⟩ := q;have key : decide (On n (r, c)) = (decide (0 ≤ r) && (decide (r < n) && (decide (0 ≤ c) && decide (c < n)))) := by
    rw [Bool.eq_iff_iff, decide_eq_true_eq]; simp only [On, Bool.and_eq_true, decide_eq_true_eq]
  rw [(by decide:∀ b : Bool, (false != b) = b), key] at q;refine vgv e2 ⟨_, rfl, fun h1 => vgv e1 (at_side B hB ⟨_, rfl, fun h2 => vgv e3 ⟨_, rfl, fun h3 => vgv e1 (at_side B hB ⟨_, rfl, fun h4 => ?_, fun h4 => ?_⟩), fun h3 => ⟨(fun z => nomatch z), fun ww => ?_⟩⟩, fun h2 => ?_⟩), fun h1 => ⟨(fun z => nomatch z), fun ww => ?_⟩⟩
  · rw [h1, h2, h3, h4] at q; exact q
  · rw [h1, h2, h3, h4] at q; exact q
  · rw [h1, h2, h3] at q; exact q
  · rw [h1, h2] at q; exact q
  · rw [h1] at q; exact q
theorem off_le {Q:Bool → Hp → Prop} {X:Xc} (q:tOffb a i j G k v H Q X) : tOff a i j G k v H Q X := by
  obtain ⟨B, b, n, g, em, r, c, e1, e2, e3, hB, q⟩ := q;have key : decide (On n (r, c)) = !(decide (r < 0) || (decide (c < 0) || (decide (r ≥ n) || decide (c ≥ n)))) := by
    rw [Bool.eq_iff_iff, decide_eq_true_eq]; simp only [On, Bool.not_eq_true', Bool.or_eq_false_iff, decide_eq_false_iff_not, ge_iff_le, Int.not_lt, Int.not_le]; exact ⟨fun ⟨a, b, c, d⟩ => ⟨a, c, b, d⟩, fun ⟨a, c, b, d⟩ => ⟨a, b, c, d⟩⟩
  rw [key, (by decide:∀ b : Bool, (true != !b) = b)] at q;refine vgv e2 ⟨_, rfl, fun h1 => ?_, fun h1 => vgv e3 ⟨_, rfl, fun h2 => ?_, fun h2 => vgv e2 (vgv e1 (at_side B hB ⟨_, rfl, fun h3 => ?_, fun h3 => vgv e3 (vgv e1 (at_side B hB ⟨_, rfl, fun h4 => ?_, fun h4 => ?_⟩))⟩))⟩⟩
  · rw [h1] at q; exact q
  · rw [h1, h2] at q; exact q
  · rw [h1, h2, h3] at q; exact q
  · rw [h1, h2, h3, h4] at q; exact q
  · rw [h1, h2, h3, h4] at q; exact q
variable {b r:ST} {P:PW}
theorem ifJ_non (q:LOnb G v H a i j (fun c => (c = true → b G k v H P.nf) ∧ (c = false → r G k v H P)) true) : sIfJ (tNotT (tOn a i j)) b r G k v H P :=
  (on_le (let ⟨B, b, n, g, em, r, c, e1, e2, e3, hB, q⟩ := q; ⟨B, b, n, g, em, r, c, e1, e2, e3, hB, by rw [(by decide:∀ b : Bool, (false != b) = b)]; rw [(by decide:∀ b : Bool, (true != b) = !b)] at q; exact q⟩) : tOn a i j G k v H (fun c H1 => ((!c) = true → b G k v H1 P.nf) ∧ ((!c) = false → r G k v H1 P)) (P.x v))
theorem ifJ_off (q:LOnb G v H a i j (fun c => (c = true → b G k v H P.nf) ∧ (c = false → r G k v H P)) true) : sIfJ (tOff a i j) b r G k v H P :=
  (off_le q:tOff a i j G k v H (fun c H1 => (c = true → b G k v H1 P.nf) ∧ (c = false → r G k v H1 P)) (P.x v))
end
end
section
noncomputable abbrev nsin : List Str := ["self", "side", "row"]
noncomputable abbrev il_in : ST := (sAtt (tVar 0) (ofString "side") (tVar 1)
  (sIfJ (tCmpT .Lt (tVar 1) (tC (.int (2)))) (sRs "ValueError")
  (sAtt (tVar 0) (ofString "board_points") (tLcL (fscope inS) nsin (lcE (asgE (nthS (fbody inS) 2))) (lcG (asgE (nthS (fbody inS) 2))) (lcS (asgE (nthS (fbody inS) 2))) (lcP (asgE (nthS (fbody inS) 2))))
  (sAtt (tVar 0) (ofString "board") (tLst tNil)
  (sFor (g1 2) (tItN (tVar 1))
  (sEx (tBm (tAttr (tVar 0) (ofString "board")) (ofString "append") (tCons (tBin .Mult (tLst (tCons (tC .none) tNil)) (tVar 1)) tNil))
  sNil)
  (sAtt (tVar 0) (ofString "_is_empty") (tC (.bool true))
  sNil))))))
theorem is_in : trB inS nsin = il_in := by kernel_rfl
noncomputable abbrev nscp : List Str := ["self", "b"]
noncomputable abbrev il_cp : ST := (sAsg (tCall (ofString "Board") (tCons (tAttr (tVar 0) (ofString "side")) tNil)) (g1 1)
  (sAtt (tVar 1) (ofString "board") (tLc [none, none, some 0] (tItN (tAttr (tVar 0) (ofString "side"))) (g1 1) (tLit true) (tSlc (tSub (tAttr (tVar 2) (ofString "board")) (tVar 1)) tP0 tP0 tP0))
  (sAtt (tVar 1) (ofString "_is_empty") (tAttr (tVar 0) (ofString "_is_empty"))
  (sRet (tVar 1)))))
theorem is_cp : trB cpS nscp = il_cp := by kernel_rfl
noncomputable abbrev nsmg : List Str := ["self", "row", "col", "colour", "points", "is_surrounded", "to_handle", "point", "r", "c", "neighbour", "r1", "c1", "neigh_colour", "group"]
noncomputable abbrev il_mg : ST := (sAsg (tCall (ofString "set") tNil) (g1 4)
  (sAsg (tC (.bool true)) (g1 5)
  (sAsg (tCall (ofString "set") tNil) (g1 6)
  (sEx (tBm (tVar 6) (ofString "add") (tCons (tTup (tCons (tVar 1) (tCons (tVar 2) tNil))) tNil))
  (sWhl (tTv (tVar 6))
  (sAsg (tBm (tVar 6) (ofString "pop") tNil) (g1 7)
  (sEx (tBm (tVar 4) (ofString "add") (tCons (tVar 7) tNil))
  (sAsg (tVar 7) (g2 8 9)
  (sFor (g1 10) (tItV (tLst (tCons (tTup (tCons (tBin .Sub (tVar 8) (tC (.int (1)))) (tCons (tVar 9) tNil))) (tCons (tTup (tCons (tBin .Add (tVar 8) (tC (.int (1)))) (tCons (tVar 9) tNil))) (tCons (tTup (tCons (tVar 8) (tCons (tBin .Sub (tVar 9) (tC (.int (1)))) tNil))) (tCons (tTup (tCons (tVar 8) (tCons (tBin .Add (tVar 9) (tC (.int (1)))) tNil))) tNil))))))
  (sAsg (tVar 10) (g2 11 12)
  (sIfJ (tNotT (tAnd (tCmp2 .LtE .Lt (tC (.int (0))) (tVar 11) (tAttr (tVar 0) (ofString "side"))) (tAnd (tCmp2 .LtE .Lt (tC (.int (0))) (tVar 12) (tAttr (tVar 0) (ofString "side"))) (tLit true)))) sCnt
  (sAsg (tCell 0 11 12) (g1 13)
  (sIf (tCmpT .Is (tVar 13) (tC .none)) (sAsg (tC (.bool false)) (g1 5)
  sNil)
  (sIf (tCmpT .Eq (tVar 13) (tVar 3)) (sIf (tCmpT .NotIn (tVar 10) (tVar 4)) (sEx (tBm (tVar 6) (ofString "add") (tCons (tVar 10) tNil))
  sNil)
  sNil)
  sNil)))))
  sNil))))
  (sAsg (tCall (ofString "_Group") tNil) (g1 14)
  (sAtt (tVar 14) (ofString "colour") (tVar 3)
  (sAtt (tVar 14) (ofString "points") (tVar 4)
  (sAtt (tVar 14) (ofString "is_surrounded") (tVar 5)
  (sRet (tVar 14)))))))))))
theorem is_mg : trB mgS nsmg = il_mg := by kernel_rfl
noncomputable abbrev nsfs : List Str := ["self", "r", "c", "surrounded", "handled", "row", "col", "colour", "point", "group"]
noncomputable abbrev il_fs : ST := (sAsg (tLst tNil) (g1 3)
  (sAsg (tCall (ofString "set") tNil) (g1 4)
  (sFor (g2 5 6) (tItV (tLst (tCons (tTup (tCons (tVar 1) (tCons (tVar 2) tNil))) (tCons (tTup (tCons (tBin .Sub (tVar 1) (tC (.int (1)))) (tCons (tVar 2) tNil))) (tCons (tTup (tCons (tBin .Add (tVar 1) (tC (.int (1)))) (tCons (tVar 2) tNil))) (tCons (tTup (tCons (tVar 1) (tCons (tBin .Sub (tVar 2) (tC (.int (1)))) tNil))) (tCons (tTup (tCons (tVar 1) (tCons (tBin .Add (tVar 2) (tC (.int (1)))) tNil))) tNil)))))))
  (sIfJ (tNotT (tAnd (tCmp2 .LtE .Lt (tC (.int (0))) (tVar 5) (tAttr (tVar 0) (ofString "side"))) (tAnd (tCmp2 .LtE .Lt (tC (.int (0))) (tVar 6) (tAttr (tVar 0) (ofString "side"))) (tLit true)))) sCnt
  (sAsg (tCell 0 5 6) (g1 7)
  (sIfJ (tCmpT .Is (tVar 7) (tC .none)) sCnt
  (sAsg (tTup (tCons (tVar 5) (tCons (tVar 6) tNil))) (g1 8)
  (sIfJ (tCmpT .In (tVar 8) (tVar 4)) sCnt
  (sAsg (tOm (tVar 0) (ofString "_make_group") (tCons (tVar 5) (tCons (tVar 6) (tCons (tVar 7) tNil)))) (g1 9)
  (sIfR (tTv (tAttr (tVar 9) (ofString "is_surrounded"))) (sEx (tBm (tVar 3) (ofString "append") (tCons (tVar 9) tNil))
  sNil) sNil
  (sEx (tBm (tVar 4) (ofString "update") (tCons (tAttr (tVar 9) (ofString "points")) tNil))
  sNil))))))))
  (sRet (tVar 3)))))
theorem is_fs : trB fsS nsfs = il_fs := by kernel_rfl
noncomputable abbrev nsfa : List Str := ["self", "surrounded", "handled", "row", "col", "colour", "point", "group"]
noncomputable abbrev il_fa : ST := (sAsg (tLst tNil) (g1 1)
  (sAsg (tCall (ofString "set") tNil) (g1 2)
  (sFor (g2 3 4) (tItV (tAttr (tVar 0) (ofString "board_points")))
  (sAsg (tCell 0 3 4) (g1 5)
  (sIfJ (tCmpT .Is (tVar 5) (tC .none)) sCnt
  (sAsg (tTup (tCons (tVar 3) (tCons (tVar 4) tNil))) (g1 6)
  (sIfJ (tCmpT .In (tVar 6) (tVar 2)) sCnt
  (sAsg (tOm (tVar 0) (ofString "_make_group") (tCons (tVar 3) (tCons (tVar 4) (tCons (tVar 5) tNil)))) (g1 7)
  (sIfR (tTv (tAttr (tVar 7) (ofString "is_surrounded"))) (sEx (tBm (tVar 1) (ofString "append") (tCons (tVar 7) tNil))
  sNil) sNil
  (sEx (tBm (tVar 2) (ofString "update") (tCons (tAttr (tVar 7) (ofString "points")) tNil))
  sNil)))))))
  (sRet (tVar 1)))))
theorem is_fa : trB faS nsfa = il_fa := by kernel_rfl
noncomputable abbrev nsie : List Str := ["self"]
noncomputable abbrev il_ie : ST := (sRet (tAttr (tVar 0) (ofString "_is_empty")))
theorem is_ie : trB ieS nsie = il_ie := by kernel_rfl
noncomputable abbrev nsge : List Str := ["self", "row", "col"]
noncomputable abbrev il_ge : ST := (sIfJ (tOr (tCmpT .Lt (tVar 1) (tC (.int (0)))) (tOr (tCmpT .Lt (tVar 2) (tC (.int (0)))) (tLit false))) (sRs "IndexError")
  (sRet (tCell 0 1 2)))
theorem is_ge : trB geS nsge = il_ge := by kernel_rfl
noncomputable abbrev nspl : List Str := ["self", "row", "col", "colour", "opponent", "surrounded", "simple_ko_point", "to_capture", "group", "self_capture", "r", "c"]
noncomputable abbrev il_pl : ST := (sIfJ (tOr (tCmpT .Lt (tVar 1) (tC (.int (0)))) (tOr (tCmpT .Lt (tVar 2) (tC (.int (0)))) (tLit false))) (sRs "IndexError")
  (sAsg (tCall (ofString "opponent_of") (tCons (tVar 3) tNil)) (g1 4)
  (sIfJ (tCmpT .IsNot (tCell 0 1 2) (tC .none)) (sRs "ValueError")
  (sSet (tSub (tAttr (tVar 0) (ofString "board")) (tVar 1)) (tVar 2) (tVar 3)
  (sAtt (tVar 0) (ofString "_is_empty") (tC (.bool false))
  (sAsg (tOm (tVar 0) (ofString "_find_surrounded_groups") (tCons (tVar 1) (tCons (tVar 2) tNil))) (g1 5)
  (sAsg (tC .none) (g1 6)
  (sIfR (tTv (tVar 5)) (sIfR (tCmpT .Eq (tCall (ofString "len") (tCons (tVar 5) tNil)) (tC (.int (1)))) (sAsg (tVar 5) (g1 7)
  (sIf (tCmpT .Eq (tCall (ofString "len") (tCons (tAttr (tSub (tVar 7) (tC (.int (0)))) (ofString "points")) tNil)) (tBin .Mult (tAttr (tVar 0) (ofString "side")) (tAttr (tVar 0) (ofString "side")))) (sAtt (tVar 0) (ofString "_is_empty") (tC (.bool true))
  sNil)
  sNil)) (sAsg (tLc [none, none, some 4] (tItV (tVar 5)) (g1 1) (tCmpT .Eq (tAttr (tVar 1) (ofString "colour")) (tVar 2)) (tVar 1)) (g1 7)
  (sIf (tAnd (tCmpT .Eq (tCall (ofString "len") (tCons (tVar 7) tNil)) (tC (.int (1)))) (tAnd (tCmpT .Eq (tCall (ofString "len") (tCons (tAttr (tSub (tVar 7) (tC (.int (0)))) (ofString "points")) tNil)) (tC (.int (1)))) (tLit true))) (sAsg (tLc [none, none, some 3] (tItV (tVar 5)) (g1 1) (tCmpT .Eq (tAttr (tVar 1) (ofString "colour")) (tVar 2)) (tVar 1)) (g1 9)
  (sIf (tCmpT .Eq (tCall (ofString "len") (tCons (tAttr (tSub (tVar 9) (tC (.int (0)))) (ofString "points")) tNil)) (tC (.int (1)))) (sAsg (tAttr (tSub (tVar 7) (tC (.int (0)))) (ofString "points")) (gS 6)
  sNil)
  sNil))
  sNil))
  (sFor (g1 8) (tItV (tVar 7))
  (sFrz (g2 10 11) (tItV (tAttr (tVar 8) (ofString "points")))
  (sSet (tSub (tAttr (tVar 0) (ofString "board")) (tVar 10)) (tVar 11) (tC .none)
  sNil)
  sNil)
  sNil)) sNil
  (sRet (tVar 6))))))))))
theorem is_pl : trB plS nspl = il_pl := by kernel_rfl
noncomputable abbrev nsas : List Str := ["self", "black_points", "white_points", "empty_points", "row", "col", "captured", "group"]
noncomputable abbrev il_as : ST := (sFor (g2 4 5) (tItV (tBin .Add (tBin .Add (tCall (ofString "list") (tCons (tVar 1) tNil)) (tCall (ofString "list") (tCons (tVar 2) tNil))) (tCall (ofString "list") (tCons (tVar 3) tNil))))
  (sIfJ (tOr (tCmpT .Lt (tVar 4) (tC (.int (0)))) (tOr (tCmpT .Lt (tVar 5) (tC (.int (0)))) (tOr (tCmpT .GtE (tVar 4) (tAttr (tVar 0) (ofString "side"))) (tOr (tCmpT .GtE (tVar 5) (tAttr (tVar 0) (ofString "side"))) (tLit false))))) (sRs "IndexError")
  sNil)
  (sFor (g2 4 5) (tItV (tVar 1))
  (sSet (tSub (tAttr (tVar 0) (ofString "board")) (tVar 4)) (tVar 5) (tC (.str (ofString "b")))
  sNil)
  (sFor (g2 4 5) (tItV (tVar 2))
  (sSet (tSub (tAttr (tVar 0) (ofString "board")) (tVar 4)) (tVar 5) (tC (.str (ofString "w")))
  sNil)
  (sFor (g2 4 5) (tItV (tVar 3))
  (sSet (tSub (tAttr (tVar 0) (ofString "board")) (tVar 4)) (tVar 5) (tC .none)
  sNil)
  (sAsg (tOm (tVar 0) (ofString "_find_all_surrounded_groups") tNil) (g1 6)
  (sFor (g1 7) (tItV (tVar 6))
  (sFrz (g2 4 5) (tItV (tAttr (tVar 7) (ofString "points")))
  (sSet (tSub (tAttr (tVar 0) (ofString "board")) (tVar 4)) (tVar 5) (tC .none)
  sNil)
  sNil)
  (sAtt (tVar 0) (ofString "_is_empty") (tC (.bool true))
  (sFor (g2 4 5) (tItV (tAttr (tVar 0) (ofString "board_points")))
  (sIfJ (tCmpT .IsNot (tCell 0 4 5) (tC .none)) (sAtt (tVar 0) (ofString "_is_empty") (tC (.bool false))
  sBrk)
  sNil)
  (sRet (tNot (tVar 6)))))))))))
theorem is_as : trB asS nsas = il_as := by kernel_rfl
noncomputable abbrev nslo : List Str := ["self", "result", "row", "col", "colour"]
noncomputable abbrev il_lo : ST := (sAsg (tLst tNil) (g1 1)
  (sFor (g2 2 3) (tItV (tAttr (tVar 0) (ofString "board_points")))
  (sAsg (tCell 0 2 3) (g1 4)
  (sIf (tCmpT .IsNot (tVar 4) (tC .none)) (sEx (tBm (tVar 1) (ofString "append") (tCons (tTup (tCons (tVar 4) (tCons (tTup (tCons (tVar 2) (tCons (tVar 3) tNil))) tNil))) tNil))
  sNil)
  sNil))
  (sRet (tVar 1))))
theorem is_lo : trB loS nslo = il_lo := by kernel_rfl
end
section
theorem CALL_mg {G:Gl} (B:BW G) {k:Nat} {H:Hp} {Q:Qv} {X:Xc} {b:Bd} {n:Nat} {g:Grd} {em:Bool} {row col:Int} {colour:Str} (hB:BAt H b n g em) (hon:On n (row, col)) (hc:g (row, col) = some colour) (few:Few n g)
    (h:∀ x d a P sur H', Ext H H' → H a = none → H d = none → H' d = some (.ns (gns colour a sur)) → H' a = some (.pset P) → P.Nodup → (∀ q, q ∈ P ↔ Conn n g (row, col) q) → (sur = true ↔ ¬ Alive n g (row, col)) → Q (.inst B.gc x d) H') :
    CALL G (k + 3) (.ref B.fmg) [.inst B.bc b.x b.d, .int row, .int col, .str colour] H Q X := by
  have hg0 : g (row, col) ≠ none := fun e => nomatch hc.symm.trans e;let v0 : VF := [some (.inst B.bc b.x b.d), some (.int row), some (.int col), some (.str colour), none, none, none, none, none, none, none, none, none, none, none];refine CALL_of (CODE_q B.m_mg.2.2.2 B.hh 4 rfl (by decide +kernel) v0 is_mg rfl rfl rfl fun PP hPP => ?_);refine ⟨_, B.n_set, .inr (.inl ⟨_, rfl⟩), CALL_set fun a1 f1 => ⟨_, B.n_set, .inr (.inl ⟨_, rfl⟩), CALL_set fun a2 f2 => ?_⟩⟩;have n12 : a1 ≠ a2 := ne_of f2 hit;have E1 : Ext H (Go.hset H a1 (.pset [])) := (Ext.refl H).set f1;have g2 : H a2 = none := E1.none f2;refine ⟨_, _, bm_sadd, OfT_pset hit, CALL_add2 hit (by decide) ?_⟩;let F_J : Bool → Option LV → Option LV → Option LV → Option LV → Option LV → Option LV → Option LV → VF := fun (sur:Bool) (o1:Option LV) (o2:Option LV) (o3:Option LV) (o4:Option LV) (o5:Option LV) (o6:Option LV) (o7:Option LV) => [some (.inst B.bc b.x b.d), some (.int row), some (.int col), some (.str colour), some (.ref a1), some (.bool sur), some (.ref a2), o1, o2, o3, o4, o5, o6, o7, none];let J : Nat → VF → Hp → Prop := fun w v_ H' => El (fun p_ => ∀ (P:List Pt) (T:List Pt) (sur:Bool) (o1:Option LV) (o2:Option LV) (o3:Option LV) (o4:Option LV) (o5:Option LV) (o6:Option LV) (o7:Option LV), (w = 100 - P.length) → (Ext H H') → (H' a1 = some (.pset P)) → (H' a2 = some (.pset T)) → (MG n g (row, col) P T sur (fun ww ww => True)) → p_ (F_J sur o1 o2 o3 o4 o5 o6 o7)) v_;have hJ : ∀ {w:Nat} {P:List Pt} {T:List Pt} {sur:Bool} {o1:Option LV} {o2:Option LV} {o3:Option LV} {o4:Option LV} {o5:Option LV} {o6:Option LV} {o7:Option LV} {H':Hp}, (w = 100 - P.length) → (Ext H H') → (H' a1 = some (.pset P)) → (H' a2 = some (.pset T)) → (MG n g (row, col) P T sur (fun ww ww => True)) → J w (F_J sur o1 o2 o3 o4 o5 o6 o7) H' := fun z0 z1 z2 z3 z4 p_ k_ => k_ _ _ _ _ _ _ _ _ _ _ z0 z1 z2 z3 z4;refine ⟨J, 100, hJ (P := []) (sur := true) rfl ((E1.set g2).set g2) (miss n12 (miss n12 hit)) hit (by rw [if_neg (by simp)]; exact MG.init), fun P' w H' hP => El.el ?_⟩;intro P T sur o1 o2 o3 o4 o5 o6 o7 hw hE hP1 hT hM;refine ⟨rfl, _, truth_pset hT, fun hT0 => ?_, fun hT0 => hP.b ?_⟩
  · have hT1 : T ≠ [] := by rintro rfl; cases hT0
    refine ⟨_, _, bm_spop, OfT_pset hT, CALL_set_pop hT hT1 fun t ht => ?_⟩;have hP2 : Go.hset H' a2 (.pset (T.erase t)) a1 = some (.pset P) := miss n12 hP1;have hl := hM.lenP few hon hg0;refine ⟨_, _, bm_sadd, OfT_pset hP2, CALL_set_add hP2 (Nat.lt_of_le_of_lt hl (by decide)) ?_⟩;rw [if_neg (hM.dis t ht)];refine ⟨_, _, rfl, stpL G, fun a3 f3 => IV_list (vs := (nb4 t).map pv) hit ?_⟩;have nP3 := ne_of f3 (hit (a := a1));have nT3 : a2 ≠ a3 := ne_of f3 (miss n12.symm hit);have hE2 := (hE.set (o := .pset (T.erase t)) g2).set (o := .pset (t :: P)) f1;let F_I : Bool → Option LV → Option LV → Option LV → Option LV → VF := fun (sur:Bool) (o4:Option LV) (o5:Option LV) (o6:Option LV) (o7:Option LV) => [some (.inst B.bc b.x b.d), some (.int row), some (.int col), some (.str colour), some (.ref a1), some (.bool sur), some (.ref a2), some (pv t), some (.int t.1), some (.int t.2), o4, o5, o6, o7, none];let I : Nat → VF → Hp → Prop := fun i v_ H'' => El (fun p_ => ∀ (T':List Pt) (sur:Bool) (o4:Option LV) (o5:Option LV) (o6:Option LV) (o7:Option LV), (Ext H H'') → (H'' a1 = some (.pset (t :: P))) → (H'' a2 = some (.pset T')) → (H'' a3 = some (.lst ((nb4 t).map pv))) → (MG n g (row, col) (t :: P) T' sur (tk t i)) → p_ (F_I sur o4 o5 o6 o7)) v_;have hI : ∀ {i:Nat} {T':List Pt} {sur:Bool} {o4:Option LV} {o5:Option LV} {o6:Option LV} {o7:Option LV} {H'':Hp}, (Ext H H'') → (H'' a1 = some (.pset (t :: P))) → (H'' a2 = some (.pset T')) → (H'' a3 = some (.lst ((nb4 t).map pv))) → (MG n g (row, col) (t :: P) T' sur (tk t i)) → I i (F_I sur o4 o5 o6 o7) H'' := fun z0 z1 z2 z3 z4 p_ k_ => k_ _ _ _ _ _ _ z0 z1 z2 z3 z4;refine LFor.ys _ ((nb4 t).map pv) I (ys_list rfl) (hI (hE2.set (hE2.none f3)) (miss nP3 hit) (miss nT3 (miss n12.symm hit)) hit (hM.pop ht)) (fun i H' => El.el fun ww ww ww ww ww ww ww ww ww h5 ww => ⟨rfl, h5⟩) (fun P2 i lv H'' hP2 hi => El.el fun T' sur' o4 o5 o6 o7 hE' hP' hT' h3' hM' => ?_) fun H'' => El.el fun T' sur' o4 o5 o6 o7 hE' hP' hT' h3' hM' => hP.n ⟨100 - (t :: P).length, ?_, hJ rfl hE' hP' hT' hM'.all⟩
    · rw [List.getElem?_map] at hi;obtain ⟨⟨r, c⟩, hr, rfl⟩ := Option.map_eq_some_iff.mp hi;have hBk := hB.ext hE';refine ⟨_, _, rfl, ifJ_non ⟨B, b, n, g, em, r, c, rfl, rfl, rfl, hBk, fun hx => hP2.c (hI hE' hP' hT' h3' (hM'.skip hr fun ho => by rw [decide_eq_true ho] at hx; cases hx)), fun hx => ?_⟩⟩;have ho : On n (r, c) := on_of hx;refine LCell.mk B b n g em r c rfl rfl rfl hBk ho ?_;cases hgr : g (r, c) with
      | none => exact BO_isNone ⟨_, rfl, fun hx => hP2.n (hI hE' hP' hT' h3' (hM'.free hr List.mem_cons_self ho hgr hg0)), fun hx => nomatch hx⟩
      | some cc =>
        refine BO_isNone ⟨_, rfl, (fun hx => nomatch hx), fun hx => BO_eqs (hB.col _ _ hgr) (hB.col _ _ hc) ⟨_, rfl, fun hx => ?_, fun hx => hP2.n (hI hE' hP' hT' h3' (hM'.skip hr fun ww => ⟨fun e => of_decide_eq_false hx (Option.some.inj (hgr.symm.trans (e.trans hc))), fun e => nomatch hgr.symm.trans e⟩))⟩⟩;have hgc := hgr.trans ((congrArg some (of_decide_eq_true hx)).trans hc.symm);refine BO_notinset2 hP' ⟨_, rfl, fun hx => ?_, fun hx => hP2.n (hI hE' hP' hT' h3' (hM'.seen hr hgc hg0 (mem_of_nd hx)))⟩;refine ⟨_, _, bm_sadd, OfT_pset hT', CALL_set_add (p := (r, c)) hT' (Nat.lt_of_le_of_lt (hM'.lenT few hon hg0) (by decide)) ?_⟩;exact hP2.n (hI (hE'.set g2) (miss n12 hP') hit (miss nT3.symm h3') (hM'.more hr List.mem_cons_self ho hgc hg0 (not_of_nd hx)))
    · rw [hw]; exact Nat.sub_lt_sub_left (Nat.lt_of_lt_of_le (hM'.lenP few hon hg0) (by decide)) (Nat.lt_succ_self _)
  · obtain rfl : T = [] := List.isEmpty_iff.mp (Bool.not_eq_false' _ ▸ hT0);obtain ⟨l1, l2, l3⟩ := hM.last hon hg0;refine ⟨_, B.n_group.1, .inr (.inr B.n_group.2), CALL_of (CODE_cls0 B.mgr B.ig fun x d hd => ?_)⟩;have gx := hE.none hd;refine SA_g1 B rfl hit (SA_g2 B rfl hit (SA_g3 B rfl hit (hPP.r ?_)));exact h x d a1 P sur _ ((((hE.set gx).set gx).set gx).set gx) f1 gx hit (miss (ne_of hd hP1) (miss (ne_of hd hP1) (miss (ne_of hd hP1) (miss (ne_of hd hP1) hP1)))) l1 l2 l3
end
section
noncomputable abbrev GI.lv {G:Gl} (B:BW G) (gi:GI) : LV := .inst B.gc gi.x gi.d
noncomputable def GAt (H:Hp) (L:List Addr) (H':Hp) (gs:List GI) : Prop := ∀ gi, gi ∈ gs → H gi.d = none ∧ H gi.a = none ∧ gi.d ∉ L ∧ gi.a ∉ L ∧ H' gi.d = some (.ns (gns gi.c gi.a true)) ∧ H' gi.a = some (.pset gi.P)
theorem GAt.ext {H:Hp} {L:List Addr} {H' H'':Hp} {gs:List GI} (h:GAt H L H' gs) (e:Ext H' H'') : GAt H L H'' gs :=
  fun gi hg => let ⟨a, b, c, d, x, y⟩ := h gi hg; ⟨a, b, c, d, e _ _ x, e _ _ y⟩
theorem GAt.set {H:Hp} {L:List Addr} {H':Hp} {gs:List GI} {b:Addr} (h:GAt H L H' gs) (hb:b ∈ L) (o:LO) : GAt H L (hset H' b o) gs :=
  fun gi hg => let ⟨a, q, c, d, x, y⟩ := h gi hg; ⟨a, q, c, d, (hset_ne _ _ (fun e => c (by rw [e]; exact hb))).trans x, (hset_ne _ _ (fun e => d (by rw [e]; exact hb))).trans y⟩
theorem GAt.add {H:Hp} {L:List Addr} {H':Hp} {gs:List GI} {gi:GI} (h:GAt H L H' gs) (k:H gi.d = none ∧ H gi.a = none ∧ gi.d ∉ L ∧ gi.a ∉ L ∧ H' gi.d = some (.ns (gns gi.c gi.a true)) ∧ H' gi.a = some (.pset gi.P)) : GAt H L H' (gs ++ [gi]) :=
  fun gj hg => by
    rcases List.mem_append.mp hg with z | z
    · exact h gj z
    · rw [List.mem_singleton] at z; subst z; exact k
theorem FG.room {n:Nat} {g:Grd} {L:List Pt} {hs P:List Pt} {gs:List GI} {p:Pt} {cc:Str} (hF:FG n g L hs gs) (few:Few n g) (ho:On n p) (hg:g p = some cc) (hin:p ∉ hs) (ndP:P.Nodup) (mP:∀ q, q ∈ P ↔ Conn n g p q) : hs.length + P.length ≤ 60 := by
  have := few (hs ++ P) (List.nodup_append.mpr ⟨hF.nd, ndP, fun q hq q' hq' e => hF.new_dis ho hin ((mP q').mp hq') (e ▸ hq)⟩) fun q hq => by
    rcases List.mem_append.mp hq with z | z
    · obtain ⟨p', _, o1, o2, o3⟩ := (hF.hs q).mp z;exact ⟨o3.on o1, by rw [o3.color]; exact o2⟩
    · exact ⟨((mP q).mp z).on ho, by rw [((mP q).mp z).color, hg]; simp⟩
  rw [List.length_append] at this; omega
theorem GAt.one {H H':Hp} {a b:Addr} {gs:List GI} (h:GAt H [a, b] H' gs) : GAt H [a] H' gs := fun gi hgi => by
  obtain ⟨x, y, c, d, e⟩ := h gi hgi;exact ⟨x, y, fun q => c (List.mem_singleton.mp q ▸ .head _), fun q => d (List.mem_singleton.mp q ▸ .head _), e⟩
structure SG {G:Gl} (B:BW G) (H:Hp) (n:Nat) (g:Grd) (ls hd la:Addr) (Lv:List LV) (L:List Pt) (H':Hp) (hs:List Pt) (gs:List GI) : Prop where
  e : Ext H H'
  l : H' ls = some (.lst (gs.map (GI.lv B)))
  s : H' hd = some (.pset hs)
  a : H' la = some (.lst Lv)
  t : GAt H [ls, hd] H' gs
  f : FG n g L hs gs
theorem sg_turn {G:Gl} (B:BW G) {k i0 i1 i2 i3 i4 i5 i6:Nat} {v:VF} {H H':Hp} {b:Bd} {n:Nat} {g:Grd} {em:Bool} {row col:Int} {cc:Str} {ls hd la:Addr} {hs:List Pt} {gs:List GI} {L:List Pt} {Lv:List LV} {P2:PW} (few:Few n g) (hB:BAt H b n g em) (ho:On n (row, col)) (hg:g (row, col) = some cc) (hin:(row, col) ∉ hs) (S:SG B H n g ls hd la Lv L H' hs gs)
    (hl:L.length ≤ 100) (fls:H ls = none) (fhd:H hd = none) (nsh:ls ≠ hd) (nls:la ≠ ls) (nlh:la ≠ hd) (e0:vget v i0 = some (.inst B.bc b.x b.d)) (e1:vget v i1 = some (.int row)) (e2:vget v i2 = some (.int col)) (e3:vget v i3 = some (.str cc))
    (eq:∀ x, vget (vset v i4 x) i4 = some x ∧ vget (vset v i4 x) i5 = some (.ref ls) ∧ vget (vset v i4 x) i6 = some (.ref hd)) (h:∀ x H4 hs' gs', SG B H n g ls hd la Lv (L ++ [(row, col)]) H4 hs' gs' → P2.n (vset v i4 x) H4) :
    sAsg (tOm (tVar i0) (ofString "_make_group") (tCons (tVar i1) (tCons (tVar i2) (tCons (tVar i3) tNil)))) (g1 i4) (sIfR (tTv (tAttr (tVar i4) (ofString "is_surrounded"))) (sEx (tBm (tVar i5) (ofString "append") (tCons (tVar i4) tNil)) sNil) sNil (sEx (tBm (tVar i6) (ofString "update") (tCons (tAttr (tVar i4) (ofString "points")) tNil)) sNil)) G (k + 3) v H' P2 := by
  obtain ⟨hE, h1, h2, h3, hG, hF⟩ := S;refine vgv e0 (lm B B.m_mg (by decide +kernel) (hB.ext hE).ns (vgv e1 (vgv e2 (vgv e3 (CALL_mg B (hB.ext hE) ho hg few fun x d a P sur H3 e3 na nd k1 k2 ndP mP hsur => ?_)))));have nha : hd ≠ a := ne_of na h2;have nla : ls ≠ a := ne_of na h1;have nld : ls ≠ d := ne_of nd h1;have nhd : hd ≠ d := ne_of nd h2;have hsz := hF.room few ho hg hin ndP mP;obtain ⟨q4, q5, q6⟩ := eq (.inst B.gc x d);replace h := h (.inst B.gc x d);show sIfR _ _ _ _ G (k + 3) (vset v i4 (.inst B.gc x d)) H3 P2;generalize vset v i4 (.inst B.gc x d) = v' at q4 q5 q6 h ⊢;have h13 := e3 _ _ h1;have h23 := e3 _ _ h2;have h33 := e3 _ _ h3;have up : ∀ {H4:Hp} {gs':List GI}, Ext H H4 → H4 ls = some (.lst (gs'.map (GI.lv B))) → H4 hd = some (.pset hs) → H4 la = some (.lst Lv) → H4 d = some (.ns (gns cc a sur)) → H4 a = some (.pset P) → GAt H [ls, hd] H4 gs' → (∀ rs, rs.Nodup → (∀ q, q ∈ rs ↔ q ∈ hs ∨ q ∈ P) → FG n g (L ++ [(row, col)]) rs gs') →
      sEx (tBm (tVar i6) (ofString "update") (tCons (tAttr (tVar i4) (ofString "points")) tNil)) sNil G (k + 3) v' H4 P2 := fun E4 p1 p2 p3 p4 p5 p6 p7 =>
    vgv q6 ⟨_, _, bm_supd, OfT_pset p2, vgv q4 (at_gpts B p4 (CALL_update nha p2 p5 hsz fun rs nrs mrs => h _ rs _ ⟨E4.set fhd, miss nsh p1, hit, miss nlh p3, p6.set (.tail _ (.head _)) _, p7 rs nrs mrs⟩))⟩
  let F_M : VF := v';let M : VF → Hp → Prop := fun v_ H4 => El (fun p_ => ∀ (gs':List GI), (Ext H H4) → (H4 ls = some (.lst (gs'.map (GI.lv B)))) → (H4 hd = some (.pset hs)) → (H4 la = some (.lst Lv)) → (H4 d = some (.ns (gns cc a sur))) → (H4 a = some (.pset P)) → (GAt H [ls, hd] H4 gs') → ((∀ rs, rs.Nodup → (∀ q, q ∈ rs ↔ q ∈ hs ∨ q ∈ P) → FG n g (L ++ [(row, col)]) rs gs')) → p_ F_M) v_;have hM : ∀ {gs':List GI} {H4:Hp}, (Ext H H4) → (H4 ls = some (.lst (gs'.map (GI.lv B)))) → (H4 hd = some (.pset hs)) → (H4 la = some (.lst Lv)) → (H4 d = some (.ns (gns cc a sur))) → (H4 a = some (.pset P)) → (GAt H [ls, hd] H4 gs') → ((∀ rs, rs.Nodup → (∀ q, q ∈ rs ↔ q ∈ hs ∨ q ∈ P) → FG n g (L ++ [(row, col)]) rs gs')) → M F_M H4 := fun z0 z1 z2 z3 z4 z5 z6 z7 p_ k_ => k_ _ z0 z1 z2 z3 z4 z5 z6 z7;refine LCut.mk M (fun H4 => El.el fun gs' E4 p1 p2 p3 p4 p5 p6 p7 => up E4 p1 p2 p3 p4 p5 p6 p7) fun P3 hP3 => vgv q4 (at_gsur B k1 ⟨_, rfl, fun hx => ?_, fun hx => ?_⟩)
  · subst hx;refine vgv q5 ⟨_, _, bm_lapp, OfT_lst h13, vgv q4 (CALL_append h13 ?_ (hP3.n (hM (gs' := gs ++ [⟨x, d, a, cc, P⟩]) ((hE.trans e3).set fls) (hit.trans (by rw [List.map_append]; rfl)) (miss nsh.symm h23) (miss nls h33) (miss nld.symm k1) (miss nla.symm k2) (((hG.ext e3).add ⟨hE.none nd, hE.none na, by simp [nld.symm, nhd.symm], by simp [nla.symm, nha.symm], k1, k2⟩).set (.head _) _) fun rs nrs mrs => hF.dead ho hg hin mP ndP nrs mrs (hsur.mp rfl))))⟩;rw [List.length_map]; exact Nat.lt_of_le_of_lt (Nat.le_trans hF.len hl) (by decide)
  · subst hx;exact hP3.n (hM (hE.trans e3) h13 h23 h33 k1 k2 (hG.ext e3) fun rs nrs mrs => hF.alive ho (fun e => nomatch hg.symm.trans e) hin mP nrs mrs (Classical.not_not.mp fun q => by have := hsur.mpr q; cases this))
theorem CALL_fa {G:Gl} (B:BW G) {k:Nat} {H:Hp} {Q:Qv} {X:Xc} {b:Bd} {n:Nat} {g:Grd} {em:Bool} (hB:BAt H b n g em) (few:Few n g)
    (h:∀ ls gs H' hs, Ext H H' → H ls = none → H' ls = some (.lst (gs.map (GI.lv B))) → GAt H [ls] H' gs → FG n g (pts n) hs gs → Q (.ref ls) H') :
    CALL G (k + 4) (.ref B.ffa) [.inst B.bc b.x b.d] H Q X := by
  let v0 : VF := [some (.inst B.bc b.x b.d), none, none, none, none, none, none, none];refine CALL_of (CODE_q B.m_fa.2.2.2 B.hh 1 rfl (by decide +kernel) v0 is_fa rfl rfl rfl fun PP hPP => ?_);generalize hL : (pts n) = L at h;refine fun ls fls => ⟨_, B.n_set, .inr (.inl ⟨_, rfl⟩), CALL_set fun hd fhd => ?_⟩;have E1 : Ext H (Go.hset H ls (.lst [])) := (Ext.refl H).set fls;have g2 := E1.none fhd;have nsh : ls ≠ hd := ne_of fhd hit;have hpl0 : Go.hset (Go.hset H ls (.lst [])) hd (.pset []) b.pl = some (.lst (L.map pv)) := hL ▸ (E1.set g2) _ _ hB.pl;have nlp : b.pl ≠ ls := ne_of fls hB.pl;have nhp : b.pl ≠ hd := ne_of g2 hB.pl;have hLl : L.length ≤ 100 := by rw [← hL, pts_length]; exact Nat.le_trans (Nat.mul_le_mul hB.nine hB.nine) (by decide)
  refine ⟨stpL G, at_bpts B (hB.ext (E1.set g2)) (IV_list (vs := L.map pv) hpl0 ?_)⟩;let F_I : Option LV → Option LV → Option LV → Option LV → Option LV → VF := fun (o1:Option LV) (o2:Option LV) (o3:Option LV) (o4:Option LV) (o5:Option LV) => [some (.inst B.bc b.x b.d), some (.ref ls), some (.ref hd), o1, o2, o3, o4, o5];let I : Nat → VF → Hp → Prop := fun i v_ H' => El (fun p_ => ∀ (hs:List Pt) (gs:List GI) (o1:Option LV) (o2:Option LV) (o3:Option LV) (o4:Option LV) (o5:Option LV), (SG B H n g ls hd b.pl (L.map pv) (L.take i) H' hs gs) → p_ (F_I o1 o2 o3 o4 o5)) v_;have hI : ∀ {i:Nat} {hs:List Pt} {gs:List GI} {o1:Option LV} {o2:Option LV} {o3:Option LV} {o4:Option LV} {o5:Option LV} {H':Hp}, (SG B H n g ls hd b.pl (L.map pv) (L.take i) H' hs gs) → I i (F_I o1 o2 o3 o4 o5) H' := fun z0 p_ k_ => k_ _ _ _ _ _ _ _ z0;refine LFor.ys _ (L.map pv) I (ys_list rfl)
    (hI (gs := []) ⟨E1.set g2, miss nsh hit, hit, hpl0, (fun gi hgi => nomatch hgi), FG.init⟩) (fun i H' => El.el fun ww ww ww ww ww ww ww S => ⟨rfl, S.a⟩) (fun P2 i lv H' hP2 hi => El.el fun hs gs o1 o2 o3 o4 o5 S => ?_)
    fun H' => El.el fun hs gs o1 o2 o3 o4 o5 S => hPP.r (h ls gs H' hs S.e fls S.l S.t.one (by have := S.f; rwa [List.length_map, List.take_length] at this))
  obtain ⟨⟨row, col⟩, hr, rfl⟩ := Option.map_eq_some_iff.mp (by rw [List.getElem?_map] at hi; exact hi);have ht : L.take (i + 1) = L.take i ++ [(row, col)] := by rw [List.take_add_one, hr]; rfl
  have ho : On n (row, col) := mem_pts.mp (hL ▸ List.mem_of_getElem? hr);refine ⟨_, _, rfl, LCell.mk B b n g em row col rfl rfl rfl (hB.ext S.e) ho ?_⟩;have S' : ∀ {hs gs}, SG B H n g ls hd b.pl (L.map pv) (L.take i) H' hs gs → FG n g (L.take (i + 1)) hs gs → SG B H n g ls hd b.pl (L.map pv) (L.take (i + 1)) H' hs gs := fun S f => ⟨S.e, S.l, S.s, S.a, S.t, f⟩;cases hg : g (row, col) with
  | none => exact BO_isNone ⟨_, rfl, fun ww => hP2.c (hI (S' S (ht ▸ S.f.skip fun ww q => (q hg).elim))), fun hx => nomatch hx⟩
  | some cc => exact BO_isNone ⟨_, rfl, (fun hx => nomatch hx), fun ww => BO_inset2 S.s ⟨_, rfl, fun hx => hP2.c (hI (S' S (ht ▸ S.f.skip fun ww ww => of_decide_eq_true hx))), fun hx =>
      sg_turn B few hB ho hg (of_decide_eq_false hx) S (Nat.le_trans (List.length_take_le' i L) hLl) fls g2 nsh nlp nhp rfl rfl rfl rfl (fun x => ⟨rfl, rfl, rfl⟩) fun x H4 hs' gs' S' => hP2.n (hI (ht ▸ S'))⟩⟩
end
section
theorem CALL_fs {G:Gl} (B:BW G) {k:Nat} {H:Hp} {Q:Qv} {X:Xc} {b:Bd} {n:Nat} {g:Grd} {em:Bool} {r0 c0:Int} (hB:BAt H b n g em) (few:Few n g)
    (h:∀ ls gs H' hs, Ext H H' → H ls = none → H' ls = some (.lst (gs.map (GI.lv B))) → GAt H [ls] H' gs → FG n g ((r0, c0) :: nb4 (r0, c0)) hs gs → Q (.ref ls) H') :
    CALL G (k + 4) (.ref B.ffs) [.inst B.bc b.x b.d, .int r0, .int c0] H Q X := by
  let v0 : VF := [some (.inst B.bc b.x b.d), some (.int r0), some (.int c0), none, none, none, none, none, none, none];refine CALL_of (CODE_q B.m_fs.2.2.2 B.hh 3 rfl (by decide +kernel) v0 is_fs rfl rfl rfl fun PP hPP => ?_);generalize hL : ((r0, c0) :: nb4 (r0, c0)) = L at h;refine fun ls fls => ⟨_, B.n_set, .inr (.inl ⟨_, rfl⟩), CALL_set fun hd fhd => ⟨stpL G, fun la fla => IV_list (vs := L.map pv) (by rw [← hL]; exact hit) ?_⟩⟩;have E1 : Ext H (Go.hset H ls (.lst [])) := (Ext.refl H).set fls;have g2 := E1.none fhd;have nsh : ls ≠ hd := ne_of fhd hit;have nlp : la ≠ ls := (ne_of fla (miss nsh hit)).symm;have nhp : la ≠ hd := (ne_of fla hit).symm;have hLl : L.length ≤ 100 := by rw [← hL]; exact Nat.le_of_ble_eq_true rfl
  let F_I : Option LV → Option LV → Option LV → Option LV → Option LV → VF := fun (o1:Option LV) (o2:Option LV) (o3:Option LV) (o4:Option LV) (o5:Option LV) => [some (.inst B.bc b.x b.d), some (.int r0), some (.int c0), some (.ref ls), some (.ref hd), o1, o2, o3, o4, o5];let I : Nat → VF → Hp → Prop := fun i v_ H' => El (fun p_ => ∀ (hs:List Pt) (gs:List GI) (o1:Option LV) (o2:Option LV) (o3:Option LV) (o4:Option LV) (o5:Option LV), (SG B H n g ls hd la (L.map pv) (L.take i) H' hs gs) → p_ (F_I o1 o2 o3 o4 o5)) v_;have hI : ∀ {i:Nat} {hs:List Pt} {gs:List GI} {o1:Option LV} {o2:Option LV} {o3:Option LV} {o4:Option LV} {o5:Option LV} {H':Hp}, (SG B H n g ls hd la (L.map pv) (L.take i) H' hs gs) → I i (F_I o1 o2 o3 o4 o5) H' := fun z0 p_ k_ => k_ _ _ _ _ _ _ _ z0;refine LFor.ys _ (L.map pv) I (ys_list rfl)
    (hI (gs := []) ⟨(E1.set g2).set ((E1.set g2).none fla), miss nlp.symm (miss nsh hit), miss nhp.symm hit, by rw [← hL]; exact hit, (fun gi hgi => nomatch hgi), FG.init⟩) (fun i H' => El.el fun ww ww ww ww ww ww ww S => ⟨rfl, S.a⟩) (fun P2 i lv H' hP2 hi => El.el fun hs gs o1 o2 o3 o4 o5 S => ?_)
    fun H' => El.el fun hs gs o1 o2 o3 o4 o5 S => hPP.r (h ls gs H' hs S.e fls S.l S.t.one (by have := S.f; rwa [List.length_map, List.take_length] at this))
  obtain ⟨⟨row, col⟩, hr, rfl⟩ := Option.map_eq_some_iff.mp (by rw [List.getElem?_map] at hi; exact hi);have ht : L.take (i + 1) = L.take i ++ [(row, col)] := by rw [List.take_add_one, hr]; rfl
  have S' : ∀ {hs gs}, SG B H n g ls hd la (L.map pv) (L.take i) H' hs gs → FG n g (L.take (i + 1)) hs gs → SG B H n g ls hd la (L.map pv) (L.take (i + 1)) H' hs gs := fun S f => ⟨S.e, S.l, S.s, S.a, S.t, f⟩;refine ⟨_, _, rfl, ifJ_non ⟨B, b, n, g, em, row, col, rfl, rfl, rfl, hB.ext S.e, fun hx => hP2.c (hI (S' S (ht ▸ S.f.skip fun q => by rw [decide_eq_true q] at hx; cases hx))), fun hx => ?_⟩⟩;have ho : On n (row, col) := on_of hx;refine LCell.mk B b n g em row col rfl rfl rfl (hB.ext S.e) ho ?_;cases hg : g (row, col) with
  | none => exact BO_isNone ⟨_, rfl, fun ww => hP2.c (hI (S' S (ht ▸ S.f.skip fun ww q => (q hg).elim))), fun hx => nomatch hx⟩
  | some cc => exact BO_isNone ⟨_, rfl, (fun hx => nomatch hx), fun ww => BO_inset2 S.s ⟨_, rfl, fun hx => hP2.c (hI (S' S (ht ▸ S.f.skip fun ww ww => of_decide_eq_true hx))), fun hx =>
      sg_turn B few hB ho hg (of_decide_eq_false hx) S (Nat.le_trans (List.length_take_le' i L) hLl) fls g2 nsh nlp nhp rfl rfl rfl rfl (fun x => ⟨rfl, rfl, rfl⟩) fun x H4 hs' gs' S' => hP2.n (hI (ht ▸ S'))⟩⟩
end
section
noncomputable def Fr (F:List Addr) (H H':Hp) : Prop := ∀ a o, a ∉ F → H a = some o → H' a = some o
theorem Fr.refl (F:List Addr) (H:Hp) : Fr F H H := fun ww ww ww e => e
theorem Ext.fr {H H':Hp} (F:List Addr) (e:Ext H H') : Fr F H H' := fun a o ww h => e a o h
theorem Fr.trans {F:List Addr} {H H' H'':Hp} (x:Fr F H H') (y:Fr F H' H'') : Fr F H H'' := fun a o n h => y a o n (x a o n h)
theorem Fr.hset {F:List Addr} {H H':Hp} {b:Addr} (o:LO) (x:Fr F H H') (hb:b ∈ F ∨ H b = none) : Fr F H (hset H' b o) := fun a p n h => by
  have ne : a ≠ b := fun e => hb.elim (fun q => n (e ▸ q)) fun q => ns q (e ▸ h);exact (hset_ne _ _ ne).trans (x a p n h)
noncomputable def Bd.own (b:Bd) : List Addr := b.d :: b.rows
theorem rowL_len {n:Nat} {g:Grd} {i:Nat} : (rowL n g i).length = n := (List.length_map _).trans List.length_range
theorem rowL_at {n:Nat} {g:Grd} {i j:Nat} (hj:j < n) : (rowL n g i)[j]? = some (cv (g ((i:Int), (j:Int)))) := by unfold rowL; rw [List.getElem?_map, List.getElem?_range hj]; rfl
theorem BAt.congr {H:Hp} {b:Bd} {n:Nat} {g g':Grd} {em:Bool} (h:BAt H b n g em) (e:∀ p, On n p → g' p = g p) (hc:∀ p c, g' p = some c → c = sb ∨ c = sw) : BAt H b n g' em := by
  refine ⟨h.ns, h.pl, h.bl, h.len, fun i a q => ?_, h.nd, h.two, h.nine, hc⟩;have hi : i < n := h.len ▸ (List.getElem?_eq_some_iff.mp q).1;have hr : rowL n g' i = rowL n g i := List.map_congr_left fun j hj => congrArg cv (e _ ⟨Int.natCast_nonneg i, Int.ofNat_lt.mpr hi, Int.natCast_nonneg j, Int.ofNat_lt.mpr (List.mem_range.mp hj)⟩);rw [hr]; exact h.row i a q
theorem BAt.fr {H H':Hp} {b:Bd} {n:Nat} {g:Grd} {em:Bool} {F:List Addr} (h:BAt H b n g em) (x:Fr F H H') (h1:b.d ∉ F) (h2:b.pl ∉ F) (h3:b.bl ∉ F) (h4:∀ a, a ∈ b.rows → a ∉ F) : BAt H' b n g em :=
  ⟨x _ _ h1 h.ns, x _ _ h2 h.pl, x _ _ h3 h.bl, h.len, fun i a q => x _ _ (h4 a (List.mem_of_getElem? q)) (h.row i a q), h.nd, h.two, h.nine, h.col⟩
noncomputable def Alien : LO → Bool
  | .lst _ => false
  | .ns _ => false
  | _ => true
theorem BAt.at_own {H:Hp} {b:Bd} {n:Nat} {g:Grd} {em:Bool} {a:Addr} (h:BAt H b n g em) (hm:a ∈ b.own) : H a = some (.ns (bns n b.pl b.bl em)) ∨ ∃ i, H a = some (.lst (rowL n g i)) :=
  (List.mem_cons.mp hm).elim (fun e => .inl (e ▸ h.ns)) fun hm => .inr ((List.getElem?_of_mem hm).imp fun i q => h.row i a q)
theorem BAt.notOwn' {H:Hp} {b:Bd} {n:Nat} {g:Grd} {em:Bool} {a:Addr} {o:LO} (h:BAt H b n g em) (ha:H a = some o) (hk:Alien o = true) : a ∉ b.own := by
  intro hm;rcases h.at_own hm with q | ⟨i, q⟩
  · cases ha.symm.trans q; cases hk
  · cases ha.symm.trans q; cases hk
theorem BAt.own0 {H:Hp} {b:Bd} {n:Nat} {g:Grd} {em:Bool} {a:Addr} (h:BAt H b n g em) (ha:H a = none) : a ∉ b.own := fun hm => (h.at_own hm).elim (Go.ns ha) fun z => z.elim fun ww q => Go.ns ha q
theorem BAt.notOwn {H:Hp} {b:Bd} {n:Nat} {g:Grd} {em:Bool} {a:Addr} {vs:List LV} (h:BAt H b n g em) (ha:H a = some (.lst vs)) (hv:vs = [] ∨ ∃ v, v ∈ vs ∧ ∀ o, v ≠ cv o) : a ∉ b.own := by
  intro hm;rcases h.at_own hm with q | ⟨i, q⟩
  · cases ha.symm.trans q
  · have e : vs = rowL n g i := LO.lst.inj (Option.some.inj (ha.symm.trans q));rcases hv with e0 | ⟨v, v1, v2⟩
    · have := (congrArg List.length (e0.symm.trans e)).trans rowL_len;exact Nat.not_succ_le_zero 1 ((show n = 0 from this.symm) ▸ h.two)
    · obtain ⟨j, _, q⟩ := List.mem_map.mp (e ▸ v1);exact v2 _ q.symm
theorem BAt.plO {H:Hp} {b:Bd} {n:Nat} {g:Grd} {em:Bool} (h:BAt H b n g em) : b.pl ∉ b.own :=
  h.notOwn h.pl (.inr ⟨pv (0, 0), List.mem_map.mpr ⟨(0, 0), mem_pts.mpr ⟨Int.le_refl 0, Int.ofNat_lt.mpr (Nat.lt_of_lt_of_le (by decide) h.two), Int.le_refl 0, Int.ofNat_lt.mpr (Nat.lt_of_lt_of_le (by decide) h.two)⟩, rfl⟩, fun o e => by cases o <;> cases e⟩)
theorem BAt.blO {H:Hp} {b:Bd} {n:Nat} {g:Grd} {em:Bool} (h:BAt H b n g em) : b.bl ∉ b.own := by
  have hr : 0 < b.rows.length := h.len ▸ Nat.lt_of_lt_of_le (by decide) h.two;exact h.notOwn h.bl (.inr ⟨.ref b.rows[0], List.mem_map.mpr ⟨_, List.getElem_mem hr, rfl⟩, fun o e => by cases o <;> cases e⟩)
theorem BAt.hset {H:Hp} {b:Bd} {n:Nat} {g:Grd} {em:Bool} {a:Addr} {o o':LO} (h:BAt H b n g em) (ha:H a = some o) (hk:Alien o = true) : BAt (hset H a o') b n g em := by
  have no := h.notOwn' ha hk;have nl : ∀ {c:Addr} {vs:List LV}, H c = some (.lst vs) → c ∉ [a] := fun q z => by
    cases List.mem_singleton.mp z;cases q.symm.trans ha; cases hk
  exact h.fr (F := [a]) ((Fr.refl _ _).hset _ (.inl (.head _))) (fun z => no (List.mem_singleton.mp z ▸ .head _)) (nl h.pl) (nl h.bl) fun c hc z => no (List.mem_cons_of_mem _ (List.mem_singleton.mp z ▸ hc))
theorem rowL_set {n:Nat} {g:Grd} {i j:Nat} {o:Option Str} (hj:j < n) : (rowL n g i).set j (cv o) = rowL n (gset g ((i:Int), (j:Int)) o) i := by
  refine List.ext_getElem? fun k => ?_
  by_cases hk : k < n
  · rw [rowL_at hk]
    by_cases e : k = j
    · rw [e, List.getElem?_set_self (rowL_len.symm ▸ hj), gset_same]
    · rw [List.getElem?_set_ne (Ne.symm e), rowL_at hk, gset_ne fun q => e (Int.ofNat.inj (congrArg Prod.snd q))]
  · have hk := Nat.le_of_not_lt hk;rw [List.getElem?_eq_none (by rw [List.length_set, rowL_len]; exact hk), List.getElem?_eq_none (by rw [rowL_len]; exact hk)]
theorem rowL_ne {n:Nat} {g:Grd} {i:Nat} {p:Pt} {o:Option Str} (h:(i:Int) ≠ p.1) : rowL n (gset g p o) i = rowL n g i := List.map_congr_left fun j ww => congrArg cv (gset_ne fun q => h (congrArg Prod.fst q))
theorem BAt.cell {H:Hp} {b:Bd} {n:Nat} {g:Grd} {em:Bool} {i j:Int} {a:Addr} {o:Option Str} (h:BAt H b n g em) (hon:On n (i, j)) (ha:b.rows[i.toNat]? = some a) (hc:∀ c, o = some c → c = sb ∨ c = sw) :
    BAt (Go.hset H a (.lst ((rowL n g i.toNat).set j.toNat (cv o)))) b n (gset g (i, j) o) em := by
  obtain ⟨i, rfl⟩ := Int.eq_ofNat_of_zero_le hon.1;obtain ⟨j, rfl⟩ := Int.eq_ofNat_of_zero_le hon.2.2.1;have ha : b.rows[i]? = some a := ha;have hj : j < n := Int.ofNat_lt.mp hon.2.2.2;have hm : a ∈ b.own := List.mem_cons_of_mem _ (List.mem_of_getElem? ha);have n1 : b.d ≠ a := fun e => by have q := h.row _ _ ha; rw [← e, h.ns] at q; cases q
  have n2 : b.pl ≠ a := fun e => h.plO (e ▸ hm);have n3 : b.bl ≠ a := fun e => h.blO (e ▸ hm);refine ⟨(hset_ne _ _ n1).trans h.ns, (hset_ne _ _ n2).trans h.pl, (hset_ne _ _ n3).trans h.bl, h.len, fun k c q => ?_, h.nd, h.two, h.nine, fun p c q => ?_⟩
  · by_cases e : k = i
    · subst e;cases ha.symm.trans q;exact (hset_same ..).trans (congrArg (fun l => some (LO.lst l)) (rowL_set hj))
    · have hca : c ≠ a := fun z => by
        obtain ⟨b1, b2⟩ := List.getElem?_eq_some_iff.mp ha;obtain ⟨b3, b4⟩ := List.getElem?_eq_some_iff.mp q;exact e ((List.getElem_inj h.nd).mp (b4.trans (z.trans b2.symm)))
      rw [hset_ne _ _ hca, rowL_ne fun z => e (Int.ofNat.inj z)];exact h.row k c q
  · by_cases e : p = ((i:Int), (j:Int))
    · rw [e, gset_same] at q; exact hc c q
    · rw [gset_ne e] at q; exact h.col p c q
theorem BAt.em {H:Hp} {b:Bd} {n:Nat} {g:Grd} {em:Bool} (h:BAt H b n g em) (em':Bool) : BAt (Go.hset H b.d (.ns (bns n b.pl b.bl em'))) b n g em' := by
  have ne : ∀ {c:Addr} {vs:List LV}, H c = some (.lst vs) → c ≠ b.d := fun q e => by rw [e, h.ns] at q; cases q
  exact ⟨hset_same _ _ _, (hset_ne _ _ (ne h.pl)).trans h.pl, (hset_ne _ _ (ne h.bl)).trans h.bl, h.len, fun i a q => (hset_ne _ _ (ne (h.row i a q))).trans (h.row i a q), h.nd, h.two, h.nine, h.col⟩
theorem pv_notC {L:List Pt} : L.map pv = [] ∨ ∃ v, v ∈ L.map pv ∧ ∀ o, v ≠ cv o := by
  cases L with
  | nil => exact .inl rfl
  | cons p r => exact .inr ⟨pv p, .head _, fun o e => by cases o <;> cases e⟩
theorem ct0 {a:Nat} {l:List Nat} : (a :: l).contains a = true := by rw [List.contains_cons, beq_self_eq_true]; rfl
theorem ctS {a x:Nat} {l:List Nat} (h:l.contains x = true) : (a :: l).contains x = true := by rw [List.contains_cons, h, Bool.or_true]
theorem ctN {a x:Nat} {l:List Nat} (h:x ≠ a) (h':l.contains x = false) : (a :: l).contains x = false := by rw [List.contains_cons, h', beq_false_of_ne h]; rfl
theorem setc {G:Gl} (B:BW G) {H:Hp} {b:Bd} {n:Nat} {g:Grd} {em:Bool} {i j:Int} {o:Option Str} {w:LV} {K:Hp → Prop} {X X1:Xc} (hw:w = cv o) (hB:BAt H b n g em) (hon:On n (i, j)) (ho:∀ c, o = some c → c = sb ∨ c = sw) (h:∀ H', BAt H' b n (gset g (i, j) o) em → Fr b.own H H' → K H') :
    LAt G (ofString "board") H (.inst B.bc b.x b.d) (fun r => SubT H r ∧ BO G getItem r (.int i) H (fun a H2 => SO G setItem a (.int j) w H2 K X1) X) := by
  obtain ⟨a, h1, h2⟩ := row_at hB hon.1 hon.2.1;have ha : b.rows[i.toNat]? = some a := by
    rw [List.getElem?_map] at h1;obtain ⟨c, e, q⟩ := Option.map_eq_some_iff.mp h1;cases q; exact e
  subst hw;refine at_brd B hB ⟨SubT_lst hB.bl, BO_item_list hB.bl hon.1 h1 (SO_list h2 hon.2.2.1 (rowL_len.symm ▸ hon.2.2.2) ?_)⟩;exact h _ (hB.cell hon ha ho) ((Fr.refl _ _).hset _ (.inl (List.mem_cons_of_mem _ (List.mem_of_getElem? ha))))
theorem LAt.up {G:Gl} {x:Str} {H:Hp} {lv:LV} {K K':LV → Prop} (h:LAt G x H lv K) (hK:∀ r, K r → K' r) : LAt G x H lv K' :=
  by obtain ⟨c, x, d, fs, r, a1, a2, a3, a4, a5, q⟩ := h; exact ⟨c, x, d, fs, r, a1, a2, a3, a4, a5, hK _ q⟩
theorem set_cell {G:Gl} (B:BW G) {k i0 ir ic:Nat} {v:VF} {H:Hp} {b:Bd} {n:Nat} {g:Grd} {em:Bool} {x y:Int} (o:Option Str) {e:Tr LV} {P:PW} {r:ST} (e0:vget v i0 = some (.inst B.bc b.x b.d)) (e1:vget v ir = some (.int x)) (e2:vget v ic = some (.int y)) (hB:BAt H b n g em) (hon:On n (x, y)) (ho:∀ c, o = some c → c = sb ∨ c = sw)
    (he:∀ {Q:Qv} {X:Xc}, Q (cv o) H → e G k v H Q X) (h:∀ H', BAt H' b n (gset g (x, y) o) em → Fr b.own H H' → r G k v H' P) : sSet (tSub (tAttr (tVar i0) (ofString "board")) (tVar ir)) (tVar ic) e r G k v H P :=
  he (vgv e0 ((setc B (X := P.x v) (X1 := P.x v) rfl hB hon ho h).up fun _ ⟨s, q⟩ => vgv e1 ⟨s, BO_up q fun ww ww q => vgv e2 q⟩))
theorem set_loop {G:Gl} (B:BW G) {k i0 ir ic:Nat} {v:VF} {H:Hp} {b:Bd} {n:Nat} {g:Grd} {em:Bool} (o:Option Str) {e:Tr LV} {S:Stp G} {K0:Hp → Prop} {x:S.κ} {L:List Pt} {P:PW} {R:VF → Hp → Prop} (hj:i0 ≠ ir ∧ i0 ≠ ic ∧ ir ≠ ic ∧ ir < v.length ∧ ic < v.length) (y:Ys S K0 x (L.map pv)) (hB:BAt H b n g em) (ho:∀ c, o = some c → c = sb ∨ c = sw) (hon:∀ p, p ∈ L → On n p) (hK:∀ H', Fr b.own H H' → K0 H')
    (he:∀ {v H} {Q:Qv} {X:Xc}, Q (cv o) H → e G k v H Q X) (e0:vget v i0 = some (.inst B.bc b.x b.d)) (h:∀ H' v', Ag [ir, ic] v v' → Fr b.own H H' → BAt H' b n (setAll g L o) em → R v' H') :
    LFor S x v.length v H R P fun lv v1 H1 P' => g2 ir ic H1 lv v1 fun v2 => sSet (tSub (tAttr (tVar i0) (ofString "board")) (tVar ir)) (tVar ic) e sNil G k v2 H1 P' := by
  refine LFor.ys _ (L.map pv) (fun i v' H' => Ag [ir, ic] v v' ∧ Fr b.own H H' ∧ BAt H' b n (setAll g (L.take i) o) em) y ⟨.refl, Fr.refl _ _, by rw [List.take_zero, setAll_nil]; exact hB⟩ (fun i H' v' ⟨a, hF, _⟩ => ⟨a.l, hK _ hF⟩) (fun P' i lv H' hP hi v' ⟨a, hF, hBk⟩ => ?_) fun H' v' ⟨a, hF, hB'⟩ => h H' v' a hF (by rwa [List.length_map, List.take_length] at hB');obtain ⟨⟨x, y⟩, hr, rfl⟩ := Option.map_eq_some_iff.mp (by rw [List.getElem?_map] at hi; exact hi);obtain ⟨j1, j2, j3, j4, j5⟩ := hj;have c1 : [ir, ic].contains ir = true := ct0;have c2 : [ir, ic].contains ic = true := ctS ct0;have c3 : [ir, ic].contains i0 = false := ctN j1 (ctN j2 rfl);have a2 := (a.set (.int x) c1).set (.int y) c2;refine ⟨_, _, rfl, set_cell B o (a2.g c3 e0) ((vget_ne j3).trans (vget_eq (a.l ▸ j4))) (vget_eq (by rw [vset_len, a.l]; exact j5)) hBk (hon _ (List.mem_of_getElem? hr)) ho he fun H3 q1 q2 => hP.n ⟨a2, hF.trans q2, ?_⟩⟩;rw [List.take_add_one, hr];show BAt _ _ _ (setAll g (L.take i ++ [(x, y)]) o) _;rw [← setAll_snoc]; exact q1
theorem clear_loop {G:Gl} (B:BW G) {k i0 ia ig ir ic:Nat} {v:VF} {H:Hp} {b:Bd} {n:Nat} {g:Grd} {em:Bool} {ls:Addr} {gs:List GI} {P:PW} {r:ST} (hj:i0 ≠ ig ∧ i0 ≠ ir ∧ i0 ≠ ic ∧ ig ≠ ir ∧ ig ≠ ic ∧ ir ≠ ic ∧ ig < v.length ∧ ir < v.length ∧ ic < v.length) (hB:BAt H b n g em) (nl:ls ∉ b.own) (hl:H ls = some (.lst (gs.map (GI.lv B))))
    (hG:∀ gi, gi ∈ gs → gi.d ∉ b.own ∧ gi.a ∉ b.own ∧ H gi.d = some (.ns (gns gi.c gi.a true)) ∧ H gi.a = some (.pset gi.P) ∧ ∀ p, p ∈ gi.P → On n p) (ea:vget v ia = some (.ref ls)) (e0:vget v i0 = some (.inst B.bc b.x b.d))
    (h:∀ H' v', Ag [ig, ir, ic] v v' → Fr b.own H H' → BAt H' b n (clrG g gs) em → r G k v' H' P) :
    sFor (g1 ig) (tItV (tVar ia)) (sFrz (g2 ir ic) (tItV (tAttr (tVar ig) (ofString "points"))) (sSet (tSub (tAttr (tVar i0) (ofString "board")) (tVar ir)) (tVar ic) (tC .none) sNil) sNil) r G k v H P := by
  obtain ⟨j1, j2, j3, j4, j5, j6, j7, j8, j9⟩ := hj;have c1 : [ig, ir, ic].contains ig = true := ct0;have c3 : [ig, ir, ic].contains i0 = false := ctN j1 (ctN j2 (ctN j3 rfl));refine ⟨stpL G, vgv ea (IV_list hl (LFor.ys _ (gs.map (GI.lv B)) (fun i v' H' => Ag [ig, ir, ic] v v' ∧ Fr b.own H H' ∧ BAt H' b n (clrG g (gs.take i)) em) (ys_list rfl) ⟨.refl, Fr.refl _ _, by rw [List.take_zero, clrG_nil]; exact hB⟩ (fun i H' v' ⟨a, hF, _⟩ => ⟨a.l, hF _ _ nl hl⟩) (fun P' i lv H' hP hi v' ⟨a, hF, hBk⟩ => ?_) fun H' v' ⟨a, hF, hB'⟩ => h H' v' a hF (by rwa [List.length_map, List.take_length] at hB')))⟩;obtain ⟨gi, hgi, rfl⟩ := Option.map_eq_some_iff.mp (by rw [List.getElem?_map] at hi; exact hi);obtain ⟨z1, z2, z5, z6, hon⟩ := hG gi (List.mem_of_getElem? hgi);have y5 := hF _ _ z1 z5;have y6 := hF _ _ z2 z6;have nda : gi.d ≠ gi.a := fun e => by rw [e, y6] at y5; cases y5
  have a2 := a.set (GI.lv B gi) c1;have e2 : vget (vset v' ig (GI.lv B gi)) ig = some (GI.lv B gi) := vget_eq (a.l ▸ j7);refine ⟨gi.a, gi.P, y6, fun W ob hp => ⟨stpP G, vgv e2 (at_gpts B (miss nda y5) (IV_set hit ?_))⟩⟩;refine set_loop B none ⟨j2, j3, j6, by rw [vset_len, a.l]; exact j8, by rw [vset_len, a.l]; exact j9⟩ (ys_set (ws := W) rfl) (hBk.hset y6 rfl) (fun c q => nomatch q) (fun p hp' => hon p (hp.mem_iff.mp hp')) (fun H' hF' => hF' _ _ z2 hit) (fun q => q) (a2.g c3 e0) fun H'' v'' a3 hF' hBk' => ?_;have w6 := hF' _ _ z2 hit;refine ⟨w6, hP.n ⟨⟨a3.l.trans a2.l, fun hi e => a3.g ?_ (a2.g hi e)⟩, fun c o hc ho => ?_, ?_⟩⟩
  · rw [List.contains_cons, Bool.or_eq_false_iff] at hi; exact hi.2
  · by_cases e : c = gi.a
    · cases z6.symm.trans (e ▸ ho); rw [e]; exact hit
    · exact miss e (hF' _ _ hc (miss e (hF _ _ hc ho)))
  · rw [List.take_add_one, hgi];show BAt _ _ _ (clrG g (gs.take i ++ [gi])) _;rw [← clrG_snoc hp]; exact hBk'.hset w6 rfl
end
section
theorem EV_Glob {G:Gl} {k:Nat} {fl:Bool} {sc:Scope} {m:Loc} {H:Hp} {Q:Qv} {X:Xc} {x:Str} {p:Pos} {a:Addr} (hx:sc.names.lookup x = some .globalImplicit) (hg:GNm G x (.ref a)) (h:Q (.ref a) H) (hd:(x == ("__debug__" : Str)) = false := by decide +kernel) : EV G k fl sc (.Name x p) m H Q X :=
  fun env A C Z s hs I => I.name (by show env.scope.names.lookup x = _; rw [hs]; exact hx) hg hd ⟨C, .ref a, H, Cle.refl C, I, rfl, h⟩
theorem op_col {c:Str} (hc:IsCol c) : ([(sb, LV.str sw), (sw, LV.str sb)] : List (Str × LV)).lookup c = some (.str (if c = sb then sw else sb)) := by
  rcases hc with rfl | rfl
  · rw [if_pos rfl, List.lookup_cons, beq_self_eq_true]
  · rw [if_neg (by decide +kernel), List.lookup_cons, (by decide +kernel : (sw == sb) = false)];show List.lookup sw [(sw, LV.str sb)] = _;rw [List.lookup_cons, beq_self_eq_true]
theorem CALL_op {G:Gl} (B:BW G) {k:Nat} {H:Hp} {Q:Qv} {X:Xc} {c:Str} (hc:IsCol c) (h:Q (.str (if c = sb then sw else sb)) H) : CALL G (k + 1) (.ref B.fop) [.str c] H Q X :=
  CALL_of (CODE_fn B.n_op.2.2 1 rfl (by decide +kernel) (EXS_at (m' := [("colour", some (.str c))]) rfl (EXS_cons (EX_Try (T := "KeyError") (by decide +kernel) B.n_ke (by decide +kernel) (by rfl) (by rfl)
    (EXS_cons (EX_Return (EV_odict B.opd (op_col hc) (EV_Glob (by decide +kernel) B.n_opd ⟨rfl, EV_Name (.head _) ⟨rfl, h⟩⟩))))))))
theorem CALL_ie {G:Gl} (B:BW G) {k:Nat} {H:Hp} {Q:Qv} {X:Xc} {b:Bd} {n:Nat} {g:Grd} {em:Bool} (hB:BAt H b n g em) (h:Q (.bool em) H) : CALL G (k + 1) (.ref B.fie) [.inst B.bc b.x b.d] H Q X :=
  CALL_of (CODE_q B.m_ie.2.2.2 B.hh 1 rfl (by decide +kernel) [some (.inst B.bc b.x b.d)] is_ie rfl rfl rfl fun P hP => at_emp B hB (hP.r h))
theorem off_r {n:Nat} {i j:Int} (h:decide (i < 0) = true) : ¬ On n (i, j) := fun o => Int.not_lt.mpr o.1 (of_decide_eq_true h)
theorem off_c {n:Nat} {i j:Int} (h:decide (j < 0) = true) : ¬ On n (i, j) := fun o => Int.not_lt.mpr o.2.2.1 (of_decide_eq_true h)
theorem ge_0 {i:Int} (h:decide (i < 0) = false) : 0 ≤ i := Int.not_lt.mp (of_decide_eq_false h)
theorem ifJ_neg {G:Gl} (B:BW G) (hr:G.hr = true) {k ir ic:Nat} {v:VF} {H:Hp} {i j:Int} {n:Nat} {P:PW} {r:ST} (e1:vget v ir = some (.int i)) (e2:vget v ic = some (.int j)) (hx:¬ On n (i, j) → P.x v ("IndexError", true) H) (h:0 ≤ i → 0 ≤ j → r G k v H P) :
    sIfJ (tOr (tCmpT .Lt (tVar ir) (tC (.int 0))) (tOr (tCmpT .Lt (tVar ic) (tC (.int 0))) (tLit false))) (sRs "IndexError") r G k v H P :=
  vgv e1 ⟨_, rfl, fun q => ⟨fun ww => ⟨hr, B.n_ie, hx (off_r q)⟩, (fun z => nomatch z)⟩, fun q1 => vgv e2 ⟨_, rfl, fun q => ⟨fun ww => ⟨hr, B.n_ie, hx (off_c q)⟩, (fun z => nomatch z)⟩, fun q2 => ⟨(fun z => nomatch z), fun ww => h (ge_0 q1) (ge_0 q2)⟩⟩⟩
theorem CALL_ge {G:Gl} (B:BW G) (hr:G.hr = true) {k:Nat} {H:Hp} {Q:Qv} {X:Xc} {b:Bd} {n:Nat} {g:Grd} {em:Bool} {i j:Int} (hB:BAt H b n g em) (h:On n (i, j) → Q (cv (g (i, j))) H) (hx:¬ On n (i, j) → X ("IndexError", true) H) (hb:i < 2 ^ 63 ∧ j < 2 ^ 63) : CALL G (k + 1) (.ref B.fge) [.inst B.bc b.x b.d, .int i, .int j] H Q X := by
  refine CALL_of (CODE_q B.m_ge.2.2.2 B.hh 3 rfl (by decide +kernel) [some (.inst B.bc b.x b.d), some (.int i), some (.int j)] is_ge rfl rfl rfl fun P hP => ?_);refine ifJ_neg B hr (n := n) rfl rfl (fun q => hP.x (hx q)) fun c1 c2 => ?_
  by_cases ho : On n (i, j)
  · exact LCell.mk B b n g em i j rfl rfl rfl hB ho (hP.r (h ho))
  · exact LCell.out B hr b n g em i j rfl rfl rfl hB c1 c2 hb.1 hb.2 ho (hP.x (hx ho))
theorem CALL_lo {G:Gl} (B:BW G) {k:Nat} {H:Hp} {Q:Qv} {X:Xc} {b:Bd} {n:Nat} {g:Grd} {em:Bool} (hB:BAt H b n g em)
    (h:∀ a H', Ext H H' → H a = none → H' a = some (.lst ((pts n).filterMap fun p => (g p).map fun c => .tup [.str c, pv p])) → Q (.ref a) H') : CALL G (k + 1) (.ref B.flo) [.inst B.bc b.x b.d] H Q X := by
  let v0 : VF := [some (.inst B.bc b.x b.d), none, none, none, none];refine CALL_of (CODE_q B.m_lo.2.2.2 B.hh 1 rfl (by decide +kernel) v0 is_lo rfl rfl rfl fun PP hPP => ?_);generalize hf : (fun p => (g p).map fun c => LV.tup [.str c, pv p]) = f at h;generalize hL : pts n = L at h;have hl : L.length ≤ 81 := hL ▸ Nat.le_trans (Nat.le_of_eq pts_length) (Nat.mul_le_mul hB.nine hB.nine);intro ls fls;have E1 : Ext H (Go.hset H ls (.lst [])) := (Ext.refl H).set fls;have hpl0 : H b.pl = some (.lst (L.map pv)) := hL ▸ hB.pl;refine ⟨stpL G, at_bpts B (hB.ext E1) (IV_list (E1 _ _ hpl0) ?_)⟩;let F_I : Option LV → Option LV → Option LV → VF := fun (o1:Option LV) (o2:Option LV) (o3:Option LV) => [some (.inst B.bc b.x b.d), some (.ref ls), o1, o2, o3];let I : Nat → VF → Hp → Prop := fun i v_ H' => El (fun p_ => ∀ (o1:Option LV) (o2:Option LV) (o3:Option LV), (Ext H H') → (H' ls = some (.lst ((L.take i).filterMap f))) → p_ (F_I o1 o2 o3)) v_;have hI : ∀ {i:Nat} {o1:Option LV} {o2:Option LV} {o3:Option LV} {H':Hp}, (Ext H H') → (H' ls = some (.lst ((L.take i).filterMap f))) → I i (F_I o1 o2 o3) H' := fun z0 z1 p_ k_ => k_ _ _ _ z0 z1;refine LFor.ys _ (L.map pv) I (ys_list rfl) (hI E1 hit) (fun i H' => El.el fun ww ww ww hE ww => ⟨rfl, hE _ _ hpl0⟩) (fun P2 i lv H' hP2 hi => El.el fun o1 o2 o3 hE h1 => ?_)
    fun H' => El.el fun o1 o2 o3 hE h1 => hPP.r (h ls H' hE fls (by rwa [List.length_map, List.take_length] at h1))
  obtain ⟨⟨row, col⟩, hr, rfl⟩ := Option.map_eq_some_iff.mp (by rw [List.getElem?_map] at hi; exact hi);have ht : (L.take (i + 1)).filterMap f = (L.take i).filterMap f ++ (f (row, col)).toList := by rw [List.take_add_one, hr, List.filterMap_append]; show _ ++ List.filterMap f [(row, col)] = _; rw [List.filterMap_cons]; cases f (row, col) <;> rfl
  have ho : On n (row, col) := mem_pts.mp (hL ▸ List.mem_of_getElem? hr);refine ⟨_, _, rfl, LCell.mk B b n g em row col rfl rfl rfl (hB.ext hE) ho ?_⟩;have hfp : f (row, col) = (g (row, col)).map fun c => LV.tup [.str c, pv (row, col)] := by rw [← hf]
  cases hg : g (row, col) with
  | none => exact BO_notNone ⟨_, rfl, (fun hx => nomatch hx), fun ww => hP2.n (hI hE (by rw [ht, hfp, hg]; exact h1.trans (congrArg (fun l => some (LO.lst l)) (List.append_nil _).symm)))⟩
  | some cc =>
    refine BO_notNone ⟨_, rfl, fun ww => ⟨_, _, bm_lapp, OfT_lst h1, CALL_append h1 ?_ (hP2.n (hI (hE.set fls) (hit.trans (by rw [ht, hfp, hg]; rfl))))⟩, fun hx => nomatch hx⟩;exact Nat.lt_of_le_of_lt (Nat.le_trans (List.length_filterMap_le _ _) (Nat.le_trans (List.length_take_le' i L) hl)) (by decide)
end
section
theorem LcI_grid {G:Gl} {k:Nat} {fl:Bool} {sc:Scope} {m:Loc} {H:Hp} {Q:Qv} {X:Xc} {n:Nat} {z ta tb xs:Str} {elt:Expr} {gens:List Comprehension} {scope:Scope} {pos q1 q2 q3 q4 q5 q6 q7 q8 q9 q10 q11:Pos} {kd:Nat} (hh:G.hn = true) (hn:n ≤ 60)
    (he:elt = .Tuple [.Name ta q1, .Name tb q2] kd q3) (hg:gens = [⟨.Name ta q4, .Call (.Name (ofString "range") q5) [.Name xs q6] [] q7, [], 0⟩, ⟨.Name tb q8, .Call (.Name (ofString "range") q9) [.Name xs q10] [] q11, [], 0⟩])
    (hr:GNm G (ofString "range") (.type "range")) (hm:(xs, some (.int n)) ∈ m) (hl0:sc.names.lookup (ofString "range") = some .globalImplicit) (l1:(relS scope sc).names.lookup ta = some .local) (l2:(relS scope sc).names.lookup tb = some .local) (l3:(relS scope sc).names.lookup (ofString "range") = some .globalImplicit)
    (hcomp:comp0 scope.names m = [(z, none), (ta, none), (tb, none), (xs, some (.int n))]) (hok:compOk scope sc m = true)
    (hc:nm xs = true ∧ nm ta = true ∧ nm tb = true) (h:∀ D H', H D = none → Ext H H' → H' D = some (.lst ((pts n).map pv)) → Q (.ref D) H') : LcI G k fl sc elt gens scope pos m H Q X := by
  subst he hg;have c7 : (ofString "range" == ("__debug__" : Str)) = false := by decide +kernel
  let g : Gd := ⟨ta, tb, xs, ofString "range", scope, pos, fun i => [q1, q1, q2, q3, q4, q5, q6, q7, q8, q9, q10, q11].getD i q1, kd⟩;have O : g.Ok G (relS scope sc) := ⟨hh, hr, l1, l2, l3, nm_ok hc.2.1, nm_ok hc.2.2, nm_ok hc.1, c7⟩;refine ⟨hok, stpN G, _, _, _, _, rfl, kd_fold rfl, IT_range hl0 hr (EV_Name hm ⟨n, rfl, Int.natCast_nonneg n, Int.ofNat_lt.mpr (Nat.lt_of_le_of_lt hn (by decide)), fun D hD => ?_⟩ O.nx.1 O.nx.2) O.nr fun env => kd_star rfl [] env⟩;rw [hcomp];exact CS_grid O hn hD fun m' H' a b => h D H' hD a b
noncomputable def gEmpty : Grd := fun ww => none
noncomputable def BNew (H:Hp) (b:Bd) : Prop := H b.d = none ∧ H b.pl = none ∧ H b.bl = none ∧ ∀ a, a ∈ b.rows → H a = none
theorem CODE_in {G:Gl} (B:BW G) {k:Nat} {H:Hp} {Q:Qv} {X:Xc} {x d:Addr} {n:Nat} (h2:2 ≤ n) (h9:n ≤ 9) (hd:H d = none)
    (h:∀ b H', b.x = x → b.d = d → Ext H H' → BNew H b → BAt H' b n gEmpty true → Q .none H') : CODE G (k + 1) (.ref B.fin) [.inst B.bc x d, .int n] (hset H d (.ns [])) Q X := by
  let v0 : VF := [some (.inst B.bc x d), some (.int n), none];refine CODE_q B.ib.2.2 B.hh 2 rfl (by decide +kernel) v0 is_in rfl rfl rfl fun PP hPP => ?_;refine SA_b1 B rfl hit ⟨_, rfl, (fun q => absurd (of_decide_eq_true q) (Int.not_lt.mpr (Int.ofNat_le.mpr h2))), fun ww => ?_⟩;refine fun fl Q' hQ' => LcI_grid (n := n) B.hh (Nat.le_trans h9 (by decide)) rfl rfl B.n_range (.tail _ (.head _)) (by decide +kernel) (by decide +kernel) (by decide +kernel) (by decide +kernel) (by rfl) (by rfl) (by decide +kernel) fun pl H1 hpl e1 p1 => hQ' _ _ ?_;have hd1 := e1 _ _ hit;have npd : pl ≠ d := fun e => by rw [e, hd1] at p1; cases p1
  have E1 : Ext H (Go.hset (Go.hset H d (.ns [])) d (.ns [(ofString "side", .int n)])) := ((Ext.refl H).set hd).set hd;have hp0 := E1.none hpl;have E2 := ((E1.trans e1).set (o := .ns [(ofString "side", .int n), (ofString "board_points", .ref pl)]) hd);refine SA_b2 B rfl hd1 fun bl hbl => ?_;have hbl0 := E2.none hbl;have nbd : bl ≠ d := (ne_of hbl hit).symm;have nbp : bl ≠ pl := (ne_of hbl (miss npd p1)).symm;refine SA_b3 B rfl (miss nbd.symm hit) ⟨stpN G, B.n_range, n, rfl, Int.natCast_nonneg n, Int.ofNat_lt.mpr (Nat.lt_of_le_of_lt h9 (by decide)), ?_⟩;let F_I : Option LV → VF := fun (o:Option LV) => [some (.inst B.bc x d), some (.int n), o];let I : Nat → VF → Hp → Prop := fun i v_ H' => El (fun p_ => ∀ (rs:List Addr) (o:Option LV), (Ext H H') → (rs.length = i) → (rs.Nodup) → ((∀ a, a ∈ rs → H a = none ∧ a ≠ bl ∧ H' a = some (.lst (List.replicate n .none)))) → (H' d = some (.ns [(ofString "side", .int n), (ofString "board_points", .ref pl), (ofString "board", .ref bl)])) → (H' pl = some (.lst ((pts n).map pv))) → (H' bl = some (.lst (rs.map .ref))) → p_ (F_I o)) v_;have hI : ∀ {i:Nat} {rs:List Addr} {o:Option LV} {H':Hp}, (Ext H H') → (rs.length = i) → (rs.Nodup) → ((∀ a, a ∈ rs → H a = none ∧ a ≠ bl ∧ H' a = some (.lst (List.replicate n .none)))) → (H' d = some (.ns [(ofString "side", .int n), (ofString "board_points", .ref pl), (ofString "board", .ref bl)])) → (H' pl = some (.lst ((pts n).map pv))) → (H' bl = some (.lst (rs.map .ref))) → I i (F_I o) H' := fun z0 z1 z2 z3 z4 z5 z6 p_ k_ => k_ _ _ z0 z1 z2 z3 z4 z5 z6;refine LFor.ys _ _ I (ys_range (n := n) (a := 0)) (hI (rs := []) ((E2.set hbl0).set hd) rfl List.nodup_nil (fun a q => nomatch q) hit (miss npd (miss nbp.symm (miss npd p1))) (miss nbd hit))
    (fun i H' => El.el fun ww ww ww ww ww ww ww ww ww => ⟨rfl, trivial⟩) (fun P2 i lv H' hP2 hi => El.el fun rs o hE hl nd hf k1 k2 k3 => ?_) fun H' => El.el fun rs o hE hl nd hf k1 k2 k3 => ?_
  · refine ⟨_, _, _, _, .ref bl, rfl, k1, B.ob, B.a_brd, by simp [List.lookup_cons, ne2, ne3], _, _, bm_lapp, OfT_lst k3, fun c hc => ?_⟩;refine BO_mull hit (Int.natCast_nonneg n) (Int.ofNat_le.mpr (Nat.le_trans h9 (by decide))) fun r hr => ?_;have nrc : c ≠ r := ne_of hr hit;have hc0 := hE.none hc;have hr1 := (hE.set (o := .lst [LV.none]) hc0).none hr;have hr0 : H' r = none := by rw [hset_ne _ _ nrc.symm] at hr; exact hr
    have ncb := ne_of hc k3;have nrb := ne_of hr0 k3;have hrs : ∀ a, a ∈ rs → a ≠ c ∧ a ≠ r := fun a q => ⟨ne_of hc (hf a q).2.2, ne_of hr0 (hf a q).2.2⟩;refine CALL_append (miss nrb (miss ncb k3)) ?_ (hP2.n (hI (rs := rs ++ [r]) (((hE.set hc0).set hr1).set hbl0) (by rw [List.length_append, hl]; rfl) ?_ (fun a ha => ?_) (miss nbd.symm (miss (ne_of hr0 k1) (miss (ne_of hc k1) k1))) (miss nbp.symm (miss (ne_of hr0 k2) (miss (ne_of hc k2) k2))) (hit.trans (by rw [List.map_append]; rfl))))
    · rw [List.length_map, hl];have := (List.getElem?_eq_some_iff.mp hi).1;rw [List.length_map, List.length_range] at this;exact Nat.lt_trans this (Nat.lt_of_le_of_lt h9 (by decide))
    · refine List.nodup_append.mpr ⟨nd, List.nodup_cons.mpr ⟨(fun q => nomatch q), List.nodup_nil⟩, fun a ha b hb => ?_⟩;rw [List.mem_singleton.mp hb]; exact (hrs a ha).2
    · rcases List.mem_append.mp ha with q | q
      · obtain ⟨f1, f2, f3⟩ := hf a q;exact ⟨f1, f2, miss f2 (miss (hrs a q).2 (miss (hrs a q).1 f3))⟩
      · rw [List.mem_singleton.mp q];exact ⟨hr1, nrb.symm, miss nrb.symm hit⟩
  · rw [List.length_map, List.length_range] at hl;refine SA_b4 B rfl k1 (hPP.n (h ⟨x, d, pl, bl, rs⟩ _ rfl rfl (hE.set hd) ⟨hd, hp0, hbl0, fun a ha => (hf a ha).1⟩ ⟨hit, miss npd k2, miss nbd k3, hl, fun i a q => ?_, nd, h2, h9, fun p c q => nomatch q⟩));obtain ⟨f1, f2, f3⟩ := hf a (List.mem_of_getElem? q);refine miss (fun e => by rw [e, k1] at f3; cases f3) (f3.trans ?_);simp [rowL, gEmpty, cv, List.map_const']
end
section
theorem CALL_board {G:Gl} (B:BW G) {k:Nat} {H:Hp} {Q:Qv} {X:Xc} {n:Nat} (h2:2 ≤ n) (h9:n ≤ 9) (h:∀ b H', Ext H H' → BNew H b → BAt H' b n gEmpty true → Q (.inst B.bc b.x b.d) H') : CALL G (k + 2) (.ref B.bc) [.int n] H Q X :=
  CALL_of (CODE_cls B.mb B.ib.1 B.ib.2.1 fun x d hd => CODE_in B h2 h9 hd fun b H' e1 e2 e3 e4 e5 => by subst e1; subst e2; exact ⟨rfl, h b H' e3 e4 e5⟩)
structure RowsI (n:Nat) (g:Grd) (H:Hp) (D:Addr) (i:Nat) (acc:List LV) (H':Hp) (rs:List Addr) : Prop where
  a : acc = rs.map .ref
  e : Ext H H'
  d : H D = none
  l : H' D = some (.lst acc)
  len : rs.length = i
  nd : rs.Nodup
  f : ∀ a, a ∈ rs → H a = none ∧ a ≠ D
  r : ∀ j a, rs[j]? = some a → H' a = some (.lst (rowL n g j))
theorem RowsI.add {n:Nat} {g:Grd} {H:Hp} {D r:Addr} {i:Nat} {acc:List LV} {H':Hp} {rs:List Addr} (R:RowsI n g H D i acc H' rs) (hr':H' r = none) : RowsI n g H D (i + 1) (acc ++ [.ref r]) (Go.hset (Go.hset H' r (.lst (rowL n g i))) D (.lst (acc ++ [.ref r]))) (rs ++ [r]) := by
  have hDr : D ≠ r := ne_of hr' R.l;have hr1 : H r = none := R.e.none hr';refine ⟨by rw [List.map_append, R.a]; rfl, (R.e.set hr1).set R.d, R.d, hit, by rw [List.length_append, R.len]; rfl, ?_, fun a ha => ?_, fun j a hj => ?_⟩
  · refine List.nodup_append.mpr ⟨R.nd, List.nodup_cons.mpr ⟨(fun q => nomatch q), List.nodup_nil⟩, fun a ha b hb => ?_⟩;rw [List.mem_singleton.mp hb]; rintro rfl;obtain ⟨j, hj⟩ := List.getElem?_of_mem ha;have := R.r j a hj; rw [hr'] at this; cases this
  · rcases List.mem_append.mp ha with q | q
    · exact R.f a q
    · rw [List.mem_singleton.mp q]; exact ⟨hr1, hDr.symm⟩
  · by_cases e : j < rs.length
    · rw [List.getElem?_append_left e] at hj;have h1 := R.r j a hj;exact miss (R.f a (List.mem_of_getElem? hj)).2 (miss (ne_of hr' h1) h1)
    · have h1 := (List.getElem?_eq_some_iff.mp hj).1;rw [List.length_append] at h1;obtain rfl : j = rs.length := Nat.le_antisymm (Nat.le_of_lt_succ h1) (Nat.not_lt.mp e);rw [List.getElem?_concat_length] at hj;cases hj;rw [R.len];exact miss hDr.symm hit
theorem CALL_cp {G:Gl} (B:BW G) {k:Nat} {H:Hp} {Q:Qv} {X:Xc} {b:Bd} {n:Nat} {g:Grd} {em:Bool} (hB:BAt H b n g em)
    (h:∀ b' H', Ext H H' → BNew H b' → BAt H' b' n g em → Q (.inst B.bc b'.x b'.d) H') : CALL G (k + 3) (.ref B.fcp) [.inst B.bc b.x b.d] H Q X := by
  let v0 : VF := [some (.inst B.bc b.x b.d), none];refine CALL_of (CODE_q B.m_cp.2.2.2 B.hh 1 rfl (by decide +kernel) v0 is_cp rfl rfl rfl fun PP hPP => ?_);refine ⟨_, B.n_board.1, .inr (.inr B.n_board.2), at_side B hB (CALL_board B hB.two hB.nine fun c H1 e1 nw bc => ?_)⟩;have hB1 := hB.ext e1;have hlen : ∀ i, (rowL n g i).length = n := fun i => by rw [rowL, List.length_map, List.length_range]
  refine ⟨stpN G, B.n_range, at_side B hB1 ⟨n, rfl, Int.natCast_nonneg n, Int.ofNat_lt.mpr (Nat.lt_of_le_of_lt hB.nine (by decide)), ?_⟩⟩;refine .gen _ _ (ys_range (n := n) (a := 0)) (fun D i acc H' => ∃ rs, RowsI n g H1 D i acc H' rs) (fun D hD => ⟨[], rfl, (Ext.refl _).set hD, hD, hit, rfl, List.nodup_nil, (fun a q => nomatch q), fun j a q => nomatch q⟩) (fun ww ww ww ww ww => trivial) (fun D i lv acc H' hi ⟨rs, R⟩ => ?_) fun D acc H' hD ⟨rs, R⟩ => ?_
  · obtain ⟨i', hi', rfl⟩ := Option.map_eq_some_iff.mp (by rw [List.getElem?_map] at hi; exact hi);have hin := (List.getElem?_eq_some_iff.mp hi').1;rw [List.length_range] at hin;rw [List.getElem?_range hin] at hi';cases hi';have hBk := hB1.ext R.e;obtain ⟨a, ha, hrow⟩ := row_at hBk (i := 0 + (i:Int)) (by rw [Int.zero_add]; exact Int.natCast_nonneg i) (by rw [Int.zero_add]; exact Int.ofNat_lt.mpr hin);have ei : (0 + (i:Int)).toNat = i := by rw [Int.zero_add]; rfl
    rw [ei] at hrow;have h3 : ∀ {m}, m ≤ 9 → m ≤ 4096 := fun h => Nat.le_trans h (by decide);refine fun o0 o1 => ⟨fun q => (nomatch q), fun ww => at_brd B hBk ⟨SubT_lst hBk.bl, BO_item_list hBk.bl (by rw [Int.zero_add]; exact Int.natCast_nonneg i) ha ⟨rowL n g i, hrow, (hlen i).symm ▸ h3 hB.nine, (fun q => nomatch q), by rw [pickL_all, hlen]; exact h3 hB.nine, SubT_lst hrow, fun r hr' => ?_⟩⟩⟩;rw [pickL_all];exact ⟨miss (ne_of hr' R.l) R.l, by rw [R.a, List.length_map, R.len]; exact Nat.lt_of_lt_of_le hin (h3 hB.nine), _, R.add hr'⟩
  rw [List.length_map, List.length_range] at R;obtain ⟨ha, hE, _, hL, hl, nd, hf, hr⟩ := R;subst ha;have hc1 := hE _ _ bc.ns;have hpl := hE _ _ bc.pl;have hE0 := e1.trans hE;have hDc : D ≠ c.d := (ne_of hD bc.ns).symm;have npc : c.pl ≠ c.d := fun e => by rw [e, hc1] at hpl; cases hpl
  have E2 := (hE0.set (o := .ns (bns n c.pl D true)) nw.1);refine SA_brd B rfl hc1 (at_emp B (hB.ext E2) (SA_emp B rfl hit (hPP.r ?_)));refine h ⟨c.x, c.d, c.pl, D, rs⟩ _ (E2.set nw.1) ⟨nw.1, nw.2.1, e1.none hD, fun a ha => e1.none (hf a ha).1⟩ ⟨hit, miss npc (miss npc hpl), miss hDc (miss hDc hL), hl, fun j a q => ?_, nd, hB.two, hB.nine, hB.col⟩;have n1 : a ≠ c.d := (ne_of (hf a (List.mem_of_getElem? q)).1 bc.ns).symm;exact miss n1 (miss n1 (hr j a q))
end
section
noncomputable def putG (g:Grd) (Lb Lw Le:List Pt) : Grd := setAll (setAll (setAll g Lb (some sb)) Lw (some sw)) Le none
theorem LstOf_ref {H:Hp} {a:Addr} {vs:List LV} (h:H a = some (.lst vs)) : LstOf H (.ref a) vs := h
theorem off_loop {G:Gl} (B:BW G) (hr:G.hr = true) {k i0 ir ic:Nat} {v:VF} {H:Hp} {b:Bd} {n:Nat} {g:Grd} {em:Bool} {al:Addr} {L:List Pt} {P:PW} {R:VF → Hp → Prop} (hj:i0 ≠ ir ∧ i0 ≠ ic ∧ ir ≠ ic ∧ ir < v.length ∧ ic < v.length) (hl:H al = some (.lst (L.map pv))) (hB:BAt H b n g em) (e0:vget v i0 = some (.inst B.bc b.x b.d))
    (hx:(¬ ∀ p, p ∈ L → On n p) → ∀ v, P.x v ("IndexError", true) H) (h:(∀ p, p ∈ L → On n p) → ∀ v', Ag [ir, ic] v v' → R v' H) :
    LFor (stpL G) (al, 0) v.length v H R P fun lv v1 H1 P' => g2 ir ic H1 lv v1 fun v2 => sIfJ (tOff i0 ir ic) (sRs "IndexError") sNil G k v2 H1 P' := by
  refine LFor.ys _ (L.map pv) (fun i v' H' => Ag [ir, ic] v v' ∧ H' = H ∧ ∀ p, p ∈ L.take i → On n p) (ys_list rfl) ⟨.refl, rfl, fun p q => by rw [List.take_zero] at q; cases q⟩ (fun i H' v' ⟨a, e, _⟩ => ⟨a.l, e ▸ hl⟩) (fun P' i lv H' hP hi v' ⟨a, e, hall⟩ => ?_) fun H' v' ⟨a, e, hall⟩ => by
    rw [List.length_map, List.take_length] at hall; subst e; exact h hall v' a
  subst e;obtain ⟨⟨x, y⟩, hr', rfl⟩ := Option.map_eq_some_iff.mp (by rw [List.getElem?_map] at hi; exact hi);obtain ⟨j1, j2, j3, j4, j5⟩ := hj;have a2 := (a.set (.int x) (j := ir) (by simp)).set (.int y) (j := ic) (by simp);refine ⟨_, _, rfl, ifJ_off ⟨B, b, n, g, em, x, y, a2.g (by simp [j1, j2]) e0, (vget_ne j3).trans (vget_eq (a.l ▸ j4)), vget_eq (by rw [vset_len, a.l]; exact j5), hB, fun q => ⟨hr, B.n_ie, hP.x (hx (fun z => ?_) _)⟩, fun q => hP.n ⟨a2, rfl, fun p hp => ?_⟩⟩⟩
  · rw [decide_eq_true (z _ (List.mem_of_getElem? hr'))] at q; cases q
  · rw [List.take_add_one, hr'] at hp;rcases List.mem_append.mp hp with z | z
    · exact hall p z
    · rw [List.mem_singleton.mp z]; exact on_of q
theorem CALL_as {G:Gl} (B:BW G) (hr:G.hr = true) {k:Nat} {H:Hp} {Q:Qv} {X:Xc} {b:Bd} {n:Nat} {g:Grd} {em:Bool} {ab aw ae:Addr} {Lb Lw Le:List Pt} (hB:BAt H b n g em) (few:Few n (putG g Lb Lw Le))
    (hb:H ab = some (.lst (Lb.map pv))) (hw:H aw = some (.lst (Lw.map pv))) (he:H ae = some (.lst (Le.map pv))) (hlen:Lb.length + Lw.length + Le.length ≤ 4000)
    (h:(∀ p, p ∈ Lb ++ Lw ++ Le → On n p) → ∀ H' g2 em' leg, Fr b.own H H' → BAt H' b n g2 em' → Breathed n (putG g Lb Lw Le) g2 → (em' = true ↔ ∀ p, On n p → g2 p = none) → (leg = true ↔ Legal n (putG g Lb Lw Le)) → Q (.bool leg) H')
    (hx:(¬ ∀ p, p ∈ Lb ++ Lw ++ Le → On n p) → ∀ H', Ext H H' → X ("IndexError", true) H') :
    CALL G (k + 5) (.ref B.fas) [.inst B.bc b.x b.d, .ref ab, .ref aw, .ref ae] H Q X := by
  let v0 : VF := [some (.inst B.bc b.x b.d), some (.ref ab), some (.ref aw), some (.ref ae), none, none, none, none];refine CALL_of (CODE_q B.m_as.2.2.2 B.hh 4 rfl (by decide +kernel) v0 is_as rfl rfl rfl fun PP hPP => ?_);have hmap : Lb.map pv ++ Lw.map pv ++ Le.map pv = (Lb ++ Lw ++ Le).map pv := by rw [List.map_append, List.map_append]
  have z1 : (Lb.map pv).length ≤ 4096 := by rw [List.length_map]; omega
  have z2 : (Lw.map pv).length ≤ 4096 := by rw [List.length_map]; omega
  have z3 : (Le.map pv).length ≤ 4096 := by rw [List.length_map]; omega
  have z4 : (Lb.map pv).length + (Lw.map pv).length ≤ 4096 := by rw [List.length_map, List.length_map]; omega
  have z5 : (Lb.map pv ++ Lw.map pv).length + (Le.map pv).length ≤ 4096 := by rw [List.length_append, List.length_map, List.length_map, List.length_map]; omega
  refine ⟨stpL G, _, B.n_list, .inr (.inl ⟨_, rfl⟩), CALL_list (vs := Lb.map pv) hb z1 fun a1 f1 => ⟨_, B.n_list, .inr (.inl ⟨_, rfl⟩), ?_⟩⟩;have E1 := (Ext.refl H).set (o := .lst (Lb.map pv)) f1;refine CALL_list (vs := Lw.map pv) (LstOf_ref (E1 _ _ hw)) z2 fun a2 f2 => ?_;have E2 := E1.set (o := .lst (Lw.map pv)) (E1.none f2);refine BO_addl (vs := Lb.map pv) (ws := Lw.map pv) (LstOf_ref (miss (ne_of f2 hit) hit)) (LstOf_ref hit) z4 fun a3 f3 => ⟨_, B.n_list, .inr (.inl ⟨_, rfl⟩), ?_⟩;have E3 := E2.set (o := .lst (Lb.map pv ++ Lw.map pv)) (E2.none f3);refine CALL_list (vs := Le.map pv) (LstOf_ref (E3 _ _ he)) z3 fun a4 f4 => ?_;have E4 := E3.set (o := .lst (Le.map pv)) (E3.none f4);refine BO_addl (vs := Lb.map pv ++ Lw.map pv) (ws := Le.map pv) (LstOf_ref (miss (ne_of f4 hit) hit)) (LstOf_ref hit) z5 fun a5 f5 => IV_list (vs := (Lb ++ Lw ++ Le).map pv) (by rw [← hmap]; exact hit) ?_;have E5 := E4.set (o := .lst (Lb.map pv ++ Lw.map pv ++ Le.map pv)) (E4.none f5);have hH5 : hset (hset (hset (hset (hset H a1 (.lst (Lb.map pv))) a2 (.lst (Lw.map pv))) a3 (.lst (Lb.map pv ++ Lw.map pv))) a4 (.lst (Le.map pv))) a5 (.lst (Lb.map pv ++ Lw.map pv ++ Le.map pv)) a5 = some (.lst ((Lb ++ Lw ++ Le).map pv)) := hit.trans (by rw [hmap]);generalize hset (hset (hset (hset (hset H a1 (.lst (Lb.map pv))) a2 (.lst (Lw.map pv))) a3 (.lst (Lb.map pv ++ Lw.map pv))) a4 (.lst (Le.map pv))) a5 (.lst (Lb.map pv ++ Lw.map pv ++ Le.map pv)) = H0 at E5 hH5;have jj : 0 ≠ 4 ∧ 0 ≠ 5 ∧ 4 ≠ 5 ∧ 4 < 8 ∧ 5 < 8 := by decide
  refine off_loop B hr jj hH5 (hB.ext E5) rfl (fun q v => hPP.x (hx q _ E5)) fun hall v1 g1 => ?_;replace h := h hall;clear hx f1 f2 f3 f4 f5 hmap hH5 E1 E2 E3 E4 z1 z2 z3 z4 z5;have hB0 := hB.ext E5;have own : ∀ {a:Addr} {L:List Pt}, H a = some (.lst (L.map pv)) → ∀ {H'}, Fr b.own H H' → H' a = some (.lst (L.map pv)) := fun h ww hF => hF _ _ (hB.notOwn h pv_notC) h;have F0 : Fr b.own H H0 := E5.fr _;refine ⟨stpL G, vgv (g1.g rfl rfl) (IV_list (own hb F0) (set_loop B (some sb) (by rw [g1.l]; exact jj) (ys_list rfl) hB0 (fun c q => .inl (Option.some.inj q).symm) (fun p hp => hall p (List.mem_append_left _ (List.mem_append_left _ hp))) (fun H' hF => own hb (F0.trans hF)) (fun q => q) (g1.g rfl rfl) fun H2 v2 g2 F2 hB2 => ?_))⟩;replace F2 := F0.trans F2;have a2 : Ag [4, 5] v0 v2 := ⟨g2.l.trans g1.l, fun hi e => g2.g hi (g1.g hi e)⟩;refine ⟨stpL G, vgv (a2.g rfl rfl) (IV_list (own hw F2) (set_loop B (some sw) (by rw [a2.l]; exact jj) (ys_list rfl) hB2 (fun c q => .inr (Option.some.inj q).symm) (fun p hp => hall p (List.mem_append_left _ (List.mem_append_right _ hp))) (fun H' hF => own hw (F2.trans hF)) (fun q => q) (a2.g rfl rfl) fun H3 v3 g3 F3 hB3 => ?_))⟩;replace F3 := F2.trans F3;have a3 : Ag [4, 5] v0 v3 := ⟨g3.l.trans a2.l, fun hi e => g3.g hi (a2.g hi e)⟩;refine ⟨stpL G, vgv (a3.g rfl rfl) (IV_list (own he F3) (set_loop B none (by rw [a3.l]; exact jj) (ys_list rfl) hB3 (fun c q => nomatch q) (fun p hp => hall p (List.mem_append_right _ hp)) (fun H' hF => own he (F3.trans hF)) (fun q => q) (a3.g rfl rfl) fun H4 v4 g4 F4 hB4 => ?_))⟩;replace F4 := F3.trans F4;have a4 : Ag [4, 5] v0 v4 := ⟨g4.l.trans a3.l, fun hi e => g4.g hi (a3.g hi e)⟩
  change BAt H4 b n (putG g Lb Lw Le) em at hB4
  generalize putG g Lb Lw Le = gg at h hB4 few;refine vgv (a4.g rfl rfl) (lm B B.m_fa (by decide +kernel) hB4.ns (CALL_fa B hB4 few fun ls gs H6 hs e6 fls hls hG hFG => ?_));have hB6 := hB4.ext e6;have nls := hB4.own0 fls;have hl4 : v4.length = 8 := a4.l;refine clear_loop B (i0 := 0) (v := vset v4 6 (.ref ls)) (by rw [vset_len, hl4]; decide) hB6 nls hls (fun gi hgi => ?_) (vget_eq (hl4 ▸ by decide)) ((vget_ne (by decide)).trans (a4.g rfl rfl)) fun H7 v7 g7 F7 hB7 => ?_
  · obtain ⟨q1, q2, q3, q4, q5, q6⟩ := hG gi hgi;obtain ⟨_, p0, _, o0, _, _, hP⟩ := hFG.g1 gi hgi;exact ⟨hB4.own0 q1, hB4.own0 q2, q5, q6, fun p hp => ((hP _).mp hp).on o0⟩
  have hls7 := F7 _ _ nls hls;have e0 : vget v7 0 = some (.inst B.bc b.x b.d) := g7.g rfl ((vget_ne (by decide)).trans (a4.g rfl rfl));have e6' : vget v7 6 = some (.ref ls) := g7.g rfl (vget_eq (hl4 ▸ by decide));have hl7 : v7.length = 8 := g7.l.trans ((vset_len _ _ _).trans hl4);have hlg : (!!(gs.map (GI.lv B)).isEmpty) = true ↔ Legal n gg := by rw [← hFG.legal, Bool.not_not, List.isEmpty_iff, List.map_eq_nil_iff]
  have hbr := hFG.breathed;have F8 : Fr b.own H H7 := (F4.trans (e6.fr _)).trans F7;generalize clrG gg gs = g2 at hB7 hbr;have nld : ls ≠ b.d := fun e => nls (e ▸ .head _);have hB8 := hB7.em true;have F9 := F8.hset (.ns (bns n b.pl b.bl true)) (.inl (.head _));clear F8 hG hFG F7 F4 e6 g7;have hls8 : hset H7 b.d (.ns (bns n b.pl b.bl true)) ls = some (.lst (gs.map (GI.lv B))) := miss nld hls7;refine vgv e0 (SA_emp B rfl hB7.ns ?_);generalize hset H7 b.d (.ns (bns n b.pl b.bl true)) = H8 at hB8 F9 hls8;refine ⟨stpL G, vgv e0 (at_bpts B hB8 (IV_list hB8.pl (LFor.ys _ ((pts n).map pv) (fun i v' H' => Ag [4, 5] v7 v' ∧ H' = H8 ∧ ∀ p, p ∈ (pts n).take i → g2 p = none) (ys_list rfl) ⟨.refl, rfl, fun p q => by rw [List.take_zero] at q; cases q⟩ (fun i H' v' ⟨a, e, _⟩ => ⟨a.l, e ▸ hB8.pl⟩) (fun P' i lv H' hP hi v' ⟨a, e, hN⟩ => ?_) fun H' v' ⟨a, e, hN⟩ => ?_)))⟩
  · subst e;obtain ⟨⟨x, y⟩, hr', rfl⟩ := Option.map_eq_some_iff.mp (by rw [List.getElem?_map] at hi; exact hi);have ho : On n (x, y) := mem_pts.mp (List.mem_of_getElem? hr');have a2 := (a.set (.int x) (j := 4) rfl).set (.int y) (j := 5) rfl;refine ⟨_, _, rfl, LCell.mk B b n g2 true x y (a2.g rfl e0) ((vget_ne (by decide)).trans (vget_eq (by rw [a.l, hl7]; decide))) (vget_eq (by rw [vset_len, a.l, hl7]; decide)) hB8 ho ?_⟩;cases hg : g2 (x, y) with
    | none =>
      refine BO_notNone ⟨_, rfl, (fun q => nomatch q), fun ww => hP.n ⟨a2, rfl, fun p hp => ?_⟩⟩;rw [List.take_add_one, hr'] at hp;rcases List.mem_append.mp hp with z | z
      · exact hN p z
      · rw [List.mem_singleton.mp z]; exact hg
    | some cc =>
      refine BO_notNone ⟨_, rfl, fun ww => vgv (a2.g rfl e0) (SA_emp B rfl hB8.ns (hP.b (vgv (a2.g rfl e6') ⟨_, truth_lst (miss nld hls8), hPP.r (h _ g2 false _ (F9.hset _ (.inl (.head _))) (hB8.em false) hbr ⟨(fun q => nomatch q), fun q => nomatch hg.symm.trans (q _ ho)⟩ hlg)⟩))), (fun q => nomatch q)⟩
  · subst e;rw [List.length_map, List.take_length] at hN;exact vgv (a.g rfl e6') ⟨_, truth_lst hls8, hPP.r (h _ g2 true _ F9 hB8 hbr ⟨fun ww p hp => hN p (mem_pts.mpr hp), fun ww => rfl⟩ hlg)⟩
end
section
noncomputable def kov : Option Pt → LV
  | none => .none
  | some p => pv p
theorem mulOk {n:Nat} (h:n ≤ 9) : IntMulOk (n:Int) (n:Int) :=
  have z : ∀ n : Fin 10, IntMulOk ((n.1 : Nat) : Int) ((n.1 : Nat) : Int) := fun n => IntMulOk.of_left (by revert n; decide +kernel)
  z ⟨n, Nat.lt_succ_of_le h⟩
theorem fm_sel {α β:Type} (F:α → β) (f:β → Option β) (p:α → Bool) : ∀ (l:List α), (∀ a, a ∈ l → f (F a) = if p a then some (F a) else none) → (l.map F).filterMap f = (l.filter p).map F
  | [], _ => rfl
  | a :: t, h => by
    rw [List.map_cons, List.filterMap_cons, h a (by simp), List.filter_cons, fm_sel F f p t fun b hb => h b (List.mem_cons_of_mem _ hb)];cases p a <;> simp
theorem len_eq {n:Nat} (m:Nat) (h:((n:Int) == (m:Int)) = true) : n = m := Int.ofNat.inj (eq_of_beq h)
theorem len_ne {n:Nat} (m:Nat) (h:((n:Int) == (m:Int)) = false) : n ≠ m := fun e => by rw [e, beq_self_eq_true] at h; cases h
theorem LC_sel {G:Gl} (B:BW G) {k i:Nat} {v:VF} {H:Hp} {Q:Qv} {X:Xc} {col:Str} {gs:List GI} {ls:Addr} {it:Nat} (hls:H ls = some (.lst (gs.map (GI.lv B)))) (hG:∀ gi, gi ∈ gs → H gi.d = some (.ns (gns gi.c gi.a true))) (hgl:gs.length ≤ 4096) (hGc:∀ gi, gi ∈ gs → IsCol gi.c) (hc:IsCol col)
    (e1:vget v it = some (.ref ls)) (e2:vget v i = some (.str col)) (h:∀ D H', H D = none → Ext H H' → H' D = some (.lst ((gs.filter fun gi => decide (gi.c = col)).map (GI.lv B))) → Q (.ref D) H') :
    tLc [none, none, some i] (tItV (tVar it)) (g1 1) (tCmpT .Eq (tAttr (tVar 1) (ofString "colour")) (tVar 2)) (tVar 1) G k v H Q X := by
  obtain ⟨f, hf⟩ : ∃ f : LV → Option LV, ∀ gi, gi ∈ gs → f (GI.lv B gi) = if decide (gi.c = col) = true then some (GI.lv B gi) else none := by
    refine ⟨fun lv => @ite _ (∃ gi, gi ∈ gs ∧ GI.lv B gi = lv ∧ gi.c = col) (Classical.propDecidable _) (some lv) none, fun gi hgi => ?_⟩
    by_cases e : gi.c = col
    · rw [if_pos (decide_eq_true e)]; exact if_pos ⟨gi, hgi, rfl, e⟩
    · rw [if_neg (fun q => e (of_decide_eq_true q))];refine if_neg fun ⟨gj, g1, g2, g3⟩ => e ?_;obtain ⟨_, _, hd⟩ := LV.inst.inj g2;have q := (hd ▸ hG gj g1 : H gi.d = _).symm.trans (hG gi hgi);exact (LV.str.inj (congrArg Prod.snd (List.cons.inj (LO.ns.inj (Option.some.inj q))).1)).symm.trans g3
  refine ⟨stpL G, vgv e1 (IV_list hls (LLC.fm _ (gs.map (GI.lv B)) f (ys_list rfl) (fun H' e => e _ _ hls) (by rw [List.length_map]; exact hgl) (fun lv hlv H3 K0 K1 e k0 k1 => ?_) fun D H' q1 q2 q3 => h D H' q1 q2 (by rw [fm_sel _ _ _ _ hf] at q3; exact q3)))⟩;obtain ⟨gi, hgi, rfl⟩ := List.mem_map.mp hlv;have hfg := hf gi hgi;exact fun ww ww => vgv e2 (at_gcol B (e _ _ (hG gi hgi)) (BO_eqs (hGc gi hgi) hc ⟨_, rfl, fun q => k0 (hfg.trans (if_neg (by rw [q]; exact Bool.noConfusion))) _ (Ext.refl _), fun q => k1 _ (hfg.trans (if_pos q)) _ (Ext.refl _)⟩))
theorem CALL_pl {G:Gl} (B:BW G) (hr:G.hr = true) {k:Nat} {H:Hp} {Q:Qv} {X:Xc} {b:Bd} {n:Nat} {g:Grd} {em:Bool} {i j:Int} {c:Str} (hB:BAt H b n g em) (hc:IsCol c) (hl:Legal n g) (few:On n (i, j) → Few n (gset g (i, j) (some c))) (hb:i < 2 ^ 63 ∧ j < 2 ^ 63)
    (hx:¬ On n (i, j) → ∀ H', Ext H H' → X ("IndexError", true) H') (ht:On n (i, j) → g (i, j) ≠ none → ∀ H', Ext H H' → X ("ValueError", true) H')
    (h:On n (i, j) → g (i, j) = none → ∀ H' g2 em' ko, Fr b.own H H' → BAt H' b n g2 em' → Played n (gset g (i, j) (some c)) c g2 → (em' = true ↔ ∀ p, On n p → g2 p = none) → (∀ q, ko = some q ↔ KoAt n (gset g (i, j) (some c)) c (i, j) q) → Q (kov ko) H') :
    CALL G (k + 5) (.ref B.fpl) [.inst B.bc b.x b.d, .int i, .int j, .str c] H Q X := by
  let v0 : VF := [some (.inst B.bc b.x b.d), some (.int i), some (.int j), some (.str c), none, none, none, none, none, none, none, none];refine CALL_of (CODE_q B.m_pl.2.2.2 B.hh 4 rfl (by decide +kernel) v0 is_pl rfl rfl rfl fun PP hPP => ?_);refine ifJ_neg B hr (n := n) rfl rfl (fun q => hPP.x (hx q _ (Ext.refl _))) fun c1 c2 => ⟨_, B.n_op.1, .inr (.inr B.n_op.2.1), CALL_op B hc ?_⟩;have hopc : IsCol (if c = sb then sw else sb) := by split; exact .inr rfl; exact .inl rfl
  have hopp : ∀ x, IsCol x → (x = (if c = sb then sw else sb) ↔ x ≠ c) := fun x hx => by
    have e : sw ≠ sb := by decide +kernel
    rcases hc with rfl | rfl <;> rcases hx with rfl | rfl <;> simp [e, e.symm]
  generalize (if c = sb then sw else sb) = opp at hopc hopp
  by_cases hon : On n (i, j)
  case neg => exact LCell.out B hr b n g em i j rfl rfl rfl hB c1 c2 hb.1 hb.2 hon (hPP.x (hx hon _ (Ext.refl _)))
  have few := few hon;refine LCell.mk B b n g em i j rfl rfl rfl hB hon ?_;cases hg : g (i, j) with
  | some cc => exact BO_notNone ⟨_, rfl, fun ww => ⟨hr, B.n_ve, hPP.x (ht hon (fun q => nomatch hg.symm.trans q) _ (Ext.refl _))⟩, (fun z => nomatch z)⟩
  | none =>
  refine BO_notNone ⟨_, rfl, (fun z => nomatch z), fun ww => ?_⟩;replace h := h hon hg;clear hx ht c1 c2;refine set_cell B (some c) rfl rfl rfl hB hon (fun x q => Option.some.inj q ▸ hc) (fun q => q) fun H1 hB1 hF1 => SA_emp B rfl hB1.ns ?_;have hB2 := hB1.em false;have hF2 : Fr b.own H (Go.hset H1 b.d (.ns (bns n b.pl b.bl false))) := hF1.hset _ (.inl (.head _));generalize Go.hset H1 b.d (.ns (bns n b.pl b.bl false)) = H2 at hB2 hF2;refine lm B B.m_fs (by decide +kernel) hB2.ns (CALL_fs B hB2 few fun ls gs H3 hs e3 fls hls hG hFG => ?_);clear hB1 hF1;have hB3 := hB2.ext e3;have hF3 : Fr b.own H H3 := hF2.trans (e3.fr _);have hg1p : gset g (i, j) (some c) (i, j) = some c := gset_same;have play0 := fun (e:gs = []) => play_nil hl hon hg (e ▸ hFG);have play1 := fun gi (e:gs = [gi]) => play_one hl hon hg (e ▸ hFG);have playN := fun h2 hop => play_many hl hon hg hFG h2 (opp := opp) hop;generalize gset g (i, j) (some c) = g1 at *
  have hGc : ∀ gi, gi ∈ gs → IsCol gi.c := fun gi hgi => by
    obtain ⟨p, p1, p2, _⟩ := hFG.ne hgi;exact hB2.col _ _ p2
  have hG5 : ∀ gi, gi ∈ gs → H3 gi.d = some (.ns (gns gi.c gi.a true)) := fun gi q => (hG gi q).2.2.2.2.1;have hG6 : ∀ gi, gi ∈ gs → H3 gi.a = some (.pset gi.P) := fun gi q => (hG gi q).2.2.2.2.2;have hGo : ∀ gi, gi ∈ gs → gi.d ∉ b.own ∧ gi.a ∉ b.own ∧ ∀ p, p ∈ gi.P → On n p := fun gi q => by
    obtain ⟨_, p0, _, o0, _, _, hP⟩ := hFG.g1 gi q;exact ⟨hB2.own0 (hG gi q).1, hB2.own0 (hG gi q).2.1, fun p hp => ((hP _).mp hp).on o0⟩
  have hgl : gs.length ≤ 10 := Nat.le_trans hFG.len (Nat.le_of_ble_eq_true rfl);refine .mk _ (fun ww ww x => x) fun P1 hP1 => ⟨_, truth_lst hls, fun hne => ?_, fun hne => ?_⟩
  case refine_2 =>
    have e : gs = [] := List.map_eq_nil_iff.mp (List.isEmpty_iff.mp (Bool.not_eq_false' _ ▸ hne));obtain ⟨k1, k2⟩ := play0 e;exact hP1.n (hPP.r (h H3 g1 false none hF3 hB3 k1 ⟨(fun q => nomatch q), fun q => nomatch hg1p.symm.trans (q _ hon)⟩ fun q => ⟨(fun z => nomatch z), fun z => (k2 q z).elim⟩))
  have nlo := hB2.own0 fls;have jj : 0 ≠ 8 ∧ 0 ≠ 10 ∧ 0 ≠ 11 ∧ 8 ≠ 10 ∧ 8 ≠ 11 ∧ 10 ≠ 11 ∧ 8 < 12 ∧ 10 < 12 ∧ 11 < 12 := by decide
  let F_M : Addr → Option Pt → Option LV → Option LV → VF := fun (tc:Addr) (ko:Option Pt) (o1:Option LV) (o2:Option LV) => [some (.inst B.bc b.x b.d), some (.int i), some (.int j), some (.str c), some (.str opp), some (.ref ls), some (kov ko), some (.ref tc), o1, o2, none, none];let M : VF → Hp → Prop := fun v_ H' => El (fun p_ => ∀ (tc:Addr) (gs':List GI) (ko:Option Pt) (em':Bool) (o1:Option LV) (o2:Option LV), (Fr b.own H3 H') → (BAt H' b n g1 em') → (H' tc = some (.lst (gs'.map (GI.lv B)))) → ((∀ gi, gi ∈ gs' → gi ∈ gs)) → (tc ∉ b.own) → (Played n g1 c (clrG g1 gs')) → ((em' = true ↔ ∀ p, On n p → clrG g1 gs' p = none)) → ((∀ q, ko = some q ↔ KoAt n g1 c (i, j) q)) → p_ (F_M tc ko o1 o2)) v_;have hM : ∀ {tc:Addr} {gs':List GI} {ko:Option Pt} {em':Bool} {o1:Option LV} {o2:Option LV} {H':Hp}, (Fr b.own H3 H') → (BAt H' b n g1 em') → (H' tc = some (.lst (gs'.map (GI.lv B)))) → ((∀ gi, gi ∈ gs' → gi ∈ gs)) → (tc ∉ b.own) → (Played n g1 c (clrG g1 gs')) → ((em' = true ↔ ∀ p, On n p → clrG g1 gs' p = none)) → ((∀ q, ko = some q ↔ KoAt n g1 c (i, j) q)) → M (F_M tc ko o1 o2) H' := fun z0 z1 z2 z3 z4 z5 z6 z7 p_ k_ => k_ _ _ _ _ _ _ z0 z1 z2 z3 z4 z5 z6 z7;refine .mk M
    (fun H4 => El.el fun tc gs' ko em' o1 o2 hF4 hB4 htc hsub nto hpl hem hko => clear_loop B (i0 := 0) jj hB4 nto htc (fun gi q => have q := hsub gi q; have ⟨q1, q2, q3⟩ := hGo gi q; ⟨q1, q2, hF4 _ _ q1 (hG5 gi q), hF4 _ _ q2 (hG6 gi q), q3⟩) rfl rfl
      fun H7 v7 g7 F7 hB7 => hP1.n (vgv (g7.g rfl rfl) (hPP.r (h H7 _ em' ko ((hF3.trans hF4).trans F7) hB7 hpl hem hko)))) fun P2 hP2 => ⟨_, B.n_len, .inl ⟨_, rfl⟩, CALL_len_list hls ⟨_, rfl, fun h1 => ?_, fun h1 => ?_⟩⟩
  · obtain ⟨gi, e⟩ := len1 (l := gs) (by have := len_eq 1 h1; rwa [List.length_map] at this);obtain ⟨k1, k2, k3⟩ := play1 gi e;subst e;have noko : ∀ q, (none:Option Pt) = some q ↔ KoAt n g1 c (i, j) q := fun q => ⟨(fun z => nomatch z), fun z => (k2 q z).elim⟩;refine ⟨_, B.n_len, .inl ⟨_, rfl⟩, SubT_lst hls, BO_item_list hls (Int.le_refl 0) (lv := GI.lv B gi) rfl (at_gpts B (hG5 gi (.head _)) (CALL_len_set (hG6 gi (.head _)) (at_side B hB3 (at_side B hB3 (BO_mul ⟨_, rfl, fun hx => ?_, fun hx => ?_⟩ (mulOk hB.nine))))))⟩
    · have hlen := len_eq (n * n) hx;exact SA_emp B rfl hB3.ns (hP2.n (hM (gs' := [gi]) (ko := none) (em' := true) ((Fr.refl _ _).hset _ (.inl (.head _))) (hB3.em true) (miss (fun e => nlo (e ▸ .head _)) hls) (fun ww q => q) nlo k1 ⟨fun ww => k3.mp hlen, fun ww => rfl⟩ noko))
    · have hlen := len_ne (n * n) hx;exact hP2.n (hM (gs' := [gi]) (ko := none) (em' := false) (Fr.refl _ _) hB3 hls (fun ww q => q) nlo k1 ⟨(fun q => nomatch q), fun q => (hlen (k3.mpr q)).elim⟩ noko)
  · have h2 : 2 ≤ gs.length := by
      have e1 := len_ne 1 h1;rw [List.length_map] at e1;cases gs with
      | nil => cases hne
      | cons a t => cases t with
        | nil => exact (e1 rfl).elim
        | cons b t => exact Nat.le_add_left 2 t.length
    obtain ⟨k1, k2, k3, k4, k5⟩ := playN h2 fun gi hgi => hopp _ (hGc gi hgi);refine LC_sel B hls hG5 (Nat.le_trans hgl (by decide)) hGc hopc rfl rfl fun D H4 fD eD cD => ?_;have fsub : ∀ gi, gi ∈ gs.filter (fun gi => decide (gi.c = opp)) → gi ∈ gs := fun gi q => (List.mem_filter.mp q).1;generalize (gs.filter fun gi => decide (gi.c = opp)) = foes at *
    have hB4 := hB3.ext eD;have nDo := hB3.own0 fD;have hem0 : (false = true ↔ ∀ p, On n p → clrG g1 foes p = none) := ⟨(fun q => nomatch q), fun q => nomatch k2.symm.trans (q _ hon)⟩;have noko : (∀ f, foes = [f] → f.P.length ≠ 1) → ∀ q, (none:Option Pt) = some q ↔ KoAt n g1 c (i, j) q := fun h q => ⟨(fun z => nomatch z), fun z => (k4 h q z).elim⟩;refine ⟨_, B.n_len, .inl ⟨_, rfl⟩, CALL_len_list cD ⟨_, rfl, fun e1 => ?_, fun e1 => ⟨(fun q => nomatch q), fun ww => ?_⟩⟩⟩
    case refine_2 =>
      exact hP2.n (hM (gs' := foes) (ko := none) (em' := false) (eD.fr _) hB4 cD fsub nDo k1 hem0 (noko fun f hf => by have := len_ne 1 e1; subst hf; exact absurd rfl this))
    obtain ⟨f, rfl⟩ := len1 (α := GI) (l := foes) (by have := len_eq 1 e1; rwa [List.length_map] at this);have hfm := fsub f (.head _);have hfd := eD _ _ (hG5 f hfm);have hfa := eD _ _ (hG6 f hfm);refine ⟨_, B.n_len, .inl ⟨_, rfl⟩, SubT_lst cD, BO_item_list cD (Int.le_refl 0) (lv := GI.lv B f) rfl (at_gpts B hfd (CALL_len_set hfa ⟨_, rfl, fun e2 => ?_, fun e2 => ⟨(fun q => nomatch q), fun ww => ?_⟩⟩))⟩
    case refine_2 =>
      exact hP2.n (hM (gs' := [f]) (ko := none) (em' := false) (eD.fr _) hB4 cD fsub nDo k1 hem0 (noko fun f' hf => by cases hf; exact len_ne 1 e2))
    obtain ⟨q, hq⟩ := len1 (len_eq 1 e2);obtain ⟨o, ho, hoK⟩ := k3 f q rfl hq;refine ⟨fun ww => LC_sel B (eD _ _ hls) (fun gi q => eD _ _ (hG5 gi q)) (Nat.le_trans hgl (by decide)) hGc hc rfl rfl fun E H5 fE eE cE => ?_, (fun q => nomatch q)⟩;rw [ho] at cE;have hom : o ∈ gs := by
      have : o ∈ gs.filter (fun gi => decide (gi.c = c)) := by rw [ho]; exact .head _
      exact (List.mem_filter.mp this).1
    have hod := eE _ _ (eD _ _ (hG5 o hom));have hoa := eE _ _ (eD _ _ (hG6 o hom));have hfa5 := eE _ _ hfa;have cD5 := eE _ _ cD;have hB5 := hB4.ext eE;refine ⟨_, B.n_len, .inl ⟨_, rfl⟩, SubT_lst cE, BO_item_list cE (Int.le_refl 0) (lv := GI.lv B o) rfl (at_gpts B hod (CALL_len_set hoa ⟨_, rfl, fun hx => ?_, fun hx => ?_⟩))⟩
    · rw [hq] at hfa5;exact ⟨SubT_lst cD5, BO_item_list cD5 (Int.le_refl 0) (lv := GI.lv B f) rfl (at_gpts B (eE _ _ hfd) ⟨_, q, rfl, hfa5, hP2.n (hM (gs' := [f]) (ko := some q) (em' := false) ((eD.trans eE).fr _) hB5 cD5 fsub nDo k1 hem0 fun q' => ⟨fun z => Option.some.inj z ▸ hoK.mp (len_eq 1 hx), fun z => by rw [k5 f q rfl hq q' z]⟩)⟩)⟩
    · exact hP2.n (hM (gs' := [f]) (ko := none) (em' := false) ((eD.trans eE).fr _) hB5 cD5 fsub nDo k1 hem0 fun q' => ⟨(fun z => nomatch z), fun z => (len_ne 1 hx (hoK.mpr (by rw [← k5 f q rfl hq q' z]; exact z))).elim⟩)
end
end Go
end
section

end
section
namespace Go
open PySem PySem.W PyProof.Rows PySem.Calls
section
noncomputable def decP : LV → Option Pt
  | .tup [.int a, .int b] => some (a, b)
  | _ => none
theorem fmP {F:Pt → Option LV} {L:List Pt} : (L.map pv).filterMap (fun lv => (decP lv).bind F) = L.filterMap F := by
  rw [List.filterMap_map]; rfl
theorem fm_filter {P:Pt → Bool} {L:List Pt} : L.filterMap (fun p => if P p = true then some (pv p) else none) = (L.filter P).map pv := by
  induction L with
  | nil => rfl
  | cons p t ih =>
    rw [List.filterMap_cons, List.filter_cons, ih];cases P p <;> rfl
noncomputable def pd (p:Pt) : PyData := .tuple [.int p.1, .int p.2]
theorem eqv_pd {p q:Pt} : PyData.eqv (pd p) (pd q) = decide (p = q) := by
  obtain ⟨a, b⟩ := p; obtain ⟨c, d⟩ := q;simp only [pd, PyData.eqv, PyData.eqvAll, Bool.and_true];rw [Bool.eq_iff_iff]; simp
theorem isD_pv {H:Hp} {p:Pt} : IsD H (pv p) (pd p) := .tup (.cons (.int _) (.cons (.int _) .nil))
theorem isDs_pv {H:Hp} {L:List Pt} : IsDs H (L.map pv) (L.map pd) := by
  induction L with
  | nil => exact .nil
  | cons p t ih => exact .cons isD_pv ih
theorem depth_pd {p:Pt} : (pd p).depth ≤ 2 := by simp [pd, PyData.depth, PyData.depthAll]
theorem any_pd {L:List Pt} {p:Pt} : ((L.map pd).any fun y => PyData.eqv y (pd p)) = decide (p ∈ L) := by
  rw [Bool.eq_iff_iff, List.any_eq_true, decide_eq_true_eq];constructor
  · rintro ⟨x, hx, h⟩;obtain ⟨q, hq, rfl⟩ := List.mem_map.mp hx;rw [eqv_pd, decide_eq_true_eq] at h; subst h; exact hq
  · intro h; exact ⟨pd p, List.mem_map_of_mem h, eqv_pd.trans (decide_eq_true rfl)⟩
section
variable {G:Gl} {H:Hp} {Q:Qv} {X:Xc}
theorem BO_pv0 {p:Pt} (h:Q (.int p.1) H) : BO G getItem (pv p) (.int 0) H Q X := BO_item_tup (Int.le_refl 0) (by show 2 < 4096; decide) (lv := .int p.1) rfl h
theorem BO_pv1 {p:Pt} (h:Q (.int p.2) H) : BO G getItem (pv p) (.int 1) H Q X := BO_item_tup (by decide) (by show 2 < 4096; decide) (lv := .int p.2) rfl h
theorem bw0 : (⟨#[98]⟩ : Str) = sb := by decide +kernel
theorem bw1 : (⟨#[119]⟩ : Str) = sw := by decide +kernel
theorem bwc : (ofString "bw").cps = #[98, 119] := by decide +kernel
theorem BO_bw {i:Int} (h0:0 ≤ i) (h1:i < 2) (h:Q (.str (if i = 0 then sb else sw)) H) : BO G getItem (.str (ofString "bw")) (.int i) H Q X := by
  have : i = 0 ∨ i = 1 := by omega
  rcases this with rfl | rfl
  · refine BO_item_str (c := 98) (by omega) (by omega) (by rw [bwc]; rfl) ?_;rw [bw0]; exact h
  · refine BO_item_str (c := 119) (by omega) (by omega) (by rw [bwc]; rfl) ?_;rw [bw1]; exact h
theorem BO_inL {a:Addr} {L:List Pt} {p:Pt} (hH:H a = some (.lst (L.map pv))) (h:Q (.bool (decide (p ∈ L))) H) : BO G (compareOp .In) (pv p) (.ref a) H Q X :=
  BO_in isD_pv (.ref hH isDs_pv) (by rw [any_pd]; exact h) (Nat.lt_of_le_of_lt (Nat.le_trans (Nat.min_le_right _ _) depth_pd) (by decide))
theorem BO_notinL {a:Addr} {L:List Pt} {p:Pt} (hH:H a = some (.lst (L.map pv))) (h:Q (.bool (!decide (p ∈ L))) H) : BO G (compareOp .NotIn) (pv p) (.ref a) H Q X :=
  BO_notin isD_pv (.ref hH isDs_pv) (by rw [any_pd]; exact h) (Nat.lt_of_le_of_lt (Nat.le_trans (Nat.min_le_right _ _) depth_pd) (by decide))
end
structure Rep (n:Nat) (fs:List (Pt × LV)) (g:Grd) : Prop where
  at_ : ∀ p, fs.lookup p = (g p).map LV.str
  nd : (fs.map (·.1)).Nodup
  on : ∀ p, g p ≠ none → On n p
  col : ∀ p c, g p = some c → IsCol c
theorem lkS {α β:Type} [BEq α] [LawfulBEq α] {l:List (α × β)} {x:α} {y:β} : ((x, y) :: l).lookup x = some y := by rw [List.lookup_cons, beq_self_eq_true]
theorem lkN {α β:Type} [BEq α] [LawfulBEq α] {l:List (α × β)} {x a:α} {b:β} (h:x ≠ a) : ((a, b) :: l).lookup x = l.lookup x := by rw [List.lookup_cons, beq_false_of_ne h]
theorem mem_lookup {fs:List (Pt × LV)} (nd:(fs.map (·.1)).Nodup) {p:Pt} {v:LV} : (p, v) ∈ fs ↔ fs.lookup p = some v := by
  induction fs with
  | nil => exact ⟨(fun z => nomatch z), (fun z => nomatch z)⟩
  | cons f r ih =>
    obtain ⟨q, w⟩ := f;obtain ⟨h1, h2⟩ := List.nodup_cons.mp nd;refine List.mem_cons.trans ?_
    by_cases e : p = q
    · subst e;rw [lkS];exact ⟨fun z => z.elim (fun z => congrArg some (Prod.mk.inj z).2.symm) fun z => (h1 (List.mem_map.mpr ⟨_, z, rfl⟩)).elim, fun z => .inl (by rw [Option.some.inj z])⟩
    · rw [lkN e];exact ⟨fun z => (ih h2).mp (z.resolve_left fun z => e (Prod.mk.inj z).1), fun z => .inr ((ih h2).mpr z)⟩
theorem lookup_none {fs:List (Pt × LV)} {p:Pt} : fs.lookup p = none ↔ p ∉ fs.map (·.1) := by
  induction fs with
  | nil => exact ⟨(fun ww z => nomatch z), fun ww => rfl⟩
  | cons f r ih =>
    obtain ⟨q, w⟩ := f
    by_cases e : p = q
    · subst e; rw [lkS]; exact ⟨(fun z => nomatch z), fun z => (z (.head _)).elim⟩
    · rw [lkN e]; exact ih.trans (not_congr ⟨List.mem_cons_of_mem _, fun z => (List.mem_cons.mp z).resolve_left e⟩)
theorem Rep.keys {n:Nat} {fs:List (Pt × LV)} {g:Grd} (h:Rep n fs g) {p:Pt} : p ∈ fs.map (·.1) ↔ g p ≠ none := by
  have := @lookup_none fs p;rw [h.at_] at this;cases e : g p with
  | none => rw [e] at this; exact ⟨fun q => (this.mp rfl q).elim, fun q => (q rfl).elim⟩
  | some c => rw [e] at this; exact ⟨(fun ww z => nomatch z), fun ww => Classical.byContradiction fun z => nomatch this.mpr z⟩
theorem Rep.len {n:Nat} {fs:List (Pt × LV)} {g:Grd} (h:Rep n fs g) (few:Few n g) : fs.length ≤ 49 := by
  have := few (fs.map (·.1)) h.nd fun p hp => ⟨h.on p (h.keys.mp hp), h.keys.mp hp⟩
  rwa [List.length_map] at this
theorem Rep.is {n:Nat} {fs:List (Pt × LV)} {g:Grd} (h:Rep n fs g) {p:Pt} : (fs.lookup p).isSome = decide (g p ≠ none) := by
  rw [h.at_]; cases g p <;> rfl
theorem Rep.val {n:Nat} {fs:List (Pt × LV)} {g:Grd} (h:Rep n fs g) {p:Pt} {c:Str} (hg:g p = some c) : fs.lookup p = some (.str c) := by
  rw [h.at_, hg]; rfl
set_option tactic.hygienic true in
theorem pput_lookup {fs:List (Pt × LV)} {p q:Pt} {v:LV} : (pput fs p v).lookup q = if q = p then some v else fs.lookup q := by
  induction fs with
  | nil =>
    by_cases e : q = p
    · rw [if_pos e, e]; exact lkS
    · rw [if_neg e]; exact lkN e
  | cons f r ih =>
    obtain ⟨x, w⟩ := f;unfold pput
    by_cases e : q = x
    · subst e;rw [lkS]
      split
      · exact lkS
      · exact lkS
    · rw [lkN e]
      split
      · rename_i h;exact (lkN e).trans (if_neg fun z => e (z.trans h.symm)).symm
      · exact (lkN e).trans ih
theorem pput_new {fs:List (Pt × LV)} {p:Pt} {v:LV} (h:p ∉ fs.map (·.1)) : pput fs p v = fs ++ [(p, v)] := by
  induction fs with
  | nil => rfl
  | cons f r ih =>
    obtain ⟨x, w⟩ := f;have ne : x ≠ p := fun e => h (e ▸ .head _);exact (if_neg ne).trans (congrArg (List.cons _) (ih fun z => h (List.mem_cons_of_mem _ z)))
set_option tactic.hygienic true in
theorem Rep.put {n:Nat} {fs:List (Pt × LV)} {g:Grd} (h:Rep n fs g) {p:Pt} {c:Str} (hp:On n p) (hc:IsCol c) : Rep n (pput fs p (.str c)) (gset g p (some c)) := by
  refine ⟨fun q => ?_, pput_nodup h.nd, fun q hq => ?_, fun q d hd => ?_⟩
  · rw [pput_lookup]; unfold gset; split
    · rfl
    · exact h.at_ q
  · unfold gset at hq; split at hq
    · rename_i e; rw [e]; exact hp
    · exact h.on q hq
  · unfold gset at hd; split at hd
    · cases hd; exact hc
    · exact h.col q d hd
theorem lookup_filter {fs:List (Pt × LV)} {K:Pt → Bool} {p:Pt} : (fs.filter fun f => K f.1).lookup p = if K p = true then fs.lookup p else none := by
  induction fs with
  | nil => exact (ite_self none).symm
  | cons f r ih =>
    obtain ⟨x, w⟩ := f;rw [List.filter_cons]
    by_cases e : p = x
    · subst e;rw [lkS]
      by_cases e' : K p = true
      · rw [if_pos e', if_pos e']; exact lkS
      · rw [if_neg e', if_neg e', ih, if_neg e']
    · rw [lkN e]
      split
      · exact (lkN e).trans ih
      · exact ih
theorem Rep.filter {n:Nat} {fs:List (Pt × LV)} {g:Grd} (h:Rep n fs g) (K:Pt → Bool) : Rep n (fs.filter fun f => K f.1) (fun p => if K p = true then g p else none) := by
  refine ⟨fun q => ?_, ?_, fun q hq => ?_, fun q d hd => ?_⟩
  · rw [lookup_filter]; split
    · exact h.at_ q
    · rfl
  · exact h.nd.sublist ((List.filter_sublist).map _)
  · split at hq
    · exact h.on q hq
    · exact (hq rfl).elim
  · split at hd
    · exact h.col q d hd
    · cases hd
structure LW (G:Gl) (B:BW G) where
  fnear : Addr
  fbrea : Addr
  fonly : Addr
  fmovd : Addr
  frows : Addr
  near : Fn G (ofString "_law_near") fnear (top 8)
  brea : Fn G (ofString "_law_breathing") fbrea (top 9)
  only : Fn G (ofString "_law_only") fonly (top 10)
  movd : Fn G (ofString "_law_moved") fmovd (top 11)
  rows : Fn G (ofString "_law_rows") frows (top 12)
end
section
noncomputable abbrev nsnear : List Str := ["point", "side", "row", "col", "around"]
noncomputable abbrev il_near : ST := (sAsg (tVar 0) (g2 2 3)
  (sAsg (tLst (tCons (tTup (tCons (tBin .Sub (tVar 2) (tC (.int (1)))) (tCons (tVar 3) tNil))) (tCons (tTup (tCons (tBin .Add (tVar 2) (tC (.int (1)))) (tCons (tVar 3) tNil))) (tCons (tTup (tCons (tVar 2) (tCons (tBin .Sub (tVar 3) (tC (.int (1)))) tNil))) (tCons (tTup (tCons (tVar 2) (tCons (tBin .Add (tVar 3) (tC (.int (1)))) tNil))) tNil))))) (g1 4)
  (sRet (tLc [none, none, some 1] (tItV (tVar 4)) (g1 1) (tAnd (tCmp2 .LtE .Lt (tC (.int (0))) (tSub (tVar 1) (tC (.int (0)))) (tVar 2)) (tAnd (tCmp2 .LtE .Lt (tC (.int (0))) (tSub (tVar 1) (tC (.int (1)))) (tVar 2)) (tLit true))) (tVar 1)))))
theorem is_near : trB (top 8) nsnear = il_near := by kernel_rfl
noncomputable abbrev nsbrea : List Str := ["stones", "side", "point", "one", "living"]
noncomputable abbrev il_brea : ST := (sAsg (tLc [none, none, some 1, some 0] (tItV (tVar 0)) (g1 1) (tTv (tLc [none, none, some 3] (tItV (tCall (ofString "_law_near") (tCons (tVar 1) (tCons (tVar 2) tNil)))) (g1 1) (tCmpT .NotIn (tVar 1) (tVar 2)) (tVar 1))) (tVar 1)) (g1 4)
  (sFor (g1 2) (tItV (tVar 4))
  (sFor (g1 3) (tItV (tCall (ofString "_law_near") (tCons (tVar 2) (tCons (tVar 1) tNil))))
  (sIf (tAnd (tCmpT .In (tVar 3) (tVar 0)) (tAnd (tCmpT .Eq (tSub (tVar 0) (tVar 3)) (tSub (tVar 0) (tVar 2))) (tAnd (tCmpT .NotIn (tVar 3) (tVar 4)) (tLit true)))) (sEx (tBm (tVar 4) (ofString "append") (tCons (tVar 3) tNil))
  sNil)
  sNil)
  sNil)
  (sRet (tVar 4))))
theorem is_brea : trB (top 9) nsbrea = il_brea := by kernel_rfl
noncomputable abbrev nsonly : List Str := ["stones", "kept", "left", "point"]
noncomputable abbrev il_only : ST := (sAsg tD0 (g1 2)
  (sFor (g1 3) (tItV (tVar 0))
  (sIf (tCmpT .In (tVar 3) (tVar 1)) (sSet (tVar 2) (tVar 3) (tSub (tVar 0) (tVar 3))
  sNil)
  sNil)
  (sRet (tVar 2))))
theorem is_only : trB (top 10) nsonly = il_only := by kernel_rfl
noncomputable abbrev nsmovd : List Str := ["stones", "side", "point", "colour", "after", "living", "foes"]
noncomputable abbrev il_movd : ST := (sAsg (tCall (ofString "_law_only") (tCons (tVar 0) (tCons (tVar 0) tNil))) (g1 4)
  (sSet (tVar 4) (tVar 2) (tVar 3)
  (sAsg (tCall (ofString "_law_breathing") (tCons (tVar 4) (tCons (tVar 1) tNil))) (g1 5)
  (sAsg (tLc [none, none, some 4, some 3, some 5] (tItV (tVar 4)) (g1 1) (tAnd (tCmpT .NotEq (tSub (tVar 2) (tVar 1)) (tVar 3)) (tAnd (tCmpT .NotIn (tVar 1) (tVar 4)) (tLit true))) (tVar 1)) (g1 6)
  (sIfJ (tTv (tVar 6)) (sRet (tCall (ofString "_law_only") (tCons (tVar 4) (tCons (tLc [none, none, some 6] (tItV (tVar 4)) (g1 1) (tCmpT .NotIn (tVar 1) (tVar 2)) (tVar 1)) tNil))))
  (sRet (tCall (ofString "_law_only") (tCons (tVar 4) (tCons (tVar 5) tNil)))))))))
theorem is_movd : trB (top 11) nsmovd = il_movd := by kernel_rfl
noncomputable abbrev nsrows : List Str := ["stones", "points"]
noncomputable abbrev il_rows : ST := (sRet (tLc [none, none, some 0] (tItV (tVar 1)) (g1 1) (tCmpT .In (tVar 1) (tVar 2)) (tTup (tCons (tSub (tVar 2) (tVar 1)) (tCons (tVar 1) tNil)))))
theorem is_rows : trB (top 12) nsrows = il_rows := by kernel_rfl
noncomputable abbrev nslaw : List Str := [ofString "script", ofString "head", ofString "cells", ofString "side", ofString "way", ofString "place", ofString "shift", ofString "spot", ofString "colour", ofString "other", ofString "points", ofString "stones", ofString "one", ofString "point", ofString "down", ofString "right", ofString "prize", ofString "held", ofString "black", ofString "white", ofString "legal", ofString "living", ofString "last", ofString "turn", ofString "number", ofString "mine", ofString "foe", ofString "before", ofString "told", ofString "after", ofString "back", ofString "replies", ofString "reply", ofString "trial", ofString "answer"]
end
section
theorem on4_le {G:Gl} {k a i:Nat} {v:VF} {H:Hp} {p:Pt} {n:Nat} {Q:Bool → Hp → Prop} (e1:vget v i = some (pv p)) (e2:vget v a = some (.int n)) (q:Q (decide (On n p)) H) :
    tAnd (tCmp2 .LtE .Lt (tC (.int 0)) (tSub (tVar i) (tC (.int 0))) (tVar a)) (tAnd (tCmp2 .LtE .Lt (tC (.int 0)) (tSub (tVar i) (tC (.int 1))) (tVar a)) (tLit true)) G k v H Q noX := by
  have key : decide (On n p) = (decide (0 ≤ p.1) && (decide (p.1 < n) && (decide (0 ≤ p.2) && decide (p.2 < n)))) := by
    rw [Bool.eq_iff_iff, decide_eq_true_eq]; simp only [On, Bool.and_eq_true, decide_eq_true_eq]
  rw [key] at q;refine vgv e1 ⟨trivial, BO_pv0 ⟨_, rfl, fun h1 => vgv e2 ⟨_, rfl, fun h2 => vgv e1 ⟨trivial, BO_pv1 ⟨_, rfl, fun h3 => vgv e2 ⟨_, rfl, fun h4 => ?_, fun h4 => ?_⟩, fun h3 => ⟨(fun z => nomatch z), fun ww => ?_⟩⟩⟩, fun h2 => ?_⟩, fun h1 => ⟨(fun z => nomatch z), fun ww => ?_⟩⟩⟩
  · rw [h1, h2, h3, h4] at q; exact q
  · rw [h1, h2, h3, h4] at q; exact q
  · rw [h1, h2, h3] at q; exact q
  · rw [h1, h2] at q; exact q
  · rw [h1] at q; exact q
theorem CALL_near {G:Gl} {B:BW G} (W:LW G B) {k:Nat} {H:Hp} {Q:Qv} {X:Xc} {n:Nat} {p:Pt} (h:∀ a H', Ext H H' → H a = none → H' a = some (.lst ((nbs n p).map pv)) → Q (.ref a) H') : CALL G (k + 1) (.ref W.fnear) [pv p, .int n] H Q X := by
  let v0 : VF := [some (pv p), some (.int n), none, none, none];refine CALL_of (CODE_q W.near.2.2 B.hh 2 rfl (by decide +kernel) v0 is_near rfl rfl rfl fun PP hPP => ?_);refine ⟨_, _, rfl, fun a fa => ⟨stpL G, IV_list (vs := (nb4 p).map pv) hit (.fm _ ((nb4 p).map pv) (fun lv => (decP lv).bind fun q => if decide (On n q) = true then some (pv q) else none) (ys_list rfl) (fun H' e => e _ _ hit) (Nat.le_of_ble_eq_true rfl) (fun lv hlv H3 K0 K1 e k0 k1 => ?_) fun D H' hD he hL => hPP.r (h D H' (((Ext.refl _).set fa).trans he) (((Ext.refl _).set fa).none hD) (by rw [fmP, fm_filter] at hL; exact hL)))⟩⟩;obtain ⟨q, hq, rfl⟩ := List.mem_map.mp hlv;exact fun o0 ww => on4_le (i := 1) (a := 2) (v := [o0, some (pv q), some (.int n)]) (Q := fun ok H4 => (ok = false → K0 H4) ∧ (ok = true → K1 (pv q) H4)) rfl rfl ⟨fun e => k0 (if_neg (by rw [e]; exact Bool.noConfusion)) _ (Ext.refl _), fun e => k1 _ (if_pos e) _ (Ext.refl _)⟩
theorem CALL_only {G:Gl} {B:BW G} (W:LW G B) {k:Nat} {H:Hp} {Q:Qv} {X:Xc} {d:Addr} {fs:List (Pt × LV)} {ep:Nat} {kept:LV} (K:Pt → Bool) (hd:H d = some (.pdict fs ep)) (nd:(fs.map (·.1)).Nodup) (hz:fs.length < 90)
    (hK:∀ (Q:Qv) (X:Xc) p H', Ext H H' → p ∈ fs.map (·.1) → Q (.bool (K p)) H' → BO G (compareOp .In) (pv p) kept H' Q X)
    (h:∀ a H' ep', Ext H H' → H a = none → H' a = some (.pdict (fs.filter fun f => K f.1) ep') → Q (.ref a) H') : CALL G (k + 1) (.ref W.fonly) [.ref d, kept] H Q X := by
  let v0 : VF := [some (.ref d), some kept, none, none];refine CALL_of (CODE_q W.only.2.2 B.hh 2 rfl (by decide +kernel) v0 is_only rfl rfl rfl fun PP hPP => ?_);refine fun a fa => ⟨stpD G, IV_dict (miss (ne_of fa hd) hd) ?_⟩;have nda : d ≠ a := ne_of fa hd;let F_I : Option LV → VF := fun (o:Option LV) => [some (.ref d), some kept, some (.ref a), o];let I : Nat → VF → Hp → Prop := fun i v_ H' => El (fun p_ => ∀ (o:Option LV) (ep':Nat), (Ext H H') → (H' a = some (.pdict ((fs.take i).filter fun f => K f.1) ep')) → p_ (F_I o)) v_;have hI : ∀ {i:Nat} {o:Option LV} {ep':Nat} {H':Hp}, (Ext H H') → (H' a = some (.pdict ((fs.take i).filter fun f => K f.1) ep')) → I i (F_I o) H' := fun z0 z1 p_ k_ => k_ _ _ z0 z1;refine LFor.ys _ (fs.map fun f => pv f.1) I (ys_dict (fs := fs) (ep := ep) rfl) (hI (o := none) (ep' := 0) ((Ext.refl _).set fa) hit) (fun i H' => El.el fun o ep' hE h1 => ⟨rfl, hE _ _ hd⟩) (fun P2 i lv H' hP2 hi => El.el fun o ep' hE h1 => ?_) fun H' => El.el fun o ep' hE h1 => hPP.r (h a H' ep' hE fa (by rwa [List.length_map, List.take_length] at h1));obtain ⟨⟨p, v⟩, hf, rfl⟩ := Option.map_eq_some_iff.mp (by rw [List.getElem?_map] at hi; exact hi);have ht : fs.take (i + 1) = fs.take i ++ [(p, v)] := by rw [List.take_add_one, hf]; rfl
  have hm : (p, v) ∈ fs := List.mem_of_getElem? hf;have hd' := hE _ _ hd;refine hK _ _ p _ hE (List.mem_map.mpr ⟨_, hm, rfl⟩) ⟨_, rfl, fun q => ?_, fun q => hP2.n (hI (ep' := ep') hE (h1.trans (by rw [ht, List.filter_append, List.filter_cons, q]; simp)))⟩;refine ⟨SubT_pd hd', BO_itempd hd' ((mem_lookup nd).mp hm) (SO_pd h1 (Nat.lt_of_le_of_lt (List.length_filter_le _ _) (Nat.lt_of_le_of_lt (List.length_take_le' i fs) (Nat.lt_trans hz (by decide)))) fun ep2 => hP2.n (hI (ep' := ep2) (hE.set fa) (hit.trans ?_)))⟩;rw [ht, List.filter_append, pput_new]
  · simp [q]
  · intro hp;obtain ⟨f, f1, f2⟩ := List.mem_map.mp hp;obtain ⟨j, hj⟩ := List.getElem?_of_mem (List.mem_filter.mp f1).1;have hj1 := (List.getElem?_eq_some_iff.mp hj).1;have hji : j < i := Nat.lt_of_lt_of_le hj1 (List.length_take_le i fs);rw [List.getElem?_take, if_pos hji] at hj;have e1 : (fs.map (·.1))[j]? = some p := by rw [List.getElem?_map, hj]; exact congrArg some f2
    have e2 : (fs.map (·.1))[i]? = some p := by rw [List.getElem?_map, hf]; rfl
    obtain ⟨b1, b2⟩ := List.getElem?_eq_some_iff.mp e1;obtain ⟨b3, b4⟩ := List.getElem?_eq_some_iff.mp e2;exact Nat.ne_of_lt hji ((List.getElem_inj nd).mp (b2.trans b4.symm))
theorem CALL_rows {G:Gl} {B:BW G} (W:LW G B) {k:Nat} {H:Hp} {Q:Qv} {X:Xc} {n:Nat} {d pl:Addr} {fs:List (Pt × LV)} {ep:Nat} {g:Grd} (hd:H d = some (.pdict fs ep)) (R:Rep n fs g) (hp:H pl = some (.lst ((pts n).map pv))) (hn:n ≤ 9)
    (h:∀ a H', Ext H H' → H a = none → H' a = some (.lst ((pts n).filterMap fun p => (g p).map fun c => .tup [.str c, pv p])) → Q (.ref a) H') : CALL G (k + 1) (.ref W.frows) [.ref d, .ref pl] H Q X := by
  let v0 : VF := [some (.ref d), some (.ref pl)];refine CALL_of (CODE_q W.rows.2.2 B.hh 2 rfl (by decide +kernel) v0 is_rows rfl rfl rfl fun PP hPP => ?_);have hz : ((pts n).map pv).length ≤ 4096 := by rw [List.length_map, pts_length]; exact Nat.le_trans (Nat.mul_le_mul hn hn) (by decide)
  refine ⟨stpL G, IV_list hp (.fm _ ((pts n).map pv) (fun lv => (decP lv).bind fun p => (g p).map fun c => .tup [.str c, pv p]) (ys_list rfl) (fun H' e => e _ _ hp) hz (fun lv hlv H3 K0 K1 e k0 k1 => ?_) fun D H' hD he hL => hPP.r (h D H' he hD (by rw [fmP] at hL; exact hL)))⟩;obtain ⟨p, hp', rfl⟩ := List.mem_map.mp hlv;have hd2 := e _ _ hd;refine fun ww ww => BO_inpd hd2 ⟨_, rfl, fun q => ?_, fun q => ?_⟩
  · rw [R.is] at q;refine k0 ?_ _ (Ext.refl _);show (g p).map _ = none;rw [Classical.not_not.mp (of_decide_eq_false q)]; rfl
  · rw [R.is] at q;cases hg : g p with
    | none => exact absurd hg (of_decide_eq_true q)
    | some c => exact ⟨SubT_pd hd2, BO_itempd hd2 (R.val hg) (k1 _ (by show (g p).map _ = _; rw [hg]; rfl) _ (Ext.refl _))⟩
end
end Go
end
section
namespace Go
open PySem
end Go
end
section
namespace Go
open PySem
end Go
end
section
namespace Go
open PySem
section
noncomputable def GD (n:Nat) (ok:Pt → Pt → Prop) (L:List Pt) (i t:Nat) : Prop :=
  ∀ j p r, L[j]? = some p → ((j < i ∧ r ∈ nbs n p) ∨ (j = i ∧ r ∈ (nbs n p).take t)) → ok p r → r ∈ L
section
variable {n:Nat} {ok:Pt → Pt → Prop} {L:List Pt} {i t:Nat} {p r:Pt}
theorem GD.start : GD n ok L 0 0 := fun j p r ww h ww => h.elim (fun h => (Nat.not_lt_zero _ h.1).elim) fun h => nomatch h.2
theorem take_one {l:List Pt} {r s:Pt} (hr:l[t]? = some r) (h:s ∈ l.take (t + 1)) : s ∈ l.take t ∨ s = r := by
  rw [List.take_add_one, hr] at h;exact (List.mem_append.mp h).imp_right List.mem_singleton.mp
theorem GD.keep (h:GD n ok L i t) (hp:L[i]? = some p) (hr:(nbs n p)[t]? = some r) (hk:ok p r → r ∈ L) : GD n ok L i (t + 1) := by
  intro j q s hj hs ho;rcases hs with z | ⟨rfl, b⟩
  · exact h j q s hj (.inl z) ho
  · cases hp.symm.trans hj;rcases take_one hr b with z | rfl
    · exact h _ _ s hp (.inr ⟨rfl, z⟩) ho
    · exact hk ho
theorem GD.grow {s:Pt} (h:GD n ok L i t) (hp:L[i]? = some p) : ∀ j p r, (L ++ [s])[j]? = some p → ((j < i ∧ r ∈ nbs n p) ∨ (j = i ∧ r ∈ (nbs n p).take t)) → ok p r → r ∈ L := fun j p r hj hs ho =>
  h j p r ((List.getElem?_append_left (hs.elim (fun z => Nat.lt_trans z.1 (List.getElem?_eq_some_iff.mp hp).1) fun z => z.1.symm ▸ (List.getElem?_eq_some_iff.mp hp).1)).symm.trans hj) hs ho
theorem GD.add (h:GD n ok L i t) (hp:L[i]? = some p) (hr:(nbs n p)[t]? = some r) : GD n ok (L ++ [r]) i (t + 1) := by
  have hp' : (L ++ [r])[i]? = some p := (List.getElem?_append_left (List.getElem?_eq_some_iff.mp hp).1).trans hp;exact GD.keep (fun j p' s hj hs ho => List.mem_append_left _ (h.grow hp j p' s hj hs ho)) hp' hr fun ww => List.mem_append_right _ (.head _)
theorem GD.next (h:GD n ok L i t) (hp:L[i]? = some p) (ht:(nbs n p).length ≤ t) : GD n ok L (i + 1) 0 := by
  intro j q s hj hs ho;rcases hs with ⟨a, b⟩ | ⟨_, b⟩
  · rcases Nat.lt_succ_iff_lt_or_eq.mp a with a | rfl
    · exact h j q s hj (.inl ⟨a, b⟩) ho
    · cases hp.symm.trans hj;exact h _ _ s hp (.inr ⟨rfl, (List.take_of_length_le ht).symm ▸ b⟩) ho
  · exact nomatch b
theorem GD.done (h:GD n ok L i 0) (hi:L.length ≤ i) : ∀ p, p ∈ L → ∀ r, r ∈ nbs n p → ok p r → r ∈ L := by
  intro p hp r hr ho;obtain ⟨j, hj⟩ := List.getElem?_of_mem hp;exact h j p r hj (.inl ⟨Nat.lt_of_lt_of_le (List.getElem?_eq_some_iff.mp hj).1 hi, hr⟩) ho
end
theorem alive_complete {n:Nat} {g:Grd} {L:List Pt} (h0:∀ p, g p ≠ none → (∃ r, r ∈ nbs n p ∧ g r = none) → p ∈ L) (hon:∀ p, g p ≠ none → On n p)
    (hs:∀ p, p ∈ L → ∀ r, r ∈ nbs n p → g r = g p → r ∈ L) {p:Pt} (ha:Alive n g p) : p ∈ L := by
  induction ha with
  | @lib p q a b c => exact h0 p a ⟨q, b, c⟩
  | @step p q a b c d ih => exact hs q ih p (nbs_symm (hon p a) b) c.symm
end
end Go
end
section
namespace Go
open PySem PySem.W PyProof.Rows PySem.Calls
section
theorem CALL_brea {G:Gl} {B:BW G} (W:LW G B) {k:Nat} {H:Hp} {Q:Qv} {X:Xc} {n:Nat} {d:Addr} {fs:List (Pt × LV)} {ep:Nat} {g:Grd} (hd:H d = some (.pdict fs ep)) (R:Rep n fs g) (few:Few n g)
    (h:∀ a H' (L:List Pt), Ext H H' → H a = none → H' a = some (.lst (L.map pv)) → L.Nodup → (∀ p, p ∈ L ↔ Alive n g p) → Q (.ref a) H') : CALL G (k + 2) (.ref W.fbrea) [.ref d, .int n] H Q X := by
  have hlen := R.len few;let v0 : VF := [some (.ref d), some (.int n), none, none, none];refine CALL_of (CODE_q W.brea.2.2 B.hh 2 rfl (by decide +kernel) v0 is_brea rfl rfl rfl fun PP hPP => ?_);have hmm : fs.map (fun f => pv f.1) = (fs.map (·.1)).map pv := by rw [List.map_map]; rfl
  refine ⟨stpD G, IV_dict hd (.fm _ (fs.map fun f => pv f.1) (fun lv => (decP lv).bind fun p => if ((nbs n p).any fun r => decide (g r = none)) = true then some (pv p) else none) (ys_dict (fs := fs) (ep := ep) rfl) (fun H' e => e _ _ hd) (by rw [List.length_map]; exact Nat.le_trans hlen (by decide)) (fun lv hlv H3 K0 K1 e k0 k1 => ?_) fun a H1 fa e1 l1 => ?_)⟩
  · obtain ⟨⟨p, w⟩, hp, rfl⟩ := List.mem_map.mp hlv;have hd2 := e _ _ hd;refine fun o0 ww => ⟨stpL G, _, W.near.1, .inr (.inr W.near.2.1), CALL_near W fun a H4 e4 f4 l4 => IV_list l4 (.fm _ ((nbs n p).map pv) (fun lv => (decP lv).bind fun r => if decide (g r = none) = true then some (pv r) else none) (ys_list rfl) (fun H' e => e _ _ l4) ?_ (fun lv hlv H5 K2 K3 e5 k2 k3 => ?_) fun D H6 hD e6 l6 => ?_)⟩
    · rw [List.length_map]; exact Nat.le_trans (List.length_filter_le _ _) (Nat.le_of_ble_eq_true rfl)
    · obtain ⟨r, hr, rfl⟩ := List.mem_map.mp hlv;refine fun ww ww => BO_notinpd (e5 _ _ (e4 _ _ hd2)) ⟨_, rfl, fun q => k2 (if_neg ?_) _ (Ext.refl _), fun q => k3 _ (if_pos ?_) _ (Ext.refl _)⟩
      · rw [R.is] at q; rw [decide_eq_false (of_decide_eq_true (Bool.not_eq_false' _ ▸ q))]; exact Bool.noConfusion
      · rw [R.is] at q; exact decide_eq_true (Classical.not_not.mp (of_decide_eq_false (Bool.not_eq_true' _ ▸ q)))
    · rw [fmP, fm_filter] at l6;have key : (!((List.filter (fun r => decide (g r = none)) (nbs n p)).map pv).isEmpty) = ((nbs n p).any fun r => decide (g r = none)) := by
        rw [Bool.eq_iff_iff]; simp [List.any_eq_true]
      exact ⟨_, truth_lst l6, fun q => k0 (if_neg (by rw [← key, q]; exact Bool.noConfusion)) _ (e4.trans e6), fun q => k1 _ (if_pos (by rw [← key]; exact q)) _ (e4.trans e6)⟩
  rw [hmm, fmP, fm_filter] at l1;have i1 : ((fs.map (·.1)).filter fun p => (nbs n p).any fun r => decide (g r = none)).Nodup := R.nd.filter _;have i2 : ∀ p, p ∈ ((fs.map (·.1)).filter fun p => (nbs n p).any fun r => decide (g r = none)) → Alive n g p := fun p hp => by
    rw [List.mem_filter, List.any_eq_true] at hp;obtain ⟨h1, r, h2, h3⟩ := hp;exact .lib (R.keys.mp h1) h2 (of_decide_eq_true h3)
  have i3 : ∀ p, g p ≠ none → (∃ r, r ∈ nbs n p ∧ g r = none) → p ∈ ((fs.map (·.1)).filter fun p => (nbs n p).any fun r => decide (g r = none)) := fun p h1 ⟨r, h2, h3⟩ => by
    rw [List.mem_filter, List.any_eq_true];exact ⟨R.keys.mpr h1, r, h2, decide_eq_true h3⟩
  generalize ((fs.map (·.1)).filter fun p => (nbs n p).any fun r => decide (g r = none)) = L0 at l1 i1 i2 i3;have lenL : ∀ L : List Pt, L.Nodup → (∀ p, p ∈ L → Alive n g p) → L.length ≤ 49 := fun L nd hA => few L nd fun p hp => ⟨R.on p (hA p hp).some, (hA p hp).some⟩;let F_I : Option LV → Option LV → VF := fun (o1:Option LV) (o2:Option LV) => [some (.ref d), some (.int n), o1, o2, some (.ref a)];let I : Nat → VF → Hp → Prop := fun i v_ H' => El (fun p_ => ∀ (L:List Pt) (o1:Option LV) (o2:Option LV), (Ext H H') → (H' a = some (.lst (L.map pv))) → (L.Nodup) → ((∀ p, p ∈ L → Alive n g p)) → ((∀ p, g p ≠ none → (∃ r, r ∈ nbs n p ∧ g r = none) → p ∈ L)) → (GD n (fun p r => g r = g p) L i 0) → p_ (F_I o1 o2)) v_;have hI : ∀ {i:Nat} {L:List Pt} {o1:Option LV} {o2:Option LV} {H':Hp}, (Ext H H') → (H' a = some (.lst (L.map pv))) → (L.Nodup) → ((∀ p, p ∈ L → Alive n g p)) → ((∀ p, g p ≠ none → (∃ r, r ∈ nbs n p ∧ g r = none) → p ∈ L)) → (GD n (fun p r => g r = g p) L i 0) → I i (F_I o1 o2) H' := fun z0 z1 z2 z3 z4 z5 p_ k_ => k_ _ _ _ z0 z1 z2 z3 z4 z5
  refine ⟨stpL G, IV_list l1 (LFor.grow 49 I
    (hI e1 l1 i1 i2 i3 GD.start) fun i H' => El.el fun L o1 o2 hE hL nd hA h0 hG => ⟨rfl, L.map pv, hL, by rw [List.length_map]; exact lenL L nd hA, fun hi => hPP.r (h a H' L hE fa hL nd fun p => ⟨hA p, fun al => alive_complete h0 R.on (hG.done (by rwa [List.length_map] at hi)) al⟩), fun lv hi P' hP => ?_⟩)⟩
  obtain ⟨p, hp, rfl⟩ := Option.map_eq_some_iff.mp (by rw [List.getElem?_map] at hi; exact hi);have hap := hA p (List.mem_of_getElem? hp);obtain ⟨c', hgp⟩ : ∃ c', g p = some c' := by cases e : g p with | none => exact (hap.some e).elim | some c' => exact ⟨c', rfl⟩
  refine ⟨stpL G, _, W.near.1, .inr (.inr W.near.2.1), CALL_near W fun b H3 e3 f3 l3 => IV_list l3 ?_⟩;have nab : a ≠ b := ne_of f3 hL;let F_J : Option LV → VF := fun (o:Option LV) => [some (.ref d), some (.int n), some (pv p), o, some (.ref a)];let J : Nat → VF → Hp → Prop := fun t v_ H'' => El (fun p_ => ∀ (L':List Pt) (o:Option LV), (Ext H H'') → (H'' a = some (.lst (L'.map pv))) → (H'' b = some (.lst ((nbs n p).map pv))) → (L'.Nodup) → ((∀ p, p ∈ L' → Alive n g p)) → ((∀ p, g p ≠ none → (∃ r, r ∈ nbs n p ∧ g r = none) → p ∈ L')) → (GD n (fun p r => g r = g p) L' i t) → (L'[i]? = some p) → p_ (F_J o)) v_;have hJ : ∀ {t:Nat} {L':List Pt} {o:Option LV} {H'':Hp}, (Ext H H'') → (H'' a = some (.lst (L'.map pv))) → (H'' b = some (.lst ((nbs n p).map pv))) → (L'.Nodup) → ((∀ p, p ∈ L' → Alive n g p)) → ((∀ p, g p ≠ none → (∃ r, r ∈ nbs n p ∧ g r = none) → p ∈ L')) → (GD n (fun p r => g r = g p) L' i t) → (L'[i]? = some p) → J t (F_J o) H'' := fun z0 z1 z2 z3 z4 z5 z6 z7 p_ k_ => k_ _ _ z0 z1 z2 z3 z4 z5 z6 z7;refine LFor.ys _ ((nbs n p).map pv) J (ys_list rfl)
    (hJ (hE.trans e3) (e3 _ _ hL) l3 nd hA h0 hG hp) (fun t H'' => El.el fun ww ww ww ww hb ww ww ww ww ww => ⟨rfl, hb⟩) (fun P2 t lv H'' hP2 ht => El.el fun L' o hE' hL' hb' nd' hA' h0' hG' hp' => ?_) fun H'' => El.el fun L' o hE' hL' hb' nd' hA' h0' hG' hp' => hP.n (hI hE' hL' nd' hA' h0' (hG'.next hp' (Nat.le_of_eq (List.length_map ..).symm)))
  obtain ⟨r, hr, rfl⟩ := Option.map_eq_some_iff.mp (by rw [List.getElem?_map] at ht; exact ht);have hd' := hE' _ _ hd;have hrn := List.mem_of_getElem? hr;have keep : ∀ (e:g r = g p → r ∈ L'), P2.n (F_J (some (pv r))) H'' := fun e => hP2.n (hJ hE' hL' hb' nd' hA' h0' (hG'.keep hp' hr e) hp');refine BO_inpd hd' ⟨_, rfl, fun q => ?_, fun q => ⟨(fun z => nomatch z), fun ww => keep fun e => ?_⟩⟩
  · rw [R.is] at q;cases hgr : g r with
    | none => exact absurd hgr (of_decide_eq_true q)
    | some c =>
      refine ⟨SubT_pd hd', BO_itempd hd' (R.val hgr) ⟨SubT_pd hd', BO_itempd hd' (R.val hgp) (BO_eqs (R.col _ _ hgr) (R.col _ _ hgp) ⟨_, rfl, fun e => ?_, fun e => ⟨(fun z => nomatch z), fun ww => keep fun e' => absurd (Option.some.inj (hgr.symm.trans (e'.trans hgp))) (of_decide_eq_false e)⟩⟩)⟩⟩;have hcc := of_decide_eq_true e;subst hcc;refine BO_notinL hL' ⟨_, rfl, fun e => ⟨fun ww => ?_, (fun z => nomatch z)⟩, fun e => ⟨(fun z => nomatch z), fun ww => keep fun ww => mem_of_nd e⟩⟩;have hne := not_of_nd e;have hi' := (List.getElem?_eq_some_iff.mp hp').1;refine ⟨_, _, bm_lapp, OfT_lst hL', CALL_append hL' (by rw [List.length_map]; exact Nat.lt_of_le_of_lt (lenL L' nd' hA') (by decide)) (hP2.n (hJ (L' := L' ++ [r]) (hE'.set fa) (hit.trans (by rw [List.map_append]; rfl)) (miss nab.symm hb') (List.nodup_append.mpr ⟨nd', List.nodup_cons.mpr ⟨(fun q => nomatch q), List.nodup_nil⟩, fun x hx y hy q => hne (List.mem_singleton.mp hy ▸ q ▸ hx)⟩) (fun q hq => ?_) (fun q a b => List.mem_append_left _ (h0' q a b)) (hG'.add hp' hr) (by rw [List.getElem?_append_left hi']; exact hp')))⟩;rcases List.mem_append.mp hq with z | z
      · exact hA' q z
      · rw [List.mem_singleton.mp z];exact .step (fun e => nomatch hgr.symm.trans e) (nbs_symm (R.on p (fun e => nomatch hgp.symm.trans e)) hrn) (hgp.trans hgr.symm) hap
  · rw [R.is] at q;have := Classical.not_not.mp (of_decide_eq_false q);exact absurd (e.symm.trans this) hap.some
end
section
theorem CALL_movd {G:Gl} {B:BW G} (W:LW G B) {k:Nat} {H:Hp} {Q:Qv} {X:Xc} {n:Nat} {d:Addr} {fs:List (Pt × LV)} {ep:Nat} {g:Grd} {p:Pt} {c:Str} (hd:H d = some (.pdict fs ep)) (R:Rep n fs g) (hp:On n p) (hc:IsCol c) (few0:Few n g) (few:Few n (gset g p (some c)))
    (h:∀ a H' fs' ep' g2, Ext H H' → H a = none → H' a = some (.pdict fs' ep') → Rep n fs' g2 → Played n (gset g p (some c)) c g2 → Q (.ref a) H') : CALL G (k + 3) (.ref W.fmovd) [.ref d, .int n, pv p, .str c] H Q X := by
  have hlen := R.len few0;let v0 : VF := [some (.ref d), some (.int n), some (pv p), some (.str c), none, none, none];refine CALL_of (CODE_q W.movd.2.2 B.hh 4 rfl (by decide +kernel) v0 is_movd rfl rfl rfl fun PP hPP => ?_);refine ⟨_, W.only.1, .inr (.inr W.only.2.1), CALL_only W (fun q => (fs.lookup q).isSome) hd R.nd (Nat.lt_of_le_of_lt hlen (by decide)) (fun Q X q H' he hq hb => BO_inpd (he _ _ hd) hb) fun a H1 ep1 e1 fa l1 => ?_⟩;have hfs : (fs.filter fun f => (fs.lookup f.1).isSome) = fs := List.filter_eq_self.mpr fun f hf => by
    rw [(mem_lookup R.nd (p := f.1) (v := f.2)).mp hf]; rfl
  rw [hfs] at l1;refine SO_pd l1 (Nat.lt_of_le_of_lt hlen (by decide)) fun ep2 => ?_;have R1 := R.put hp hc;have hfa1 : Go.hset H1 a (.pdict (pput fs p (.str c)) ep2) a = some (.pdict (pput fs p (.str c)) ep2) := hit;have eH : Ext H (Go.hset H1 a (.pdict (pput fs p (.str c)) ep2)) := e1.set fa;generalize Go.hset H1 a (.pdict (pput fs p (.str c)) ep2) = H2 at hfa1 eH;generalize pput fs p (.str c) = fs1 at R1 hfa1;generalize gset g p (some c) = g1 at R1 few h;have hlen1 := R1.len few;have hz1 : fs1.length < 90 := Nat.lt_of_le_of_lt hlen1 (by decide);have hz2 : (fs1.map fun f => pv f.1).length ≤ 4096 := by rw [List.length_map]; exact Nat.le_trans hlen1 (by decide)
  refine ⟨_, W.brea.1, .inr (.inr W.brea.2.1), CALL_brea W hfa1 R1 few fun b H3 L e3 fb l3 ndL mL => ?_⟩;have hfa3 := e3 _ _ hfa1;have hmm : fs1.map (fun f => pv f.1) = (fs1.map (·.1)).map pv := by rw [List.map_map]; rfl
  refine ⟨stpD G, IV_dict hfa3 (.fm _ (fs1.map fun f => pv f.1) (fun lv => (decP lv).bind fun q => if (decide (g1 q ≠ some c) && !decide (q ∈ L)) = true then some (pv q) else none) (ys_dict (fs := fs1) (ep := ep2) rfl) (fun H' e => e _ _ hfa3) hz2 (fun lv hlv H4 K0 K1 e k0 k1 => ?_) fun f H4 hf e4 l4 => ?_)⟩
  · obtain ⟨⟨q, w⟩, hq, rfl⟩ := List.mem_map.mp hlv;have h4 := e _ _ hfa3;have hb4 := e _ _ l3;refine fun o0 ww => ⟨SubT_pd h4, ?_⟩;cases hgq : g1 q with
    | none => exact (R1.keys.mp (List.mem_map.mpr ⟨_, hq, rfl⟩) hgq).elim
    | some c' =>
      refine BO_itempd h4 (R1.val hgq) (BO_nes (R1.col _ _ hgq) hc ⟨_, rfl, fun z => BO_notinL hb4 ⟨_, rfl, fun y => ⟨(fun z => nomatch z), fun ww => k1 _ (if_pos ?_) _ (Ext.refl _)⟩, fun y => ⟨fun ww => k0 (if_neg ?_) _ (Ext.refl _), (fun z => nomatch z)⟩⟩, fun z => ⟨fun ww => k0 (if_neg ?_) _ (Ext.refl _), (fun z => nomatch z)⟩⟩)
      · rw [hgq, Bool.and_eq_true];exact ⟨decide_eq_true fun w => of_decide_eq_false ((Bool.not_eq_true' _).mp z) (Option.some.inj w), y⟩
      · rw [y, Bool.and_false]; exact Bool.noConfusion
      · rw [hgq, of_decide_eq_true ((Bool.not_eq_false' _).mp z), decide_eq_false (fun w => w rfl)]; exact Bool.noConfusion
  rw [hmm, fmP, fm_filter] at l4;have mF : ∀ q, q ∈ ((fs1.map (·.1)).filter fun q => decide (g1 q ≠ some c) && !decide (q ∈ L)) ↔ (Dead n g1 q ∧ g1 q ≠ some c) := fun q => by
    rw [List.mem_filter, R1.keys, Bool.and_eq_true, decide_eq_true_eq, Bool.not_eq_true', decide_eq_false_iff_not, mL];exact ⟨fun ⟨a, b, e⟩ => ⟨⟨R1.on q a, a, e⟩, b⟩, fun ⟨⟨_, a, e⟩, b⟩ => ⟨a, b, e⟩⟩
  generalize ((fs1.map (·.1)).filter fun q => decide (g1 q ≠ some c) && !decide (q ∈ L)) = F at l4 mF;have hfa4 := e4 _ _ hfa3;have hb4 := e4 _ _ l3;have eH4 := (eH.trans e3).trans e4;refine ⟨_, truth_lst l4, fun hF => ?_, fun hF => ?_⟩
  · refine ⟨_, W.only.1, .inr (.inr W.only.2.1), ⟨stpD G, IV_dict hfa4 (.fm _ (fs1.map fun f => pv f.1) (fun lv => (decP lv).bind fun q => if (!decide (q ∈ F)) = true then some (pv q) else none) (ys_dict (fs := fs1) (ep := ep2) rfl) (fun H' e => e _ _ hfa4) hz2 (fun lv hlv H5 K0 K1 e k0 k1 => ?_) fun x H5 hx e5 l5 => ?_)⟩⟩
    · obtain ⟨⟨q, w⟩, hq, rfl⟩ := List.mem_map.mp hlv;exact fun o0 ww => BO_notinL (e _ _ l4) ⟨_, rfl, fun z => k0 (if_neg (Bool.eq_false_iff.mp z)) _ (Ext.refl _), fun z => k1 _ (if_pos z) _ (Ext.refl _)⟩
    rw [hmm, fmP, fm_filter] at l5;refine CALL_only W (fun q => decide (q ∈ (fs1.map (·.1)).filter fun q => !decide (q ∈ F))) (e5 _ _ hfa4) R1.nd hz1 (fun Q X q H' he hq hb => BO_inL (he _ _ l5) hb) fun y H6 ep6 e6 fy l6 => hPP.r ?_;refine h y H6 _ ep6 _ ((eH4.trans e5).trans e6) (Ext.none (eH4.trans e5) fy) l6 (R1.filter (fun q => decide (q ∈ (fs1.map (·.1)).filter fun q => !decide (q ∈ F)))) (.inl ⟨?_, fun q hq => ⟨fun z => ?_, fun z => ?_⟩⟩)
    · cases F with
      | nil => cases hF
      | cons q F => exact ⟨q, (mF q).mp (.head _)⟩
    · refine if_neg fun w => ?_;have := (List.mem_filter.mp (of_decide_eq_true w)).2;rw [decide_eq_true ((mF q).mpr z)] at this; cases this
    · by_cases e : g1 q = none
      · rw [e]; split <;> rfl
      · exact if_pos (decide_eq_true (List.mem_filter.mpr ⟨R1.keys.mpr e, by rw [decide_eq_false (mt (mF q).mp z)]; rfl⟩))
  · have hF0 : ∀ q, ¬ (Dead n g1 q ∧ g1 q ≠ some c) := fun q hq => by
      have := (mF q).mpr hq;cases F with
      | nil => cases this
      | cons _ _ => cases hF
    refine ⟨_, W.only.1, .inr (.inr W.only.2.1), CALL_only W (fun q => decide (q ∈ L)) hfa4 R1.nd hz1 (fun Q X q H' he hq hb => BO_inL (he _ _ hb4) hb) fun y H6 ep6 e6 fy l6 => hPP.r ?_⟩;exact h y H6 _ ep6 _ (eH4.trans e6) (Ext.none eH4 fy) l6 (R1.filter (fun q => decide (q ∈ L))) (.inr ⟨fun ⟨q, hq⟩ => hF0 q hq, fun q hq => ⟨fun al => if_pos (decide_eq_true ((mL q).mpr al)), fun na => if_neg fun w => na ((mL q).mp (of_decide_eq_true w))⟩⟩)
end
end Go
end
section
namespace Go
open PySem PySem.W PyProof.Rows
section
theorem clipN (a n:Nat) : (max 0 (min (if (a:Int) < 0 then (a:Int) + n else a) (n:Int)) : Int) = ((min a n:Nat) : Int) := by
  rw [if_neg (Int.not_lt.mpr (Int.natCast_nonneg a))];rcases Nat.le_total a n with h | h
  · rw [Nat.min_eq_left h, Int.min_eq_left (Int.ofNat_le.mpr h)]; exact Int.max_eq_right (Int.natCast_nonneg _)
  · rw [Nat.min_eq_right h, Int.min_eq_right (Int.ofNat_le.mpr h)]; exact Int.max_eq_right (Int.natCast_nonneg _)
theorem take_min {vs:List LV} {a b:Nat} : (vs.drop (min a vs.length)).take (min b vs.length - min a vs.length) = (vs.drop a).take (b - a) := by
  rcases Nat.le_total a vs.length with h | h
  · rw [Nat.min_eq_left h];rcases Nat.le_total b vs.length with h' | h'
    · rw [Nat.min_eq_left h']
    · rw [Nat.min_eq_right h', List.take_of_length_le (Nat.le_of_eq List.length_drop), List.take_of_length_le (List.length_drop ▸ Nat.sub_le_sub_right h' a)]
  · rw [Nat.min_eq_right h, List.drop_eq_nil_of_le (Nat.le_refl _), List.drop_eq_nil_of_le h, List.take_nil, List.take_nil]
theorem pick_nat {vs:List LV} (a b:Nat) : pickL vs (some (a:Int)) (some (b:Int)) none = (vs.drop a).take (b - a) := by
  have hb : sliceBounds (some (a:Int)) (some (b:Int)) none vs.length = (((min a vs.length : Nat) : Int), ((min b vs.length : Nat) : Int), 1) := by rw [← clipN, ← clipN]; rfl
  exact (pickL_seg hb (Nat.min_le_right ..)).trans take_min
theorem pick_hi {vs:List LV} (b:Nat) : pickL vs none (some (b:Int)) none = vs.take b := by
  have hb : sliceBounds none (some (b:Int)) none vs.length = (((0:Nat) : Int), ((min b vs.length : Nat) : Int), 1) := by rw [← clipN]; rfl
  rw [pickL_seg hb (Nat.min_le_right ..), List.drop_zero, Nat.sub_zero];rcases Nat.le_total b vs.length with h | h
  · rw [Nat.min_eq_left h]
  · rw [Nat.min_eq_right h, List.take_of_length_le (Nat.le_refl _), List.take_of_length_le h]
section
variable {prog:Program} {w:World} {K:Type} [DecidableEq K] {knd:HeapKind prog w K} {A:Around} {E:Value → Shared → Prop} {s:Shared}
theorem meetsH_dict_len {d:Addr} (hd:(d == sysModules) = false) :
    MeetsIn prog w (Builtin.«dict.__len__» ⟨[.ref d], []⟩) (fun ww R s => ∃ xs : List (K × Addr × Value), s.heap.DictOfH knd d xs ∧ R (.ok (.ret (.int xs.length s.toks))) { s with toks := s.toks + 1 }) := by
  refine .of_wp fun A R s ⟨xs, hm, h⟩ => ?_;obtain ⟨o, es, ep, ho, hc, hdat, he, his, hn⟩ := hm;exact (show wpAny _ _ (dictSize d >>= fun n => Builtin.Dict.pendingCount d >>= _) _ _ s from wpAny_bind (wpAny_bind (wpAny_dictEntries ho hdat (wpAny_pure (wpAny_bind (wpAny_pendingCount_other hd (wpAny_ret_mkInt (by rw [Nat.add_zero, size_of_entries he]; exact h))))))))
theorem len_body_dictH {d:Addr} {xs:List (K × Addr × Value)} {Q:Value → Shared → Prop} (hd:(d == sysModules) = false) (hm:s.heap.DictOfH knd d xs) (hfit:(xs.length : Int) < 2 ^ 63)
    (h:Q (.int xs.length (s.toks + 1)) { s with toks := s.toks + 1 + 1 }) : wpAny (model prog w) A (Builtin.«len» ⟨[.ref d], []⟩) (fun fin s' => ∃ r, fin = .done (.ret r) ∧ Q r s') E s := by
  unfold Builtin.«len»;refine wpAny_bind (m := oneArg "len" _) (wpAny_pure (wpAny_bind (wpAny_callSpecial?_slot hm.typeIs PySem.F.slot_dict_len (call_meetsIn PySem.F.slot_dict_len hm.typeIs PySem.F.entry_dict_len (PySem.F.args_dict_len_1 _) (meetsH_dict_len (knd := knd) hd) ⟨xs, hm, wpAny_bind (wpAny_holding (wpAny_pure (wpAny_bind (wpAny_letGo ?_))))⟩))));exact wp_ifn (c := ((xs.length : Nat) : Int) < 0) (Int.not_lt.mpr (Int.natCast_nonneg _)) (wp_ifn (c := ((xs.length : Nat) : Int) ≥ 2 ^ 63) (Int.not_le.mpr hfit) <| wpAny_bind (wpAny_mkInt (wpAny_pure ⟨_, rfl, h⟩)))
end
theorem CALL_len_pd {G:Gl} {k:Nat} {H:Hp} {Q:Qv} {X:Xc} {a:Addr} {fs:List ((Int × Int) × LV)} {ep:Nat} (hH:H a = some (.pdict fs ep)) (h:Q (.int fs.length) H) : CALL G k (.builtin "len") [.ref a] H Q X := fun fl env A C Z m s vals I hv => by
  obtain ⟨va, r, rfl, e1, h2⟩ := hv;cases h2; cases e1;obtain ⟨xs, D, x, z, nd, _⟩ := I.pdict hH;have hx := x.length;refine PySem.Calls.call_function_entry PySem.kind_len PySem.plain_len PySem.entry_len (PySem.args_len1 _) (len_body_dictH (knd := tk2 G) (I.notSys hH) D (lt63 (hx.symm ▸ Nat.le_trans z (by decide))) ?_);rw [hx];exact ⟨C, .int _, H, Cle.refl C, I.toks, ⟨_, rfl⟩, h⟩
end
section
theorem eraseIdx_map' {α β:Type} (f:α → β) (l:List α) : ∀ (i:Nat), (l.map f).eraseIdx i = (l.eraseIdx i).map f := by
  induction l with
  | nil => exact fun ww => rfl
  | cons a t ih =>
    intro i;cases i with
    | zero => rfl
    | succ i => exact congrArg (List.cons (f a)) (ih i)
section
variable {prog:Program} {w:World} {K:Type} [DecidableEq K] {knd:HeapKind prog w K} {A:Around} {E:Value → Shared → Prop} {s:Shared}
theorem takeOut_heap {d a:Addr} {xs:List (K × Addr × Value)} {k:K} {j:Nat} {p:Addr × Value} {Q:Option DictEntry → Shared → Prop} (hu:knd.room A) (hkey:knd.is s.heap k a) (hm:s.heap.DictOfH knd d xs) (hj:xs[j]? = some (k, p))
    (hsome:∀ h', h'.DictOfH knd d (xs.eraseIdx j) → Heap.SameBut d s.heap h' → Q (some (entryOfKey knd (k, p))) { s with heap := h', toks := s.toks + knd.draws k })
    (hsz:xs.length ≤ sizeLine := by size_fits) : wpAny (model prog w) A (Builtin.Dict.takeOut d (.ref a)) Q E s := by
  obtain ⟨o, es, ep, ho, hc, hd, he, his, hn⟩ := hm;have sb := Heap.SameBut.update s.heap d (Obj.mapDictKeys fun es => es.eraseIdxIfInBounds j);unfold Builtin.Dict.takeOut;refine wpAny_holding (wpAny_bind (knd.pyHash hu hkey (wpAny_bind (wpAny_dictFind_heap (s := { s with toks := s.toks + knd.draws k }) hu hkey ho hd he his hn (fun no => (no j p hj).elim) fun j' p' hj' => ?_))));cases idxH_unique hn hj' hj;cases hj.symm.trans hj';refine wpAny_bind (wpAny_dictEntries ho hd ?_);rw [entry_at he j, hj];have here := Heap.get?_update_self (Obj.mapDictKeys fun es => es.eraseIdxIfInBounds j) ho (Obj.isFreed_of_dict (Obj.data_mapDictKeys hd _));refine wpAny_bind (wpAny_updateDictKeys (hz := size_of_entries he ▸ hsz) ho hd (wpAny_pure (hsome _ ⟨_, _, ep + 1, here, hc.mapDictKeys _, Obj.data_mapDictKeys hd _, ?_, fun x hx => knd.keeps (his x (List.mem_of_mem_eraseIdx hx)) ho hd sb, hn.sublist ((List.eraseIdx_sublist xs j).map _)⟩ sb)));rw [Array.toList_eraseIdxIfInBounds, he];exact eraseIdx_map' _ _ _
inductive PopOk (knd:HeapKind prog w K) (d a:Addr) (A:Around) (R:Result → Shared → Prop) (s:Shared) : Prop
  | mk (hu:knd.room A.in1) (k:K) (xs:List (K × Addr × Value)) (j:Nat) (p:Addr × Value) (hkey:knd.is s.heap k a) (hm:s.heap.DictOfH knd d xs) (hsz:xs.length ≤ sizeLine) (hj:xs[j]? = some (k, p))
    (h:∀ h', h'.DictOfH knd d (xs.eraseIdx j) → Heap.SameBut d s.heap h' → R (.ok (.ret p.2)) { s with heap := h', toks := s.toks + knd.draws k })
theorem meetsH_dict_pop {d a:Addr} : MeetsIn prog w (Builtin.«dict.pop» ⟨[.ref d, .ref a], []⟩) (PopOk knd d a) :=
  .of_wp fun A R s h => by
    obtain ⟨hu, k, xs, j, p, hkey, hm, hsz, hj, h⟩ := h;obtain ⟨o, es, ep, ho, hc, hd, he, his, hn⟩ := id hm;have hne : ¬ es.isEmpty = true := fun z => Nat.not_lt_zero _ (((size_of_entries (knd := knd) (xs := xs) he).symm.trans (Array.isEmpty_iff_size_eq_zero.mp z)) ▸ (List.getElem?_eq_some_iff.mp hj).1);unfold Builtin.«dict.pop»;refine wpAny_bind ?_;unfold Builtin.Dict.keyAndDefault;refine wpAny_bind (wpAny_notOrdered_dict hm.typeIs ?_);show wpAny _ _ (pure (d, Value.ref a, none)) _ _ s;refine wpAny_pure (wp_ifn (c := (keyPart (.ref a)).isSome = true) Bool.noConfusion (wpAny_bind (wpAny_dictEntries ho hd (wpAny_bind (wpAny_pure (wp_ifn hne (wpAny_bind (takeOut_heap hu hkey hm hj (hsz := hsz) fun h' hm' hs' => ?_))))))));exact wp_ifn Bool.noConfusion (wpAny_bind (wpAny_letGo (wpAny_pure ⟨p.2, rfl, h h' hm' hs'⟩)))
end
theorem XsR.erase {C:Cm} {fs:List ((Int × Int) × LV)} : ∀ {xs:List (List Int × Addr × Value)} (j:Nat), XsR C fs xs → XsR C (fs.eraseIdx j) (xs.eraseIdx j) := by
  induction fs with
  | nil => intro xs j h; cases h; exact rfl
  | cons f fs ih =>
    intro xs j h;obtain ⟨a, v, r, rfl, h1, h2, h⟩ := h;cases j with
    | zero => exact h
    | succ j => exact ⟨a, v, r.eraseIdx j, rfl, h1, h2, ih j h⟩
theorem erase_filter {fs:List ((Int × Int) × LV)} {p:Int × Int} {l:LV} : ∀ {j:Nat}, (fs.map (·.1)).Nodup → fs[j]? = some (p, l) → fs.eraseIdx j = fs.filter fun f => !decide (f.1 = p) := by
  induction fs with
  | nil => exact fun ww h => nomatch h
  | cons f r ih =>
    intro j nd h;obtain ⟨n1, n2⟩ := List.nodup_cons.mp nd;rw [List.filter_cons];cases j with
    | zero =>
      cases Option.some.inj h;rw [if_neg (by rw [decide_eq_true rfl]; exact Bool.noConfusion)];exact (List.filter_eq_self.mpr fun g hg => by rw [decide_eq_false fun e => n1 (List.mem_map.mpr ⟨g, hg, e⟩)]; rfl).symm
    | succ j =>
      have h : r[j]? = some (p, l) := h;rw [if_pos (by rw [decide_eq_false fun e => n1 (List.mem_map.mpr ⟨_, List.mem_of_getElem? h, e.symm⟩)]; rfl)];exact congrArg (List.cons f) (ih n2 h)
theorem XsR.at2 {C:Cm} {p:Int × Int} {l:LV} {fs:List ((Int × Int) × LV)} : ∀ {xs:List (List Int × Addr × Value)} {j:Nat}, XsR C fs xs → fs[j]? = some (p, l) → ∃ a w, xs[j]? = some (kk p, a, w) ∧ VR C l w := by
  induction fs with
  | nil => exact fun ww h => nomatch h
  | cons f fs ih =>
    intro xs j h hj;obtain ⟨a, v, r, rfl, _, h2, h⟩ := h;cases j with
    | zero => cases Option.some.inj hj; exact ⟨a, v, rfl, h2⟩
    | succ j => exact ih (j := j) h hj
theorem CALL_dpop {G:Gl} {k:Nat} {H:Hp} {Q:Qv} {X:Xc} {d:Addr} {fs:List ((Int × Int) × LV)} {ep j:Nat} {p:Int × Int} {l:LV} (hH:H d = some (.pdict fs ep)) (hj:fs[j]? = some (p, l)) (h:∀ ep', Q l (hset H d (.pdict (fs.filter fun f => !decide (f.1 = p)) ep'))) : CALL G k (.builtin "dict.pop") [.ref d, pv p] H Q X := fun fl env A C Z m s vals I hv => by
  obtain ⟨va, r, rfl, e1, h2⟩ := hv;obtain ⟨vb, r2, rfl, e2, h3⟩ := h2;cases h3; cases e1;obtain ⟨xs, D, x, z, nd, _⟩ := I.pdict hH;obtain ⟨a, rfl, ht⟩ := I.pkey e2;obtain ⟨a', w, hx, hw⟩ := x.at2 hj;have hsz := x.length;refine call_meetsIn PySem.F.slot_dict_pop D.typeIs PySem.F.entry_dict_pop (PySem.F.args_dict_pop_2 _ _) meetsH_dict_pop ⟨room2 I, kk p, xs, j, (a', w), ht, D, le_line (hsz ▸ Nat.le_trans z (by decide)), hx, fun h' q1 q2 => ?_⟩;have hl := (List.eraseIdx_sublist fs j).length_le;obtain ⟨ep', J⟩ := I.pdict_back (tk := s.toks + (tk2 G).draws (kk p)) hH q2 q1 (x.erase j) (nd.sublist ((List.eraseIdx_sublist fs j).map _)) (Nat.le_trans hl z);rw [erase_filter nd hj] at J;exact ⟨C, l, _, Cle.refl C, J, hw, h ep'⟩
end
end Go
end
section
namespace Go
open PySem PySem.W PyProof.Rows PySem.Calls
section
noncomputable def rowsV (n:Nat) (g:Grd) : List LV := (pts n).filterMap fun p => (g p).map fun c => .tup [.str c, pv p]
noncomputable def rowsD (n:Nat) (g:Grd) : List PyData := (pts n).filterMap fun p => (g p).map fun c => .tuple [.str c, pd p]
theorem lay_col {c:Str} (h:IsCol c) : PyData.canLay0 (.str c) = true := by
  rcases h with rfl | rfl
  · decide +kernel
  · decide +kernel
theorem isDs_rows {H:Hp} {n:Nat} {g:Grd} (hc:∀ p c, g p = some c → IsCol c) : IsDs H (rowsV n g) (rowsD n g) := by
  unfold rowsV rowsD;generalize pts n = L
  induction L with
  | nil => exact .nil
  | cons p L ih =>
    cases h : g p with
    | none => rw [List.filterMap_cons, List.filterMap_cons, h]; exact ih
    | some c => rw [List.filterMap_cons, List.filterMap_cons, h]; exact .cons (.tup (.cons (.str (lay_col (hc _ _ h))) (.cons isD_pv .nil))) ih
theorem eqv_rows {n:Nat} {g:Grd} : PyData.eqv (.list (rowsD n g)) (.list (rowsD n g)) = true := by
  unfold rowsD;generalize pts n = L
  induction L with
  | nil => simp [PyData.eqv, PyData.eqvAll]
  | cons p L ih =>
    cases h : g p with
    | none => simpa [List.filterMap_cons, h] using ih
    | some c => simp only [PyData.eqv] at ih; simp only [List.filterMap_cons, h, Option.map_some, PyData.eqv, PyData.eqvAll, pd]; simp only [pd] at ih; rw [ih]; simp
theorem eqv_rows0 {n:Nat} {g:Grd} : PyData.eqv (.list (rowsD n g)) (.list []) = (rowsD n g).isEmpty := by
  cases rowsD n g <;> simp [PyData.eqv, PyData.eqvAll]
theorem rows_empty {n:Nat} {g:Grd} : (rowsD n g).isEmpty = true ↔ ∀ p, On n p → g p = none := by
  rw [List.isEmpty_iff];unfold rowsD;rw [List.filterMap_eq_nil_iff];constructor
  · intro h p hp;have := h p (mem_pts.mpr hp);cases e : g p with
    | none => rfl
    | some c => rw [e] at this; cases this
  · intro h p hp;rw [h p (mem_pts.mp hp)]; rfl
theorem depth_rows {n:Nat} {g:Grd} : (PyData.list (rowsD n g)).depth ≤ 6 := by
  have : PyData.depthAll (rowsD n g) ≤ 5 := by
    unfold rowsD;generalize pts n = L
    induction L with
    | nil => simp [PyData.depthAll]
    | cons p L ih =>
      cases h : g p with
      | none => simpa [List.filterMap_cons, h] using ih
      | some c => simp only [List.filterMap_cons, h, Option.map_some, PyData.depthAll]; refine Nat.max_le.mpr ⟨?_, ih⟩; simp [pd, PyData.depth, PyData.depthAll]
  simp only [PyData.depth]; omega
theorem fm_congr {α:Type} {F F':Pt → Option α} {L:List Pt} (h:∀ p, p ∈ L → F p = F' p) : L.filterMap F = L.filterMap F' := by
  induction L with
  | nil => rfl
  | cons p L ih => rw [List.filterMap_cons, List.filterMap_cons, h p (.head _), ih fun q hq => h q (List.mem_cons_of_mem _ hq)]
theorem rows_congr {n:Nat} {g g':Grd} (h:∀ p, On n p → g p = g' p) : rowsD n g = rowsD n g' ∧ rowsV n g = rowsV n g' :=
  ⟨fm_congr fun p hp => by rw [h p (mem_pts.mp hp)], fm_congr fun p hp => by rw [h p (mem_pts.mp hp)]⟩
theorem BO_rows {G:Gl} {H:Hp} {Q:Qv} {X:Xc} {a c:Addr} {n:Nat} {g g':Grd} (ha:H a = some (.lst (rowsV n g))) (hb:H c = some (.lst (rowsV n g'))) (hc:∀ p c, g p = some c → IsCol c) (hc':∀ p c, g' p = some c → IsCol c) (e:∀ p, On n p → g p = g' p) (h:Q (.bool false) H) : BO G (compareOp .NotEq) (.ref a) (.ref c) H Q X := by
  refine BO_ne (.ref ha (isDs_rows hc)) (.ref hb (isDs_rows hc')) ?_ (Nat.lt_of_le_of_lt (Nat.min_le_left _ _) (Nat.lt_of_le_of_lt depth_rows (by decide)));rw [(rows_congr e).1, eqv_rows]; exact h
theorem BO_rows0 {G:Gl} {H:Hp} {Q:Qv} {X:Xc} {a c:Addr} {n:Nat} {g:Grd} {em:Bool} (ha:H a = some (.lst (rowsV n g))) (hb:H c = some (.lst [])) (hc:∀ p c, g p = some c → IsCol c) (e:em = true ↔ ∀ p, On n p → g p = none) (h:Q (.bool em) H) : BO G (compareOp .Eq) (.ref a) (.ref c) H Q X := by
  refine BO_eq (.ref ha (isDs_rows hc)) (.ref hb .nil) ?_ (Nat.lt_of_le_of_lt (Nat.min_le_left _ _) (Nat.lt_of_le_of_lt depth_rows (by decide)));rw [eqv_rows0];have : (rowsD n g).isEmpty = em := by
    rw [Bool.eq_iff_iff, rows_empty, e]
  rw [this]; exact h
theorem legal_len {n:Nat} {g:Grd} {L:List Pt} {fs:List (Pt × LV)} (R:Rep n fs g) (nd:L.Nodup) (mL:∀ p, p ∈ L ↔ Alive n g p) : ((L.length : Int) == (fs.length : Int)) = true ↔ Legal n g := by
  rw [beq_iff_eq];have hk : (fs.map (·.1)).length = fs.length := List.length_map _;have sub : ∀ p, p ∈ L → p ∈ fs.map (·.1) := fun p hp => R.keys.mpr ((mL p).mp hp).some;have le := nodup_le _ _ nd sub;constructor
  · intro e p hp hg;refine Classical.byContradiction fun na => ?_;have := nodup_le (p :: L) (fs.map (·.1)) (List.nodup_cons.mpr ⟨fun h => na ((mL p).mp h), nd⟩) fun x hx => by
      rcases List.mem_cons.mp hx with rfl | hx
      · exact R.keys.mpr hg
      · exact sub x hx
    rw [List.length_cons, hk, ← Int.ofNat.inj e] at this;exact Nat.not_succ_le_self _ this
  · intro hl;have := nodup_le (fs.map (·.1)) L R.nd fun p hp => (mL p).mpr (hl p (R.on p (R.keys.mp hp)) (R.keys.mp hp));exact congrArg Int.ofNat (Nat.le_antisymm (hk ▸ le) (hk ▸ this))
theorem Played.unique {n:Nat} {g1 g2 g2':Grd} {c:Str} (h:Played n g1 c g2) (h':Played n g1 c g2') : ∀ p, On n p → g2 p = g2' p := fun p hp => by
  rcases h with ⟨e, h⟩ | ⟨e, h⟩
  · rcases h' with ⟨_, h'⟩ | ⟨e', _⟩
    · by_cases z : Dead n g1 p ∧ g1 p ≠ some c
      · rw [(h p hp).1 z, (h' p hp).1 z]
      · rw [(h p hp).2 z, (h' p hp).2 z]
    · exact (e' e).elim
  · rcases h' with ⟨e', _⟩ | ⟨_, h'⟩
    · exact (e e').elim
    · exact h.unique h' hp
theorem ints_notC {L:List Int} : L.map LV.int = [] ∨ ∃ v, v ∈ L.map LV.int ∧ ∀ o, v ≠ cv o := by
  cases L with
  | nil => exact .inl rfl
  | cons p r => exact .inr ⟨.int p, by simp, fun o => by cases o <;> simp [cv]⟩
end
section
noncomputable def lawS : Stmt := top 13
noncomputable abbrev il_h3 (r:ST) : ST := (sAsg (tLcL (fscope (top 13)) nslaw (lcE (asgE (nthS (fbody (top 13)) 7))) (lcG (asgE (nthS (fbody (top 13)) 7))) (lcS (asgE (nthS (fbody (top 13)) 7))) (lcP (asgE (nthS (fbody (top 13)) 7)))) (g1 10)
  (sAsg tD0 (g1 11)
  (sAsg (tBin .Mod (tBin .Mult (tVar 2) (tC (.int (16777213)))) (tC (.int (43046721)))) (g1 2) r)))
noncomputable abbrev il_h2 (r:ST) : ST := (sAsg (tTup (tCons (tBin .Mod (tBin .Add (tVar 5) (tVar 6)) (tVar 3)) (tCons (tBin .Mod (tBin .Add (tBin .FloorDiv (tVar 5) (tVar 3)) (tVar 6)) (tVar 3)) tNil))) (g1 7)
  (sAsg (tIte (tCmpT .Eq (tBin .Mod (tBin .FloorDiv (tBin .FloorDiv (tVar 5) (tVar 3)) (tVar 3)) (tC (.int (2)))) (tC (.int (0)))) (tTup (tCons (tC (.str (ofString "b"))) (tCons (tC (.str (ofString "w"))) tNil))) (tTup (tCons (tC (.str (ofString "w"))) (tCons (tC (.str (ofString "b"))) tNil)))) (g2 8 9)
  (il_h3 r)))
noncomputable abbrev il_head (r:ST) : ST := (sAsg (tSlc (tBin .Add (tVar 0) (tLst (tCons (tC (.int (0))) (tCons (tC (.int (0))) tNil)))) tP0 (tP1 (tC (.int (2)))) tP0) (g2l 1 2)
  (sAsg (tSub (tLst (tCons (tC (.int (4))) (tCons (tC (.int (3))) (tCons (tC (.int (2))) (tCons (tC (.int (9))) tNil))))) (tBin .Mod (tVar 1) (tC (.int (4))))) (g1 3)
  (sAsg (tBin .Mod (tBin .FloorDiv (tVar 1) (tC (.int (4)))) (tC (.int (5)))) (g1 4)
  (sAsg (tBin .FloorDiv (tVar 1) (tC (.int (20)))) (g1 5)
  (sAsg (tIte (tCmpT .Eq (tVar 3) (tC (.int (9)))) (tC (.int (6))) (tC (.int (0)))) (g1 6) (il_h2 r))))))
noncomputable abbrev il_fill (r:ST) : ST :=   (sFor (g1 13) (tItV (tLc [none, none, some 3, some 7] (tItV (tVar 10)) (g1 1) (tOr (tCmpT .Lt (tVar 2) (tC (.int (9)))) (tOr (tCmpT .Lt (tBin .Add (tCall (ofString "abs") (tCons (tBin .Sub (tSub (tVar 1) (tC (.int (0)))) (tSub (tVar 3) (tC (.int (0))))) tNil)) (tCall (ofString "abs") (tCons (tBin .Sub (tSub (tVar 1) (tC (.int (1)))) (tSub (tVar 3) (tC (.int (1))))) tNil))) (tC (.int (3)))) (tLit false))) (tVar 1)))
  (sIfR (tTv (tBin .Mod (tVar 2) (tC (.int (3))))) (sSet (tVar 11) (tVar 13) (tSub (tC (.str (ofString "bw"))) (tBin .Sub (tBin .Mod (tVar 2) (tC (.int (3)))) (tC (.int (1)))))
  sNil) sNil
  (sAsg (tBin .FloorDiv (tVar 2) (tC (.int (3)))) (g1 2)
  sNil)) r)
noncomputable abbrev il_prize (r:ST) : ST :=   (sAsg (tSub (tLst (tCons (tTup (tCons (tC (.int (1))) (tCons (tC (.int (0))) tNil))) (tCons (tTup (tCons (tC (.int (0))) (tCons (tC (.int (1))) tNil))) (tCons (tTup (tCons (tNeg (tC (.int (1)))) (tCons (tC (.int (0))) tNil))) (tCons (tTup (tCons (tC (.int (0))) (tCons (tNeg (tC (.int (1)))) tNil))) (tCons (tTup (tCons (tC (.int (9))) (tCons (tC (.int (9))) tNil))) tNil)))))) (tVar 4)) (g2 14 15)
  (sAsg (tTup (tCons (tBin .Add (tSub (tVar 7) (tC (.int (0)))) (tVar 14)) (tCons (tBin .Add (tSub (tVar 7) (tC (.int (1)))) (tVar 15)) tNil))) (g1 16)
  (sIfR (tCmpT .In (tVar 16) (tVar 10)) (sFor (g1 12) (tItV (tCall (ofString "_law_near") (tCons (tVar 16) (tCons (tVar 3) tNil))))
  (sSet (tVar 11) (tVar 12) (tVar 8)
  sNil)
  (sFor (g1 12) (tItV (tCall (ofString "_law_near") (tCons (tVar 7) (tCons (tVar 3) tNil))))
  (sSet (tVar 11) (tVar 12) (tVar 9)
  sNil)
  (sEx (tBm (tVar 11) (ofString "pop") (tCons (tVar 7) tNil))
  sNil))) sNil r)))
noncomputable abbrev il_set (r:ST) : ST :=   (sAsg (tCall (ofString "Board") (tCons (tVar 3) tNil)) (g1 17)
  (sAsg (tLc [none, none, some 11] (tItV (tVar 10)) (g1 1) (tCmpT .Eq (tBm (tVar 2) (ofString "get") (tCons (tVar 1) tNil)) (tC (.str (ofString "b")))) (tVar 1)) (g1 18)
  (sAsg (tLc [none, none, some 11] (tItV (tVar 10)) (g1 1) (tCmpT .Eq (tBm (tVar 2) (ofString "get") (tCons (tVar 1) tNil)) (tC (.str (ofString "w")))) (tVar 1)) (g1 19)
  (sAsg (tOm (tVar 17) (ofString "apply_setup") (tCons (tVar 18) (tCons (tVar 19) (tCons (tLst tNil) tNil)))) (g1 20)
  (sAsg (tCall (ofString "_law_breathing") (tCons (tVar 11) (tCons (tVar 3) tNil))) (g1 21)
  (sIfJ (tCmpT .IsNot (tVar 20) (tCmp .Eq (tCall (ofString "len") (tCons (tVar 21) tNil)) (tCall (ofString "len") (tCons (tVar 11) tNil)))) (sRet (tC (.bool false)))
  (sAsg (tCall (ofString "_law_only") (tCons (tVar 11) (tCons (tVar 21) tNil))) (g1 11)
  (sAsg (tIte (tCmpT .Lt (tVar 3) (tC (.int (4)))) (tC (.int (4))) (tIte (tCmpT .Eq (tVar 3) (tC (.int (4)))) (tC (.int (3))) (tC (.int (2))))) (g1 22) r))))))))
noncomputable abbrev il_pt2 (r:ST) : ST := (sAsg (tCall (ofString "_law_rows") (tCons (tVar 11) (tCons (tVar 10) tNil))) (g1 27) r)
noncomputable abbrev il_pt (r:ST) : ST :=   (sAsg (tTup (tCons (tBin .Mod (tBin .Add (tSub (tVar 7) (tC (.int (0)))) (tVar 24)) (tVar 3)) (tCons (tBin .Mod (tBin .Add (tSub (tVar 7) (tC (.int (1)))) (tBin .FloorDiv (tVar 24) (tVar 3))) (tVar 3)) tNil))) (g1 13)
  (sAsg (tIte (tCmpT .Eq (tBin .Mod (tBin .FloorDiv (tBin .FloorDiv (tVar 24) (tVar 3)) (tVar 3)) (tC (.int (2)))) (tC (.int (0)))) (tTup (tCons (tVar 8) (tCons (tVar 9) tNil))) (tTup (tCons (tVar 9) (tCons (tVar 8) tNil)))) (g2 25 26)
  (il_pt2 r)))
noncomputable abbrev il_ck (v:Nat) (r:ST) : ST := (sIfJ (tOr (tCmpT .NotEq (tOm (tVar 17) (ofString "list_occupied_points") tNil) (tVar v)) (tOr (tCmpT .IsNot (tOm (tVar 17) (ofString "is_empty") tNil) (tCmp .Eq (tVar v) (tLst tNil))) (tLit false))) (sRet (tC (.bool false))) r)
noncomputable abbrev il_hnd : ST := (sIfJ (tOr (tCmpT .NotIn (tVar 13) (tVar 11)) (tOr (tCmpT .NotEq (tOm (tVar 17) (ofString "list_occupied_points") tNil) (tVar 27)) (tLit false))) (sRet (tC (.bool false)))
  sCnt)
noncomputable abbrev il_play : ST := (sAsg (tOm (tVar 17) (ofString "play") (tCons (tSub (tVar 13) (tC (.int (0)))) (tCons (tSub (tVar 13) (tC (.int (1)))) (tCons (tVar 25) tNil)))) (g1 28)
  sNil)
noncomputable abbrev il_try (r:ST) : ST := sTryH "ValueError" il_hnd il_play r
noncomputable abbrev il_mv (r:ST) : ST :=   (sIfJ (tCmpT .In (tVar 13) (tVar 11)) (sRet (tC (.bool false)))
  (sAsg (tCall (ofString "_law_moved") (tCons (tVar 11) (tCons (tVar 3) (tCons (tVar 13) (tCons (tVar 25) tNil))))) (g1 11)
  (sAsg (tCall (ofString "_law_rows") (tCons (tVar 11) (tCons (tVar 10) tNil))) (g1 29) r)))
noncomputable abbrev il_rep (r:ST) : ST :=   (sAsg (tLst tNil) (g1 30)
  (sAsg (tIte (tOr (tCmpT .Lt (tVar 3) (tC (.int (4)))) (tOr (tAnd (tCmpT .Eq (tVar 3) (tC (.int (4)))) (tAnd (tCmpT .Eq (tVar 23) (tC (.int (0)))) (tLit true))) (tLit false))) (tVar 10) (tCall (ofString "_law_near") (tCons (tVar 13) (tCons (tVar 3) tNil)))) (g1 31) r))
noncomputable abbrev il_reply : ST := (sIf (tCmpT .NotIn (tVar 32) (tVar 11)) (sAsg (tOm (tVar 17) (ofString "copy") tNil) (g1 33)
  (sIfJ (tCmpT .IsNot (tOm (tVar 33) (ofString "is_empty") tNil) (tCmp .Eq (tVar 29) (tLst tNil))) (sRet (tC (.bool false)))
  (sAsg (tOm (tVar 33) (ofString "play") (tCons (tSub (tVar 32) (tC (.int (0)))) (tCons (tSub (tVar 32) (tC (.int (1)))) (tCons (tVar 26) tNil)))) (g1 34)
  (sIf (tAnd (tCmpT .Is (tOm (tVar 33) (ofString "get") (tCons (tSub (tVar 13) (tC (.int (0)))) (tCons (tSub (tVar 13) (tC (.int (1)))) tNil))) (tC .none)) (tAnd (tCmpT .Eq (tOm (tVar 33) (ofString "list_occupied_points") tNil) (tVar 27)) (tLit true))) (sEx (tBm (tVar 30) (ofString "append") (tCons (tTup (tCons (tVar 32) (tCons (tVar 34) tNil))) tNil))
  sNil)
  sNil))))
  sNil)
noncomputable abbrev il_loop (r:ST) : ST := (sFor (g1 32) (tItV (tVar 31)) il_reply r)
noncomputable abbrev il_fin : ST := (sIfJ (tCmpT .NotEq (tOm (tVar 17) (ofString "list_occupied_points") tNil) (tVar 29)) (sRet (tC (.bool false)))
  (sIf (tCmpT .NotIn (tVar 13) (tVar 11)) (sIfJ (tCmpT .IsNot (tVar 28) (tC .none)) (sRet (tC (.bool false)))
  sNil)
  (sIfJ (tCmpT .NotEq (tVar 30) (tIte (tCmpT .Is (tVar 28) (tC .none)) (tLst tNil) (tLst (tCons (tTup (tCons (tVar 28) (tCons (tVar 13) tNil))) tNil)))) (sRet (tC (.bool false)))
  sNil)))
noncomputable abbrev il_turn : ST := il_pt (il_ck 27 (il_try (il_mv (il_ck 29 (il_rep (il_loop il_fin))))))
noncomputable abbrev il_all : ST := il_head (il_fill (il_prize (il_set (sForE (g2 23 24) (tBin .Add (tLst (tCons (tC (.int (0))) tNil)) (tSlc (tVar 0) (tP1 (tC (.int (2)))) (tP1 (tVar 22)) tP0)) il_turn (sRet (tC (.bool true)))))))
theorem is_all : trB (top 13) nslaw = il_all := by kernel_rfl
end
section
theorem BO_dv {G:Gl} {a b:Int} {H:Hp} {Q:Qv} {X:Xc} (hb:b ≠ 0) (hp:b.natAbs < 1073741824) (h:Q (.int (a.fdiv b)) H) : BO G (binaryOp .FloorDiv) (.int a) (.int b) H Q X := BO_div hb h (PyProof.noPylong_small hp)
theorem modn {a b:Int} (hb:0 < b) : ∃ x : Nat, (x:Int) < b ∧ a.fmod b = x := by
  have h0 := Int.fmod_nonneg_of_pos a hb;have h1 := Int.fmod_lt_of_pos a hb;exact ⟨(a.fmod b).toNat, (Int.toNat_of_nonneg h0).symm ▸ h1, (Int.toNat_of_nonneg h0).symm⟩
noncomputable def Sd (n:Nat) : Prop := n = 4 ∨ n = 3 ∨ n = 2 ∨ n = 9
theorem Sd.two {n:Nat} (h:Sd n) : 2 ≤ n := by rcases h with rfl | rfl | rfl | rfl <;> decide
theorem Sd.nine {n:Nat} (h:Sd n) : n ≤ 9 := by rcases h with rfl | rfl | rfl | rfl <;> decide
theorem Sd.ne {n:Nat} (h:Sd n) : (n:Int) ≠ 0 := by rcases h with rfl | rfl | rfl | rfl <;> decide
theorem Sd.pos {n:Nat} (h:Sd n) : (0:Int) < n := by rcases h with rfl | rfl | rfl | rfl <;> decide
theorem Sd.pl {n:Nat} (h:Sd n) : (n:Int).natAbs < 1073741824 := by rcases h with rfl | rfl | rfl | rfl <;> decide
noncomputable def side4 (j:Nat) (h:j < 4) : ∃ n : Nat, ([LV.int 4, .int 3, .int 2, .int 9] : List LV)[j]? = some (.int n) ∧ Sd n := match j, h with
  | 0, _ => ⟨4, rfl, .inl rfl⟩
  | 1, _ => ⟨3, rfl, .inr (.inl rfl)⟩
  | 2, _ => ⟨2, rfl, .inr (.inr (.inl rfl))⟩
  | 3, _ => ⟨9, rfl, .inr (.inr (.inr rfl))⟩
theorem head_two : ∀ ns : List Int, ∃ a b : Int, (ns.map LV.int ++ [LV.int 0, LV.int 0]).take 2 = [LV.int a, LV.int b]
  | [] => ⟨0, 0, rfl⟩
  | [a] => ⟨a, 0, rfl⟩
  | a :: b :: _ => ⟨a, b, rfl⟩
theorem sbw : sb ≠ sw := by decide +kernel
theorem LAW_h3 {G:Gl} (B:BW G) {k:Nat} {H:Hp} {P:PW} {n:Nat} {ce:Int} {r:ST} {s0 s1 s4 s5 s6 s7 s8 s9:Option LV} (S:Sd n)
    (h:∀ ce (pl ds:Addr) H', Ext H H' → H' pl = some (.lst ((pts n).map pv)) → H' ds = some (.pdict [] 0) → r G (k + 9) (s0 :: s1 :: some (.int ce) :: some (.int n) :: s4 :: s5 :: s6 :: s7 :: s8 :: s9 :: some (.ref pl) :: some (.ref ds) :: none :: none :: none :: none :: none :: none :: none :: none :: none :: none :: none :: none :: none :: none :: none :: none :: none :: none :: none :: none :: none :: none :: none :: []) H' P) :
    il_h3 r G (k + 9) (s0 :: s1 :: some (.int ce) :: some (.int n) :: s4 :: s5 :: s6 :: s7 :: s8 :: s9 :: none :: none :: none :: none :: none :: none :: none :: none :: none :: none :: none :: none :: none :: none :: none :: none :: none :: none :: none :: none :: none :: none :: none :: none :: none :: []) H P := by
  refine fun fl Q' hQ' => LcI_grid (n := n) B.hh (Nat.le_trans S.nine (by decide)) rfl rfl B.n_range (.tail _ (.tail _ (.tail _ (.head _)))) (by decide +kernel) (by decide +kernel) (by decide +kernel) (by decide +kernel) (by rfl) (by rfl) (by decide +kernel) fun pl H4 fpl e4 hpl => hQ' _ _ fun ds fds => ?_;exact BO_mul (BO_mod (by decide) (h _ pl ds _ (e4.set (o := .pdict [] 0) (e4.none fds)) (miss (ne_of fds hpl) hpl) hit)) (IntMulOk.of_right (by decide +kernel))
theorem LAW_h2 {G:Gl} (B:BW G) {k:Nat} {H:Hp} {P:PW} {n:Nat} {pc sh:Int} {r:ST} {s0 s1 s2 s4:Option LV} (S:Sd n)
    (h:∀ p c d, On n p → IsCol c → IsCol d → c ≠ d → il_h3 r G (k + 9) (s0 :: s1 :: s2 :: some (.int n) :: s4 :: some (.int pc) :: some (.int sh) :: some (pv p) :: some (.str c) :: some (.str d) :: none :: none :: none :: none :: none :: none :: none :: none :: none :: none :: none :: none :: none :: none :: none :: none :: none :: none :: none :: none :: none :: none :: none :: none :: none :: []) H P) :
    il_h2 r G (k + 9) (s0 :: s1 :: s2 :: some (.int n) :: s4 :: some (.int pc) :: some (.int sh) :: none :: none :: none :: none :: none :: none :: none :: none :: none :: none :: none :: none :: none :: none :: none :: none :: none :: none :: none :: none :: none :: none :: none :: none :: none :: none :: none :: none :: []) H P := by
  refine BO_mod S.ne ?_;obtain ⟨a, a1, ha⟩ := modn (a := pc + sh) S.pos;rw [ha];refine BO_dv S.ne S.pl (BO_mod S.ne ?_);obtain ⟨b, b1, hb⟩ := modn (a := pc.fdiv n + sh) S.pos;rw [hb];have on : On n ((a:Int), (b:Int)) := ⟨Int.natCast_nonneg a, a1, Int.natCast_nonneg b, b1⟩;exact BO_dv S.ne S.pl (BO_dv S.ne S.pl (BO_mod (by decide) ⟨_, rfl, fun ww => ⟨_, _, rfl, h ((a:Int), (b:Int)) sb sw on (.inl rfl) (.inr rfl) sbw⟩, fun ww => ⟨_, _, rfl, h ((a:Int), (b:Int)) sw sb on (.inr rfl) (.inl rfl) sbw.symm⟩⟩))
theorem LAW_head {G:Gl} (B:BW G) {k:Nat} {H:Hp} {P:PW} {sa:Addr} {ns:List Int} {r:ST} (hns:ns.length ≤ 63)
    (h:∀ (n:Nat) (h0 ce pc sh:Int) (w:Nat) (p:Pt) (c d:Str) (pl ds:Addr) H', Sd n → On n p → IsCol c → IsCol d → c ≠ d → w < 5 → Ext H H' → H' pl = some (.lst ((pts n).map pv)) → H' ds = some (.pdict [] 0) →
      r G (k + 9) (some (.ro sa (ns.map .int)) :: some (.int h0) :: some (.int ce) :: some (.int n) :: some (.int w) :: some (.int pc) :: some (.int sh) :: some (pv p) :: some (.str c) :: some (.str d) :: some (.ref pl) :: some (.ref ds) :: none :: none :: none :: none :: none :: none :: none :: none :: none :: none :: none :: none :: none :: none :: none :: none :: none :: none :: none :: none :: none :: none :: none :: []) H' P) :
    il_head r G (k + 9) (some (.ro sa (ns.map .int)) :: none :: none :: none :: none :: none :: none :: none :: none :: none :: none :: none :: none :: none :: none :: none :: none :: none :: none :: none :: none :: none :: none :: none :: none :: none :: none :: none :: none :: none :: none :: none :: none :: none :: none :: []) H P := by
  obtain ⟨h0, ce, hh0⟩ := head_two ns;refine fun z fz => BO_addl (vs := ns.map .int) (ws := [.int 0, .int 0]) rfl (LstOf_ref hit) (by rw [List.length_map]; exact Nat.le_trans (Nat.add_le_add_right hns 2) (by decide)) fun y fy => ?_;have e1 : Ext H (Go.hset (Go.hset H z (.lst [.int 0, .int 0])) y (.lst (ns.map LV.int ++ [.int 0, .int 0]))) := ((Ext.refl _).set fz).set (((Ext.refl _).set fz).none fy);have hy : Go.hset (Go.hset H z (.lst [.int 0, .int 0])) y (.lst (ns.map LV.int ++ [.int 0, .int 0])) y = some (.lst (ns.map LV.int ++ [.int 0, .int 0])) := hit;generalize Go.hset (Go.hset H z (.lst [.int 0, .int 0])) y (.lst (ns.map LV.int ++ [.int 0, .int 0])) = H1 at e1 hy;have p2 : pickL (ns.map LV.int ++ [.int 0, .int 0]) none (some 2) none = [.int h0, .int ce] := (pick_hi 2).trans hh0;refine ⟨2, rfl, _, LstOf_ref hy, by rw [List.length_append, List.length_map]; exact Nat.le_trans (Nat.add_le_add_right hns 2) (by decide), (fun q => nomatch q), by rw [p2]; exact (by decide:2 ≤ 4096), SubT_lst hy, fun u fu => ?_⟩;rw [p2];have e2 := e1.set (o := .lst [.int h0, .int ce]) (e1.none fu);refine ⟨u, .int h0, .int ce, rfl, hit, ?_⟩;generalize Go.hset H1 u (.lst [.int h0, .int ce]) = H2 at e2;obtain ⟨x, x1, hx⟩ := modn (a := h0) (b := 4) (by decide);obtain ⟨n, hn, S⟩ := side4 x (Int.ofNat_lt.mp x1);refine fun z fz => BO_mod (by decide) ?_;rw [hx];refine ⟨SubT_lst hit, BO_item_list hit (Int.natCast_nonneg x) hn ?_⟩;have e3 := e2.set (o := .lst [.int 4, .int 3, .int 2, .int 9]) (e2.none fz);generalize Go.hset H2 z (.lst [.int 4, .int 3, .int 2, .int 9]) = H3 at e3;refine BO_dv (by decide) (by decide) (BO_mod (by decide) ?_);obtain ⟨w, w1, hw⟩ := modn (a := h0.fdiv 4) (b := 5) (by decide);rw [hw];have hh := fun sh : Int => LAW_h2 B (G := G) (k := k) (H := H3) (P := P) (n := n) (pc := h0.fdiv 20) (sh := sh) (r := r) (s0 := some (.ro sa (ns.map .int))) (s1 := some (.int h0)) (s2 := some (.int ce)) (s4 := some (.int w)) S fun p c d on hc hd hcd => LAW_h3 B S fun ce pl ds H' e hpl hds => h n h0 ce _ sh w p c d pl ds H' S on hc hd hcd (Int.ofNat_lt.mp w1) (e3.trans e) hpl hds;exact BO_dv (by decide) (by decide) ⟨_, rfl, fun ww => hh 6, fun ww => hh 0⟩
end
section
theorem CALL_abs {G:Gl} {k:Nat} {H:Hp} {Q:Qv} {X:Xc} {i:Int} (h:Q (.int (if i < 0 then -i else i)) H) : CALL G k (.builtin "abs") [.int i] H Q X := fun fl env A C Z m s vals I hv => by
  obtain ⟨va, r, rfl, e1, h2⟩ := hv;cases h2; obtain ⟨t, rfl⟩ := e1;exact call_abs_int fun u tk => ⟨C, .int _, H, Cle.refl C, I.toks, ⟨_, rfl⟩, h⟩
noncomputable def Cap (n:Nat) (g:Grd) (m:Nat) : Prop := ∀ l : List Pt, l.Nodup → (∀ p, p ∈ l → On n p ∧ g p ≠ none) → l.length ≤ m
theorem Cap.few {n m:Nat} {g:Grd} (h:Cap n g m) (hm:m ≤ 49) : Few n g := fun l nd hl => Nat.le_trans (h l nd hl) hm
theorem Cap.less {n m:Nat} {g g':Grd} (h:Cap n g m) (hs:∀ p, On n p → g' p ≠ none → g p ≠ none) : Cap n g' m := fun l nd hl => h l nd fun p hp => ⟨(hl p hp).1, hs p (hl p hp).1 (hl p hp).2⟩
theorem Cap.put {n m:Nat} {g:Grd} {p:Pt} {o:Option Str} (h:Cap n g m) : Cap n (gset g p o) (m + 1) := fun l nd hl => by
  have h1 := h (l.erase p) (nd.erase p) fun q hq => by
    have hq' := nd.mem_erase_iff.mp hq;have := hl q hq'.2;exact ⟨this.1, gset_ne (g := g) (o := o) hq'.1 ▸ this.2⟩
  have h2 : l.length - 1 ≤ (l.erase p).length := by
    by_cases hp : p ∈ l
    · rw [List.length_erase_of_mem hp]; exact Nat.le_refl _
    · rw [List.erase_of_not_mem hp]; exact Nat.sub_le ..
  exact Nat.sub_le_iff_le_add.mp (Nat.le_trans h2 h1)
theorem Cap.up {n m m':Nat} {g:Grd} (h:Cap n g m) (hm:m ≤ m') : Cap n g m' := fun l nd hl => Nat.le_trans (h l nd hl) hm
theorem Cap.nil {n:Nat} : Cap n (fun ww => none) 0 := fun l ww hl => by
  cases l with
  | nil => exact Nat.le_refl _
  | cons p t => exact ((hl p (.head _)).2 rfl).elim
theorem Cap.len {n m:Nat} {g:Grd} {fs:List (Pt × LV)} (h:Cap n g m) (R:Rep n fs g) (hm:m ≤ 49) : fs.length < 100 := Nat.lt_of_le_of_lt (R.len (h.few hm)) (by decide)
noncomputable abbrev ab (i:Int) : Int := if i < 0 then -i else i
noncomputable def ner (n:Nat) (s p:Pt) : Bool := decide ((n:Int) < 9) || decide (ab (p.1 - s.1) + ab (p.2 - s.2) < 3)
theorem ner9 : ∀ a, a < 9 → ∀ b, b < 9 → ((pts 9).filter (ner 9 ((a:Nat), (b:Nat)))).length ≤ 25 := by decide +kernel
theorem ner_len {n:Nat} {s:Pt} (hn:Sd n) (hs:On n s) : ((pts n).filter (ner n s)).length ≤ 25 := by
  have small : n ≤ 4 → ((pts n).filter (ner n s)).length ≤ 25 := fun h => Nat.le_trans (List.length_filter_le _ _) (pts_length.symm ▸ Nat.le_trans (Nat.mul_le_mul h h) (by decide));rcases hn with rfl | rfl | rfl | rfl
  · exact small (by decide)
  · exact small (by decide)
  · exact small (by decide)
  · obtain ⟨a, b⟩ := s;obtain ⟨h1, h2, h3, h4⟩ := hs;obtain ⟨a, rfl⟩ := Int.eq_ofNat_of_zero_le h1;obtain ⟨b, rfl⟩ := Int.eq_ofNat_of_zero_le h3;exact ner9 a (Int.ofNat_lt.mp h2) b (Int.ofNat_lt.mp h4)
theorem frds {H H':Hp} {ds a:Addr} {fs:List (Pt × LV)} {ep:Nat} {vs:List LV} (f:Fr [ds] H H') (hd:H ds = some (.pdict fs ep)) (h:H a = some (.lst vs)) : H' a = some (.lst vs) :=
  f _ _ (fun z => by rw [List.mem_singleton.mp z, hd] at h; cases h) h
theorem Fr.ds {H H':Hp} {ds:Addr} {o:LO} (f:Fr [ds] H H') : Fr [ds] H (Go.hset H' ds o) := f.hset _ (.inl (.head _))
theorem LAW_fill {G:Gl} (n_abs:GNm G (ofString "abs") (.builtin "abs")) {k:Nat} {H:Hp} {P:PW} {r:ST} {n:Nat} {p:Pt} {ce:Int} {pl ds:Addr} {s0 s1 s4 s5 s6 s8 s9:Option LV} (hn:Sd n) (hp:On n p)
    (hpl:H pl = some (.lst ((pts n).map pv))) (hds:H ds = some (.pdict [] 0))
    (h:∀ ce qp fs ep g H', Fr [ds] H H' → H' ds = some (.pdict fs ep) → Rep n fs g → Cap n g 25 →
      r G (k + 9) (s0 :: s1 :: some (.int ce) :: some (.int n) :: s4 :: s5 :: s6 :: some (pv p) :: s8 :: s9 :: some (.ref pl) :: some (.ref ds) :: none :: qp :: none :: none :: none :: none :: none :: none :: none :: none :: none :: none :: none :: none :: none :: none :: none :: none :: none :: none :: none :: none :: none :: []) H' P) :
    il_fill r G (k + 9) (s0 :: s1 :: some (.int ce) :: some (.int n) :: s4 :: s5 :: s6 :: some (pv p) :: s8 :: s9 :: some (.ref pl) :: some (.ref ds) :: none :: none :: none :: none :: none :: none :: none :: none :: none :: none :: none :: none :: none :: none :: none :: none :: none :: none :: none :: none :: none :: none :: none :: []) H P := by
  have hz : ((pts n).map pv).length ≤ 4096 := by rw [List.length_map, pts_length]; exact Nat.le_trans (Nat.mul_le_mul hn.nine hn.nine) (by decide)
  refine ⟨stpL G, stpL G, IV_list hpl (.fm _ ((pts n).map pv) (fun lv => (decP lv).bind fun q => if ner n p q = true then some (pv q) else none) (ys_list rfl) (fun H' e => e _ _ hpl) hz (fun lv hlv H5 K0 K1 e k0 k1 => ?_) fun gl H1 fgl e1 hgl => ?_)⟩
  · obtain ⟨q, hq, rfl⟩ := List.mem_map.mp hlv;refine fun o0 ww => ⟨_, rfl, fun c => ⟨(fun z => nomatch z), fun ww => k1 _ (if_pos (by rw [ner, c]; rfl)) _ (Ext.refl _)⟩, fun c => ⟨_, n_abs, .inl ⟨_, rfl⟩, ⟨trivial, BO_pv0 ⟨trivial, BO_pv0 (CALL_abs ⟨_, n_abs, .inl ⟨_, rfl⟩, ⟨trivial, BO_pv1 ⟨trivial, BO_pv1 (CALL_abs ⟨_, rfl, fun d => ?_, fun d => ?_⟩)⟩⟩⟩)⟩⟩⟩⟩
    · exact ⟨(fun z => nomatch z), fun ww => k1 _ (if_pos (by rw [ner, d]; exact Bool.or_true _)) _ (Ext.refl _)⟩
    · exact ⟨fun ww => k0 (if_neg (by rw [ner, c, d]; exact Bool.noConfusion)) _ (Ext.refl _), (fun z => nomatch z)⟩
  rw [fmP, fm_filter] at hgl;have hd1 := e1 _ _ hds;have len := ner_len hn hp;let F_I : Int → Option LV → VF := fun (ce:Int) (qp:Option LV) => (s0 :: s1 :: some (.int ce) :: some (.int n) :: s4 :: s5 :: s6 :: some (pv p) :: s8 :: s9 :: some (.ref pl) :: some (.ref ds) :: none :: qp :: none :: none :: none :: none :: none :: none :: none :: none :: none :: none :: none :: none :: none :: none :: none :: none :: none :: none :: none :: none :: none :: []);let I : Nat → VF → Hp → Prop := fun i v_ H' => El (fun p_ => ∀ (ce:Int) (qp:Option LV) (fs:List (Pt × LV)) (ep:Nat) (g:Grd), (Fr [ds] H1 H') → (H' ds = some (.pdict fs ep)) → (Rep n fs g) → (Cap n g i) → p_ (F_I ce qp)) v_;have hI : ∀ {i:Nat} {ce:Int} {qp:Option LV} {fs:List (Pt × LV)} {ep:Nat} {g:Grd} {H':Hp}, (Fr [ds] H1 H') → (H' ds = some (.pdict fs ep)) → (Rep n fs g) → (Cap n g i) → I i (F_I ce qp) H' := fun z0 z1 z2 z3 p_ k_ => k_ _ _ _ _ _ z0 z1 z2 z3;refine IV_list hgl (LFor.ys _ (((pts n).filter (ner n p)).map pv) I (ys_list rfl) (hI (.refl _ _) hd1 ⟨fun ww => rfl, List.nodup_nil, fun p hg => (hg rfl).elim, fun p c hg => (nomatch hg)⟩ .nil) (fun i H' => El.el fun ce qp fs ep g f hd R c => ⟨rfl, frds f hd1 hgl⟩) (fun P2 i lv H' hP2 hi => El.el fun ce qp fs ep g f hd R cp => ?_) fun H' => El.el fun ce qp fs ep g f hd R c => h ce qp fs ep g H' ((e1.fr _).trans f) hd R (c.up (by rw [List.length_map]; exact len)));obtain ⟨q, hq, rfl⟩ := Option.map_eq_some_iff.mp (by rw [List.getElem?_map] at hi; exact hi);have hon := mem_pts.mp (List.mem_filter.mp (List.mem_of_getElem? hq)).1;have lt : i < 25 := Nat.lt_of_lt_of_le (List.getElem?_eq_some_iff.mp hq).1 len;let F_J : VF := (s0 :: s1 :: some (.int ce) :: some (.int n) :: s4 :: s5 :: s6 :: some (pv p) :: s8 :: s9 :: some (.ref pl) :: some (.ref ds) :: none :: some (pv q) :: none :: none :: none :: none :: none :: none :: none :: none :: none :: none :: none :: none :: none :: none :: none :: none :: none :: none :: none :: none :: none :: []);let J : VF → Hp → Prop := fun v_ H' => El (fun p_ => ∀ (fs:List (Pt × LV)) (ep:Nat) (g:Grd), (Fr [ds] H1 H') → (H' ds = some (.pdict fs ep)) → (Rep n fs g) → (Cap n g (i + 1)) → p_ F_J) v_;have hJ : ∀ {fs:List (Pt × LV)} {ep:Nat} {g:Grd} {H':Hp}, (Fr [ds] H1 H') → (H' ds = some (.pdict fs ep)) → (Rep n fs g) → (Cap n g (i + 1)) → J F_J H' := fun z0 z1 z2 z3 p_ k_ => k_ _ _ _ z0 z1 z2 z3;refine ⟨J, fun H' => El.el fun fs ep g f hd R c => BO_dv (by decide) (by decide) (hP2.n (hI f hd R c)), fun P3 hP3 => BO_mod (by decide) ?_⟩;obtain ⟨m, m1, hm⟩ := modn (a := ce) (b := 3) (by decide);rw [hm];refine ⟨_, rfl, fun z => BO_mod (by decide) ?_, fun ww => hP3.n (hJ f hd R (cp.up (Nat.le_succ _)))⟩;rw [hm];cases m with
  | zero => cases z
  | succ j =>
    have ej : ((j + 1 : Nat) : Int) - 1 = j := (congrArg (· - 1) (Int.natCast_succ j)).trans (Int.add_sub_cancel ..);refine ⟨trivial, BO_bw (ej ▸ Int.natCast_nonneg j) (ej ▸ Int.ofNat_lt.mpr (Nat.lt_of_succ_lt_succ (Int.ofNat_lt.mp m1))) ?_⟩;have hc : IsCol (if ((j + 1 : Nat) : Int) - 1 = 0 then sb else sw) := by split; exact .inl rfl; exact .inr rfl
    exact SO_pd hd (cp.len R (Nat.le_trans (Nat.le_of_lt lt) (by decide))) fun ep2 => hP3.n (hJ f.ds hit (R.put hon hc) cp.put)
end
section
theorem Rep.drop {n:Nat} {fs:List (Pt × LV)} {g:Grd} {p:Pt} (R:Rep n fs g) : Rep n (fs.filter fun f => !decide (f.1 = p)) (gset g p none) := by
  have e : (fun r => if (!decide (r = p)) = true then g r else none) = gset g p none := by
    funext r
    by_cases z : r = p
    · rw [z, gset_same]; exact if_neg (by rw [decide_eq_true rfl]; exact Bool.noConfusion)
    · rw [gset_ne z]; exact if_pos (by rw [decide_eq_false z]; rfl)
  exact e ▸ R.filter (fun r => !decide (r = p))
noncomputable abbrev ways : List LV := [.tup [.int 1, .int 0], .tup [.int 0, .int 1], .tup [.int (-1), .int 0], .tup [.int 0, .int (-1)], .tup [.int 9, .int 9]]
structure Wy (a b:Int) : Prop where
  h : (a = 9 ∧ b = 9) ∨ (a, b) ∈ nb4 (0, 0)
noncomputable def way5 (j:Nat) (h:j < 5) : ∃ a b : Int, ways[j]? = some (.tup [.int a, .int b]) ∧ Wy a b := match j, h with
  | 0, _ => ⟨1, 0, rfl, ⟨.inr (mem_nb4.mpr (.inr (.inl ⟨rfl, rfl⟩)))⟩⟩
  | 1, _ => ⟨0, 1, rfl, ⟨.inr (mem_nb4.mpr (.inr (.inr (.inr ⟨rfl, rfl⟩))))⟩⟩
  | 2, _ => ⟨-1, 0, rfl, ⟨.inr (mem_nb4.mpr (.inl ⟨rfl, rfl⟩))⟩⟩
  | 3, _ => ⟨0, -1, rfl, ⟨.inr (mem_nb4.mpr (.inr (.inr (.inl ⟨rfl, rfl⟩))))⟩⟩
  | 4, _ => ⟨9, 9, rfl, ⟨.inl ⟨rfl, rfl⟩⟩⟩
theorem Wy.near {a b:Int} {n:Nat} {p:Pt} (w:Wy a b) (hn:n ≤ 9) (hp:On n p) (ho:On n (p.1 + a, p.2 + b)) : p ∈ nbs n (p.1 + a, p.2 + b) := by
  rcases w.h with ⟨rfl, rfl⟩ | h
  · have := hp.1; have := ho.2.1; omega
  · refine nbs_symm hp (mem_nbs.mpr ⟨mem_nb4.mpr ?_, ho⟩);have := mem_nb4.mp h
    omega
noncomputable abbrev vput : VF → Nat → Option LV → VF
  | [], _, _ => []
  | _ :: v, 0, o => o :: v
  | y :: v, j + 1, o => y :: vput v j o
theorem vput_self : ∀ (v:VF) (j:Nat), v = vput v j (vget v j)
  | [], _ => rfl
  | _ :: _, 0 => rfl
  | y :: v, j + 1 => congrArg (y :: ·) (vput_self v j)
theorem vset_vput {o:Option LV} {x:LV} : ∀ (v:VF) (j:Nat), vset (vput v j o) j x = vput v j (some x)
  | [], _ => rfl
  | _ :: _, 0 => rfl
  | y :: v, j + 1 => congrArg (y :: ·) (vset_vput v j)
theorem vget_vput {o:Option LV} : ∀ {v:VF} {i j:Nat}, i ≠ j → vget (vput v j o) i = vget v i
  | [], _, _, _ => rfl
  | _ :: _, 0, 0, h => absurd rfl h
  | _ :: _, 0, _ + 1, _ => rfl
  | _ :: _, _ + 1, 0, _ => rfl
  | _ :: v, i + 1, j + 1, h => vget_vput (v := v) fun e => h (congrArg _ e)
theorem len_vput {o:Option LV} : ∀ (v:VF) (j:Nat), (vput v j o).length = v.length
  | [], _ => rfl
  | _ :: _, 0 => rfl
  | y :: v, j + 1 => congrArg (· + 1) (len_vput v j)
theorem vget_put {x:LV} : ∀ {v:VF} {j:Nat}, j < v.length → vget (vput v j (some x)) j = some x
  | _ :: _, 0, _ => rfl
  | _ :: v, j + 1, h => vget_put (v := v) (Nat.lt_of_succ_lt_succ h)
theorem LAW_lay {G:Gl} {B:BW G} (W:LW G B) {k:Nat} {H:Hp} {P:PW} {r:ST} {n m i j:Nat} {p:Pt} {c:Str} {ds:Addr} {fs:List (Pt × LV)} {ep:Nat} {g:Grd} {v:VF} (hc:IsCol c) (R:Rep n fs g) (cp:Cap n g m) (hm:m ≤ 40) (hd:H ds = some (.pdict fs ep))
    (e1:vget v i = some (pv p)) (e2:vget v 3 = some (.int n)) (e3:vget v j = some (.str c)) (e4:vget v 11 = some (.ref ds)) (nj:j ≠ 12) (hl:12 < v.length)
    (h:∀ o fs' ep' g' H', Fr [ds] H H' → H' ds = some (.pdict fs' ep') → Rep n fs' g' → Cap n g' (m + 4) → (∀ q, (q ∈ nbs n p ∨ g q ≠ none) → g' q ≠ none) → r G (k + 9) (vput v 12 o) H' P) :
    (sFor (g1 12) (tItV (tCall (ofString "_law_near") (tCons (tVar i) (tCons (tVar 3) tNil)))) (sSet (tVar 11) (tVar 12) (tVar j) sNil) r) G (k + 9) v H P := by
  refine ⟨stpL G, _, W.near.1, .inr (.inr W.near.2.1), vgv e1 (vgv e2 (CALL_near W fun a H1 ex fa ha => IV_list ha (LFor.ys _ ((nbs n p).map pv) (fun i' v' H' => ∃ o fs' ep' g', v' = vput v 12 o ∧ Fr [ds] H1 H' ∧ H' ds = some (.pdict fs' ep') ∧ Rep n fs' g' ∧ Cap n g' (m + i') ∧ ∀ q, (q ∈ (nbs n p).take i' ∨ g q ≠ none) → g' q ≠ none) (ys_list rfl) ⟨_, fs, ep, g, vput_self _ _, .refl _ _, ex _ _ hd, R, cp, fun q z => z.elim (fun z => nomatch z) id⟩ (fun i' H' v' ⟨o, fs', ep', g', e, fr, hd', _⟩ => ⟨e ▸ len_vput _ _, frds fr (ex _ _ hd) ha⟩) (fun P2 i' lv H' hP2 hi v' ⟨o, fs', ep', g', e, fr, hd', R', cp', hq⟩ => ?_) fun H' v' ⟨o, fs', ep', g', e, fr, hd', R', cp', hq⟩ => e ▸ h o fs' ep' g' H' ((ex.fr _).trans fr) hd' R' (cp'.up ?_) fun q z => hq q (z.imp_left fun z => ?_))))⟩
  · obtain ⟨q, hq2, rfl⟩ := Option.map_eq_some_iff.mp (by rw [List.getElem?_map] at hi; exact hi);have mem := List.mem_of_getElem? hq2;have lt : i' < 4 := Nat.lt_of_lt_of_le (List.getElem?_eq_some_iff.mp hq2).1 (List.length_filter_le _ _);cases e;show vgot (vget (vset (vput v 12 o) 12 (pv q)) j) _;rw [vset_vput];refine vgv ((vget_vput nj).trans e3) (vgv ((vget_vput (by decide)).trans e4) (vgv (vget_put hl) (SO_pd hd' (cp'.len R' (Nat.le_trans (Nat.add_le_add hm (Nat.le_of_lt lt)) (by decide))) fun ep2 => hP2.n ⟨_, _, ep2, _, rfl, fr.ds, hit, R'.put (mem_nbs.mp mem).2 hc, cp'.put, fun x z => ?_⟩)))
    by_cases xq : x = q
    · rw [xq, gset_same]; exact fun z => nomatch z
    · rw [gset_ne xq];refine hq x (z.imp_left fun z => ?_);rw [List.take_add_one, hq2] at z;exact (List.mem_append.mp z).elim id fun z => (xq (List.mem_singleton.mp z)).elim
  · rw [List.length_map]; exact Nat.add_le_add_left (List.length_filter_le _ _) m
  · rw [List.length_map, List.take_length]; exact z
theorem LAW_prize {G:Gl} {B:BW G} (W:LW G B) {k:Nat} {H:Hp} {P:PW} {r:ST} {n w:Nat} {p:Pt} {c d:Str} {pl ds:Addr} {fs:List (Pt × LV)} {ep:Nat} {g:Grd} {s0 s1 s2 s5 s6 s13:Option LV} (hn:Sd n) (hp:On n p) (hw:w < 5) (hc:IsCol c) (hd:IsCol d)
    (hpl:H pl = some (.lst ((pts n).map pv))) (hds:H ds = some (.pdict fs ep)) (R:Rep n fs g) (cp:Cap n g 25)
    (h:∀ qo qd qr qp fs ep g H', Fr [ds] H H' → H' ds = some (.pdict fs ep) → Rep n fs g → Cap n g 33 →
      r G (k + 9) (s0 :: s1 :: s2 :: some (.int n) :: some (.int w) :: s5 :: s6 :: some (pv p) :: some (.str c) :: some (.str d) :: some (.ref pl) :: some (.ref ds) :: qo :: s13 :: qd :: qr :: qp :: none :: none :: none :: none :: none :: none :: none :: none :: none :: none :: none :: none :: none :: none :: none :: none :: none :: none :: []) H' P) :
    il_prize r G (k + 9) (s0 :: s1 :: s2 :: some (.int n) :: some (.int w) :: s5 :: s6 :: some (pv p) :: some (.str c) :: some (.str d) :: some (.ref pl) :: some (.ref ds) :: none :: s13 :: none :: none :: none :: none :: none :: none :: none :: none :: none :: none :: none :: none :: none :: none :: none :: none :: none :: none :: none :: none :: none :: []) H P := by
  obtain ⟨a, b, hab, wy⟩ := way5 w hw;refine ⟨1, rfl, 1, rfl, fun z fz => ⟨SubT_lst hit, BO_item_list hit (Int.natCast_nonneg w) hab ?_⟩⟩;refine ⟨_, _, rfl, trivial, BO_pv0 ⟨trivial, BO_pv1 ?_⟩⟩;have e1 : Ext H (Go.hset H z (.lst ways)) := (Ext.refl _).set fz;generalize Go.hset H z (.lst ways) = H1 at e1;have hpl1 := e1 _ _ hpl;let F_M : Option LV → VF := fun (qo:Option LV) => (s0 :: s1 :: s2 :: some (.int n) :: some (.int w) :: s5 :: s6 :: some (pv p) :: some (.str c) :: some (.str d) :: some (.ref pl) :: some (.ref ds) :: qo :: s13 :: some (.int a) :: some (.int b) :: some (pv (p.1 + a, p.2 + b)) :: none :: none :: none :: none :: none :: none :: none :: none :: none :: none :: none :: none :: none :: none :: none :: none :: none :: none :: []);let M : VF → Hp → Prop := fun v_ H' => El (fun p_ => ∀ (qo:Option LV) (fs:List (Pt × LV)) (ep:Nat) (g:Grd), (Fr [ds] H1 H') → (H' ds = some (.pdict fs ep)) → (Rep n fs g) → (Cap n g 33) → p_ (F_M qo)) v_;have hM : ∀ {qo:Option LV} {fs:List (Pt × LV)} {ep:Nat} {g:Grd} {H':Hp}, (Fr [ds] H1 H') → (H' ds = some (.pdict fs ep)) → (Rep n fs g) → (Cap n g 33) → M (F_M qo) H' := fun z0 z1 z2 z3 p_ k_ => k_ _ _ _ _ z0 z1 z2 z3;refine ⟨M, fun H' => El.el fun qo fs ep g f hd R c => h _ _ _ _ fs ep g H' ((e1.fr _).trans f) hd R c, fun P2 hP2 => BO_inL (p := (p.1 + a, p.2 + b)) hpl1 ⟨_, rfl, fun q => ?_, fun ww => hP2.n (hM (.refl _ _) (e1 _ _ hds) R (cp.up (by decide)))⟩⟩;have ho := mem_pts.mp (of_decide_eq_true q);have hs := wy.near hn.nine hp ho;refine LAW_lay W (p := (p.1 + a, p.2 + b)) hc R cp (by decide) (e1 _ _ hds) rfl rfl rfl rfl (by decide) (Nat.le_of_ble_eq_true rfl) fun o2 fs2 ep2 g2 H3 fr2 hd2 R2 cp2 st2 => ?_;refine LAW_lay W (p := p) hd R2 cp2 (by decide) hd2 rfl rfl rfl rfl (by decide) (Nat.le_of_ble_eq_true rfl) fun o3 fs3 ep3 g3 H5 fr4 hd4 R4 cp4 st4 => ?_;have st := st4 p (.inr (st2 p (.inl hs)));obtain ⟨l, hl⟩ : ∃ l, fs3.lookup p = some l := Option.isSome_iff_exists.mp (by rw [R4.is]; exact decide_eq_true st);obtain ⟨j, hj⟩ := List.getElem?_of_mem ((mem_lookup R4.nd).mpr hl)
  exact ⟨_, _, bm_dpop, OfT_pd hd4, CALL_dpop hd4 hj fun ep5 => hP2.n (hM ((fr2.trans fr4).ds) hit R4.drop (cp4.less fun q ww hq e => hq (by
    by_cases z : q = p
    · rw [z, gset_same]
    · rw [gset_ne z, e])))⟩
end
section
theorem neqq {a b:Bool} (e:a = b) (h:(!(a == b)) = true) : False := by rw [e, beq_self_eq_true] at h; cases h
theorem putG_of {n:Nat} {fs:List (Pt × LV)} {g:Grd} (R:Rep n fs g) : putG gEmpty ((pts n).filter fun p => decide (g p = some sb)) ((pts n).filter fun p => decide (g p = some sw)) [] = g := by
  have mem : ∀ {p:Pt} {c:Str}, p ∈ ((pts n).filter fun p => decide (g p = some c)) ↔ g p = some c := fun {p c} => by
    rw [List.mem_filter, mem_pts, decide_eq_true_iff];exact ⟨And.right, fun e => ⟨R.on p (e ▸ fun z => nomatch z), e⟩⟩
  funext p;unfold putG;rw [setAll_nil];unfold setAll
  by_cases hw : g p = some sw
  · rw [if_pos (mem.mpr hw), hw]
  · rw [if_neg fun z => hw (mem.mp z)]
    by_cases hb : g p = some sb
    · rw [if_pos (mem.mpr hb), hb]
    · rw [if_neg fun z => hb (mem.mp z)];cases e : g p with
      | none => rfl
      | some c => rcases R.col p c e with z | z
                  · exact (hb (z ▸ e)).elim
                  · exact (hw (z ▸ e)).elim
section
variable {G:Gl} {k:Nat} {v:VF} {H:Hp} {X:Xc}
theorem get_eq {n i j:Nat} {ds:Addr} {fs:List (Pt × LV)} {ep:Nat} {g:Grd} {c:Str} {p:Pt} {Q:Bool → Hp → Prop} (hd:H ds = some (.pdict fs ep)) (R:Rep n fs g) (hc:IsCol c) (e1:vget v i = some (.ref ds)) (e2:vget v j = some (pv p)) (q:Q (decide (g p = some c)) H) :
    tCmpT .Eq (tBm (tVar i) (ofString "get") (tCons (tVar j) tNil)) (tC (.str c)) G k v H Q X := by
  refine vgv e1 ⟨_, _, bm_dget, OfT_pd hd, vgv e2 (CALL_get hd ?_)⟩;rw [R.at_];cases e : g p with
  | none => exact BO_eq .none (.str hc.lay) ⟨_, rfl, by rw [e] at q; rw [PyData.eqv]; exact q⟩ (Nat.lt_of_le_of_lt (Nat.min_le_left _ _) (by rw [PyData.depth]; decide))
  | some x => exact BO_eqs (R.col p x e) hc ⟨_, rfl, by rw [e, (decide_eq_decide.mpr Option.some_inj : decide (some x = some c) = decide (x = c))] at q; exact q⟩
end
theorem LC_col {G:Gl} {k n:Nat} {v:VF} {H:Hp} {Q:Qv} {X:Xc} {pl ds:Addr} {fs:List (Pt × LV)} {ep:Nat} {g:Grd} {c:Str} (hn:n ≤ 9) (hc:IsCol c) (e1:vget v 10 = some (.ref pl)) (e2:vget v 11 = some (.ref ds)) (hpl:H pl = some (.lst ((pts n).map pv))) (hd:H ds = some (.pdict fs ep)) (R:Rep n fs g)
    (h:∀ a H', Ext H H' → H' a = some (.lst (((pts n).filter fun p => decide (g p = some c)).map pv)) → Q (.ref a) H') :
    tLc [none, none, some 11] (tItV (tVar 10)) (g1 1) (tCmpT .Eq (tBm (tVar 2) (ofString "get") (tCons (tVar 1) tNil)) (tC (.str c))) (tVar 1) G k v H Q X := by
  refine ⟨stpL G, vgv e1 (IV_list hpl (.fm _ ((pts n).map pv) (fun lv => (decP lv).bind fun q => if decide (g q = some c) = true then some (pv q) else none) (ys_list rfl) (fun H' e => e _ _ hpl) (by rw [List.length_map, pts_length]; exact Nat.le_trans (Nat.mul_le_mul hn hn) (by decide)) (fun lv hlv H5 K0 K1 e k0 k1 => ?_) fun a H1 fa e1 ha => h a H1 e1 (by rw [fmP, fm_filter] at ha; exact ha)))⟩;obtain ⟨q, hq, rfl⟩ := List.mem_map.mp hlv;refine fun o0 o1 => vgv e2 (get_eq (v := [o0, some (pv q), some (.ref ds)]) (i := 2) (j := 1) (Q := fun ok H4 => (ok = false → K0 H4) ∧ (ok = true → K1 (pv q) H4)) (e _ _ hd) R hc rfl rfl ?_);exact ⟨fun z => k0 (if_neg (by rw [z]; exact Bool.noConfusion)) _ (Ext.refl _), fun z => k1 _ (if_pos z) _ (Ext.refl _)⟩
theorem LAW_set {G:Gl} {B:BW G} (W:LW G B) (hr:G.hr = true) {k:Nat} {H:Hp} {P:PW} {r:ST} {n:Nat} {pl ds:Addr} {fs:List (Pt × LV)} {ep:Nat} {g:Grd} {s0 s1 s2 s4 s5 s6 s7 s8 s9 s12 s13 s14 s15 s16:Option LV} (hn:Sd n)
    (hpl:H pl = some (.lst ((pts n).map pv))) (hds:H ds = some (.pdict fs ep)) (R:Rep n fs g) (cp:Cap n g 33)
    (h:∀ b qb qw ql qv ds fs ep g em (la:Nat) H', la ≤ 4 → 2 ≤ la → Ext H H' → BAt H' b n g em → (em = true ↔ ∀ p, On n p → g p = none) → Legal n g → H' ds = some (.pdict fs ep) → Rep n fs g → Cap n g 33 →
      r G (k + 9) (s0 :: s1 :: s2 :: some (.int n) :: s4 :: s5 :: s6 :: s7 :: s8 :: s9 :: some (.ref pl) :: some (.ref ds) :: s12 :: s13 :: s14 :: s15 :: s16 :: some (.inst B.bc b.x b.d) :: qb :: qw :: ql :: qv :: some (.int la) :: none :: none :: none :: none :: none :: none :: none :: none :: none :: none :: none :: none :: []) H' P) :
    il_set r G (k + 9) (s0 :: s1 :: s2 :: some (.int n) :: s4 :: s5 :: s6 :: s7 :: s8 :: s9 :: some (.ref pl) :: some (.ref ds) :: s12 :: s13 :: s14 :: s15 :: s16 :: none :: none :: none :: none :: none :: none :: none :: none :: none :: none :: none :: none :: none :: none :: none :: none :: none :: none :: []) H P := by
  have few : Few n g := cp.few (by decide);have len : ∀ {c:Str}, ((pts n).filter fun p => decide (g p = some c)).length ≤ 81 := fun {c} => Nat.le_trans (List.length_filter_le _ _) (pts_length.symm ▸ Nat.mul_le_mul hn.nine hn.nine);refine ⟨_, B.n_board.1, .inr (.inr B.n_board.2), CALL_board B hn.two hn.nine fun b H1 e1 nb hB => LC_col hn.nine (.inl rfl) rfl rfl (e1 _ _ hpl) (e1 _ _ hds) R fun bl H2 e2 hbl => LC_col hn.nine (.inr rfl) rfl rfl (e2 _ _ (e1 _ _ hpl)) (e2 _ _ (e1 _ _ hds)) R fun wl H3 e3 hwl => ?_⟩;have hB3 := (hB.ext e2).ext e3;refine lm B B.m_as (by decide +kernel) hB3.ns fun z fz => ?_;have e34 : Ext H3 (Go.hset H3 z (.lst [])) := (Ext.refl _).set fz;refine CALL_as B hr (hB3.ext e34) (by rw [putG_of R]; exact few) (e34 _ _ (e3 _ _ hbl)) (e34 _ _ hwl) (Le := []) hit (Nat.le_trans (Nat.add_le_add (Nat.add_le_add len len) (Nat.le_refl _)) (by decide)) (fun ww H5 g5 em5 leg fr5 hB5 br5 hem5 hleg => ?_) fun no => (no fun p hp => ?_).elim
  · rw [putG_of R] at br5 hleg;have e15 : Ext H H5 := fun a o ha => fr5 a o (fun hm => (List.mem_cons.mp hm).elim (fun e => Go.ns nb.1 (e ▸ ha)) fun hm => Go.ns (nb.2.2.2 a hm) ha) (e34 _ _ (e3 _ _ (e2 _ _ (e1 _ _ ha))));refine ⟨_, W.brea.1, .inr (.inr W.brea.2.1), CALL_brea W (e15 _ _ hds) R few fun li H6 L e6 fli hli ndL mL => ?_⟩;have hd6 := e6 _ _ (e15 _ _ hds);refine ⟨_, B.n_len, .inl ⟨_, rfl⟩, CALL_len_list hli ⟨_, B.n_len, .inl ⟨_, rfl⟩, CALL_len_pd hd6 ?_⟩⟩;rw [List.length_map];refine BO_isNotBool ⟨_, rfl, fun q => (neqq (Bool.eq_iff_iff.mpr (hleg.trans (legal_len R ndL mL).symm)) q).elim, fun ww => ?_⟩;refine ⟨_, W.only.1, .inr (.inr W.only.2.1), CALL_only W (fun q => decide (q ∈ L)) hd6 R.nd (Nat.lt_of_le_of_lt (R.len few) (by decide)) (fun Q X q H' he hq hb => BO_inL (he _ _ hli) hb) fun d2 H7 ep7 e7 fd7 hd7 => ?_⟩;have R7 := R.filter (fun q => decide (q ∈ L));have br7 : Breathed n g (fun p => if decide (p ∈ L) = true then g p else none) := fun q hq => ⟨fun al => if_pos (decide_eq_true ((mL q).mpr al)), fun na => if_neg fun w => na ((mL q).mp (of_decide_eq_true w))⟩;generalize (fs.filter fun f => decide (f.1 ∈ L)) = fs7 at hd7 R7;generalize (fun p => if decide (p ∈ L) = true then g p else none) = g7 at R7 br7;have gg : ∀ p, On n p → g5 p = g7 p := fun p hp => br5.unique br7 hp
    have cp7 : Cap n g7 33 := cp.less fun p hp hg e => hg (by
      by_cases al : Alive n g p
      · exact ((br7 p hp).1 al).trans e
      · exact (br7 p hp).2 al)
    have key := fun la (h1:la ≤ 4) (h2:2 ≤ la) => h b (some (.ref bl)) (some (.ref wl)) (some (.bool leg)) (some (.ref li)) d2 fs7 ep7 g7 em5 la H7 h1 h2 ((e15.trans e6).trans e7) (((hB5.ext e6).ext e7).congr (fun p hp => (gg p hp).symm) fun p c hc => R7.col p c hc) (hem5.trans ⟨fun x p hp => (gg p hp).symm.trans (x p hp), fun x p hp => (gg p hp).trans (x p hp)⟩) br7.legal hd7 R7 cp7;exact ⟨_, rfl, fun ww => key 4 (by decide) (by decide), fun ww => ⟨_, rfl, fun ww => key 3 (by decide) (by decide), fun ww => key 2 (by decide) (by decide)⟩⟩
  · rw [List.append_nil] at hp;exact (List.mem_append.mp hp).elim (fun hp => mem_pts.mp (List.mem_filter.mp hp).1) fun hp => mem_pts.mp (List.mem_filter.mp hp).1
end
section
noncomputable def BW.h {G:Gl} (B:BW G) : BW G.h := { B with }
theorem LAW_ck {G:Gl} {B:BW G} {k n i:Nat} {H:Hp} {P:PW} {r:ST} {b:Bd} {g:Grd} {em:Bool} {v:VF} {a:Addr} (e1:vget v 17 = some (.inst B.bc b.x b.d)) (e2:vget v i = some (.ref a)) (hB:BAt H b n g em) (hem:em = true ↔ ∀ p, On n p → g p = none) (ha:H a = some (.lst (rowsV n g)))
    (h:∀ H', Ext H H' → r G (k + 9) v H' P) : il_ck i r G (k + 9) v H P :=
  vgv e1 (lm B B.m_lo (by decide +kernel) hB.ns (CALL_lo B hB fun r1 H3 e3 fr1 hr1 => vgv e2 (BO_rows hr1 (e3 _ _ ha) hB.col hB.col (fun ww ww => rfl) ⟨_, rfl, (fun q => nomatch q), fun ww => vgv e1 (lm B B.m_ie (by decide +kernel) (hB.ext e3).ns (CALL_ie B (hB.ext e3) (vgv e2 fun z fz => BO_rows0 (miss (ne_of fz (e3 _ _ ha)) (e3 _ _ ha)) hit hB.col hem (BO_isNotBool ⟨_, rfl, fun q => (neqq rfl q).elim, fun ww => ⟨(fun q => nomatch q), fun ww => h _ (e3.set (e3.none fz))⟩⟩))))⟩)))
theorem LAW_pt {G:Gl} {B:BW G} (W:LW G B) {k:Nat} {H:Hp} {P:PW} {r:ST} {n:Nat} {z:Pt} {c d:Str} {num:Int} {pl ds:Addr} {fs:List (Pt × LV)} {ep:Nat} {g:Grd} {s0 s1 s2 s4 s5 s6 s12 s13 s14 s15 s16 s17 s18 s19 s20 s21 s22 s23 s25 s26 s27 s28 s29 s30 s31 s32 s33 s34:Option LV} (S:Sd n) (hc:IsCol c) (hd:IsCol d) (ne:c ≠ d)
    (hpl:H pl = some (.lst ((pts n).map pv))) (hds:H ds = some (.pdict fs ep)) (R:Rep n fs g)
    (h:∀ p c' d' bf H', On n p → IsCol c' → IsCol d' → c' ≠ d' → Ext H H' → H bf = none → H' bf = some (.lst (rowsV n g)) →
      r G (k + 9) (s0 :: s1 :: s2 :: some (.int n) :: s4 :: s5 :: s6 :: some (pv z) :: some (.str c) :: some (.str d) :: some (.ref pl) :: some (.ref ds) :: s12 :: some (pv p) :: s14 :: s15 :: s16 :: s17 :: s18 :: s19 :: s20 :: s21 :: s22 :: s23 :: some (.int num) :: some (.str c') :: some (.str d') :: some (.ref bf) :: s28 :: s29 :: s30 :: s31 :: s32 :: s33 :: s34 :: []) H' P) :
    il_pt r G (k + 9) (s0 :: s1 :: s2 :: some (.int n) :: s4 :: s5 :: s6 :: some (pv z) :: some (.str c) :: some (.str d) :: some (.ref pl) :: some (.ref ds) :: s12 :: s13 :: s14 :: s15 :: s16 :: s17 :: s18 :: s19 :: s20 :: s21 :: s22 :: s23 :: some (.int num) :: s25 :: s26 :: s27 :: s28 :: s29 :: s30 :: s31 :: s32 :: s33 :: s34 :: []) H P := by
  refine ⟨trivial, BO_pv0 (BO_mod S.ne ?_)⟩;obtain ⟨x, x1, hx⟩ := modn (a := z.1 + num) S.pos;rw [hx];refine ⟨trivial, BO_pv1 (BO_dv S.ne S.pl (BO_mod S.ne ?_))⟩;obtain ⟨y, y1, hy⟩ := modn (a := z.2 + num.fdiv n) S.pos;rw [hy];have on : On n ((x:Int), (y:Int)) := ⟨Int.natCast_nonneg x, x1, Int.natCast_nonneg y, y1⟩;have K : ∀ c' d', IsCol c' → IsCol d' → c' ≠ d' → il_pt2 r G (k + 9) (s0 :: s1 :: s2 :: some (.int n) :: s4 :: s5 :: s6 :: some (pv z) :: some (.str c) :: some (.str d) :: some (.ref pl) :: some (.ref ds) :: s12 :: some (pv ((x:Int), (y:Int))) :: s14 :: s15 :: s16 :: s17 :: s18 :: s19 :: s20 :: s21 :: s22 :: s23 :: some (.int num) :: some (.str c') :: some (.str d') :: s27 :: s28 :: s29 :: s30 :: s31 :: s32 :: s33 :: s34 :: []) H P :=
    fun c' d' h1 h2 h3 => ⟨_, W.rows.1, .inr (.inr W.rows.2.1), CALL_rows W hds R hpl S.nine fun bf H1 e1 fb hb => h _ c' d' bf H1 on h1 h2 h3 e1 fb hb⟩
  exact BO_dv S.ne S.pl (BO_dv S.ne S.pl (BO_mod (by decide) ⟨_, rfl, fun ww => ⟨_, _, rfl, K c d hc hd ne⟩, fun ww => ⟨_, _, rfl, K d c hd hc ne.symm⟩⟩))
theorem LAW_try {G:Gl} {B:BW G} (hr:G.hr = true) {k:Nat} {H:Hp} {P:PW} {r:ST} {n:Nat} {p:Pt} {c:Str} {ds bf:Addr} {fs:List (Pt × LV)} {ep:Nat} {b:Bd} {g:Grd} {em:Bool} {s0 s1 s2 s3 s4 s5 s6 s7 s8 s9 s10 s12 s14 s15 s16 s18 s19 s20 s21 s22 s23 s24 s26 s28 s29 s30 s31 s32 s33 s34:Option LV} (S:Sd n) (on:On n p) (hc:IsCol c)
    (hB:BAt H b n g em) (hl:Legal n g) (few:Few n (gset g p (some c))) (hds:H ds = some (.pdict fs ep)) (R:Rep n fs g) (hbf:H bf = some (.lst (rowsV n g)))
    (ht:∀ H', Ext H H' → P.c (s0 :: s1 :: s2 :: s3 :: s4 :: s5 :: s6 :: s7 :: s8 :: s9 :: s10 :: some (.ref ds) :: s12 :: some (pv p) :: s14 :: s15 :: s16 :: some (.inst B.bc b.x b.d) :: s18 :: s19 :: s20 :: s21 :: s22 :: s23 :: s24 :: some (.str c) :: s26 :: some (.ref bf) :: s28 :: s29 :: s30 :: s31 :: s32 :: s33 :: s34 :: []) H')
    (h:∀ g2 em2 ko H', g p = none → Fr b.own H H' → BAt H' b n g2 em2 → Played n (gset g p (some c)) c g2 → (em2 = true ↔ ∀ p, On n p → g2 p = none) → (∀ q, ko = some q ↔ KoAt n (gset g p (some c)) c p q) →
      r G (k + 9) (s0 :: s1 :: s2 :: s3 :: s4 :: s5 :: s6 :: s7 :: s8 :: s9 :: s10 :: some (.ref ds) :: s12 :: some (pv p) :: s14 :: s15 :: s16 :: some (.inst B.bc b.x b.d) :: s18 :: s19 :: s20 :: s21 :: s22 :: s23 :: s24 :: some (.str c) :: s26 :: some (.ref bf) :: some (kov ko) :: s29 :: s30 :: s31 :: s32 :: s33 :: s34 :: []) H' P) :
    il_try r G (k + 9) (s0 :: s1 :: s2 :: s3 :: s4 :: s5 :: s6 :: s7 :: s8 :: s9 :: s10 :: some (.ref ds) :: s12 :: some (pv p) :: s14 :: s15 :: s16 :: some (.inst B.bc b.x b.d) :: s18 :: s19 :: s20 :: s21 :: s22 :: s23 :: s24 :: some (.str c) :: s26 :: some (.ref bf) :: s28 :: s29 :: s30 :: s31 :: s32 :: s33 :: s34 :: []) H P := by
  let F_M : Option Pt → VF := fun (ko:Option Pt) => (s0 :: s1 :: s2 :: s3 :: s4 :: s5 :: s6 :: s7 :: s8 :: s9 :: s10 :: some (.ref ds) :: s12 :: some (pv p) :: s14 :: s15 :: s16 :: some (.inst B.bc b.x b.d) :: s18 :: s19 :: s20 :: s21 :: s22 :: s23 :: s24 :: some (.str c) :: s26 :: some (.ref bf) :: some (kov ko) :: s29 :: s30 :: s31 :: s32 :: s33 :: s34 :: []);let M : VF → Hp → Prop := fun v_ H' => El (fun p_ => ∀ (g2:Grd) (em2:Bool) (ko:Option Pt), (g p = none) → (Fr b.own H H') → (BAt H' b n g2 em2) → (Played n (gset g p (some c)) c g2) → ((em2 = true ↔ ∀ p, On n p → g2 p = none)) → ((∀ q, ko = some q ↔ KoAt n (gset g p (some c)) c p q)) → p_ (F_M ko)) v_;have hM : ∀ {g2:Grd} {em2:Bool} {ko:Option Pt} {H':Hp}, (g p = none) → (Fr b.own H H') → (BAt H' b n g2 em2) → (Played n (gset g p (some c)) c g2) → ((em2 = true ↔ ∀ p, On n p → g2 p = none)) → ((∀ q, ko = some q ↔ KoAt n (gset g p (some c)) c p q)) → M (F_M ko) H' := fun z0 z1 z2 z3 z4 z5 p_ k_ => k_ _ _ _ z0 z1 z2 z3 z4 z5;refine ⟨B.n_ve, M, fun H' => El.el fun g2 em2 ko h1 h2 h3 h4 h5 h6 => h g2 em2 ko H' h1 h2 h3 h4 h5 h6, fun P2 hP2 => ?_⟩;have t63 : ∀ {i:Int}, i < n → i < 2 ^ 63 := fun h => Int.lt_of_lt_of_le h (Int.le_trans (Int.ofNat_le.mpr S.nine) (by decide));refine lm B B.m_pl (by decide +kernel) hB.ns ⟨trivial, BO_pv0 ⟨trivial, BO_pv1 (CALL_pl B hr hB hc hl (fun ww => few) ⟨t63 on.2.1, t63 on.2.2.2⟩ (fun no => (no on).elim) (fun ww hg H1 e1 => hP2.x ?_) fun ww hg H1 g2 em2 ko fr1 hB1 pd1 hem1 hko => hP2.n (hM hg fr1 hB1 pd1 hem1 hko))⟩⟩;have hB1 := hB.ext e1;refine BO_notinpd (G := G.h) (e1 _ _ hds) ⟨_, rfl, fun q => ?_, fun ww => lm B.h B.h.m_lo (by decide +kernel) hB1.ns (CALL_lo B.h hB1 fun r1 H3 e3 fr1 hr1 => BO_rows hr1 (e3 _ _ (e1 _ _ hbf)) hB.col hB.col (fun ww ww => rfl) ⟨_, rfl, (fun q => nomatch q), fun ww => ⟨(fun q => nomatch q), fun ww => ht H3 (e1.trans e3)⟩⟩)⟩;rw [R.is, decide_eq_true hg] at q; exact Bool.noConfusion q
end
end Go
end
section
namespace Go
open PySem
section
section
variable {n:Nat} {g g1 g2 h1 h2:Grd} {p0 r:Pt} {c d:Str}
theorem Played.or (h:Played n g1 c g2) {p:Pt} (hp:On n p) : g2 p = none ∨ g2 p = g1 p := by
  rcases h with ⟨_, h⟩ | ⟨_, h⟩
  · by_cases z : Dead n g1 p ∧ g1 p ≠ some c
    · exact .inl ((h p hp).1 z)
    · exact .inr ((h p hp).2 z)
  · by_cases z : Alive n g1 p
    · exact .inr ((h p hp).1 z)
    · exact .inl ((h p hp).2 z)
theorem dead_congr (h:∀ p, On n p → g1 p = h1 p) {p:Pt} (hd:Dead n g1 p) : Dead n h1 p :=
  ⟨hd.1, h p hd.1 ▸ hd.2.1, fun al => hd.2.2 (al.mono (fun q ww ho => h q (ho.elim id fun e => e ▸ hd.1)) fun q ho e => (h q ho).trans e)⟩
theorem Played.took (P:Played n g1 c g2) (hr:On n r) (e:g2 r = none) (e1:g1 r ≠ none) (e2:g1 r ≠ some c) : Dead n g1 r ∧ ∀ p, On n p → (Dead n g1 p ∧ g1 p ≠ some c → g2 p = none) ∧ (¬ (Dead n g1 p ∧ g1 p ≠ some c) → g2 p = g1 p) := by
  rcases P with ⟨_, F⟩ | ⟨no, B⟩
  · exact ⟨Classical.byContradiction fun z => e1 (((F r hr).2 fun w => z w.1).symm.trans e), F⟩
  · exact (no ⟨r, ⟨hr, e1, fun al => e1 (((B r hr).1 al).symm.trans e)⟩, e2⟩).elim
theorem Played.foes (P:Played n g1 c g2) (hd:Dead n g1 r) (e2:g1 r ≠ some c) : ∀ p, On n p → (Dead n g1 p ∧ g1 p ≠ some c → g2 p = none) ∧ (¬ (Dead n g1 p ∧ g1 p ≠ some c) → g2 p = g1 p) := by
  rcases P with ⟨_, F⟩ | ⟨no, _⟩
  · exact F
  · exact (no ⟨r, hd, e2⟩).elim
structure KoS (n:Nat) (g g2 h2:Grd) (p0 r:Pt) (c d:Str) : Prop where
  ne : c ≠ d
  col : ∀ p x, g p = some x → x = c ∨ x = d
  h0 : g p0 = none
  on0 : On n p0
  onr : On n r
  P1 : Played n (gset g p0 (some c)) c g2
  free : g2 r = none
  P2 : Played n (gset g2 r (some d)) d h2
theorem KoS.ncd (K:KoS n g g2 h2 p0 r c d) : (some c:Option Str) ≠ some d := fun e => K.ne (Option.some.inj e)
theorem KoS.same (K:KoS n g g2 h2 p0 r c d) (hr:g r = some d) (hrp:r ≠ p0) (u:∀ s, On n s → s ≠ r → g2 s = gset g p0 (some c) s) : ∀ s, On n s → gset g2 r (some d) s = gset g p0 (some c) s := fun s hs => by
  by_cases e : s = r
  · rw [e, gset_same, gset_ne hrp, hr]
  · rw [gset_ne e, u s hs e]
theorem KoS.of (K:KoS n g g2 h2 p0 r c d) (s0:g2 p0 ≠ none) (e0:h2 p0 = none) (eq:∀ p, On n p → h2 p = g p) : KoAt n (gset g p0 (some c)) c p0 r := by
  have hrp : r ≠ p0 := fun e => s0 (e ▸ K.free);have v0 : g2 p0 = some c := ((K.P1.or K.on0).resolve_left s0).trans gset_same;have w0 : gset g2 r (some d) p0 = some c := (gset_ne hrp.symm).trans v0;obtain ⟨d0, F2⟩ := K.P2.took K.on0 e0 (by rw [w0]; exact fun z => nomatch z) (w0 ▸ K.ncd);have gr : g r = some d := (eq r K.onr).symm.trans (((F2 r K.onr).2 fun z => z.2 gset_same).trans gset_same);have v1 : gset g p0 (some c) r = some d := (gset_ne hrp).trans gr;obtain ⟨d1, F1⟩ := K.P1.took K.onr K.free (by rw [v1]; exact fun z => nomatch z) (v1 ▸ K.ncd.symm);have uniq : ∀ s, Dead n (gset g p0 (some c)) s → gset g p0 (some c) s ≠ some c → s = r := fun s hs hc => Classical.byContradiction fun e => by
    have sp : s ≠ p0 := fun z => hc (z ▸ gset_same);have a := (F1 s hs.1).1 ⟨hs, hc⟩;have b : h2 s = none := (K.P2.or hs.1).elim id fun z => z.trans ((gset_ne e).trans a);exact hs.2.1 ((gset_ne sp).trans ((eq s hs.1).symm.trans b))
  have same := K.same gr hrp fun s hs e => (F1 s hs).2 fun z => e (uniq s z.1 z.2);refine ⟨d1, v1 ▸ K.ncd.symm, uniq, dead_congr same d0, fun s hs hc => Classical.byContradiction fun e => ?_⟩;have e1 := same s hs.1;have b := (F2 s hs.1).1 ⟨dead_congr (fun p hp => (same p hp).symm) hs, by rw [e1, hc]; exact K.ncd⟩;exact hs.2.1 ((gset_ne e).trans ((eq s hs.1).symm.trans b))
theorem KoS.back (K:KoS n g g2 h2 p0 r c d) (k:KoAt n (gset g p0 (some c)) c p0 r) : (h2 p0 = none ∧ ∀ p, On n p → h2 p = g p) ∧ KoAt n (gset g2 r (some d)) d r p0 := by
  obtain ⟨k1, k2, k3, k4, k5⟩ := k;have hrp : r ≠ p0 := fun e => k2 (e ▸ gset_same);have F1 := K.P1.foes k1 k2;have co : ∀ s, s ≠ p0 → gset g p0 (some c) s ≠ none → gset g p0 (some c) s ≠ some c → gset g p0 (some c) s = some d := fun s sp h1 h2 => by
    cases e : gset g p0 (some c) s with
    | none => exact (h1 e).elim
    | some x => rcases K.col s x ((gset_ne sp).symm.trans e) with z | z
                · exact (h2 (e.trans (congrArg some z))).elim
                · rw [z]
  have v1 := co r hrp k1.2.1 k2;have gr : g r = some d := (gset_ne hrp).symm.trans v1;have same := K.same gr hrp fun s hs e => (F1 s hs).2 fun z => e (k3 s z.1 z.2);have same' := fun p hp => (same p hp).symm;have w0 : gset g2 r (some d) p0 = some c := (same p0 K.on0).trans gset_same;have d0 := dead_congr same' k4;have F2 := K.P2.foes d0 (w0 ▸ K.ncd);have own : ∀ s, Dead n (gset g2 r (some d)) s → gset g2 r (some d) s ≠ some d → s = p0 := fun s hs hc => Classical.byContradiction fun e => by
    have e1 := same s hs.1;have ds := dead_congr same hs
    by_cases z : gset g p0 (some c) s = some c
    · exact e (k5 s ds z)
    · exact hc (e1.trans (co s e ds.2.1 z))
  refine ⟨⟨(F2 p0 K.on0).1 ⟨d0, w0 ▸ K.ncd⟩, fun s hs => ?_⟩, d0, w0 ▸ K.ncd, own, dead_congr same' k1, fun s hs hc => k3 s (dead_congr same hs) ?_⟩
  · by_cases e : s = p0
    · rw [e, K.h0]; exact (F2 p0 K.on0).1 ⟨d0, w0 ▸ K.ncd⟩
    · exact ((F2 s hs).2 fun z => e (own s z.1 z.2)).trans ((same s hs).trans (gset_ne e))
  · rw [← same s hs.1, hc]; exact K.ncd.symm
theorem ko_near (hl:Legal n g) (h0:g p0 = none) (k:KoAt n (gset g p0 (some c)) c p0 r) : r ∈ nbs n p0 := by
  obtain ⟨k1, k2, k3, _, _⟩ := k;have hrp : r ≠ p0 := fun e => k2 (e ▸ gset_same);have ne : ∀ {q}, q ≠ p0 → gset g p0 (some c) q = g q := gset_ne;cases hl r k1.1 (ne hrp ▸ k1.2.1) with
  | @lib _ q a b e =>
    by_cases z : r ∈ nbs n p0
    · exact z
    · exact (k1.2.2 (.lib k1.2.1 b ((ne fun w => z (nbs_symm k1.1 (w ▸ b))).trans e))).elim
  | @step _ q a b e al =>
    have e1 : gset g p0 (some c) q = gset g p0 (some c) r := (ne fun w:q = p0 => al.some (w.symm ▸ h0)).trans (e.trans (ne hrp).symm);have dq : Dead n (gset g p0 (some c)) q := ⟨(mem_nbs.mp b).2, e1 ▸ k1.2.1, fun x => k1.2.2 (.step k1.2.1 b e1 x)⟩;cases k3 q dq (e1 ▸ k2);have := mem_nb4.mp (mem_nbs.mp b).1
    omega
theorem ko_self (P:Played n g1 c g2) (k:KoAt n g1 c p0 r) (e:g1 p0 = some c) : g2 p0 ≠ none := fun z => by
  have := ((P.foes k.1 k.2.1) p0 k.2.2.2.1.1).2 fun w => w.2 e;rw [z, e] at this; cases this
end
end
end Go
end
section
namespace Go
open PySem PySem.W PyProof.Rows PySem.Calls
section
theorem LAW_mv {G:Gl} {B:BW G} (W:LW G B) {k:Nat} {H:Hp} {P:PW} {r:ST} {n m:Nat} {p:Pt} {c:Str} {pl ds:Addr} {fs:List (Pt × LV)} {ep:Nat} {g:Grd} {s0 s1 s2 s4 s5 s6 s7 s8 s9 s12 s14 s15 s16 s17 s18 s19 s20 s21 s22 s23 s24 s26 s27 s28 s29 s30 s31 s32 s33 s34:Option LV} (S:Sd n) (on:On n p) (hc:IsCol c) (hg:g p = none)
    (cp:Cap n g m) (hm:m ≤ 40) (hpl:H pl = some (.lst ((pts n).map pv))) (hds:H ds = some (.pdict fs ep)) (R:Rep n fs g)
    (h:∀ ds fs ep g2 af H', Ext H H' → H' ds = some (.pdict fs ep) → Rep n fs g2 → Played n (gset g p (some c)) c g2 → H' af = some (.lst (rowsV n g2)) →
      r G (k + 9) (s0 :: s1 :: s2 :: some (.int n) :: s4 :: s5 :: s6 :: s7 :: s8 :: s9 :: some (.ref pl) :: some (.ref ds) :: s12 :: some (pv p) :: s14 :: s15 :: s16 :: s17 :: s18 :: s19 :: s20 :: s21 :: s22 :: s23 :: s24 :: some (.str c) :: s26 :: s27 :: s28 :: some (.ref af) :: s30 :: s31 :: s32 :: s33 :: s34 :: []) H' P) :
    il_mv r G (k + 9) (s0 :: s1 :: s2 :: some (.int n) :: s4 :: s5 :: s6 :: s7 :: s8 :: s9 :: some (.ref pl) :: some (.ref ds) :: s12 :: some (pv p) :: s14 :: s15 :: s16 :: s17 :: s18 :: s19 :: s20 :: s21 :: s22 :: s23 :: s24 :: some (.str c) :: s26 :: s27 :: s28 :: s29 :: s30 :: s31 :: s32 :: s33 :: s34 :: []) H P := by
  refine BO_inpd hds ⟨_, rfl, fun q => ?_, fun ww => ⟨_, W.movd.1, .inr (.inr W.movd.2.1), CALL_movd W hds R on hc (cp.few (Nat.le_trans hm (by decide))) (cp.put.few (Nat.le_trans (Nat.succ_le_succ hm) (by decide))) fun a H1 fs1 ep1 g2 e1 fa ha R1 pd1 => ⟨_, W.rows.1, .inr (.inr W.rows.2.1), CALL_rows W ha R1 (e1 _ _ hpl) S.nine fun af H2 e2 fb hb => h a fs1 ep1 g2 af H2 (e1.trans e2) (e2 _ _ ha) R1 pd1 hb⟩⟩⟩;rw [R.is, decide_eq_false fun z => z hg] at q; exact Bool.noConfusion q
structure Rpl (n:Nat) (p:Pt) (rs:List Pt) : Prop where
  nd : rs.Nodup
  on : ∀ q, q ∈ rs → On n q
  near : ∀ q, q ∈ nbs n p → q ∈ rs
  len : rs.length ≤ 81
theorem Rpl.pts {n:Nat} {p:Pt} (S:Sd n) : Rpl n p (pts n) := ⟨pts_nodup, fun ww => mem_pts.mp, fun q hq => mem_pts.mpr (mem_nbs.mp hq).2, pts_length.symm ▸ Nat.mul_le_mul S.nine S.nine⟩
theorem nb4_nodup {p:Pt} : (nb4 p).Nodup := by
  obtain ⟨a, b⟩ := p;have h1 : a - 1 ≠ a + 1 := by omega
  have h2 : a - 1 ≠ a := by omega
  have h3 : a + 1 ≠ a := by omega
  have h4 : b ≠ b - 1 := by omega
  have h5 : b ≠ b + 1 := by omega
  have h6 : b - 1 ≠ b + 1 := by omega
  simp [nb4, h1, h2, h3, h6]
theorem Rpl.nbs {n:Nat} {p:Pt} : Rpl n p (nbs n p) := ⟨nb4_nodup.filter _, fun ww h => (mem_nbs.mp h).2, fun ww h => h, Nat.le_trans (List.length_filter_le _ _) (show 4 ≤ 81 by decide)⟩
theorem LAW_rep {G:Gl} {B:BW G} (W:LW G B) {k:Nat} {H:Hp} {P:PW} {r:ST} {n t:Nat} {p:Pt} {pl:Addr} {s0 s1 s2 s4 s5 s6 s7 s8 s9 s11 s12 s14 s15 s16 s17 s18 s19 s20 s21 s22 s24 s25 s26 s27 s28 s29 s30 s31 s32 s33 s34:Option LV} (S:Sd n)
    (hpl:H pl = some (.lst ((pts n).map pv)))
    (h:∀ bk rl rs H', Ext H H' → H bk = none → H' bk = some (.lst []) → H' rl = some (.lst (rs.map pv)) → rl ≠ bk → Rpl n p rs →
      r G (k + 9) (s0 :: s1 :: s2 :: some (.int n) :: s4 :: s5 :: s6 :: s7 :: s8 :: s9 :: some (.ref pl) :: s11 :: s12 :: some (pv p) :: s14 :: s15 :: s16 :: s17 :: s18 :: s19 :: s20 :: s21 :: s22 :: some (.int t) :: s24 :: s25 :: s26 :: s27 :: s28 :: s29 :: some (.ref bk) :: some (.ref rl) :: s32 :: s33 :: s34 :: []) H' P) :
    il_rep r G (k + 9) (s0 :: s1 :: s2 :: some (.int n) :: s4 :: s5 :: s6 :: s7 :: s8 :: s9 :: some (.ref pl) :: s11 :: s12 :: some (pv p) :: s14 :: s15 :: s16 :: s17 :: s18 :: s19 :: s20 :: s21 :: s22 :: some (.int t) :: s24 :: s25 :: s26 :: s27 :: s28 :: s29 :: s30 :: s31 :: s32 :: s33 :: s34 :: []) H P := by
  intro bk fbk;have e1 : Ext H (Go.hset H bk (.lst [])) := (Ext.refl _).set fbk;have A := h bk pl (pts n) _ e1 fbk hit (e1 _ _ hpl) (ne_of fbk hpl) (.pts S);have K : tCall (ofString "_law_near") (tCons (tVar 13) (tCons (tVar 3) tNil)) G (k + 9) (s0 :: s1 :: s2 :: some (.int n) :: s4 :: s5 :: s6 :: s7 :: s8 :: s9 :: some (.ref pl) :: s11 :: s12 :: some (pv p) :: s14 :: s15 :: s16 :: s17 :: s18 :: s19 :: s20 :: s21 :: s22 :: some (.int t) :: s24 :: s25 :: s26 :: s27 :: s28 :: s29 :: some (.ref bk) :: s31 :: s32 :: s33 :: s34 :: []) (Go.hset H bk (.lst [])) (fun lv H' => r G (k + 9) (s0 :: s1 :: s2 :: some (.int n) :: s4 :: s5 :: s6 :: s7 :: s8 :: s9 :: some (.ref pl) :: s11 :: s12 :: some (pv p) :: s14 :: s15 :: s16 :: s17 :: s18 :: s19 :: s20 :: s21 :: s22 :: some (.int t) :: s24 :: s25 :: s26 :: s27 :: s28 :: s29 :: some (.ref bk) :: some lv :: s32 :: s33 :: s34 :: []) H' P) (P.x (s0 :: s1 :: s2 :: some (.int n) :: s4 :: s5 :: s6 :: s7 :: s8 :: s9 :: some (.ref pl) :: s11 :: s12 :: some (pv p) :: s14 :: s15 :: s16 :: s17 :: s18 :: s19 :: s20 :: s21 :: s22 :: some (.int t) :: s24 :: s25 :: s26 :: s27 :: s28 :: s29 :: some (.ref bk) :: s31 :: s32 :: s33 :: s34 :: [])) :=
    ⟨_, W.near.1, .inr (.inr W.near.2.1), CALL_near W fun a H2 e2 fa ha => h bk a _ H2 (e1.trans e2) fbk (e2 _ _ hit) ha (ne_of fa hit).symm .nbs⟩
  exact ⟨_, rfl, fun ww => ⟨fun ww => A, (fun z => nomatch z)⟩, fun ww => ⟨_, rfl, fun ww => ⟨_, rfl, fun ww => ⟨fun ww => ⟨fun ww => A, (fun z => nomatch z)⟩, (fun z => nomatch z)⟩, fun ww => ⟨(fun z => nomatch z), fun ww => ⟨(fun z => nomatch z), fun ww => K⟩⟩⟩, fun ww => ⟨(fun z => nomatch z), fun ww => ⟨(fun z => nomatch z), fun ww => K⟩⟩⟩⟩
end
section
noncomputable def rowsK (L:List Pt) (g:Grd) : List (Str × Pt) := L.filterMap fun p => (g p).map fun c => (c, p)
noncomputable def encR (x:Str × Pt) : PyData := .tuple [.str x.1, pd x.2]
theorem rowsD_K {n:Nat} {g:Grd} : rowsD n g = (rowsK (pts n) g).map encR := by
  unfold rowsD rowsK;rw [List.map_filterMap];exact fm_congr fun p ww => by rw [Option.map_map]; rfl
theorem eqv_encR {x y:Str × Pt} : PyData.eqv (encR x) (encR y) = decide (x = y) := by
  obtain ⟨c, p⟩ := x;obtain ⟨d, q⟩ := y;unfold encR;rw [PyData.eqv, PyData.eqvAll, PyData.eqvAll, PyData.eqvAll, eqv_str, eqv_pd, Bool.and_true, Bool.eq_iff_iff, Bool.and_eq_true, decide_eq_true_iff, decide_eq_true_iff, decide_eq_true_iff];exact ⟨fun ⟨a, b⟩ => Prod.ext a b, fun e => by cases e; exact ⟨rfl, rfl⟩⟩
theorem eqvK : ∀ {K K':List (Str × Pt)}, PyData.eqvAll (K.map encR) (K'.map encR) = true → K = K'
  | [], [], _ => rfl
  | [], _ :: _, h => by rw [List.map_nil, List.map_cons, PyData.eqvAll] at h; cases h
  | _ :: _, [], h => by rw [List.map_nil, List.map_cons, PyData.eqvAll] at h; cases h
  | x :: K, y :: K', h => by
    rw [List.map_cons, List.map_cons, PyData.eqvAll, Bool.and_eq_true, eqv_encR, decide_eq_true_iff] at h;rw [h.1, eqvK h.2]
theorem mem_rowsK {L:List Pt} {g:Grd} {p:Pt} {c:Str} (hp:p ∈ L) : (c, p) ∈ rowsK L g ↔ g p = some c := by
  unfold rowsK;rw [List.mem_filterMap];constructor
  · rintro ⟨q, _, e⟩;obtain ⟨x, hx, e⟩ := Option.map_eq_some_iff.mp e;cases e; exact hx
  · exact fun e => ⟨p, hp, by rw [e]; rfl⟩
theorem eqv_rows_iff {n:Nat} {g g':Grd} : PyData.eqv (.list (rowsD n g)) (.list (rowsD n g')) = true ↔ ∀ p, On n p → g p = g' p := by
  constructor
  · intro h p hp;rw [rowsD_K, rowsD_K, PyData.eqv] at h;have e := eqvK h;refine Option.ext fun c => ?_;rw [← mem_rowsK (mem_pts.mpr hp), e, mem_rowsK (mem_pts.mpr hp)]
  · exact fun e => (rows_congr e).1 ▸ eqv_rows
theorem BO_rowsEq {G:Gl} {H:Hp} {Q:Qv} {X:Xc} {a c:Addr} {n:Nat} {g g':Grd} (ha:H a = some (.lst (rowsV n g))) (hb:H c = some (.lst (rowsV n g'))) (hc:∀ p c, g p = some c → IsCol c) (hc':∀ p c, g' p = some c → IsCol c) (h:∀ z : Bool, (z = true ↔ ∀ p, On n p → g p = g' p) → Q (.bool z) H) : BO G (compareOp .Eq) (.ref a) (.ref c) H Q X :=
  BO_eq (.ref ha (isDs_rows hc)) (.ref hb (isDs_rows hc')) (h _ eqv_rows_iff) (Nat.lt_of_le_of_lt (Nat.min_le_left _ _) (Nat.lt_of_le_of_lt depth_rows (by decide)))
noncomputable def Fk (ko:Option Pt) (p q:Pt) : Option LV := if ko = some q then some (.tup [pv q, pv p]) else none
theorem two_col {x c d:Str} (hx:IsCol x) (hc:IsCol c) (hd:IsCol d) (ne:c ≠ d) : x = c ∨ x = d := by
  rcases hx with rfl | rfl <;> rcases hc with rfl | rfl <;> rcases hd with rfl | rfl <;> first | exact .inl rfl | exact .inr rfl | exact (ne rfl).elim
theorem Fr.new {H H1 H2:Hp} {b:Bd} (nb:BNew H b) (e:Ext H H1) (f:Fr b.own H1 H2) : Ext H H2 := fun a o ha => f a o (fun hm => (List.mem_cons.mp hm).elim (fun z => Go.ns nb.1 (z ▸ ha)) fun hm => Go.ns (nb.2.2.2 a hm) ha) (e _ _ ha)
structure Rep1 (n:Nat) (g g2:Grd) (p:Pt) (c d:Str) (ko:Option Pt) : Prop where
  ne : c ≠ d
  col : ∀ p x, g p = some x → x = c ∨ x = d
  h0 : g p = none
  on : On n p
  pd : Played n (gset g p (some c)) c g2
  ko : ∀ q, ko = some q ↔ KoAt n (gset g p (some c)) c p q
theorem Rep1.kos {n:Nat} {g g2 h2:Grd} {p q:Pt} {c d:Str} {ko:Option Pt} (A:Rep1 n g g2 p c d ko) (on:On n q) (hq:g2 q = none) (P2:Played n (gset g2 q (some d)) d h2) : KoS n g g2 h2 p q c d := ⟨A.ne, A.col, A.h0, A.on, on, A.pd, hq, P2⟩
theorem Rep1.yes {n:Nat} {g g2 h2:Grd} {p q:Pt} {c d:Str} {ko ko2:Option Pt} (A:Rep1 n g g2 p c d ko) (on:On n q) (hq:g2 q = none) (P2:Played n (gset g2 q (some d)) d h2) (h2':∀ r, ko2 = some r ↔ KoAt n (gset g2 q (some d)) d q r) (s0:g2 p ≠ none) (e0:h2 p = none) (eq:∀ s, On n s → h2 s = g s) : ko = some q ∧ ko2 = some p := by
  have K := A.kos on hq P2;have k := K.of s0 e0 eq;exact ⟨(A.ko q).mpr k, (h2' p).mpr (K.back k).2⟩
theorem Rep1.no {n:Nat} {g g2 h2:Grd} {p q:Pt} {c d:Str} {ko:Option Pt} (A:Rep1 n g g2 p c d ko) (on:On n q) (hq:g2 q = none) (P2:Played n (gset g2 q (some d)) d h2) (no:¬ (h2 p = none ∧ ∀ s, On n s → h2 s = g s)) : ko ≠ some q :=
  fun e => no ((A.kos on hq P2).back ((A.ko q).mp e)).1
theorem Rep1.held {n:Nat} {g g2:Grd} {p q:Pt} {c d:Str} {ko:Option Pt} (A:Rep1 n g g2 p c d ko) (hq:g2 q ≠ none) : ko ≠ some q := fun e => by
  have k := (A.ko q).mp e;exact hq ((A.pd.foes k.1 k.2.1 q k.1.1).1 ⟨k.1, k.2.1⟩)
theorem LAW_loop {G:Gl} {B:BW G} (hr:G.hr = true) {k:Nat} {H0 H:Hp} {P:PW} {r:ST} {n m:Nat} {p:Pt} {c d:Str} {ds bf af bk rl:Addr} {rs:List Pt} {fs:List (Pt × LV)} {ep:Nat} {b:Bd} {g g2:Grd} {em:Bool} {ko:Option Pt} {s0 s1 s2 s3 s4 s5 s6 s7 s8 s9 s10 s12 s14 s15 s16 s18 s19 s20 s21 s22 s23 s24 s25 s28 s32 s33 s34:Option LV} (S:Sd n) (hd:IsCol d)
    (A:Rep1 n g g2 p c d ko) (hgc:∀ p c, g p = some c → IsCol c) (hl:Legal n g2) (cp:Cap n g2 m) (hm:m ≤ 40) (rp:Rpl n p rs)
    (hB:BAt H0 b n g2 em) (hem:em = true ↔ ∀ p, On n p → g2 p = none) (hds:H0 ds = some (.pdict fs ep)) (R:Rep n fs g2) (hbf:H0 bf = some (.lst (rowsV n g))) (haf:H0 af = some (.lst (rowsV n g2)))
    (e0:Ext H0 H) (f0:H0 bk = none) (hbk:H bk = some (.lst [])) (hrl:H rl = some (.lst (rs.map pv))) (nrl:rl ≠ bk)
    (h:∀ q32 q33 q34 acc H', Ext H0 H' → H' bk = some (.lst acc) → (g2 p ≠ none → acc = rs.filterMap (Fk ko p)) →
      r G (k + 9) (s0 :: s1 :: s2 :: s3 :: s4 :: s5 :: s6 :: s7 :: s8 :: s9 :: s10 :: some (.ref ds) :: s12 :: some (pv p) :: s14 :: s15 :: s16 :: some (.inst B.bc b.x b.d) :: s18 :: s19 :: s20 :: s21 :: s22 :: s23 :: s24 :: s25 :: some (.str d) :: some (.ref bf) :: s28 :: some (.ref af) :: some (.ref bk) :: some (.ref rl) :: q32 :: q33 :: q34 :: []) H' P) :
    il_loop r G (k + 9) (s0 :: s1 :: s2 :: s3 :: s4 :: s5 :: s6 :: s7 :: s8 :: s9 :: s10 :: some (.ref ds) :: s12 :: some (pv p) :: s14 :: s15 :: s16 :: some (.inst B.bc b.x b.d) :: s18 :: s19 :: s20 :: s21 :: s22 :: s23 :: s24 :: s25 :: some (.str d) :: some (.ref bf) :: s28 :: some (.ref af) :: some (.ref bk) :: some (.ref rl) :: s32 :: s33 :: s34 :: []) H P := by
  have t63 : ∀ {i:Int}, i < n → i < 2 ^ 63 := fun h => Int.lt_of_lt_of_le h (Int.le_trans (Int.ofNat_le.mpr S.nine) (by decide));let F_I : Option LV → Option LV → Option LV → VF := fun (q32:Option LV) (q33:Option LV) (q34:Option LV) => (s0 :: s1 :: s2 :: s3 :: s4 :: s5 :: s6 :: s7 :: s8 :: s9 :: s10 :: some (.ref ds) :: s12 :: some (pv p) :: s14 :: s15 :: s16 :: some (.inst B.bc b.x b.d) :: s18 :: s19 :: s20 :: s21 :: s22 :: s23 :: s24 :: s25 :: some (.str d) :: some (.ref bf) :: s28 :: some (.ref af) :: some (.ref bk) :: some (.ref rl) :: q32 :: q33 :: q34 :: []);let I : Nat → VF → Hp → Prop := fun i v_ H' => El (fun p_ => ∀ (q32:Option LV) (q33:Option LV) (q34:Option LV) (acc:List LV), (Ext H0 H') → (H' bk = some (.lst acc)) → (H' rl = some (.lst (rs.map pv))) → (acc.length ≤ i) → ((g2 p ≠ none → acc = (rs.take i).filterMap (Fk ko p))) → p_ (F_I q32 q33 q34)) v_;have hI : ∀ {i:Nat} {q32:Option LV} {q33:Option LV} {q34:Option LV} {acc:List LV} {H':Hp}, (Ext H0 H') → (H' bk = some (.lst acc)) → (H' rl = some (.lst (rs.map pv))) → (acc.length ≤ i) → ((g2 p ≠ none → acc = (rs.take i).filterMap (Fk ko p))) → I i (F_I q32 q33 q34) H' := fun z0 z1 z2 z3 z4 p_ k_ => k_ _ _ _ _ z0 z1 z2 z3 z4;refine ⟨stpL G, IV_list hrl (LFor.ys _ (rs.map pv) I (ys_list rfl) (hI (i := 0) e0 hbk hrl (Nat.le_refl _) fun ww => rfl) (fun i H' => El.el fun q32 q33 q34 acc e hk hl' z w => ⟨rfl, hl'⟩) (fun P2 i lv H' hP2 hi => El.el fun q32 q33 q34 acc e hk hrl' z w => ?_) fun H' => El.el fun q32 q33 q34 acc e hk hl' z w => h q32 q33 q34 acc H' e hk fun s => (w s).trans (by rw [List.length_map, List.take_length]))⟩;obtain ⟨q, hq, rfl⟩ := Option.map_eq_some_iff.mp (by rw [List.getElem?_map] at hi; exact hi);have onq := rp.on q (List.mem_of_getElem? hq);have lt : i < 81 := Nat.lt_of_lt_of_le (List.getElem?_eq_some_iff.mp hq).1 rp.len;have T : (rs.take (i + 1)).filterMap (Fk ko p) = (rs.take i).filterMap (Fk ko p) ++ (Fk ko p q).toList := by
    rw [List.take_add_one, hq, List.filterMap_append];show _ ++ List.filterMap _ [q] = _;rw [List.filterMap_cons]; cases Fk ko p q <;> rfl
  have skip : ∀ {q33 q34:Option LV} {H5:Hp}, (g2 p ≠ none → ko ≠ some q) → Ext H' H5 → P2.n (F_I (some (pv q)) q33 q34) H5 := fun no e5 =>
    hP2.n (hI (i := i + 1) (e.trans e5) (e5 _ _ hk) (e5 _ _ hrl') (Nat.le_succ_of_le z) fun s => by rw [T, w s, Fk, if_neg (no s)]; exact (List.append_nil _).symm)
  refine BO_notinpd (e _ _ hds) ⟨_, rfl, fun x => ?_, fun x => skip (fun ww => A.held ?_) (Ext.refl _)⟩
  · have free : g2 q = none := by rw [R.is] at x; exact Classical.byContradiction fun y => by rw [decide_eq_true y] at x; exact Bool.noConfusion x
    refine lm B B.m_cp (by decide +kernel) (hB.ext e).ns (CALL_cp B (hB.ext e) fun b' H1 e1 nb hB' => lm B B.m_ie (by decide +kernel) hB'.ns (CALL_ie B hB' fun y fy => ?_));have haf1 := e1 _ _ (e _ _ haf);have e2 : Ext H1 (Go.hset H1 y (.lst [])) := (Ext.refl _).set fy;refine BO_rows0 (e2 _ _ haf1) hit hB'.col hem (BO_isNotBool ⟨_, rfl, fun x => (neqq rfl x).elim, fun ww => ?_⟩);have hB2 := hB'.ext e2;refine lm B B.m_pl (by decide +kernel) hB2.ns ⟨trivial, BO_pv0 ⟨trivial, BO_pv1 (CALL_pl B hr hB2 hd hl (fun ww => cp.put.few (Nat.le_trans (Nat.succ_le_succ hm) (by decide))) ⟨t63 onq.2.1, t63 onq.2.2.2⟩ (fun no => (no onq).elim) (fun ww no => (no free).elim) fun ww ww H3 h2 em3 ko2 fr3 hB3 P3 ww hko2 => ?_)⟩⟩;have e3 : Ext H' H3 := fr3.new nb (e1.trans e2);refine lm B B.m_ge (by decide +kernel) hB3.ns ⟨trivial, BO_pv0 ⟨trivial, BO_pv1 (CALL_ge B hr hB3 (fun ww => BO_isNone ⟨_, rfl, fun x => ?_, fun x => ⟨(fun y => nomatch y), fun ww => skip (fun ww => A.no onq free P3 fun y => ?_) e3⟩⟩) (fun no => (no A.on).elim) ⟨t63 A.on.2.1, t63 A.on.2.2.2⟩)⟩⟩
    · have hp2 : h2 p = none := by cases y : h2 p with
        | none => rfl
        | some _ => rw [y] at x; cases x
      refine lm B B.m_lo (by decide +kernel) hB3.ns (CALL_lo B hB3 fun r1 H4 e4 fr1 hr1 => BO_rowsEq hr1 ((e3.trans e4) _ _ (e _ _ hbf)) hB3.col hgc fun y hy => ⟨_, rfl, fun u => ⟨fun ww => ?_, (fun v => nomatch v)⟩, fun u => ⟨(fun v => nomatch v), fun ww => skip (fun ww => A.no onq free P3 fun v => ?_) (e3.trans e4)⟩⟩)
      · have hk4 := (e3.trans e4) _ _ hk
        exact ⟨_, _, bm_lapp, OfT_lst hk4, CALL_append hk4 (Nat.lt_of_le_of_lt z (Nat.lt_trans lt (by decide))) (hP2.n (hI (i := i + 1) ((e.trans (e3.trans e4)).set f0) hit (miss nrl ((e3.trans e4) _ _ hrl')) (by rw [List.length_append]; exact Nat.succ_le_succ z) fun s => by
          obtain ⟨k1, k2⟩ := A.yes onq free P3 hko2 s hp2 (hy.mp u)
          rw [T, w s, Fk, if_pos k1, k2]; rfl))⟩
      · rw [hy.mpr v.2] at u; cases u
    · rw [y.1] at x; cases x
  · rw [R.is] at x; exact of_decide_eq_true (by cases y:decide (g2 q ≠ none) with
      | true => rfl
      | false => rw [y] at x; cases x)
end
section
theorem fk_none {p:Pt} : ∀ {rs:List Pt}, rs.filterMap (Fk none p) = []
  | [] => rfl
  | q :: rs => by rw [List.filterMap_cons, Fk, if_neg (fun z => nomatch z)]; exact fk_none
theorem fk_off {p r:Pt} : ∀ {rs:List Pt}, r ∉ rs → rs.filterMap (Fk (some r) p) = []
  | [], _ => rfl
  | q :: rs, h => by rw [List.filterMap_cons, Fk, if_neg (fun z => h (by cases z; exact .head _))]; exact fk_off fun z => h (.tail _ z)
theorem fk_one {p r:Pt} : ∀ {rs:List Pt}, rs.Nodup → r ∈ rs → rs.filterMap (Fk (some r) p) = [.tup [pv r, pv p]]
  | q :: rs, nd, h => by
    rw [List.filterMap_cons, Fk]
    by_cases e : r = q
    · rw [if_pos (congrArg some e)];show _ :: _ = _;rw [fk_off fun z => (List.nodup_cons.mp nd).1 (e ▸ z), e]
    · rw [if_neg fun z => e (Option.some.inj z)];exact fk_one (List.nodup_cons.mp nd).2 ((List.mem_cons.mp h).resolve_left e)
theorem eqv_ko {p q:Pt} : PyData.eqv (.list [.tuple [pd q, pd p]]) (.list [.tuple [pd q, pd p]]) = true := by simp [PyData.eqv, PyData.eqvAll, pd]
theorem LAW_fin {G:Gl} {B:BW G} {k n:Nat} {H:Hp} {P:PW} {b:Bd} {g g2:Grd} {em:Bool} {v:VF} {p:Pt} {c d:Str} {ko:Option Pt} {ds af bk:Addr} {fs:List (Pt × LV)} {ep:Nat} {acc:List LV} {rs:List Pt} (A:Rep1 n g g2 p c d ko) (rp:Rpl n p rs) (hl:Legal n g)
    (e11:vget v 11 = some (.ref ds)) (e13:vget v 13 = some (pv p)) (e17:vget v 17 = some (.inst B.bc b.x b.d)) (e28:vget v 28 = some (kov ko)) (e29:vget v 29 = some (.ref af)) (e30:vget v 30 = some (.ref bk))
    (hB:BAt H b n g2 em) (hds:H ds = some (.pdict fs ep)) (R:Rep n fs g2) (haf:H af = some (.lst (rowsV n g2))) (hbk:H bk = some (.lst acc)) (hacc:g2 p ≠ none → acc = rs.filterMap (Fk ko p))
    (h:∀ H', Ext H H' → P.n v H') : il_fin G (k + 9) v H P := by
  refine vgv e17 (lm B B.m_lo (by decide +kernel) hB.ns (CALL_lo B hB fun r1 H1 e1 f1 hr1 => vgv e29 (BO_rows hr1 (e1 _ _ haf) hB.col hB.col (fun ww ww => rfl) ⟨_, rfl, (fun q => nomatch q), fun ww => vgv e13 (vgv e11 (BO_notinpd (e1 _ _ hds) ⟨_, rfl, fun x => ?_, fun x => ?_⟩))⟩)))
  · rw [R.is] at x;have free : g2 p = none := Classical.byContradiction fun y => by rw [decide_eq_true y] at x; exact Bool.noConfusion x
    have e : ko = none := by
      cases e : ko with
      | none => rfl
      | some q => exact (ko_self A.pd ((A.ko q).mp e) gset_same free).elim
    rw [e] at e28;exact vgv e28 (BO_notNone ⟨_, rfl, (fun q => nomatch q), fun ww => h H1 e1⟩)
  · rw [R.is] at x
    have held : g2 p ≠ none := of_decide_eq_true (by cases y:decide (g2 p ≠ none) with
      | true => rfl
      | false => rw [y] at x; cases x)
    have hk1 := e1 _ _ hbk;rw [hacc held] at hk1;cases e : ko with
    | none =>
      rw [e] at e28 hk1;rw [fk_none] at hk1;refine vgv e30 (vgv e28 (BO_isNone ⟨_, rfl, fun ww z fz => BO_ne (.ref (miss (ne_of fz hk1) hk1) .nil) (.ref hit .nil) ?_ (by decide), (fun q => nomatch q)⟩));exact ⟨_, rfl, fun q => by rw [PyData.eqv, PyData.eqvAll] at q; exact Bool.noConfusion q, fun ww => h _ (e1.set (e1.none fz))⟩
    | some q =>
      have mem := rp.near q (ko_near hl A.h0 ((A.ko q).mp e));rw [e] at e28 hk1;rw [fk_one rp.nd mem] at hk1;have D : ∀ {H:Hp}, IsDs H [.tup [pv q, pv p]] [.tuple [pd q, pd p]] := .cons (.tup (.cons isD_pv (.cons isD_pv .nil))) .nil;refine vgv e30 (vgv e28 (BO_isNone ⟨_, rfl, (fun q => nomatch q), fun ww => vgv e28 (vgv e13 fun z fz => BO_ne (.ref (miss (ne_of fz hk1) hk1) D) (.ref hit D) ?_ ?_)⟩))
      · exact ⟨_, rfl, fun x => by rw [eqv_ko] at x; exact Bool.noConfusion x, fun ww => h _ (e1.set (e1.none fz))⟩
      · refine Nat.lt_of_le_of_lt (Nat.min_le_left _ _) ?_;simp [PyData.depth, PyData.depthAll, pd]
end
section
theorem Played.cap {n m:Nat} {g g2:Grd} {p:Pt} {c:Str} (h:Played n (gset g p (some c)) c g2) (cp:Cap n g m) : Cap n g2 (m + 1) := cp.put.less fun q hq h2 e => h2 ((h.or hq).elim id fun z => z.trans e)
theorem LAW_turn {G:Gl} {B:BW G} (W:LW G B) (hr:G.hr = true) {k:Nat} {H:Hp} {P:PW} {n m t:Nat} {z:Pt} {c d:Str} {num:Int} {pl ds:Addr} {b:Bd} {fs:List (Pt × LV)} {ep:Nat} {g:Grd} {em:Bool} {s0 s1 s2 s4 s5 s6 s12 s13 s14 s15 s16 s18 s19 s20 s21 s22 s25 s26 s27 s28 s29 s30 s31 s32 s33 s34:Option LV} (S:Sd n) (hc:IsCol c) (hd:IsCol d) (ne:c ≠ d)
    (hpl:H pl = some (.lst ((pts n).map pv))) (hB:BAt H b n g em) (hem:em = true ↔ ∀ p, On n p → g p = none) (hl:Legal n g) (hds:H ds = some (.pdict fs ep)) (R:Rep n fs g) (cp:Cap n g m) (hm:m + 1 ≤ 40)
    (h:∀ s13 s25 s26 s27 s28 s29 s30 s31 s32 s33 s34 ds fs ep g em H', Fr b.own H H' → BAt H' b n g em → (em = true ↔ ∀ p, On n p → g p = none) → Legal n g → H' ds = some (.pdict fs ep) → Rep n fs g → Cap n g (m + 1) →
      P.n (s0 :: s1 :: s2 :: some (.int n) :: s4 :: s5 :: s6 :: some (pv z) :: some (.str c) :: some (.str d) :: some (.ref pl) :: some (.ref ds) :: s12 :: s13 :: s14 :: s15 :: s16 :: some (.inst B.bc b.x b.d) :: s18 :: s19 :: s20 :: s21 :: s22 :: some (.int t) :: some (.int num) :: s25 :: s26 :: s27 :: s28 :: s29 :: s30 :: s31 :: s32 :: s33 :: s34 :: []) H' ∧
      P.c (s0 :: s1 :: s2 :: some (.int n) :: s4 :: s5 :: s6 :: some (pv z) :: some (.str c) :: some (.str d) :: some (.ref pl) :: some (.ref ds) :: s12 :: s13 :: s14 :: s15 :: s16 :: some (.inst B.bc b.x b.d) :: s18 :: s19 :: s20 :: s21 :: s22 :: some (.int t) :: some (.int num) :: s25 :: s26 :: s27 :: s28 :: s29 :: s30 :: s31 :: s32 :: s33 :: s34 :: []) H') :
    il_turn G (k + 9) (s0 :: s1 :: s2 :: some (.int n) :: s4 :: s5 :: s6 :: some (pv z) :: some (.str c) :: some (.str d) :: some (.ref pl) :: some (.ref ds) :: s12 :: s13 :: s14 :: s15 :: s16 :: some (.inst B.bc b.x b.d) :: s18 :: s19 :: s20 :: s21 :: s22 :: some (.int t) :: some (.int num) :: s25 :: s26 :: s27 :: s28 :: s29 :: s30 :: s31 :: s32 :: s33 :: s34 :: []) H P := by
  refine LAW_pt W S hc hd ne hpl hds R fun p c' d' bf H1 on hc' hd' ne' e1 fbf hbf => LAW_ck rfl rfl (hB.ext e1) hem hbf fun H2 e2 => ?_;have e12 := e1.trans e2;have few := cp.put (p := p) (o := some c') |>.few (Nat.le_trans hm (by decide));refine LAW_try hr S on hc' (hB.ext e12) hl few (e12 _ _ hds) R (e2 _ _ hbf) (fun H3 e3 => (h _ _ _ _ _ _ _ _ _ _ _ ds fs ep g em H3 ((e12.trans e3).fr _) (hB.ext (e12.trans e3)) hem hl ((e12.trans e3) _ _ hds) R (cp.up (Nat.le_succ _))).2) fun g2 em2 ko H3 hg fr3 hB3 pd3 hem3 hko => ?_;have npl : pl ∉ b.own := hB.notOwn hpl pv_notC;have f13 := (e12.fr b.own).trans fr3;refine LAW_mv W S on hc' hg cp (Nat.le_trans (Nat.le_succ _) hm) (f13 _ _ npl hpl) (f13 _ _ (hB.notOwn' hds rfl) hds) R fun ds4 fs4 ep4 g4 af H4 e4 hds4 R4 pd4 haf4 => ?_;have gg := pd3.unique pd4;have hB4 : BAt H4 b n g4 em2 := (hB3.ext e4).congr (fun p hp => (gg p hp).symm) fun p c hc => R4.col p c hc;have hem4 : em2 = true ↔ ∀ p, On n p → g4 p = none := hem3.trans ⟨fun x p hp => (gg p hp).symm.trans (x p hp), fun x p hp => (gg p hp).trans (x p hp)⟩;refine LAW_ck rfl rfl hB4 hem4 haf4 fun H5 e5 => LAW_rep W S (e5 _ _ (e4 _ _ (f13 _ _ npl hpl))) fun bk rl rs H6 e6 f6 hbk hrl nrl rp => ?_;have A : Rep1 n g g4 p c' d' ko := ⟨ne', fun q x e => two_col (R.col q x e) hc' hd' ne', hg, on, pd4, hko⟩;have l4 := pd4.legal hl on hg;have c4 := pd4.cap cp;have hB5 := hB4.ext e5;refine LAW_loop hr S hd' A R.col l4 c4 hm rp hB5 hem4 (e5 _ _ hds4) R4 (e5 _ _ (e4 _ _ (fr3 _ _ (fun z => (hB.own0 fbf) z) (e2 _ _ hbf)))) (e5 _ _ haf4) e6 f6 hbk hrl nrl fun q32 q33 q34 acc H7 e7 hk7 hacc => ?_;refine LAW_fin A rp hl rfl rfl rfl rfl rfl rfl (hB5.ext e7) (e7 _ _ (e5 _ _ hds4)) R4 (e7 _ _ (e5 _ _ haf4)) hk7 hacc fun H8 e8 => ?_;have e48 := (e4.trans e5).trans (e7.trans e8);exact (h _ _ _ _ _ _ _ _ _ _ _ ds4 fs4 ep4 g4 em2 H8 (f13.trans (e48.fr _)) ((hB5.ext e7).ext e8) hem4 l4 (e8 _ _ (e7 _ _ (e5 _ _ hds4))) R4 c4).1
theorem LEn.ys {len:Nat} {lv:LV} {v:VF} {H:Hp} {R:VF → Hp → Prop} {P:PW} {B:Nat → LV → VF → Hp → PW → Prop} (l:Addr) (vs:List LV) (I:Nat → VF → Hp → Prop) (e:lv = .ref l) (i0:I 0 v H) (hk:∀ i H v, I i v H → v.length = len ∧ H l = some (.lst vs)) (ht:∀ P' i lv H', PW.le (I (i + 1)) R (I (i + 1)) P P' → vs[i]? = some lv → ∀ v', I i v' H' → B i lv v' H' P') (hd:∀ H' v', I vs.length v' H' → R v' H') : LEn len lv v H R P B :=
  ⟨l, vs, I, e, i0, fun i v H => hk i H v, ht, fun v H => hd H v⟩
theorem pick_ints {ns:List Int} (a b:Nat) : pickL (ns.map LV.int) (some (a:Int)) (some (b:Int)) none = ((ns.drop a).take (b - a)).map .int := (pick_nat a b).trans (by rw [List.map_take, List.map_drop])
theorem LAW_loop2 {G:Gl} {B:BW G} (W:LW G B) (hr:G.hr = true) (n_enum:GNm G (ofString "enumerate") (.type "enumerate")) {k:Nat} {H:Hp} {P:PW} {sa:Addr} {ns:List Int} {n la:Nat} {z:Pt} {c d:Str} {pl ds:Addr} {b:Bd} {fs:List (Pt × LV)} {ep:Nat} {g:Grd} {em:Bool} {s1 s2 s4 s5 s6 s12 s13 s14 s15 s16 s18 s19 s20 s21:Option LV} (hns:ns.length ≤ 63) (hla:la ≤ 4) (h2:2 ≤ la) (S:Sd n) (hc:IsCol c) (hd:IsCol d) (ne:c ≠ d)
    (hpl:H pl = some (.lst ((pts n).map pv))) (hB:BAt H b n g em) (hem:em = true ↔ ∀ p, On n p → g p = none) (hl:Legal n g) (hds:H ds = some (.pdict fs ep)) (R:Rep n fs g) (cp:Cap n g 33)
    (h:∀ H', P.r (.bool true) H') :
    (sForE (g2 23 24) (tBin .Add (tLst (tCons (tC (.int (0))) tNil)) (tSlc (tVar 0) (tP1 (tC (.int (2)))) (tP1 (tVar 22)) tP0)) il_turn (sRet (tC (.bool true)))) G (k + 9) (some (.ro sa (ns.map .int)) :: s1 :: s2 :: some (.int n) :: s4 :: s5 :: s6 :: some (pv z) :: some (.str c) :: some (.str d) :: some (.ref pl) :: some (.ref ds) :: s12 :: s13 :: s14 :: s15 :: s16 :: some (.inst B.bc b.x b.d) :: s18 :: s19 :: s20 :: s21 :: some (.int la) :: none :: none :: none :: none :: none :: none :: none :: none :: none :: none :: none :: none :: []) H P := by
  have z1 : ((ns.drop 2).take (la - 2)).length ≤ 2 := Nat.le_trans (List.length_take_le _ _) (Nat.sub_le_sub_right hla 2);have p13 : pickL (ns.map LV.int) (some 2) (some (la:Int)) none = ((ns.drop 2).take (la - 2)).map LV.int := pick_ints 2 la;refine ⟨hr, n_enum, fun x fx => ⟨2, rfl, la, rfl, ns.map .int, rfl, by rw [List.length_map]; exact Nat.le_trans hns (by decide), (fun q => nomatch q), by rw [p13, List.length_map]; exact Nat.le_trans z1 (by decide), trivial, fun y fy => ?_⟩⟩;rw [p13];generalize (ns.drop 2).take (la - 2) = ws at z1;have e1 : Ext H (Go.hset H x (.lst [.int 0])) := (Ext.refl _).set fx;have e2 := e1.set (o := .lst (ws.map LV.int)) (e1.none fy);refine BO_addl (vs := [.int 0]) (ws := ws.map LV.int) (LstOf_ref (miss (ne_of fy hit) hit)) (LstOf_ref hit) (by rw [List.length_map]; exact Nat.le_trans (Nat.add_le_add_left z1 1) (by decide)) fun al fal => ?_;have e3 := e2.set (o := .lst ([LV.int 0] ++ ws.map LV.int)) (e2.none fal);have hal : Go.hset (Go.hset (Go.hset H x (.lst [.int 0])) y (.lst (ws.map LV.int))) al (.lst ([LV.int 0] ++ ws.map LV.int)) al = some (.lst ((0 :: ws).map LV.int)) := hit;generalize Go.hset (Go.hset (Go.hset H x (.lst [.int 0])) y (.lst (ws.map LV.int))) al (.lst ([LV.int 0] ++ ws.map LV.int)) = H3 at e3 hal;let F_I : Option LV → Option LV → Option LV → Option LV → Option LV → Option LV → Option LV → Option LV → Option LV → Option LV → Option LV → Option LV → Option LV → Addr → VF := fun (s13:Option LV) (s23:Option LV) (s24:Option LV) (s25:Option LV) (s26:Option LV) (s27:Option LV) (s28:Option LV) (s29:Option LV) (s30:Option LV) (s31:Option LV) (s32:Option LV) (s33:Option LV) (s34:Option LV) (ds:Addr) => (some (.ro sa (ns.map .int)) :: s1 :: s2 :: some (.int n) :: s4 :: s5 :: s6 :: some (pv z) :: some (.str c) :: some (.str d) :: some (.ref pl) :: some (.ref ds) :: s12 :: s13 :: s14 :: s15 :: s16 :: some (.inst B.bc b.x b.d) :: s18 :: s19 :: s20 :: s21 :: some (.int la) :: s23 :: s24 :: s25 :: s26 :: s27 :: s28 :: s29 :: s30 :: s31 :: s32 :: s33 :: s34 :: []);let I : Nat → VF → Hp → Prop := fun i v_ H' => El (fun p_ => ∀ (s13:Option LV) (s23:Option LV) (s24:Option LV) (s25:Option LV) (s26:Option LV) (s27:Option LV) (s28:Option LV) (s29:Option LV) (s30:Option LV) (s31:Option LV) (s32:Option LV) (s33:Option LV) (s34:Option LV) (ds:Addr) (fs:List (Pt × LV)) (ep:Nat) (g:Grd) (em:Bool), (H' al = some (.lst ((0 :: ws).map LV.int))) → (H' pl = some (.lst ((pts n).map pv))) → (BAt H' b n g em) → ((em = true ↔ ∀ p, On n p → g p = none)) → (Legal n g) → (H' ds = some (.pdict fs ep)) → (Rep n fs g) → (Cap n g (33 + i)) → p_ (F_I s13 s23 s24 s25 s26 s27 s28 s29 s30 s31 s32 s33 s34 ds)) v_;have hI : ∀ {i:Nat} {s13:Option LV} {s23:Option LV} {s24:Option LV} {s25:Option LV} {s26:Option LV} {s27:Option LV} {s28:Option LV} {s29:Option LV} {s30:Option LV} {s31:Option LV} {s32:Option LV} {s33:Option LV} {s34:Option LV} {ds:Addr} {fs:List (Pt × LV)} {ep:Nat} {g:Grd} {em:Bool} {H':Hp}, (H' al = some (.lst ((0 :: ws).map LV.int))) → (H' pl = some (.lst ((pts n).map pv))) → (BAt H' b n g em) → ((em = true ↔ ∀ p, On n p → g p = none)) → (Legal n g) → (H' ds = some (.pdict fs ep)) → (Rep n fs g) → (Cap n g (33 + i)) → I i (F_I s13 s23 s24 s25 s26 s27 s28 s29 s30 s31 s32 s33 s34 ds) H' := fun z0 z1 z2 z3 z4 z5 z6 z7 p_ k_ => k_ _ _ _ _ _ _ _ _ _ _ _ _ _ _ _ _ _ _ z0 z1 z2 z3 z4 z5 z6 z7;refine LEn.ys al ((0 :: ws).map LV.int) I rfl (hI (i := 0) hal (e3 _ _ hpl) (hB.ext e3) hem hl (e3 _ _ hds) R cp) (fun i H' => El.el fun ww ww ww ww ww ww ww ww ww ww ww ww ww ww ww ww ww ww hal ww ww ww ww ww ww ww => ⟨rfl, hal⟩) (fun P2 i lv H' hP2 hi => El.el fun s13 s23 s24 s25 s26 s27 s28 s29 s30 s31 s32 s33 s34 ds fs ep g em hal hpl hB hem hl hds R cp => ?_) fun H' => El.el fun ww ww ww ww ww ww ww ww ww ww ww ww ww ww ww ww ww ww ww ww ww ww ww ww ww ww => h H';obtain ⟨num, hnum, rfl⟩ := Option.map_eq_some_iff.mp (by rw [List.getElem?_map] at hi; exact hi);have lt : i < 3 := Nat.lt_of_lt_of_le (List.getElem?_eq_some_iff.mp hnum).1 (Nat.succ_le_succ z1);have no : ∀ {a:Addr} {vs:List LV}, H' a = some (.lst vs) → (vs = [] ∨ ∃ v, v ∈ vs ∧ ∀ o, v ≠ cv o) → a ∉ b.own := fun ha hv z => hB.notOwn ha hv z;refine ⟨_, _, rfl, LAW_turn W hr S hc hd ne hpl hB hem hl hds R cp (Nat.le_trans (Nat.add_le_add_left lt 33) (by decide)) fun s13 s25 s26 s27 s28 s29 s30 s31 s32 s33 s34 ds' fs' ep' g' em' H2 fr' hB' hem' hl' hds' R' cp' => ?_⟩;have K := hI (i := i + 1) (s13 := s13) (s23 := some (.int i)) (s24 := some (.int num)) (s25 := s25) (s26 := s26) (s27 := s27) (s28 := s28) (s29 := s29) (s30 := s30) (s31 := s31) (s32 := s32) (s33 := s33) (s34 := s34) (fr' _ _ (no hal ints_notC) hal) (fr' _ _ (no hpl pv_notC) hpl) hB' hem' hl' hds' R' cp';exact ⟨hP2.n K, hP2.c K⟩
theorem LAW_all {G:Gl} {B:BW G} (W:LW G B) (hr:G.hr = true) (n_enum:GNm G (ofString "enumerate") (.type "enumerate")) (n_abs:GNm G (ofString "abs") (.builtin "abs")) {k:Nat} {H:Hp} {P:PW} {sa:Addr} {ns:List Int} (hns:ns.length ≤ 63) (h:∀ H', P.r (.bool true) H') :
    il_all G (k + 9) (some (.ro sa (ns.map .int)) :: none :: none :: none :: none :: none :: none :: none :: none :: none :: none :: none :: none :: none :: none :: none :: none :: none :: none :: none :: none :: none :: none :: none :: none :: none :: none :: none :: none :: none :: none :: none :: none :: none :: none :: []) H P :=
  LAW_head B hns fun n h0 ce pc sh w p c d pl ds H1 S on hc hd ne hw e1 hpl hds => LAW_fill n_abs S on hpl hds fun ce qp fs ep g H2 f2 hd2 R2 cp2 => LAW_prize W S on hw hc hd (frds f2 hds hpl) hd2 R2 cp2 fun qo qd qr qp fs3 ep3 g3 H3 f3 hd3 R3 cp3 =>
    LAW_set W hr S (frds f3 hd2 (frds f2 hds hpl)) hd3 R3 cp3 fun b qb qw ql qv ds fs ep g em la H4 l1 l2 e4 hB hem hl hd4 R4 cp4 => LAW_loop2 W hr n_enum hns l1 l2 S hc hd ne (e4 _ _ (frds f3 hd2 (frds f2 hds hpl))) hB hem hl hd4 R4 cp4 h
end
section
section
noncomputable abbrev P0 : Program := PySem.Challenge.pw_im0127_05
noncomputable def dO (P:Params) (l:List (String × Nat × Value)) (n:Nat) : Obj := ⟨.type "dict", none, .dict (l.map fun x => ⟨PyData.keyHash P (ofString x.1), .str (ofString x.1) x.2.1, x.2.2⟩).toArray n, #[]⟩
noncomputable def fO (st:Stmt) (q:String) (dV kV doc pm:Value) (an:Option Addr) (cd ct:Value) : Obj := ⟨.type "function", none, .func (fnOf (fname st) (ofString q) (fparams st) (fbody st) (fscope st) dV kV doc pm an cd ct), #[]⟩
noncomputable def cO (n:String) (bs mro:List Value) (ns:Addr) (q:String) (sl:List (Option Value)) : Obj := ⟨.type "type", none, .cls { name := ofString n, bases := bs, mro := mro, ns := ns, qualname := ofString q }, sl.toArray⟩
noncomputable def kO (c:Value) (l:List Value) : Obj := ⟨c, none, .fields l.toArray, #[]⟩
noncomputable def K0 (P:Params) : Frag := [
  (3, dO P [("__name__", 165, .str (ofString "law_im0127_05") 382), ("__doc__", 166, .none), ("__package__", 167, .none), ("__loader__", 168, .builtin "__main__.__loader__#opaque"), ("__spec__", 169, .none), ("__annotations__", 170, .ref 6), ("__builtins__", 171, .ref 4), ("__file__", 173, .str (ofString "/claim/cut.py") 172), ("__cached__", 174, .none), ("_wall", 193, .ref 21), ("_opponents", 202, .ref 22), ("opponent_of", 209, .ref 29), ("_Group", 231, .ref 39), ("Board", 381, .ref 131), ("_law_near", 389, .ref 140), ("_law_breathing", 395, .ref 145), ("_law_only", 405, .ref 152), ("_law_moved", 411, .ref 157), ("_law_rows", 417, .ref 162), ("law", 423, .ref 167)] 20),
  (22, dO P [("b", 196, .str (ofString "w") 197), ("w", 198, .str (ofString "b") 199)] 2),
  (28, kO (.type "code") [.str (ofString "opponent_of") 203, .str (ofString "opponent_of") 204, .str (ofString "/claim/cut.py") 205, .int 6 0, .int 1 0, .int 0 0, .int 0 0, .int 3 0, .ref 23, .bool true, .int 181 0, .ref 24, .none, .ref 25, .ref 26, .ref 27, .int 207 0, .int 6 0, .str (ofString "/claim/cut.py") 208]),
  (29, fO opS "opponent_of" (.none) (.none) (.none) (.str (ofString "sgfmill.common") 194) (none) (.ref 28) (.none)),
  (38, dO P [("__module__", 219, .str (ofString "sgfmill.boards") 210), ("__firstlineno__", 223, .int 12 222), ("__static_attributes__", 224, .ref 37), ("__dict__", 226, .ref 40), ("__weakref__", 228, .ref 41), ("__doc__", 229, .none)] 4),
  (39, cO "_Group" [.type "object"] [.ref 39, .type "object"] 38 "_Group" [.none, .none, .some (.str (ofString "_Group") 212), .some (.str (ofString "_Group") 220), .some (.builtin "object.__new__"), .some (.bool true)]),
  (54, kO (.type "code") [.str (ofString "__init__") 244, .str (ofString "Board.__init__") 245, .str (ofString "/claim/cut.py") 246, .int 16 0, .int 2 0, .int 0 0, .int 0 0, .int 3 0, .ref 51, .bool true, .int 181 0, .ref 52, .none, .none, .none, .ref 53, .int 247 0, .int 16 0, .str (ofString "/claim/cut.py") 248]),
  (55, fO inS "Board.__init__" (.none) (.none) (.none) (.str (ofString "sgfmill.boards") 210) (none) (.ref 54) (.none)),
  (59, kO (.type "code") [.str (ofString "copy") 250, .str (ofString "Board.copy") 251, .str (ofString "/claim/cut.py") 252, .int 26 0, .int 1 0, .int 0 0, .int 0 0, .int 3 0, .ref 56, .bool true, .int 181 0, .ref 57, .none, .none, .none, .ref 58, .int 253 0, .int 26 0, .str (ofString "/claim/cut.py") 254]),
  (60, fO cpS "Board.copy" (.none) (.none) (.none) (.str (ofString "sgfmill.boards") 210) (none) (.ref 59) (.none)),
  (66, kO (.type "code") [.str (ofString "_make_group") 256, .str (ofString "Board._make_group") 257, .str (ofString "/claim/cut.py") 258, .int 32 0, .int 4 0, .int 0 0, .int 0 0, .int 3 0, .ref 61, .bool true, .int 181 0, .ref 62, .none, .ref 63, .ref 64, .ref 65, .int 274 0, .int 32 0, .str (ofString "/claim/cut.py") 275]),
  (67, fO mgS "Board._make_group" (.none) (.none) (.none) (.str (ofString "sgfmill.boards") 210) (none) (.ref 66) (.none)),
  (80, kO (.type "code") [.str (ofString "_find_surrounded_groups") 286, .str (ofString "Board._find_surrounded_groups") 287, .str (ofString "/claim/cut.py") 288, .int 60 0, .int 3 0, .int 0 0, .int 0 0, .int 3 0, .ref 75, .bool true, .int 181 0, .ref 76, .none, .ref 77, .ref 78, .ref 79, .int 299 0, .int 60 0, .str (ofString "/claim/cut.py") 300]),
  (81, fO fsS "Board._find_surrounded_groups" (.none) (.none) (.none) (.str (ofString "sgfmill.boards") 210) (none) (.ref 80) (.none)),
  (87, kO (.type "code") [.str (ofString "_find_all_surrounded_groups") 302, .str (ofString "Board._find_all_surrounded_groups") 303, .str (ofString "/claim/cut.py") 304, .int 78 0, .int 1 0, .int 0 0, .int 0 0, .int 3 0, .ref 82, .bool true, .int 181 0, .ref 83, .none, .ref 84, .ref 85, .ref 86, .int 313 0, .int 78 0, .str (ofString "/claim/cut.py") 314]),
  (88, fO faS "Board._find_all_surrounded_groups" (.none) (.none) (.none) (.str (ofString "sgfmill.boards") 210) (none) (.ref 87) (.none)),
  (94, kO (.type "code") [.str (ofString "is_empty") 316, .str (ofString "Board.is_empty") 317, .str (ofString "/claim/cut.py") 318, .int 94 0, .int 1 0, .int 0 0, .int 0 0, .int 3 0, .ref 89, .bool true, .int 181 0, .ref 90, .none, .ref 91, .ref 92, .ref 93, .int 320 0, .int 94 0, .str (ofString "/claim/cut.py") 321]),
  (95, fO ieS "Board.is_empty" (.none) (.none) (.none) (.str (ofString "sgfmill.boards") 210) (none) (.ref 94) (.none)),
  (101, kO (.type "code") [.str (ofString "get") 323, .str (ofString "Board.get") 324, .str (ofString "/claim/cut.py") 325, .int 97 0, .int 3 0, .int 0 0, .int 0 0, .int 3 0, .ref 96, .bool true, .int 181 0, .ref 97, .none, .ref 98, .ref 99, .ref 100, .int 329 0, .int 97 0, .str (ofString "/claim/cut.py") 330]),
  (102, fO geS "Board.get" (.none) (.none) (.none) (.str (ofString "sgfmill.boards") 210) (none) (.ref 101) (.none)),
  (106, kO (.type "code") [.str (ofString "play") 332, .str (ofString "Board.play") 333, .str (ofString "/claim/cut.py") 334, .int 102 0, .int 4 0, .int 0 0, .int 0 0, .int 3 0, .ref 103, .bool true, .int 181 0, .ref 104, .none, .none, .none, .ref 105, .int 335 0, .int 102 0, .str (ofString "/claim/cut.py") 336]),
  (107, fO plS "Board.play" (.none) (.none) (.none) (.str (ofString "sgfmill.boards") 210) (none) (.ref 106) (.none)),
  (113, kO (.type "code") [.str (ofString "apply_setup") 338, .str (ofString "Board.apply_setup") 339, .str (ofString "/claim/cut.py") 340, .int 128 0, .int 4 0, .int 0 0, .int 0 0, .int 3 0, .ref 108, .bool true, .int 181 0, .ref 109, .none, .ref 110, .ref 111, .ref 112, .int 349 0, .int 128 0, .str (ofString "/claim/cut.py") 350]),
  (114, fO asS "Board.apply_setup" (.none) (.none) (.none) (.str (ofString "sgfmill.boards") 210) (none) (.ref 113) (.none)),
  (120, kO (.type "code") [.str (ofString "list_occupied_points") 352, .str (ofString "Board.list_occupied_points") 353, .str (ofString "/claim/cut.py") 354, .int 149 0, .int 1 0, .int 0 0, .int 0 0, .int 3 0, .ref 115, .bool true, .int 181 0, .ref 116, .none, .ref 117, .ref 118, .ref 119, .int 360 0, .int 149 0, .str (ofString "/claim/cut.py") 361]),
  (121, fO loS "Board.list_occupied_points" (.none) (.none) (.none) (.str (ofString "sgfmill.boards") 210) (none) (.ref 120) (.none)),
  (130, dO P [("__module__", 239, .str (ofString "sgfmill.boards") 210), ("__firstlineno__", 243, .int 14 242), ("__init__", 249, .ref 55), ("copy", 255, .ref 60), ("_make_group", 276, .ref 67), ("_make_empty_region", 285, .ref 74), ("_find_surrounded_groups", 301, .ref 81), ("_find_all_surrounded_groups", 315, .ref 88), ("is_empty", 322, .ref 95), ("get", 331, .ref 102), ("play", 337, .ref 107), ("apply_setup", 351, .ref 114), ("list_occupied_points", 362, .ref 121), ("area_score", 369, .ref 128), ("__static_attributes__", 374, .ref 129), ("__dict__", 376, .ref 132), ("__weakref__", 378, .ref 133), ("__doc__", 379, .none)] 4),
  (131, cO "Board" [.type "object"] [.ref 131, .type "object"] 130 "Board" [.none, .none, .some (.str (ofString "Board") 232), .some (.str (ofString "Board") 240), .some (.builtin "object.__new__"), .some (.bool true)]),
  (139, kO (.type "code") [.str (ofString "_law_near") 384, .str (ofString "_law_near") 385, .str (ofString "/claim/cut.py") 386, .int 160 0, .int 2 0, .int 0 0, .int 0 0, .int 3 0, .ref 136, .bool true, .int 181 0, .ref 137, .none, .none, .none, .ref 138, .int 387 0, .int 160 0, .str (ofString "/claim/cut.py") 388]),
  (140, fO (top 8) "_law_near" (.none) (.none) (.none) (.str (ofString "law_im0127_05") 382) (none) (.ref 139) (.none)),
  (144, kO (.type "code") [.str (ofString "_law_breathing") 390, .str (ofString "_law_breathing") 391, .str (ofString "/claim/cut.py") 392, .int 164 0, .int 2 0, .int 0 0, .int 0 0, .int 3 0, .ref 141, .bool true, .int 181 0, .ref 142, .none, .none, .none, .ref 143, .int 393 0, .int 164 0, .str (ofString "/claim/cut.py") 394]),
  (145, fO (top 9) "_law_breathing" (.none) (.none) (.none) (.str (ofString "law_im0127_05") 382) (none) (.ref 144) (.none)),
  (151, kO (.type "code") [.str (ofString "_law_only") 396, .str (ofString "_law_only") 397, .str (ofString "/claim/cut.py") 398, .int 171 0, .int 2 0, .int 0 0, .int 0 0, .int 3 0, .ref 146, .bool true, .int 181 0, .ref 147, .none, .ref 148, .ref 149, .ref 150, .int 403 0, .int 171 0, .str (ofString "/claim/cut.py") 404]),
  (152, fO (top 10) "_law_only" (.none) (.none) (.none) (.str (ofString "law_im0127_05") 382) (none) (.ref 151) (.none)),
  (156, kO (.type "code") [.str (ofString "_law_moved") 406, .str (ofString "_law_moved") 407, .str (ofString "/claim/cut.py") 408, .int 177 0, .int 4 0, .int 0 0, .int 0 0, .int 3 0, .ref 153, .bool true, .int 181 0, .ref 154, .none, .none, .none, .ref 155, .int 409 0, .int 177 0, .str (ofString "/claim/cut.py") 410]),
  (157, fO (top 11) "_law_moved" (.none) (.none) (.none) (.str (ofString "law_im0127_05") 382) (none) (.ref 156) (.none)),
  (161, kO (.type "code") [.str (ofString "_law_rows") 412, .str (ofString "_law_rows") 413, .str (ofString "/claim/cut.py") 414, .int 185 0, .int 2 0, .int 0 0, .int 0 0, .int 3 0, .ref 158, .bool true, .int 181 0, .ref 159, .none, .none, .none, .ref 160, .int 415 0, .int 185 0, .str (ofString "/claim/cut.py") 416]),
  (162, fO (top 12) "_law_rows" (.none) (.none) (.none) (.str (ofString "law_im0127_05") 382) (none) (.ref 161) (.none))]
noncomputable def kas : List Addr := [3, 22, 28, 29, 38, 39, 54, 55, 59, 60, 66, 67, 80, 81, 87, 88, 94, 95, 101, 102, 106, 107, 113, 114, 120, 121, 130, 131, 139, 140, 144, 145, 151, 152, 156, 157, 161, 162]
theorem kas_ok (P:Params) : kas = (K0 P).map (·.1) := by kernel_rfl
noncomputable def topRunG (ok:Thread → Bool) (stp:SharedT → Thread → Option (SharedT × Thread)) : Nat → SharedT → Thread → Option SharedT
  | 0, _, _ => none
  | n + 1, s, t => match through t with
    | true => some s
    | false => match ok t with
      | false => none
      | true => match stp s t with
        | some (s', t') => topRunG ok stp n s' t'
        | none => none
theorem topRunG_of {tb:String → Option Builtin} {p:Program} {w:World} {n₀:Nat} {ann:Option Value} {n:Nat} : ∀ {s s':SharedT} {t:Thread}, topRunG (stepOk n₀ ann) (stepT (denote tb) p w) n s t = some s' → topRun tb p w n₀ ann n s.abs t = some s'.abs := by
  induction n with
  | zero => exact nofun
  | succ n ih =>
    intro s s' t;unfold topRunG topRun;cases through t with
    | true => exact fun h => congrArg (Option.map SharedT.abs) h
    | false =>
      cases stepOk n₀ ann t with
      | false => exact nofun
      | true =>
        dsimp only;generalize hs : stepT (denote tb) p w s t = r;cases r with
        | none => exact nofun
        | some r => rw [stepT_spec hs]; exact ih
theorem topRun_map {tb:String → Option Builtin} {p:Program} {w:World} {n₀:Nat} {ann:Option Value} {n:Nat} {s:SharedT} {t:Thread} {β:Type} {g:Shared → β} {v:β} (h:(topRunG (stepOk n₀ ann) (stepT (denote tb) p w) n s t).map (fun s => g s.abs) = some v) : (topRun tb p w n₀ ann n s.abs t).map g = some v := by
  generalize hr : topRunG (stepOk n₀ ann) (stepT (denote tb) p w) n s t = r at h;cases r with
  | none => cases h
  | some s' => rw [topRunG_of hr]; exact h
theorem topFrom_map {p:Program} {w:World} {N m₀:Nat} {ann:Option Value} {s₀:Shared} {β:Type} {f:Shared → β} {v:β} (z:(s₀.heap.isNs mainGlobals && s₀.gens.size == 0, s₀.heap.objs.size, s₀.heap.nsMap mainGlobals "__annotations__") = (true, m₀, ann))
    (h:(topRun treeTable p w m₀ ann N s₀ (topStub p)).map (fun s => (staticsOk (importedModules p.main.body) s₀.heap s.heap && namesBound p s.heap && gensDone s && laidKept s₀.heap s.heap, f s)) = some (true, v)) : (topFrom treeTable p w N s₀).map f = some v := by
  obtain ⟨z1, z⟩ := Prod.mk.inj z;obtain ⟨z2, z3⟩ := Prod.mk.inj z;unfold topFrom;rw [z1, z2, z3];generalize topRun treeTable p w m₀ ann N s₀ (topStub p) = r at h;cases r with
  | none => cases h
  | some s =>
    obtain ⟨l1, l2⟩ := Prod.mk.inj (Option.some.inj h);dsimp only [Option.bind];rw [l1, ← l2];rfl
theorem openEnds_map {p:Program} {w:World} {N k:Nat} {β:Type} {f:Shared → β} {v:β} {h:Heap} {gs:Array GenState} {d:Drawn} (o:(fencedOpening treeTable p w N).map (fun s => (s.heap, s.gens, s.drawn, s.toks)) = some (h, gs, d, k))
    (t:∀ os, (topFrom treeTable p w N ⟨h, gs, d, k, os⟩).map f = some v) : (openEnds treeTable p w N).map f = some v := by
  unfold openEnds;generalize fencedOpening treeTable p w N = r at o;cases r with
  | none => cases o
  | some s => cases o; exact t s.os
noncomputable def bootT (P:Params) : BT :=
  BT.node (boot_o_0 P)
    (BT.node (boot_o_1 P) (BT.node (boot_o_3 P) (BT.node (boot_o_7 P) BT.nil BT.nil) BT.nil) (BT.node (boot_o_5 P) (BT.node (boot_o_9 P) BT.nil BT.nil) BT.nil))
    (BT.node (boot_o_2 P) (BT.node (boot_o_4 P) (BT.node (boot_o_8 P) BT.nil BT.nil) BT.nil) (BT.node (boot_o_6 P) (BT.node (boot_o_10 P) BT.nil BT.nil) BT.nil))
theorem bootT_abs (P:Params) : absHeap (bootT P) 11 {} = boot_heap P := by kernel_rfl
noncomputable def vw : Program := view P0 [0, 2, 3, 5, 6, 8, 9, 10, 11, 12, 13]
noncomputable def lse : List Str := [ofString "_opponents"]
theorem op_e : opening P0 = plainProg P0.main.scope.names := by kernel_rfl
theorem op_f (s:Shared) : fenceModules? P0 s = some s := by kernel_rfl
theorem sz (w:World) : ((boot_heap w.params).isNs mainGlobals && (Array.mk [] : Array GenState).size == 0, (boot_heap w.params).objs.size, (boot_heap w.params).nsMap mainGlobals "__annotations__") = (true, 11, some (.ref 6)) := by kernel_rfl
noncomputable def H0 : Hook := kHook K0 kas kas_ok
noncomputable def Xt0 : Shared → Bool := fun s => xlAt vw [] s && recOk [] s
noncomputable def F1 (w:World) (os:OsState) := (topRunG (stepOk 11 (some (.ref 6))) (stepT (denote treeTable) P0 w) 2282 ⟨bootT w.params, 11, {}, Array.mk [], boot_drawn, boot_toks, os⟩ (topStub P0)).map (fun s =>
      ((staticsOk (importedModules P0.main.body) (boot_heap w.params) s.abs.heap && namesBound P0 s.abs.heap && gensDone s.abs && laidKept (boot_heap w.params) s.abs.heap), openSeen vw lse (importedModules P0.main.body) Xt0 true s.abs, H0.obs s.abs))
noncomputable def F2 (w:World) (os:OsState) := (topRunG (PySem.W.Fast.tw6613529449190102663 11 (some (.ref 6))) (PySem.W.Fast.tw10156331382660048174 (PySem.W.Fast.tw11892475500146522536 PySem.W.Fast.tw14364793385576792824) P0 w) 2282 ⟨bootT w.params, 11, {}, Array.mk [], boot_drawn, boot_toks, os⟩ (topStub P0)).map (fun s =>
      ((staticsOk (importedModules P0.main.body) (boot_heap w.params) s.abs.heap && namesBound P0 s.abs.heap && gensDone s.abs && laidKept (boot_heap w.params) s.abs.heap), PySem.W.Fast.tw4187177175401517315 vw lse (importedModules P0.main.body) Xt0 true s.abs, H0.obs s.abs))
theorem f12 : F1 = F2 := by
  unfold F1 F2;rw [PySem.W.Fast.te6613529449190102663, PySem.W.Fast.te10156331382660048174, PySem.W.Fast.te11892475500146522536, PySem.W.Fast.te14364793385576792824, PySem.W.Fast.te4187177175401517315]
theorem ws : OpenLaw.wellSaid PySem.Challenge.rw_im0127_05 = true := by rw [PySem.W.Fast.te9446332074065402090]; kernel_rfl
theorem run0 (w:World) (os:OsState) : F2 (w.withFollow "special-get-raises" false) os = some (true, openGood vw lse, H0.val (w.withFollow "special-get-raises" false)) := by kernel_rfl
theorem run1 (w:World) (os:OsState) : F2 (w.withFollow "special-get-raises" true) os = some (true, openGood vw lse, H0.val (w.withFollow "special-get-raises" true)) := by kernel_rfl
theorem runs (w:World) (os:OsState) : F1 w os = some (true, openGood vw lse, H0.val w) := by
  rw [f12];exact byRow2 "special-get-raises" (P := fun w => F2 w os = some (true, openGood vw lse, H0.val w)) (fun w => run0 w os) (fun w => run1 w os) w
theorem left : LeftO P0 vw lse Xt0 H0.obs H0.val 2282 := fun w => openEnds_map (N := 2282) (boot_open op_e (by decide +kernel) op_f w) fun os => by
  have r := runs w os;unfold F1 at r;have r := topRun_map (g := fun s => ((staticsOk (importedModules P0.main.body) (boot_heap w.params) s.heap && namesBound P0 s.heap && gensDone s && laidKept (boot_heap w.params) s.heap), openSeen vw lse (importedModules P0.main.body) Xt0 true s, H0.obs s)) r;unfold SharedT.abs at r;rw [bootT_abs] at r;exact topFrom_map (sz w) r
end
end
section
open PyProof.Rows
noncomputable def Wf (f:Addr) (st:Stmt) : Prop := ∀ P : Params, ∃ oc od osl qual kV doc pm an cdv ct, (K0 P).lookup f = some ⟨oc, od, .func (fnOf (fname st) qual (fparams st) (fbody st) (fscope st) .none kV doc pm an cdv ct), osl⟩ ∧ codeIn (K0 P) cdv qual = true
theorem isfn {G:Gl} (hK:G.K = K0 G.w.params) {f:Addr} {st:Stmt} (h:Wf f st) : IsFn G f st := by
  unfold IsFn; rw [hK]; exact h _
theorem wf_55 : Wf 55 inS := fun P => ⟨_, _, _, _, _, _, _, _, _, _, rfl, by kernel_rfl⟩
theorem wf_60 : Wf 60 cpS := fun P => ⟨_, _, _, _, _, _, _, _, _, _, rfl, by kernel_rfl⟩
theorem wf_67 : Wf 67 mgS := fun P => ⟨_, _, _, _, _, _, _, _, _, _, rfl, by kernel_rfl⟩
theorem wf_81 : Wf 81 fsS := fun P => ⟨_, _, _, _, _, _, _, _, _, _, rfl, by kernel_rfl⟩
theorem wf_88 : Wf 88 faS := fun P => ⟨_, _, _, _, _, _, _, _, _, _, rfl, by kernel_rfl⟩
theorem wf_95 : Wf 95 ieS := fun P => ⟨_, _, _, _, _, _, _, _, _, _, rfl, by kernel_rfl⟩
theorem wf_102 : Wf 102 geS := fun P => ⟨_, _, _, _, _, _, _, _, _, _, rfl, by kernel_rfl⟩
theorem wf_107 : Wf 107 plS := fun P => ⟨_, _, _, _, _, _, _, _, _, _, rfl, by kernel_rfl⟩
theorem wf_114 : Wf 114 asS := fun P => ⟨_, _, _, _, _, _, _, _, _, _, rfl, by kernel_rfl⟩
theorem wf_121 : Wf 121 loS := fun P => ⟨_, _, _, _, _, _, _, _, _, _, rfl, by kernel_rfl⟩
theorem wf_29 : Wf 29 opS := fun P => ⟨_, _, _, _, _, _, _, _, _, _, rfl, by kernel_rfl⟩
theorem wf_140 : Wf 140 (top 8) := fun P => ⟨_, _, _, _, _, _, _, _, _, _, rfl, by kernel_rfl⟩
theorem wf_145 : Wf 145 (top 9) := fun P => ⟨_, _, _, _, _, _, _, _, _, _, rfl, by kernel_rfl⟩
theorem wf_152 : Wf 152 (top 10) := fun P => ⟨_, _, _, _, _, _, _, _, _, _, rfl, by kernel_rfl⟩
theorem wf_157 : Wf 157 (top 11) := fun P => ⟨_, _, _, _, _, _, _, _, _, _, rfl, by kernel_rfl⟩
theorem wf_162 : Wf 162 (top 12) := fun P => ⟨_, _, _, _, _, _, _, _, _, _, rfl, by kernel_rfl⟩
noncomputable def WB {G:Gl} (hh:G.hn = true) (hK:G.K = K0 G.w.params) : BW G where
  bc := 131
  gc := 39
  rc := 0
  fin := 55
  fcp := 60
  fmg := 67
  fme := 0
  ffs := 81
  ffa := 88
  fie := 95
  fge := 102
  fpl := 107
  fas := 114
  flo := 121
  far := 0
  fop := 29
  frg := 0
  aop := 22
  hh := hh
  n_set := .inr ⟨mg_none_of (hK ▸ G.kin) G.gns (by kernel_rfl), (G.blt _ (by decide +kernel)).trans (by kernel_rfl)⟩
  n_list := .inr ⟨mg_none_of (hK ▸ G.kin) G.gns (by kernel_rfl), (G.blt _ (by decide +kernel)).trans (by kernel_rfl)⟩
  n_range := .inr ⟨mg_none_of (hK ▸ G.kin) G.gns (by kernel_rfl), (G.blt _ (by decide +kernel)).trans (by kernel_rfl)⟩
  n_len := .inr ⟨mg_none_of (hK ▸ G.kin) G.gns (by kernel_rfl), (G.blt _ (by decide +kernel)).trans (by kernel_rfl)⟩
  n_ie := .inr ⟨mg_none_of (hK ▸ G.kin) G.gns (by kernel_rfl), (G.blt _ (by decide +kernel)).trans (by kernel_rfl)⟩
  n_ve := .inr ⟨mg_none_of (hK ▸ G.kin) G.gns (by kernel_rfl), (G.blt _ (by decide +kernel)).trans (by kernel_rfl)⟩
  n_ke := .inr ⟨mg_none_of (hK ▸ G.kin) G.gns (by kernel_rfl), (G.blt _ (by decide +kernel)).trans (by kernel_rfl)⟩
  n_board := ⟨.inl (mg_of (hK ▸ G.kin) G.gns (by kernel_rfl)), by rw [hK]; kernel_rfl⟩
  n_group := ⟨.inl (mg_of (hK ▸ G.kin) G.gns (by kernel_rfl)), by rw [hK]; kernel_rfl⟩
  n_op := ⟨.inl (mg_of (hK ▸ G.kin) G.gns (by kernel_rfl)), by rw [hK]; kernel_rfl, isfn hK wf_29⟩
  n_opd := .inl (mg_of (hK ▸ G.kin) G.gns (by kernel_rfl))
  opd := by
    unfold ODict; rw [hK];exact ⟨_, _, _, rfl, rfl, rfl, rfl, rfl, ⟨_, _, rfl, rfl, ⟨_, rfl⟩, ⟨_, rfl⟩, _, _, rfl, rfl, ⟨_, rfl⟩, ⟨_, rfl⟩, rfl⟩, by decide +kernel⟩
  ob := by rw [hK]; kernel_rfl
  og := by rw [hK]; kernel_rfl
  mb := by rw [hK]; kernel_rfl
  mgr := by rw [hK]; kernel_rfl
  ib := ⟨by rw [hK]; kernel_rfl, by rw [hK]; kernel_rfl, isfn hK wf_55⟩
  ig := by rw [hK]; kernel_rfl
  m_cp := ⟨by rw [hK]; kernel_rfl, by rw [hK]; kernel_rfl, by rw [hK]; kernel_rfl, isfn hK wf_60⟩
  m_mg := ⟨by rw [hK]; kernel_rfl, by rw [hK]; kernel_rfl, by rw [hK]; kernel_rfl, isfn hK wf_67⟩
  m_fs := ⟨by rw [hK]; kernel_rfl, by rw [hK]; kernel_rfl, by rw [hK]; kernel_rfl, isfn hK wf_81⟩
  m_fa := ⟨by rw [hK]; kernel_rfl, by rw [hK]; kernel_rfl, by rw [hK]; kernel_rfl, isfn hK wf_88⟩
  m_ie := ⟨by rw [hK]; kernel_rfl, by rw [hK]; kernel_rfl, by rw [hK]; kernel_rfl, isfn hK wf_95⟩
  m_ge := ⟨by rw [hK]; kernel_rfl, by rw [hK]; kernel_rfl, by rw [hK]; kernel_rfl, isfn hK wf_102⟩
  m_pl := ⟨by rw [hK]; kernel_rfl, by rw [hK]; kernel_rfl, by rw [hK]; kernel_rfl, isfn hK wf_107⟩
  m_as := ⟨by rw [hK]; kernel_rfl, by rw [hK]; kernel_rfl, by rw [hK]; kernel_rfl, isfn hK wf_114⟩
  m_lo := ⟨by rw [hK]; kernel_rfl, by rw [hK]; kernel_rfl, by rw [hK]; kernel_rfl, isfn hK wf_121⟩
  a_side := by rw [hK]; kernel_rfl
  a_pts := by rw [hK]; kernel_rfl
  a_brd := by rw [hK]; kernel_rfl
  a_emp := by rw [hK]; kernel_rfl
  g_col := by rw [hK]; kernel_rfl
  g_pts := by rw [hK]; kernel_rfl
  g_sur := by rw [hK]; kernel_rfl
noncomputable def WLw {G:Gl} (hh:G.hn = true) (hK:G.K = K0 G.w.params) : LW G (WB hh hK) where
  fnear := 140
  fbrea := 145
  fonly := 152
  fmovd := 157
  frows := 162
  near := ⟨.inl (mg_of (hK ▸ G.kin) G.gns (by kernel_rfl)), by rw [hK]; kernel_rfl, isfn hK wf_140⟩
  brea := ⟨.inl (mg_of (hK ▸ G.kin) G.gns (by kernel_rfl)), by rw [hK]; kernel_rfl, isfn hK wf_145⟩
  only := ⟨.inl (mg_of (hK ▸ G.kin) G.gns (by kernel_rfl)), by rw [hK]; kernel_rfl, isfn hK wf_152⟩
  movd := ⟨.inl (mg_of (hK ▸ G.kin) G.gns (by kernel_rfl)), by rw [hK]; kernel_rfl, isfn hK wf_157⟩
  rows := ⟨.inl (mg_of (hK ▸ G.kin) G.gns (by kernel_rfl)), by rw [hK]; kernel_rfl, isfn hK wf_162⟩
theorem Wn_enum {G:Gl} (hK:G.K = K0 G.w.params) : GNm G (ofString "enumerate") (.type "enumerate") := .inr ⟨mg_none_of (hK ▸ G.kin) G.gns (by kernel_rfl), (G.blt _ (by decide +kernel)).trans (by kernel_rfl)⟩
theorem Wn_abs {G:Gl} (hK:G.K = K0 G.w.params) : GNm G (ofString "abs") (.builtin "abs") := .inr ⟨mg_none_of (hK ▸ G.kin) G.gns (by kernel_rfl), (G.blt _ (by decide +kernel)).trans (by kernel_rfl)⟩
end
section
open PyProof.Rows
theorem vrs_ints {C:Cm} : ∀ {vs:List Value} {ns:List Int}, IntsAre vs ns → VRs C (ns.map .int) vs
  | _, _, .nil => rfl
  | _, _, .cons n t h => ⟨_, _, rfl, ⟨t, rfl⟩, vrs_ints h⟩
noncomputable def frS (sa:Addr) (ns:List Int) : Loc := ("script", some (.ro sa (ns.map .int))) :: ("head", none) :: ("cells", none) :: ("side", none) :: ("way", none) :: ("place", none) :: ("shift", none) :: ("spot", none) :: ("colour", none) :: ("other", none) :: ("points", none) :: ("stones", none) :: ("one", none) :: ("point", none) :: ("down", none) :: ("right", none) :: ("prize", none) :: ("held", none) :: ("black", none) :: ("white", none) :: ("legal", none) :: ("living", none) :: ("last", none) :: ("turn", none) :: ("number", none) :: ("mine", none) :: ("foe", none) :: ("before", none) :: ("told", none) :: ("after", none) :: ("back", none) :: ("replies", none) :: ("reply", none) :: ("trial", none) :: ("answer", none) :: []
noncomputable def envS (L fa:Addr) (cd:Value) : Env := envOfC (fname lawS) (fscope lawS) L fa cd
theorem frS_some {sa:Addr} {ns:List Int} {x:Str} {lv:LV} (h:(x, some lv) ∈ frS sa ns) : x = ofString "script" ∧ lv = .ro sa (ns.map .int) := by
  unfold frS at h;simp only [List.mem_cons, Prod.mk.injEq, Option.some.injEq, reduceCtorEq, and_false, or_false, List.not_mem_nil] at h;exact h
theorem frS_names {sa:Addr} {ns:List Int} : (frS sa ns).map (·.1) = (frS 0 []).map (·.1) := rfl
theorem kinds_ok : ((frS 0 []).map (·.1)).all (fun x => ((fscope lawS).names.lookup x == some .local) || ((fscope lawS).names.lookup x == some .cell && (x == ofString "side" || x == ofString "spot" || x == ofString "stones"))) = true := by decide +kernel
theorem kinds_of {L fa:Addr} {cd:Value} {sa:Addr} {ns:List Int} {x:Str} {o:Option LV} (h:(x, o) ∈ frS sa ns) : (envS L fa cd).kindOf x = some .local ∨ ((envS L fa cd).kindOf x = some .cell ∧ (x = ofString "side" ∨ x = ofString "spot" ∨ x = ofString "stones")) := by
  have hm : x ∈ (frS 0 []).map (·.1) := by rw [← frS_names (sa := sa) (ns := ns)]; exact List.mem_map.mpr ⟨_, h, rfl⟩
  have := List.all_eq_true.mp kinds_ok x hm;simp only [Bool.or_eq_true, Bool.and_eq_true, beq_iff_eq] at this;rcases this with h | ⟨h, z⟩
  · exact .inl h
  · exact .inr ⟨h, by rcases z with (z | z) | z; exact .inl z; exact .inr (.inl z); exact .inr (.inr (z))⟩
theorem cellsS {L fa:Addr} {cd:Value} : (envS L fa cd).cells = [(ofString "stones", L + 1 + 1 + 1), (ofString "spot", L + 1 + 1), (ofString "side", L + 1)] := by
  show cellsFrom (L + 1) (fscope lawS).names [] = _
  kernel_rfl
set_option tactic.hygienic true in
theorem lkq {L:Nat} {x:Str} {c:Addr} (h:List.lookup x [(ofString "stones", L + 1 + 1 + 1), (ofString "spot", L + 1 + 1), (ofString "side", L + 1)] = some c) : (x = ofString "stones" ∧ c = L + 1 + 1 + 1) ∨ (x = ofString "spot" ∧ c = L + 1 + 1) ∨ (x = ofString "side" ∧ c = L + 1) := by
  simp only [List.lookup] at h
  split at h
  · rename_i e; exact .inl ⟨beq_iff_eq.mp e, (Option.some.inj h).symm⟩
  · split at h
    · rename_i e; exact .inr (.inl ⟨beq_iff_eq.mp e, (Option.some.inj h).symm⟩)
    · split at h
      · rename_i e; exact .inr (.inr (⟨beq_iff_eq.mp e, (Option.some.inj h).symm⟩))
      · cases h
theorem LAW_q {G:Gl} {B:BW G} (hr:G.hr = true) (W:LW G B) (n_enum:GNm G (ofString "enumerate") (.type "enumerate")) (n_abs:GNm G (ofString "abs") (.builtin "abs")) {H:Hp} {sa:Addr} {ns:List Int} (hns:ns.length ≤ 63) :
    EXS G 9 (fscope lawS) (fbody lawS) (frS sa ns) H ⟨fun ww ww => False, fun lv ww => lv = .bool true, fun ww ww => False, fun ww ww => False, fun ww ww ww => False⟩ := by
  have key : trB (top 13) nslaw G (0 + 9) (some (.ro sa (ns.map .int)) :: none :: none :: none :: none :: none :: none :: none :: none :: none :: none :: none :: none :: none :: none :: none :: none :: none :: none :: none :: none :: none :: none :: none :: none :: none :: none :: none :: none :: none :: none :: none :: none :: none :: none :: []) H ⟨fun ww ww => False, fun lv ww => lv = .bool true, fun ww ww => False, fun ww ww => False, fun ww ww ww => False⟩ := by
    rw [is_all]; exact LAW_all W hr n_enum n_abs (k := 0) hns fun ww => rfl
  exact EXS_mono ((trS_ok (trE_ok 30 _ nslaw) rfl (fun hh hv q hQ => trC_ok (trE_ok 29) hh hv q hQ) 200 _).ok B.hh rfl key) (fun ww ww q => by cases q with | mk v h q => exact q) (fun ww ww x => x) (fun ww ww q => by cases q with | mk v h q => exact q) (fun ww ww q => by cases q with | mk v h q => exact q) fun ww ww ww q => by cases q with | mk v h q => exact q
theorem law_entry {prog:Program} {w:World} {s:Shared} {h₀ h₁:Heap} {L tk fa:Nat} {cd:Value} {sa:Addr} {vs:List Value} {ns:List Int} {mg mb m:Str → Option Value} {o1 o2 o3:Obj}
    (kin:(K0 w.params).In h₀) (gns:h₀.Ns mainGlobals mg) (bns:h₀.Ns builtinsNs mb) (nl:h₀.NoLimit) (seer:h₀.NoSeer) (blt:∀ x : Str, x ≠ "__name__" → mb x = bootBuiltins x)
    (hg:s.gens = #[]) (hL:h₀.IsList sa vs.toArray) (hI:IntsAre vs ns) (hns:ns.length ≤ 63) (F:PyProof.Rows.Fr h₀ L h₁ m) (hm:m (ofString "script") = some (.ref sa))
    (N:News h₀ L h₁ [(L + 1 + 1 + 1, o1), (L + 1 + 1, o2), (L + 1, o3)]) (c1:o1.data = .cell none) (c2:o2.data = .cell none) (c3:o3.data = .cell none) {E:Value → Shared → Prop} {Q:Flow → Shared → Prop}
    (h:∀ s' m', PyProof.Rows.Fr h₀ L s'.heap m' → s'.gens = #[] → s'.os = s.os → Q (.ret (.bool true)) s') :
    wpAny (model prog w) (callerA.deeper (envS L fa cd)) (execs (fbody lawS) (envS L fa cd)) Q E { s with heap := h₁, toks := tk } := by
  have sysm : ∃ o, h₀.get? sysModules = some o := by
    obtain ⟨mm, ⟨o, es, ep, ho, _⟩, _⟩ := seer.mods;exact ⟨o, ho⟩
  have main := LAW_q (G := ⟨prog, w, h₀, s.os, K0 w.params, mg, mb, kin, gns, bns, nl, blt, sysm, true, true⟩) (B := WB rfl rfl) rfl (WLw rfl rfl) (Wn_enum rfl) (Wn_abs rfl) (H := fun ww => none) (sa := sa) hns;have i1 : (L + 1 + 1 + 1, o1) ∈ [(L + 1 + 1 + 1, o1), (L + 1 + 1, o2), (L + 1, o3)] := by simp
  have i2 : (L + 1 + 1, o2) ∈ [(L + 1 + 1 + 1, o1), (L + 1 + 1, o2), (L + 1, o3)] := by simp
  have i3 : (L + 1, o3) ∈ [(L + 1 + 1 + 1, o1), (L + 1 + 1, o2), (L + 1, o3)] := by simp
  refine wpAny_mono (main (envS L fa cd) _ (fun a => h₀.get? a) [] _ rfl ?_) ?_ ?_
  · refine ⟨rfl, rfl, rfl, ⟨by show 1 + claimMargin + 1 + 2 * (0 + 9) < 1000; decide +kernel, by show 4 + 3 + 20 * (0 + 9) < 9000; decide +kernel⟩, rfl, fun ww => rfl, .inl rfl, fun ww => rfl, ⟨fun a o e => F.keep a o e, (fun ww ww e => by cases e), (fun ww ww e => by cases e), fun ww ww e => e, hg, rfl, (fun z hz => by cases hz)⟩, ?_⟩;refine ⟨⟨m, F.ns, fun x lv hx hk => ?_⟩, fun x o hx hk => ?_, fun x o hx => ?_, (by show ((frS sa ns).map (·.1)).Nodup; rw [frS_names]; decide +kernel), fun x y c hx hy => ?_, ⟨Heap.get?_none_of_le F.above, rfl, (fun z hz => by cases hz)⟩, fun x c hx => ?_⟩
    · obtain ⟨rfl, rfl⟩ := frS_some hx;obtain ⟨o, ho, hc, n, hd⟩ := hL;exact ⟨_, hm, rfl, o, n, vs, ho, hc, hd, vrs_ints hI⟩
    · have ho : o = none := by
        cases o with
        | none => rfl
        | some lv =>
          obtain ⟨rfl, _⟩ := frS_some hx;exact (hk (by show (fscope lawS).names.lookup (ofString "script") = some .local; decide +kernel)).elim
      subst ho;rcases kinds_of (L := L) (fa := fa) (cd := cd) hx with z | ⟨_, z⟩
      · exact (hk z).elim
      · rw [cellsS];rcases z with rfl | rfl | rfl
        · exact ⟨L + 1, none, by rfl, ⟨o3, N.get i3, c3⟩, fun lv q => by cases q⟩
        · exact ⟨L + 1 + 1, none, by rfl, ⟨o2, N.get i2, c2⟩, fun lv q => by cases q⟩
        · exact ⟨L + 1 + 1 + 1, none, by rfl, ⟨o1, N.get i1, c1⟩, fun lv q => by cases q⟩
    · rcases kinds_of (L := L) (fa := fa) (cd := cd) hx with z | ⟨z, _⟩
      · exact .inl z
      · exact .inr (.inl z)
    · rw [cellsS] at hx hy;rcases lkq hx with ⟨a1, b1⟩ | ⟨a1, b1⟩ | ⟨a1, b1⟩ <;> rcases lkq hy with ⟨a2, b2⟩ | ⟨a2, b2⟩ | ⟨a2, b2⟩ <;> first | (rw [a1, a2]; done) | (exfalso; have := b1.symm.trans b2; simp at this; done) | (exfalso; have := b1.symm.trans b2; exact absurd this (by show ¬ ((_:Nat) = _); omega))
    · rw [cellsS] at hx;rcases lkq hx with ⟨_, rfl⟩ | ⟨_, rfl⟩ | ⟨_, rfl⟩
      · exact ⟨fun ww => N.fresh i1, rfl, (N _ i1).2.1, (fun z hz => by cases hz), _, o1, N.get i1, c1⟩
      · exact ⟨fun ww => N.fresh i2, rfl, (N _ i2).2.1, (fun z hz => by cases hz), _, o2, N.get i2, c2⟩
      · exact ⟨fun ww => N.fresh i3, rfl, (N _ i3).2.1, (fun z hz => by cases hz), _, o3, N.get i3, c3⟩
  · rintro f s' ⟨C', m', H', cle, I', q⟩;cases f with
    | next => exact q.elim
    | brk => exact q.elim
    | cont => exact q.elim
    | ret v =>
      obtain ⟨lv, hv, rfl⟩ := q;cases hv;obtain ⟨mm, hmm, _⟩ := I'.fr.ns;exact h s' mm ⟨hmm, I'.keep, F.above⟩ I'.st.gens I'.st.os
  · rintro e s' ⟨C', cls, m', H', cle, I', q⟩;exact q.elim
end
end Go
end
section
open PySem PySem.W PyProof.Rows PySem.Calls
@[irreducible] noncomputable def Go.lb : List Stmt := fbody (Go.lawS)
noncomputable def Go.d0 : DefRec := ⟨ofString "law", fparams (Go.lawS), Go.lb, fscope (Go.lawS), ⟨187, 0, 254, 15⟩⟩
theorem Go.lb_eq : Go.d0.body = fbody (Go.lawS) := by show Go.lb = _; delta Go.lb; rfl
theorem Go.hdef : defOf Go.vw (ofString "law") = some (Go.d0, []) := by kernel_rfl
theorem Go.hthe : Go.P0.theDef (ofString "law") = some (Go.d0.params, Go.d0.body, Go.d0.scope) := by kernel_rfl
theorem Go.hchk : (chainsOk Go.vw && opensWell Go.P0 && (frees (OpenRow.toRowW (OpenLaw.row PySem.Challenge.rw_im0127_05)) && (OpenRow.toRowW (OpenLaw.row PySem.Challenge.rw_im0127_05)).within.isEmpty)) = true := by kernel_rfl
end
end
open PySem PySem.W PyProof.Rows PySem.Calls
local macro_rules | `(tactic| k_qdec) => `(tactic| decide +kernel)
set_option tactic.hygienic true
theorem PySem.Challenge.cw_im0127_05_holds : PySem.Challenge.rw_im0127_05.Holds := by
  w_on
  refine holds_law Go.ws fun said => ?_;refine holds_open (q := Go.vw) (loose := Go.lse) (Xt := Go.Xt0) (XP := XL Go.vw []) (Yf := Go.H0.obs) (Ya := Go.H0.val) (YP := Go.H0.says) (d := Go.d0) (kwd := []) (N := 2282) Go.left (Hook.of Go.H0) (Hook.keeps Go.H0) (fun s e => xl_of s (Bool.and_eq_true_iff.mp e).1) XL.keeps Go.hdef Go.hthe rfl (fun s e => recFacts_of (Bool.and_eq_true_iff.mp e).2) rfl said Go.hchk ⟨rfl, rfl, rfl, rfl, rfl, by decide +kernel⟩ ?hw ?hc
  case hw => w_witness2
  k_go0
  rename_i w s₀ s₁ mg mb G Y fa o pm doc ho hg KX X V GL T B TE TW v12 v11 M v10 v9 hcd ns hs hlay0 hL1 hr1 hl2 v7 v6 sa vs v3 hL ra w1 r0 hI hr hc1 hc2 K0 hD h₁ tk₁ F o1 o2 o3 c1 c2 c3 N0 X0;rw [Go.lb_eq];refine Go.law_entry (ns := ns) (vs := vs) KX GL.g GL.b GL.nolimit GL.seer GL.builtins hg hL hI (by have := hc1; omega) F ?_ N0 c1 c2 c3 (fun s' m' F' hg' hos' => ?_)
  · rfl
  · refine goodW_bool F' hg' ?_ ?_ hos'
    · intro cls; rfl
    · wrow_post
