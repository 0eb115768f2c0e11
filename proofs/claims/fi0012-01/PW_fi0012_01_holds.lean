import PyProof.Rows.All
import Wide.All
import OpenK.AllK
import Wide.FinOn
import OpenK.XSeg
import PySem.Challenge.RW_fi0012_01
set_option Elab.async false
section
open PySem PySem.W PyProof.Rows
set_option Elab.async false
namespace Mine
local macro_rules | `(tactic| k_head) => `(tactic| x_head)
set_option maxRecDepth 100000 in
set_option maxHeartbeats 0 in
open_top hd for PySem.Challenge.rw_fi0012_01
end Mine
end
section
open PySem PySem.W PyProof.Rows PySem.Calls
set_option Elab.async false
set_option linter.unusedVariables false
namespace Mine
namespace Srt
/-- what a sort that asks may end with, the asks answered by lt -/
def Sat {α : Type} (n : Nat) (lt : Nat → Nat → Bool) : KasT α → (α → Prop) → Prop
  | .ret a, P => P a
  | .ask i j k, P => i < n ∧ j < n ∧ Sat n lt (k (lt i j)) P
theorem Sat.mono {α : Type} {n : Nat} {lt : Nat → Nat → Bool} {P Q : α → Prop} (h : ∀ a, P a → Q a) : ∀ (t : KasT α), Sat n lt t P → Sat n lt t Q
  | .ret a, x => h a x
  | .ask i j k, x => ⟨x.1, x.2.1, Sat.mono h _ x.2.2⟩
theorem Sat.bind {α β : Type} {n : Nat} {lt : Nat → Nat → Bool} {f : α → KasT β} {P : β → Prop} : ∀ (t : KasT α), Sat n lt t (fun a => Sat n lt (f a) P) → Sat n lt (t.bind f) P
  | .ret a, x => x
  | .ask i j k, x => ⟨x.1, x.2.1, Sat.bind _ x.2.2⟩
variable {n : Nat} {lt : Nat → Nat → Bool}
structure Tot (n : Nat) (lt : Nat → Nat → Bool) : Prop where
  trans : ∀ {a b c}, lt a b = true → lt b c = true → lt a c = true
  asym : ∀ {a b}, lt a b = true → lt b a = false
  tot : ∀ {a b}, a < n → b < n → a ≠ b → lt a b = false → lt b a = true
abbrev at_ (p : Array Nat) (i : Nat) : Nat := p.getD i 0
def Per (n : Nat) (p : Array Nat) : Prop := p.toList.Perm (List.range n)
theorem Per.size {p : Array Nat} (h : Per n p) : p.size = n := by have := h.length_eq; simpa using this
theorem Per.get {p : Array Nat} (h : Per n p) {i : Nat} (hi : i < n) : p[i]? = some (at_ p i) := by have := h.size; simp [Array.getD, this, hi]
theorem Per.below {p : Array Nat} (h : Per n p) {i : Nat} (hi : i < n) : at_ p i < n := by
  have := h.get hi
  have := Array.mem_of_getElem? this
  exact List.mem_range.mp (h.mem_iff.mp (Array.mem_toList_iff.mpr this))
theorem Per.inj {p : Array Nat} (h : Per n p) {i j : Nat} (hi : i < n) (hj : j < n) (e : at_ p i = at_ p j) : i = j := by
  have hn : p.toList.Nodup := h.nodup_iff.mpr List.nodup_range
  have h1 := h.get hi
  have h2 := h.get hj
  rw [e] at h1
  rw [← Array.getElem?_toList] at h1 h2
  obtain ⟨a, b⟩ := List.getElem?_eq_some_iff.mp h1
  obtain ⟨a', b'⟩ := List.getElem?_eq_some_iff.mp h2
  exact (List.getElem_inj hn).mp (b.trans b'.symm)
theorem Per.rev {p : Array Nat} (h : Per n p) (i j : Nat) : Per n (kas_rev p i j) := by
  have := (mirror_perm p i j ((j - i) / 2))
  exact (Array.perm_iff_toList_perm.mp this).trans h
theorem Per.bub {p : Array Nat} (h : Per n p) (i j : Nat) : Per n (bubble p i j) := (Array.perm_iff_toList_perm.mp (bubble_perm p i j)).trans h
def Asc (lt : Nat → Nat → Bool) (p : Array Nat) (m : Nat) : Prop := ∀ i j, i < j → j < m → lt (at_ p i) (at_ p j) = true
theorem Asc.snoc (T : Tot n lt) {p : Array Nat} {m : Nat} (hm : 1 ≤ m) (a : Asc lt p m) (h : lt (at_ p (m - 1)) (at_ p m) = true) : Asc lt p (m + 1) := fun i j hij hj => by
  by_cases q : j < m
  · exact a i j hij q
  · obtain rfl : j = m := by omega
    by_cases q' : i = j - 1
    · rw [q']; exact h
    · exact T.trans (a i (j - 1) (by omega) (by omega)) h
theorem asc_ (T : Tot n lt) {p : Array Nat} (hp : Per n p) : ∀ (f m : Nat), 1 ≤ m → m + f ≤ n → Asc lt p m → Sat n lt (kas_asc p f m) fun r => m ≤ r ∧ r ≤ m + f ∧ Asc lt p r ∧ (r < m + f → lt (at_ p r) (at_ p (r - 1)) = true)
  | 0, m, h1, h2, a => ⟨Nat.le_refl _, Nat.le_refl _, a, fun h => absurd h (by omega)⟩
  | f + 1, m, h1, h2, a => by
    unfold kas_asc
    refine ⟨hp.below (by omega), hp.below (by omega), ?_⟩
    cases c : lt (at_ p m) (at_ p (m - 1)) with
    | true => dsimp only; rw [if_pos rfl]; exact ⟨Nat.le_refl _, by omega, a, fun _ => c⟩
    | false =>
      dsimp only
      rw [if_neg (by simp)]
      have : lt (at_ p (m - 1)) (at_ p m) = true := T.tot (hp.below (by omega)) (hp.below (by omega)) (fun e => by have := hp.inj (by omega) (by omega) e; omega) c
      exact (asc_ T hp f (m + 1) (by omega) (by omega) (a.snoc T h1 this)).mono fun r ⟨x1, x2, x3, x4⟩ => ⟨by omega, by omega, x3, fun h => x4 (by omega)⟩
def Dsc (lt : Nat → Nat → Bool) (p : Array Nat) (m : Nat) : Prop := ∀ i j, i < j → j < m → lt (at_ p j) (at_ p i) = true
theorem dsc_ (T : Tot n lt) {p : Array Nat} (hp : Per n p) : ∀ (f m : Nat), 1 ≤ m → m + f ≤ n → Dsc lt p m → Sat n lt (kas_desc f p m 0) fun r => r.1 = p ∧ r.2.2 = 0 ∧ m ≤ r.2.1 ∧ r.2.1 ≤ m + f ∧ Dsc lt p r.2.1
  | 0, m, h1, h2, a => ⟨rfl, rfl, Nat.le_refl _, Nat.le_refl _, a⟩
  | f + 1, m, h1, h2, a => by
    unfold kas_desc
    refine ⟨hp.below (by omega), hp.below (by omega), ?_⟩
    cases c : lt (at_ p m) (at_ p (m - 1)) with
    | true =>
      dsimp only
      rw [if_pos rfl, if_neg (by omega)]
      have a' : Dsc lt p (m + 1) := fun i j hij hj => by
        by_cases q : j < m
        · exact a i j hij q
        · obtain rfl : j = m := by omega
          by_cases q' : i = j - 1
          · rw [q']; exact c
          · exact T.trans c (a i (j - 1) (by omega) (by omega))
      exact (dsc_ T hp f (m + 1) (by omega) (by omega) a').mono fun r ⟨x1, x2, x3, x4, x5⟩ => ⟨x1, x2, by omega, by omega, x5⟩
    | false =>
      dsimp only
      rw [if_neg (by simp)]
      have : lt (at_ p (m - 1)) (at_ p m) = true := T.tot (hp.below (by omega)) (hp.below (by omega)) (fun e => by have := hp.inj (by omega) (by omega) e; omega) c
      refine ⟨hp.below (by omega), hp.below (by omega), ?_⟩
      dsimp only
      rw [this, if_pos rfl]
      exact ⟨rfl, rfl, Nat.le_refl _, Nat.le_add_right m (f + 1), a⟩
theorem rev_get {p : Array Nat} (hp : Per n p) {m k : Nat} (hm : m ≤ n) (hk : k < n) : at_ (kas_rev p 0 m) k = if k < m then at_ p (m - 1 - k) else at_ p k := by
  have e := getElem?_mirror_all (xs := p) (i := 0) (j := m) (by rw [hp.size]; exact hm) k
  have e1 := (hp.rev 0 m).get hk
  unfold kas_rev at e1 ⊢
  rw [e1] at e
  by_cases q : k < m
  · rw [if_pos q]
    rw [if_pos ⟨Nat.zero_le _, q⟩, Nat.zero_add, hp.get (by omega)] at e
    exact Option.some.inj e
  · rw [if_neg q]
    rw [if_neg (fun z => q z.2), hp.get hk] at e
    exact Option.some.inj e
theorem count_ (T : Tot n lt) {p : Array Nat} (hp : Per n p) (h2 : 2 ≤ n) : Sat n lt (kas_count n p) fun r => Per n r.2 ∧ r.1 ≤ n ∧ 1 ≤ r.1 ∧ Asc lt r.2 r.1 := by
  unfold kas_count
  refine Sat.bind _ ((asc_ T hp (n - 1) 1 (Nat.le_refl _) (by omega) fun i j a b => absurd b (by omega)).mono fun m ⟨x1, x2, x3, x4⟩ => ?_)
  by_cases e : m = n
  · subst e
    rw [if_pos (by simp)]
    exact ⟨hp, Nat.le_refl _, x1, x3⟩
  · rw [if_neg (by simpa using e)]
    by_cases q : m > 1
    · rw [if_pos q]
      refine ⟨hp.below (by omega), hp.below (by omega), ?_⟩
      dsimp only
      rw [x3 0 (m - 1) (by omega) (by omega), if_pos rfl]
      exact ⟨hp, by omega, x1, x3⟩
    · rw [if_neg q]
      obtain rfl : m = 1 := by omega
      have c := x4 (by omega)
      unfold kas_descPart
      refine Sat.bind _ ((dsc_ T hp (n - (1 + 1)) (1 + 1) (by omega) (by omega) fun i j a b => ?_).mono fun r ⟨y1, y2, y3, y4, y5⟩ => ?_)
      · obtain rfl : j = 1 := by omega
        obtain rfl : i = 0 := by omega
        exact c
      · obtain ⟨r1, r2, r3⟩ := r
        dsimp only at y1 y2 y3 y4 y5 ⊢
        subst y1 y2
        rw [if_neg (by omega)]
        unfold kas_tail3
        have hp' := hp.rev 0 r2
        have a' : Asc lt (kas_rev r1 0 r2) r2 := fun i j hij hj => by
          rw [rev_get hp (by omega) (by omega), rev_get hp (by omega) (by omega), if_pos (by omega), if_pos hj]
          exact y5 _ _ (by omega) (by omega)
        refine Sat.bind _ ((asc_ T hp' (n - r2) r2 (by omega) (by omega) a').mono fun m ⟨z1, z2, z3, _⟩ => ?_)
        exact ⟨hp', by omega, by omega, z3⟩
theorem place_ (T : Tot n lt) {p : Array Nat} (hp : Per n p) {k : Nat} (hk : k < n) (a : Asc lt p k) : ∀ (f l r : Nat), r - l ≤ f → l ≤ r → r ≤ k → (∀ i, i < l → lt (at_ p i) (at_ p k) = true) → (∀ i, r ≤ i → i < k → lt (at_ p k) (at_ p i) = true) →
    Sat n lt (kas_place p k f l r) fun l' => l' ≤ k ∧ (∀ i, i < l' → lt (at_ p i) (at_ p k) = true) ∧ ∀ i, l' ≤ i → i < k → lt (at_ p k) (at_ p i) = true
  | 0, l, r, h1, h2, h3, h4, h5 => ⟨by omega, h4, fun i hi => h5 i (by omega)⟩
  | f + 1, l, r, h1, h2, h3, h4, h5 => by
    unfold kas_place
    by_cases q : l ≥ r
    · rw [if_pos q]; exact ⟨by omega, h4, fun i hi => h5 i (by omega)⟩
    · rw [if_neg q]
      refine ⟨hp.below hk, hp.below (by omega), ?_⟩
      cases c : lt (at_ p k) (at_ p ((l + r) / 2)) with
      | true =>
        dsimp only
        rw [if_pos rfl]
        refine place_ T hp hk a f l _ (by omega) (by omega) (by omega) h4 fun i hi hik => ?_
        by_cases z : i = (l + r) / 2
        · rw [z]; exact c
        · exact T.trans c (a _ i (by omega) hik)
      | false =>
        dsimp only
        rw [if_neg (by simp)]
        have c' : lt (at_ p ((l + r) / 2)) (at_ p k) = true := T.tot (hp.below hk) (hp.below (by omega)) (fun e => by have := hp.inj hk (by omega) e; omega) c
        refine place_ T hp hk a f _ r (by omega) (by omega) h3 (fun i hi => ?_) h5
        by_cases z : i = (l + r) / 2
        · rw [z]; exact c'
        · exact T.trans (a i _ (by omega) (by omega)) c'
theorem bin_ (T : Tot n lt) : ∀ (f : Nat) (p : Array Nat) (k : Nat), Per n p → 1 ≤ k → k + f ≤ n → Asc lt p k → Sat n lt (kas_bin f p k) fun q => Per n q ∧ Asc lt q (k + f)
  | 0, p, k, hp, h1, h2, a => ⟨hp, a⟩
  | f + 1, p, k, hp, h1, h2, a => by
    unfold kas_bin
    refine Sat.bind _ ((place_ T hp (by omega) a k 0 k (by omega) (Nat.zero_le _) (Nat.le_refl _) (fun i h => absurd h (Nat.not_lt_zero _)) (fun i h h' => absurd h (by omega))).mono fun l ⟨x1, x2, x3⟩ => ?_)
    have hp' := hp.bub k (k - l)
    have get : ∀ i, i < n → at_ (bubble p k (k - l)) i = if i < l then at_ p i else if i = l then at_ p k else if i ≤ k then at_ p (i - 1) else at_ p i := fun i hi => by
      have e := getElem?_bubble (xs := p) (src := k) (by rw [hp.size]; omega) (k - l) (by omega) i
      rw [hp'.get hi, show k - (k - l) = l by omega] at e
      by_cases i1 : i = l
      · rw [if_pos i1, hp.get (by omega)] at e
        rw [if_neg (by omega), if_pos i1]; exact Option.some.inj e
      · rw [if_neg i1] at e
        by_cases i2 : l < i ∧ i ≤ k
        · rw [if_pos i2, hp.get (by omega)] at e
          rw [if_neg (by omega), if_neg i1, if_pos i2.2]; exact Option.some.inj e
        · rw [if_neg i2, hp.get hi] at e
          by_cases i3 : i < l
          · rw [if_pos i3]; exact Option.some.inj e
          · rw [if_neg i3, if_neg i1, if_neg (fun z => i2 ⟨by omega, z⟩)]; exact Option.some.inj e
    have a' : Asc lt (bubble p k (k - l)) (k + 1) := fun i j hij hj => by
      rw [get i (by omega), get j (by omega)]
      by_cases i1 : i < l
      · rw [if_pos i1]
        by_cases j1 : j < l
        · rw [if_pos j1]; exact a i j hij (by omega)
        · rw [if_neg j1]
          by_cases j2 : j = l
          · rw [if_pos j2]; exact x2 i i1
          · rw [if_neg j2, if_pos (by omega)]; exact a i (j - 1) (by omega) (by omega)
      · have j1 : ¬ j < l := by omega
        have j2 : ¬ j = l := by omega
        have j3 : j ≤ k := by omega
        rw [if_neg i1, if_neg j1, if_neg j2, if_pos j3]
        by_cases i2 : i = l
        · rw [if_pos i2]; exact x3 (j - 1) (by omega) (by omega)
        · rw [if_neg i2, if_pos (by omega)]; exact a (i - 1) (j - 1) (by omega) (by omega)
    exact (bin_ T f _ (k + 1) hp' (by omega) (by omega) a').mono fun q ⟨y1, y2⟩ => ⟨y1, by rw [show k + (f + 1) = k + 1 + f by omega]; exact y2⟩
theorem sort_ (T : Tot n lt) (h2 : 2 ≤ n) : Sat n lt (kas_sort n) fun q => Per n q ∧ Asc lt q n := by
  unfold kas_sort
  have hp : Per n (List.toArray (List.range n)) := List.Perm.refl _
  refine Sat.bind _ ((count_ T hp h2).mono fun r ⟨x1, x2, x3, x4⟩ => ?_)
  by_cases q : r.1 < n
  · rw [if_pos q]
    have e : max r.1 1 = r.1 := by omega
    rw [e]
    exact (bin_ T (n - r.1) r.2 r.1 x1 x3 (by omega) x4).mono fun p ⟨y1, y2⟩ => ⟨y1, by rw [show n = r.1 + (n - r.1) by omega]; exact y2⟩
  · rw [if_neg q]
    exact ⟨x1, by rw [show n = r.1 by omega]; exact x4⟩
end Srt
end Mine
end
section
open PySem
set_option Elab.async false
set_option linter.unusedVariables false
namespace Mine
namespace Tab
open SetTable
/-- rising, said for every two -/
def Up (xs : Array Nat) : Prop := ∀ a b, a < b → b < xs.size → xs.getD a 0 < xs.getD b 0
theorem below_go (xs : Array Nat) (u : Up xs) (j : Nat) : ∀ (fuel lo hi : Nat), hi - lo ≤ fuel → lo ≤ hi → hi ≤ xs.size → (∀ a, a < lo → xs.getD a 0 < j) → (∀ a, hi ≤ a → a < xs.size → j ≤ xs.getD a 0) →
    (below.go xs j fuel lo hi) ≤ xs.size ∧ (∀ a, a < below.go xs j fuel lo hi → xs.getD a 0 < j) ∧ (∀ a, below.go xs j fuel lo hi ≤ a → a < xs.size → j ≤ xs.getD a 0)
  | 0, lo, hi, h1, h2, h3, h4, h5 => by
    have : lo = hi := by omega
    subst this
    exact ⟨h3, h4, h5⟩
  | fuel + 1, lo, hi, h1, h2, h3, h4, h5 => by
    unfold below.go
    by_cases h : lo < hi
    · rw [if_pos h]
      dsimp only
      by_cases h6 : xs.getD ((lo + hi) / 2) j < j
      · rw [if_pos h6]
        have hm : (lo + hi) / 2 < xs.size := by omega
        have e : xs.getD ((lo + hi) / 2) j = xs.getD ((lo + hi) / 2) 0 := by simp [Array.getD, hm]
        rw [e] at h6
        refine below_go xs u j fuel _ hi (by omega) (by omega) h3 (fun a ha => ?_) h5
        by_cases q : a = (lo + hi) / 2
        · rw [q]; exact h6
        · exact Nat.lt_trans (u a _ (by omega) hm) h6
      · rw [if_neg h6]
        have hm : (lo + hi) / 2 < xs.size := by omega
        have e : xs.getD ((lo + hi) / 2) j = xs.getD ((lo + hi) / 2) 0 := by simp [Array.getD, hm]
        rw [e] at h6
        refine below_go xs u j fuel lo _ (by omega) (by omega) (by omega) h4 fun a ha hs => ?_
        by_cases q : a = (lo + hi) / 2
        · rw [q]; omega
        · have := u ((lo + hi) / 2) a (by omega) hs; omega
    · rw [if_neg h]
      have : lo = hi := by omega
      subst this
      exact ⟨h3, h4, h5⟩
theorem below_spec {xs : Array Nat} (u : Up xs) (j : Nat) : below xs j ≤ xs.size ∧ (∀ a, a < below xs j → xs.getD a 0 < j) ∧ (∀ a, below xs j ≤ a → a < xs.size → j ≤ xs.getD a 0) :=
  below_go xs u j xs.size 0 xs.size (by omega) (Nat.zero_le _) (Nat.le_refl _) (fun a h => absurd h (Nat.not_lt_zero _)) (fun a h h' => absurd h' (by omega))
theorem getD_of {xs : Array Nat} {i j : Nat} (e : xs[i]? = some j) : i < xs.size ∧ xs.getD i 0 = j := by
  obtain ⟨h, q⟩ := Array.getElem?_eq_some_iff.mp e
  exact ⟨h, by simp [Array.getD, h, q]⟩
theorem below_at {xs : Array Nat} (u : Up xs) {i j : Nat} (e : xs[i]? = some j) : below xs j = i := by
  obtain ⟨h1, h2⟩ := getD_of e
  obtain ⟨b1, b2, b3⟩ := below_spec u j
  rcases Nat.lt_trichotomy (below xs j) i with h | h | h
  · have := b3 _ (Nat.le_refl _) (Nat.lt_trans h h1)
    have := u _ _ h h1
    omega
  · exact h
  · have := b2 i h; omega
theorem slot_live {t : SetTable} (u : Up t.place) {i j : Nat} (e : t.place[i]? = some j) : t.slot j = .live i := by
  unfold SetTable.slot
  dsimp only
  rw [below_at u e, e]
  simp
theorem has_empty (j : Nat) : has #[] j = false := by unfold has; simp
theorem slot_empty {t : SetTable} (d : t.dummies = #[]) {j : Nat} (n : ∀ i : Nat, t.place[i]? ≠ some j) : t.slot j = .empty := by
  unfold SetTable.slot
  dsimp only
  rw [d, has_empty]
  have : (t.place[below t.place j]? == some j) = false := by simpa using n _
  rw [this]; simp
theorem slot_cases (t : SetTable) (u : Up t.place) (d : t.dummies = #[]) (j : Nat) : (∃ i : Nat, t.place[i]? = some j ∧ t.slot j = .live i) ∨ ((∀ i : Nat, t.place[i]? ≠ some j) ∧ t.slot j = .empty) := by
  by_cases h : ∃ i : Nat, t.place[i]? = some j
  · obtain ⟨i, e⟩ := h; exact .inl ⟨i, e, slot_live u e⟩
  · exact .inr ⟨fun i e => h ⟨i, e⟩, slot_empty d fun i e => h ⟨i, e⟩⟩

def adv (mask : Nat) (p : Probe) : Probe := SetTable.advance ⟨mask, #[], #[], 0, false, 0, false⟩ p
theorem adv_eq (t : SetTable) (p : Probe) : t.advance p = adv t.mask p := rfl
def start (mask : Nat) (h : Int) : Probe := SetTable.probeStart ⟨mask, #[], #[], 0, false, 0, false⟩ h
theorem start_eq (t : SetTable) (h : Int) : t.probeStart h = start t.mask h := rfl
def walk (mask : Nat) (p : Probe) : Nat → Probe
  | 0 => p
  | n + 1 => adv mask (walk mask p n)
theorem walk_succ (mask : Nat) (p : Probe) : ∀ n, walk mask p (n + 1) = walk mask (adv mask p) n
  | 0 => rfl
  | n + 1 => by show adv mask (walk mask p (n + 1)) = adv mask (walk mask (adv mask p) n); rw [walk_succ mask p n]
theorem walk_add (mask : Nat) (p : Probe) (a : Nat) : ∀ b, walk mask p (a + b) = walk mask (walk mask p a) b
  | 0 => rfl
  | b + 1 => by show adv mask (walk mask p (a + b)) = adv mask _; rw [walk_add mask p a b]
theorem adv_dummy (mask : Nat) (p : Probe) : (adv mask p).dummy = p.dummy := by unfold adv SetTable.advance; split <;> rfl
theorem walk_dummy (mask : Nat) (p : Probe) : ∀ n, (walk mask p n).dummy = p.dummy
  | 0 => rfl
  | n + 1 => (adv_dummy mask _).trans (walk_dummy mask p n)
/-- a run, then the leap -/
def runAt (mask i pt : Nat) : Probe := { j := i, more := runEnd mask i - i, i, perturb := pt, dummy := none }
theorem run_end (mask i pt : Nat) : ∀ (m j : Nat), walk mask { j := j, more := m, i, perturb := pt, dummy := none } (m + 1) = runAt mask (leap mask i pt).1 (leap mask i pt).2
  | 0, j => rfl
  | m + 1, j => by
    rw [walk_succ]
    have : adv mask { j := j, more := m + 1, i, perturb := pt, dummy := none } = { j := j + 1, more := m, i, perturb := pt, dummy := none } := rfl
    rw [this]
    exact run_end mask i pt m (j + 1)
theorem run_in (mask i pt : Nat) : ∀ (m j k : Nat), k ≤ m → (walk mask { j := j, more := m, i, perturb := pt, dummy := none } k).j = j + k
  | m, j, 0, _ => rfl
  | 0, j, k + 1, h => absurd h (by omega)
  | m + 1, j, k + 1, h => by
    rw [walk_succ]
    have : adv mask { j := j, more := m + 1, i, perturb := pt, dummy := none } = { j := j + 1, more := m, i, perturb := pt, dummy := none } := rfl
    rw [this, run_in mask i pt m (j + 1) k (by omega)]
    omega
theorem runEnd_le (mask i : Nat) : runEnd mask i - i ≤ 9 := by unfold runEnd; split <;> omega
def leaps (mask : Nat) : Nat → Nat × Nat → Nat × Nat
  | 0, x => x
  | n + 1, x => leaps mask n (leap mask x.1 x.2)
/-- where the n-th run starts -/
theorem run_start (mask : Nat) : ∀ (n i pt : Nat), ∃ k, k ≤ 10 * n ∧ walk mask (runAt mask i pt) k = runAt mask (leaps mask n (i, pt)).1 (leaps mask n (i, pt)).2
  | 0, i, pt => ⟨0, Nat.le_refl _, rfl⟩
  | n + 1, i, pt => by
    obtain ⟨k, hk, e⟩ := run_start mask n (leap mask i pt).1 (leap mask i pt).2
    refine ⟨(runEnd mask i - i + 1) + k, by have := runEnd_le mask i; omega, ?_⟩
    rw [walk_add]
    have : walk mask (runAt mask i pt) (runEnd mask i - i + 1) = runAt mask (leap mask i pt).1 (leap mask i pt).2 := run_end mask i pt _ _
    rw [this]; exact e
def step5 (M i : Nat) : Nat := (i * 5 + 1) % M
def steps (M : Nat) : Nat → Nat → Nat
  | 0, i => i
  | n + 1, i => steps M n (step5 M i)
theorem steps_add (M : Nat) : ∀ (a b i : Nat), steps M (a + b) i = steps M b (steps M a i)
  | 0, b, i => by rw [Nat.zero_add]; rfl
  | a + 1, b, i => by rw [Nat.succ_add]; exact steps_add M a b (step5 M i)
theorem leaps_pt (mask : Nat) : ∀ (n : Nat) (x : Nat × Nat), (leaps mask n x).2 = x.2 / 32 ^ n
  | 0, x => by simp [leaps]
  | n + 1, x => by
    show (leaps mask n (leap mask x.1 x.2)).2 = _
    rw [leaps_pt mask n]
    show x.2 / 32 / 32 ^ n = _
    rw [Nat.div_div_eq_div_mul, Nat.pow_succ, Nat.mul_comm]
theorem leaps_zero (mask : Nat) : ∀ (n i : Nat), leaps mask n (i, 0) = (steps (mask + 1) n i, 0)
  | 0, i => rfl
  | n + 1, i => by
    show leaps mask n (leap mask i 0) = _
    have : leap mask i 0 = (step5 (mask + 1) i, 0) := by simp [leap, step5]
    rw [this, leaps_zero mask n]; rfl
theorem leaps_add (mask : Nat) : ∀ (a b : Nat) (x : Nat × Nat), leaps mask (a + b) x = leaps mask b (leaps mask a x)
  | 0, b, x => by rw [Nat.zero_add]; rfl
  | a + 1, b, x => by rw [Nat.succ_add]; exact leaps_add mask a b _
theorem leaps_lt (mask : Nat) : ∀ (n : Nat) (x : Nat × Nat), x.1 < mask + 1 → (leaps mask n x).1 < mask + 1
  | 0, x, h => h
  | n + 1, x, h => leaps_lt mask n _ (Nat.mod_lt _ (Nat.succ_pos _))
/-- from 0, all are met -/
def Cyc (M : Nat) : Prop := (∀ e, e < M → ∃ k, k < M ∧ steps M k 0 = e) ∧ steps M M 0 = 0
def cycB (M : Nat) : Bool := (List.range M).all (fun e => (List.range M).any fun k => steps M k 0 == e) && steps M M 0 == 0
theorem cyc_of {M : Nat} (h : cycB M = true) : Cyc M := by
  unfold cycB at h
  simp only [Bool.and_eq_true, List.all_eq_true, List.any_eq_true, List.mem_range, beq_iff_eq] at h
  exact ⟨fun e he => let ⟨k, a, b⟩ := h.1 e he; ⟨k, a, b⟩, h.2⟩
def okMask (m : Nat) : Prop := m = 7 ∨ m = 31 ∨ m = 127
theorem cyc8 : cycB 8 = true := by decide +kernel
theorem cyc32 : cycB 32 = true := by decide +kernel
theorem cyc128 : cycB 128 = true := by decide +kernel
theorem cyc_mask {m : Nat} (h : okMask m) : Cyc (m + 1) := by
  rcases h with rfl | rfl | rfl
  · exact cyc_of cyc8
  · exact cyc_of cyc32
  · exact cyc_of cyc128
theorem meets {M : Nat} (c : Cyc M) {a e : Nat} (ha : a < M) (he : e < M) : ∃ k, k < M ∧ steps M k a = e := by
  obtain ⟨p, hp, ep⟩ := c.1 a ha
  obtain ⟨q, hq, eq⟩ := c.1 e he
  by_cases h : p ≤ q
  · refine ⟨q - p, by omega, ?_⟩
    rw [← ep, ← steps_add, show p + (q - p) = q by omega]; exact eq
  · refine ⟨q + M - p, by omega, ?_⟩
    rw [← ep, ← steps_add, show p + (q + M - p) = M + q by omega, steps_add, c.2]; exact eq
theorem bits_lt (h : Int) : bits h < 2 ^ 64 := by
  unfold bits
  have h1 := Int.emod_nonneg h (b := (2 ^ 64 : Int)) (by decide)
  have h2 := Int.emod_lt_of_pos h (b := (2 ^ 64 : Int)) (by decide)
  omega
/-- every slot is met -/
theorem reach {mask : Nat} (c : okMask mask) (h : Int) {e : Nat} (he : e ≤ mask) : ∃ n, n ≤ 10 * (13 + mask) ∧ (walk mask (start mask h) n).j = e ∧ ∃ m, m ≤ 13 + mask ∧ (leaps mask m (bits h % (mask + 1), bits h)).1 = e := by
  have h0 : start mask h = runAt mask (bits h % (mask + 1)) (bits h) := rfl
  have hlt := leaps_lt mask 13 (bits h % (mask + 1), bits h) (Nat.mod_lt _ (Nat.succ_pos _))
  have hz : (leaps mask 13 (bits h % (mask + 1), bits h)).2 = 0 := by
    rw [leaps_pt]
    exact Nat.div_eq_of_lt (Nat.lt_of_lt_of_le (bits_lt h) (by decide))
  obtain ⟨k, hk, ek⟩ := meets (cyc_mask c) hlt (Nat.lt_succ_of_le he)
  have el : leaps mask (13 + k) (bits h % (mask + 1), bits h) = (e, 0) := by
    rw [leaps_add]
    have : leaps mask 13 (bits h % (mask + 1), bits h) = ((leaps mask 13 (bits h % (mask + 1), bits h)).1, 0) := Prod.ext rfl hz
    rw [this, leaps_zero, ek]
  obtain ⟨n, hn, en⟩ := run_start mask (13 + k) (bits h % (mask + 1)) (bits h)
  refine ⟨n, by omega, ?_, 13 + k, by omega, by rw [el]⟩
  rw [h0, en, el]; rfl
/-- an array of so few, all small, leaves a slot -/
theorem hole {xs : Array Nat} {mask : Nat} (u : Up xs) (hs : xs.size ≤ mask) : ∃ e, e ≤ mask ∧ ∀ i : Nat, xs[i]? ≠ some e := by
  have := Classical.byContradiction fun (n : ¬ ∃ e, e ≤ mask ∧ ∀ i : Nat, xs[i]? ≠ some e) => by
    have all : ∀ e, e ≤ mask → ∃ i : Nat, xs[i]? = some e := fun e he => Classical.byContradiction fun q => n ⟨e, he, fun i z => q ⟨i, z⟩⟩
    have key : ∀ e, e ≤ mask → ∃ i : Nat, e ≤ i ∧ xs[i]? = some e := by
      intro e
      induction e with
      | zero => intro he; obtain ⟨i, q⟩ := all 0 he; exact ⟨i, Nat.zero_le _, q⟩
      | succ e ih =>
        intro he
        obtain ⟨i, hi, q⟩ := ih (by omega)
        obtain ⟨k, q'⟩ := all (e + 1) he
        obtain ⟨a1, a2⟩ := getD_of q
        obtain ⟨b1, b2⟩ := getD_of q'
        refine ⟨k, ?_, q'⟩
        rcases Nat.lt_trichotomy i k with h | h | h
        · omega
        · subst h; omega
        · have := u k i h a1; omega
    obtain ⟨i, hi, q⟩ := key mask (Nat.le_refl _)
    obtain ⟨a1, _⟩ := getD_of q
    exact absurd a1 (by omega)
  exact this
/-- the first slot that is empty, on a road -/
def FreeAt (t : SetTable) (h : Int) (n : Nat) : Prop := (t.slot (walk t.mask (start t.mask h) n).j = .empty) ∧ ∀ m, m < n → ∃ i : Nat, t.place[i]? = some (walk t.mask (start t.mask h) m).j
theorem first_free {t : SetTable} (c : okMask t.mask) (u : Up t.place) (d : t.dummies = #[]) (hs : t.place.size ≤ t.mask) (h : Int) : ∃ n, n ≤ 10 * (13 + t.mask) ∧ FreeAt t h n := by
  obtain ⟨e, he, q⟩ := hole u hs
  obtain ⟨n, hn, en, _⟩ := reach c h he
  have h0 : ∃ n, n ≤ 10 * (13 + t.mask) ∧ t.slot (walk t.mask (start t.mask h) n).j = .empty := ⟨n, hn, by rw [en]; exact slot_empty d q⟩
  clear hn en q he
  obtain ⟨n, hn, e⟩ := h0
  induction n using Nat.strongRecOn with
  | ind n ih =>
    by_cases z : ∃ m, m < n ∧ t.slot (walk t.mask (start t.mask h) m).j = .empty
    · obtain ⟨m, hm, em⟩ := z
      exact ih m hm (by omega) em
    · refine ⟨n, hn, e, fun m hm => ?_⟩
      rcases slot_cases t u d (walk t.mask (start t.mask h) m).j with ⟨i, q, _⟩ | ⟨_, q⟩
      · exact ⟨i, q⟩
      · exact absurd ⟨m, hm, q⟩ z
theorem probe_go {t : SetTable} (u : Up t.place) (d : t.dummies = #[]) (hashAt : Nat → Int) (h : Int) {N : Nat} (F : FreeAt t h N) : ∀ (fuel n : Nat), n ≤ N → N + 1 - n ≤ fuel →
    ∃ n', n ≤ n' ∧ n' ≤ N ∧ (∀ m, n ≤ m → m < n' → ∃ i : Nat, t.place[i]? = some (walk t.mask (start t.mask h) m).j ∧ hashAt i ≠ h) ∧
      ((n' = N ∧ SetTable.probe.go t hashAt h fuel (walk t.mask (start t.mask h) n) = some (.empty (walk t.mask (start t.mask h) N).j none)) ∨
        ∃ i : Nat, n' < N ∧ t.place[i]? = some (walk t.mask (start t.mask h) n').j ∧ hashAt i = h ∧ SetTable.probe.go t hashAt h fuel (walk t.mask (start t.mask h) n) = some (.candidate (walk t.mask (start t.mask h) n').j i (walk t.mask (start t.mask h) (n' + 1))))
  | 0, n, h1, h2 => absurd h2 (by omega)
  | fuel + 1, n, h1, h2 => by
    unfold SetTable.probe.go
    by_cases hn : n = N
    · subst hn
      refine ⟨n, Nat.le_refl _, Nat.le_refl _, fun m a b => absurd b (by omega), .inl ⟨rfl, ?_⟩⟩
      rw [F.1]
      show some (Met.empty _ (walk t.mask (start t.mask h) n).dummy) = _
      rw [walk_dummy]; rfl
    · obtain ⟨i, q⟩ := F.2 n (by omega)
      rw [slot_live u q]
      by_cases e : hashAt i = h
      · refine ⟨n, Nat.le_refl _, by omega, fun m a b => absurd b (by omega), .inr ⟨i, by omega, q, e, ?_⟩⟩
        dsimp only
        rw [if_pos (by simpa using e)]
        rfl
      · dsimp only
        rw [if_neg (by simpa using e), adv_eq]
        obtain ⟨n', a1, a2, a3, a4⟩ := probe_go u d hashAt h F fuel (n + 1) (by omega) (by omega)
        refine ⟨n', by omega, a2, fun m b1 b2 => ?_, a4⟩
        by_cases z : m = n
        · subst z; exact ⟨i, q, e⟩
        · exact a3 m (by omega) b2
end Tab
end Mine
end
section
open PySem PySem.W PyProof.Rows PySem.Calls
set_option Elab.async false
namespace Mine
section
variable {prog : Program} {w : World} {A : Around} {E : Value → Shared → Prop} {s : Shared} {h : Heap} {cv : Value} {a b : Addr} {xs ys : Array Value}

structure TupCls (prog : Program) (w : World) (h : Heap) (cv : Value) : Prop where
  eq_ : Looks (model prog w) h (typeLookup cv "__eq__") (some (.builtin "tuple.__eq__"))
  hash_ : Looks (model prog w) h (typeLookup cv "__hash__") (some (.builtin "tuple.__hash__"))
  sub : Looks (model prog w) h (isSubtype cv (.type "tuple")) true
structure TupLike (h : Heap) (cv : Value) (a : Addr) (xs : Array Value) : Prop where
  at_ : ∃ o n, h.get? a = some o ∧ o.cls = cv ∧ o.data = .seq xs n
theorem TupLike.type (T : TupLike h cv a xs) : Looks (model prog w) h (typeOf (.ref a)) cv := by
  obtain ⟨o, n, ho, rfl, _⟩ := T.at_
  exact (Looks.ld ho).andThen .now
theorem TupLike.items {M : Model} {Q : Array Value → Shared → Prop} (T : TupLike h cv a xs) (k : h.StaysIn s.heap) (hq : Q xs s) : wpAny M A (Builtin.Tuple.tupleItemsOf (.ref a)) Q E s := by
  obtain ⟨o, n, ho, _, hd⟩ := T.at_
  exact wpAny_tupleItemsOf (k _ _ ho) hd hq

theorem bound_look {id : String} {name : Str} {v : Value} {rest : List Value} {Q : Option Value → Shared → Prop} (k : h.StaysIn s.heap) (L : Looks (model prog w) h (specialOf v name) (some (.builtin id))) (hb : bindSpecial (.builtin id) v = pure (.builtin id, [v]))
    (hc : wpAny (model prog w) A (call (.builtin id) (v :: rest)) (fun r => Q (some r)) E s) : wpAny (model prog w) A (callSpecialIfBound? v name rest) Q E s := by
  simp only [callSpecialIfBound?, bindSpecialIfBound?]
  refine wpAny_holding (wpAny_bind (wpAny_bind (L A _ E s k ?_)))
  simp only [hb]
  refine wpAny_bind (wpAny_askSetting (wpAny_ite ?_))
  have fin : wpAny (model prog w) A (call (.builtin id) (v :: rest) >>= fun r => pure (some r)) Q E s := wpAny_bind (wpAny_mono hc (fun v s' h' => wpAny_pure h') fun _ _ h' => h')
  split
  · exact wpAny_bind (wpAny_pure (wpAny_pure fin))
  · exact wpAny_tryCatch (wpAny_bind (wpAny_pure (wpAny_pure fin)))
theorem bound_look0 {id : String} {name : Str} {v : Value} {refuse : Sem Value} {Q : Option Value → Shared → Prop} (k : h.StaysIn s.heap) (L : Looks (model prog w) h (specialOf v name) (some (.builtin id))) (hb : bindSpecial (.builtin id) v = pure (.builtin id, [v]))
    (hc : wpAny (model prog w) A (call (.builtin id) [v]) (fun r => Q (some r)) E s) : wpAny (model prog w) A (callSpecialIfBoundUnlessNone? v name refuse) Q E s := by
  simp only [callSpecialIfBoundUnlessNone?, bindSpecialIfBound?]
  refine wpAny_holding (wpAny_bind (wpAny_bind (L A _ E s k ?_)))
  simp only [hb]
  refine wpAny_bind (wpAny_askSetting (wpAny_ite ?_))
  have fin : wpAny (model prog w) A (if (Value.builtin id == Value.none) = true then (refuse >>= fun v => pure (some v)) else (call (.builtin id) [v] >>= fun v => pure (some v))) Q E s := by
    simp only [builtin_beq_none, Bool.false_eq_true, if_false]
    exact wpAny_bind (wpAny_mono hc (fun v s' h' => wpAny_pure h') fun _ _ h' => h')
  split
  · exact wpAny_bind (wpAny_pure (wpAny_pure fin))
  · exact wpAny_tryCatch (wpAny_bind (wpAny_pure (wpAny_pure fin)))

/-- a call of a slot of tuple's on what is one -/
theorem call_tupSlot {id n : String} {bl : Builtin} {v : Value} {rest : List Value} {Q : Value → Shared → Prop} (k : h.StaysIn s.heap) (I : Looks (model prog w) h (isInstance v (.type "tuple")) true)
    (hp : plainId id = true) (he : entryFor table id = some bl) (hk : builtinKind id = some .slot) (hs : splitId id = some ("tuple", n)) (ha : argsOk id ⟨v :: rest, []⟩)
    (hc : wpAny (model prog w) A.in1 (bl ⟨v :: rest, []⟩) (fun fin s' => ∃ r, fin = .done (.ret r) ∧ Q r s') E s) : wpAny (model prog w) A (call (.builtin id) (v :: rest)) Q E s := by
  refine wpAny_call (codeAny_call_builtin hp he (@check_slot (model prog w) _ _ s id "tuple" n v rest [] _ hk hs (I.keeps k) ha ?_))
  refine wpAny_mono hc (fun fin s' h' => ?_) fun _ _ h' => h'
  obtain ⟨v, rfl, hv⟩ := h'; exact hv

/-- items by value or on the heap, told by a datum -/
structure ItemKind (prog : Program) (w : World) (h : Heap) (α : Type) [DecidableEq α] where
  lev : Nat
  is : α → Value → Prop
  hash : α → Int
  inj : ∀ {x y v}, is x v → is y v → x = y
  pyHash : ∀ {A : Around} {E : Value → Shared → Prop} {s : Shared} {k : α} {v : Value} {Q : Int → Shared → Prop}, A.units + 10 * lev < cLine → h.StaysIn s.heap → is k v → (∀ tk, Q (hash k) { s with toks := tk }) → wpAny (model prog w) A (PySem.pyHash v) Q E s
  eqBool : ∀ {A : Around} {E : Value → Shared → Prop} {s : Shared} {x y : α} {u v : Value} {Q : Bool → Shared → Prop}, A.units + 10 * lev < cLine → h.StaysIn s.heap → is x u → is y v → (∀ tk, Q (decide (x = y)) { s with toks := tk }) → wpAny (model prog w) A (PySem.eqBool u v) Q E s
  quiet : ∀ (n : Nat) {A : Around} {E : Value → Shared → Prop} {s : Shared} {k : α} {v : Value} {Q : Bool → Shared → Prop}, lev ≤ n → h.StaysIn s.heap → is k v → Q true s → wpAny (model prog w) A (eqIsQuiet n v) Q E s

inductive Pw {α : Type} (P : α → Value → Prop) : List α → List Value → Prop
  | nil : Pw P [] []
  | cons {k v ks vs} : P k v → Pw P ks vs → Pw P (k :: ks) (v :: vs)
theorem Pw.length {α : Type} {P : α → Value → Prop} {ks : List α} {vs : List Value} (h : Pw P ks vs) : ks.length = vs.length := by
  induction h with
  | nil => rfl
  | cons _ _ ih => simp [ih]
theorem Pw.inj {α : Type} {P : α → Value → Prop} (hi : ∀ x y v, P x v → P y v → x = y) {ks : List α} {vs : List Value} (h : Pw P ks vs) : ∀ {js}, Pw P js vs → ks = js := by
  induction h with
  | nil => intro js h'; cases h'; rfl
  | cons h1 _ ih => intro js h'; cases h' with | cons h2 t2 => rw [hi _ _ _ h1 h2, ih t2]
variable {α : Type} [DecidableEq α] (K : ItemKind prog w h α)
def tupHash (ks : List α) : Int := reduceHash (Builtin.Tuple.tupleHashOf (ks.map K.hash))
def TupIs (cv : Value) (ks : List α) (v : Value) : Prop := ∃ a xs, v = .ref a ∧ TupLike h cv a xs ∧ Pw K.is ks xs.toList
variable {K}

theorem th_kind : builtinKind "tuple.__hash__" = some .slot := by decide +kernel
theorem th_split : splitId "tuple.__hash__" = some ("tuple", "__hash__") := by decide +kernel
theorem te_kind : builtinKind "tuple.__eq__" = some .slot := by decide +kernel
theorem te_split : splitId "tuple.__eq__" = some ("tuple", "__eq__") := by decide +kernel

theorem pyHash_tup (C : TupCls prog w h cv) {ks : List α} {v : Value} {Q : Int → Shared → Prop} (hu : A.units + 10 * (K.lev + 1) < cLine) (k : h.StaysIn s.heap) (hv : TupIs K cv ks v)
    (hq : ∀ tk, Q (tupHash K ks) { s with toks := tk }) : wpAny (model prog w) A (PySem.pyHash v) Q E s := by
  obtain ⟨a, xs, rfl, T, P⟩ := hv
  have L : Looks (model prog w) h (specialOf (.ref a) "__hash__") (some (.builtin "tuple.__hash__")) := T.type.andThen C.hash_
  have I : Looks (model prog w) h (isInstance (.ref a) (.type "tuple")) true := T.type.andThen C.sub
  unfold PySem.pyHash pyHashByItsType
  refine wpAny_bind (wpAny_cRoomFor_or (.inr (by omega)) ?_)
  refine wpAny_bind (L A _ E s k ?_)
  show wpAny _ _ (if (some (Value.builtin "tuple.__hash__") == some Value.none) = true then _ else _) Q E s
  rw [if_neg (by rw [beq_builtin_none]; exact Bool.false_ne_true)]
  refine wpAny_bind (L A _ E s k ?_)
  show wpAny _ _ (callSpecialIfBoundUnlessNone? (.ref a) "__hash__" _ >>= _) Q E s
  refine wpAny_bind (bound_look0 k L (F.slot_tuple_hash.bind _) (call_tupSlot k I F.slot_tuple_hash.plain F.entry_tuple_hash th_kind th_split (F.args_tuple_hash_1 _) ?_))
  show wpAny _ _ (Builtin.Tuple.tupleItemsOf (.ref a) >>= _) _ _ s
  refine wpAny_bind (T.items k ?_)
  refine wpAny_bind ?_
  rw [← Array.forIn_toList]
  refine wpAny_forIn_list _
    (fun rest (b : Array Int) s' => ∃ done left, ks = done ++ left ∧ Pw K.is left rest ∧ b.toList = done.map K.hash ∧ ∃ tk, s' = { s with toks := tk })
    _ ?_ ?_ _ _ ⟨[], ks, rfl, P, rfl, s.toks, rfl⟩
  · rintro x rest b s' ⟨done, left, rfl, hl, hb, tk, rfl⟩
    cases hl with
    | @cons k1 _ ks' _ h1 hl' =>
      refine wpAny_bind (K.pyHash (by show A.units + 1 + 10 * K.lev < cLine; omega) k h1 fun tk' => ?_)
      exact wpAny_pure ⟨done ++ [k1], ks', by simp, hl', by simp [hb], tk', rfl⟩
  · rintro b s' ⟨done, left, rfl, hl, hb, tk, rfl⟩
    cases hl
    rw [List.append_nil] at hq
    show wpAny _ _ (retInt (Builtin.Tuple.tupleHashOf b.toList)) _ _ _
    rw [hb]
    refine wpAny_ret_mkInt ?_
    show wpAny _ _ (if (decide (-(2 : Int) ^ 63 ≤ Builtin.Tuple.tupleHashOf (done.map K.hash)) && decide (Builtin.Tuple.tupleHashOf (done.map K.hash) < 2 ^ 63)) = true then _ else _) Q E _
    unfold tupHash reduceHash at hq
    by_cases hr : (decide (-(2 : Int) ^ 63 ≤ Builtin.Tuple.tupleHashOf (done.map K.hash)) && decide (Builtin.Tuple.tupleHashOf (done.map K.hash) < 2 ^ 63)) = true
    · rw [if_pos hr]
      rw [if_pos hr] at hq
      exact wpAny_pure (hq _)
    · rw [if_neg hr]
      rw [if_neg hr] at hq
      exact wpAny_bind (wpAny_rule (wpAny_pure (hq _)))

theorem eq_tree (C : TupCls prog w h cv) {x y : List α} {a b : Addr} {P : PySem.Fin → Shared → Prop} (hu : A.units + 10 * K.lev < cLine) (k : h.StaysIn s.heap) (Ta : TupLike h cv a xs) (Tb : TupLike h cv b ys)
    (px : Pw K.is x xs.toList) (py : Pw K.is y ys.toList) (hq : ∀ tk, P (.done (.ret (.bool (decide (x = y))))) { s with toks := tk }) :
    wpAny (model prog w) A (Builtin.«tuple.__eq__» ⟨[.ref a, .ref b], []⟩) P E s := by
  have I : Looks (model prog w) h (isInstance (.ref b) (.type "tuple")) true := Tb.type.andThen C.sub
  show wpAny _ _ (isInstance (.ref b) (.type "tuple") >>= _) _ _ s
  refine wpAny_bind (I A _ E s k ?_)
  simp only [Bool.not_true, Bool.false_eq_true, if_false]
  refine wpAny_bind (Ta.items k ?_)
  refine wpAny_bind (Tb.items k ?_)
  refine wpAny_bind ?_
  refine wpAny_forIn_list _
    (fun rest r s' => r.1 = none ∧ (∃ tk, s' = { s with toks := tk }) ∧ ∃ x' y' xs' ys', rest = List.zip xs' ys' ∧ Pw K.is x' xs' ∧ Pw K.is y' ys' ∧ decide (x' = y') = decide (x = y) ∧ (xs'.length == ys'.length) = (xs.size == ys.size))
    _ ?_ ?_ _ _ ⟨rfl, ⟨s.toks, rfl⟩, x, y, xs.toList, ys.toList, rfl, px, py, rfl, by simp⟩
  · rintro ⟨u, v⟩ rest r s' ⟨hr, ⟨tk, rfl⟩, x', y', xs', ys', hz, hx', hy', hdec, hlen⟩
    cases hx' with
    | nil => simp at hz
    | @cons k1 u' x'' xs'' h1 hx'' =>
      cases hy' with
      | nil => simp at hz
      | @cons k2 v' y'' ys'' h2 hy'' =>
        simp only [List.zip_cons_cons, List.cons.injEq, Prod.mk.injEq] at hz
        obtain ⟨⟨rfl, rfl⟩, rfl⟩ := hz
        refine wpAny_bind (K.eqBool (x := k1) (y := k2) hu k h1 h2 fun tk' => ?_)
        by_cases hk : k1 = k2
        · subst hk
          rw [decide_eq_true rfl]
          simp only [Bool.not_true, Bool.false_eq_true, if_false]
          refine wpAny_pure ⟨rfl, ⟨tk', rfl⟩, x'', y'', xs'', ys'', rfl, hx'', hy'', ?_, by simpa using hlen⟩
          rw [← hdec]
          by_cases hxy : x'' = y''
          · simp [hxy]
          · simp [hxy]
        · rw [decide_eq_false hk]
          simp only [Bool.not_false, if_true]
          have hf : decide (x = y) = false := by rw [← hdec]; simp [hk]
          rw [hf] at hq
          exact wpAny_bind (wpAny_pure (wpAny_pure (wpAny_pure (hq tk'))))
  · rintro ⟨r1, r2⟩ s' ⟨hr, ⟨tk, rfl⟩, x', y', xs', ys', hz, hx', hy', hdec, hlen⟩
    simp only at hr
    subst hr
    refine wpAny_pure ?_
    have hfin : (xs.size == ys.size) = decide (x = y) := by
      rw [← hdec, ← hlen]
      cases hx' with
      | nil =>
        cases hy' with
        | nil => simp
        | cons _ _ => simp
      | cons _ _ =>
        cases hy' with
        | nil => simp
        | cons _ _ => simp at hz
    show P (.done (.ret (.bool (xs.size == ys.size)))) _
    rw [hfin]; exact hq tk

theorem rich_tup (C : TupCls prog w h cv) {x y : List α} {a b : Addr} {Q : Value → Shared → Prop} (hu : A.units + 10 * (K.lev + 1) < cLine) (k : h.StaysIn s.heap) (Ta : TupLike h cv a xs) (Tb : TupLike h cv b ys)
    (px : Pw K.is x xs.toList) (py : Pw K.is y ys.toList) (hq : ∀ tk, Q (.bool (decide (x = y))) { s with toks := tk }) :
    wpAny (model prog w) A (richCompare .Eq (.ref a) (.ref b)) Q E s := by
  have L : Looks (model prog w) h (specialOf (.ref a) "__eq__") (some (.builtin "tuple.__eq__")) := Ta.type.andThen C.eq_
  have I : Looks (model prog w) h (isInstance (.ref a) (.type "tuple")) true := Ta.type.andThen C.sub
  have ho : oneThing? .Eq (.ref a) (.ref b) = none := rfl
  simp only [richCompare, ho]
  refine wpAny_holding (wpAny_bind (wpAny_cRoomFor_or (.inr (by omega)) ?_))
  refine wpAny_bind (Ta.type A _ E s k (wpAny_bind (Tb.type A _ E s k ?_)))
  simp only [bne_self_eq_false, Bool.false_eq_true, if_false, pure_bind]
  show wpAny _ _ (tryCompare (.ref a) "__eq__" (.ref b) >>= _) _ _ _
  unfold tryCompare
  refine wpAny_bind (wpAny_bind (bound_look k L (F.slot_tuple_eq.bind _) (call_tupSlot k I F.slot_tuple_eq.plain F.entry_tuple_eq te_kind te_split (F.args_tuple_eq_2 _ _) ?_)))
  exact eq_tree C (by show A.units + 1 + _ < _; omega) k Ta Tb px py fun tk => ⟨_, rfl, wpAny_pure (wpAny_pure (hq tk))⟩

theorem eqBool_tup (C : TupCls prog w h cv) {x y : List α} {u v : Value} {Q : Bool → Shared → Prop} (hu : A.units + 10 * (K.lev + 1) < cLine) (k : h.StaysIn s.heap) (hx : TupIs K cv x u) (hy : TupIs K cv y v)
    (hq : ∀ tk, Q (decide (x = y)) { s with toks := tk }) : wpAny (model prog w) A (PySem.eqBool u v) Q E s := by
  obtain ⟨a, xs, rfl, Ta, px⟩ := hx
  obtain ⟨b, ys, rfl, Tb, py⟩ := hy
  unfold PySem.eqBool
  refine wpAny_holding ?_
  show wpAny _ _ (if (Value.ref a == Value.ref b) = true then _ else _) Q E s
  by_cases hab : (Value.ref a == Value.ref b) = true
  · rw [if_pos hab]
    have e : a = b := by have := eq_of_beq hab; injection this
    subst e
    have : xs = ys := by
      obtain ⟨o, n, ho, _, hd⟩ := Ta.at_
      obtain ⟨o', n', ho', _, hd'⟩ := Tb.at_
      rw [ho] at ho'; cases ho'
      rw [hd] at hd'; injection hd'
    subst this
    obtain rfl := Pw.inj (P := K.is) (fun _ _ _ a b => K.inj a b) px py
    exact wpAny_bind (wpAny_rule (wpAny_pure (by have := hq s.toks; simpa using this)))
  · rw [if_neg hab]
    exact wpAny_bind (rich_tup C hu k Ta Tb px py fun tk => wpAny_truthy_bool (hq tk))

theorem quiet_tup (C : TupCls prog w h cv) (n : Nat) {ks : List α} {v : Value} {Q : Bool → Shared → Prop} (hn : K.lev + 1 ≤ n) (k : h.StaysIn s.heap) (hv : TupIs K cv ks v) (hq : Q true s) : wpAny (model prog w) A (eqIsQuiet n v) Q E s := by
  obtain ⟨a, xs, rfl, T, P⟩ := hv
  have L : Looks (model prog w) h (specialOf (.ref a) "__eq__") (some (.builtin "tuple.__eq__")) := T.type.andThen C.eq_
  have I : Looks (model prog w) h (isInstance (.ref a) (.type "tuple")) true := T.type.andThen C.sub
  obtain ⟨n, rfl⟩ : ∃ j, n = j + 1 := ⟨n - 1, by omega⟩
  unfold eqIsQuiet
  refine wpAny_bind (L A _ E s k ?_)
  show wpAny _ _ (isInstance (.ref a) (.type "tuple") >>= _) _ _ s
  refine wpAny_bind (I A _ E s k ?_)
  simp only [Bool.not_true, Bool.false_eq_true, if_false]
  obtain ⟨o, m, ho, _, hd⟩ := T.at_
  refine wpAny_bind (wpAny_seqItems (k _ _ ho) hd ?_)
  refine wpAny_bind ?_
  show wpAny _ _ (forIn xs _ _) _ _ s
  rw [← Array.forIn_toList]
  refine wpAny_forIn_list _ (fun rest r s' => r.1 = none ∧ s' = s ∧ ∃ ks, Pw K.is ks rest) _ ?_ ?_ _ _ ⟨rfl, rfl, ks, P⟩
  · rintro v rest r s' ⟨hr, rfl, ks', hp⟩
    cases hp with
    | @cons k1 _ ks'' _ h1 hl' =>
      refine wpAny_bind (K.quiet n (by omega) k h1 ?_)
      simp only [Bool.not_true, Bool.false_eq_true, if_false]
      exact wpAny_pure ⟨rfl, rfl, ks'', hl'⟩
  · rintro ⟨r1, r2⟩ s' ⟨hr, rfl, _⟩
    simp only at hr
    subst hr
    exact wpAny_pure hq

def tupKind (K : ItemKind prog w h α) (C : TupCls prog w h cv) : ItemKind prog w h (List α) where
  lev := K.lev + 1
  is := TupIs K cv
  hash := tupHash K
  inj := fun {x y v} hx hy => by
    obtain ⟨a, xs, rfl, Ta, px⟩ := hx
    obtain ⟨b, ys, e, Tb, py⟩ := hy
    injection e with e
    subst e
    have : xs = ys := by
      obtain ⟨o, n, ho, _, hd⟩ := Ta.at_
      obtain ⟨o', n', ho', _, hd'⟩ := Tb.at_
      rw [ho] at ho'; cases ho'
      rw [hd] at hd'; injection hd'
    subst this
    exact Pw.inj (P := K.is) (fun _ _ _ a b => K.inj a b) px py
  pyHash := fun hu k hv hq => pyHash_tup C hu k hv hq
  eqBool := fun hu k hx hy hq => eqBool_tup C hu k hx hy hq
  quiet := fun n {_ _ _ _ _ _} hn k hv hq => quiet_tup C n hn k hv hq
end
end Mine
end
section
open PySem PySem.W PyProof.Rows PySem.Calls
set_option Elab.async false
namespace Mine
inductive Leaf where
  | s (x : Str)
  | b (x : Bool)
  deriving DecidableEq
def LeafIs : Leaf → Value → Prop
  | .s x, v => ∃ t, v = .str x t
  | .b x, v => v = .bool x
section
variable {prog : Program} {w : World} {A : Around} {E : Value → Shared → Prop} {s : Shared} {h : Heap}
theorem pyHash_bool {b : Bool} {Q : Int → Shared → Prop} (hq : ∀ tk, Q (if b then 1 else 0) { s with toks := tk }) : wpAny (model prog w) A (PySem.pyHash (.bool b)) Q E s := by
  have hT : s.TypeIs (.bool b) "bool" := PySem.typeIs_bool s b
  unfold PySem.pyHash pyHashByItsType
  have hv : [Value.bool b].any Value.onHeap = false := rfl
  refine wpAny_bind ?_
  rw [cRoomFor, if_neg (by rw [hv]; exact Bool.false_ne_true)]; refine wpAny_pure ?_
  refine wpAny_bind (wpAny_specialOf hT F.slot_bool_hash.lookup ?_)
  show wpAny _ _ (if (some (Value.builtin "int.__hash__") == some Value.none) = true then _ else _) Q E s
  rw [if_neg (by rw [beq_builtin_none]; exact Bool.false_ne_true)]
  refine wpAny_bind (wpAny_specialOf hT F.slot_bool_hash.lookup ?_)
  show wpAny _ _ (callSpecialIfBoundUnlessNone? (.bool b) "__hash__" _ >>= _) Q E s
  refine wpAny_bind (wpAny_callSpecialIfBoundUnlessNone?_slot hT F.slot_bool_hash (wpAny_call_entry F.slot_bool_hash hT entry_int_hash ?_ (args_int_hash _)))
  cases b
  · show wpAny _ _ (do ret (← mkInt 0)) _ _ s
    refine wpAny_ret_mkInt ?_
    exact wpAny_pure (hq _)
  · show wpAny _ _ (do ret (← mkInt 1)) _ _ s
    refine wpAny_ret_mkInt ?_
    exact wpAny_pure (hq _)

theorem eqBool_val {u v : Value} {r : Bool} {Q : Bool → Shared → Prop} (hn : (u == v) = false) (hf : ∀ p t q t', u = .float p t → v = .float q t' → False)
    (hc : ∀ (Q' : Value → Shared → Prop), Q' (.bool r) s → wpAny (model prog w) A (compareOp .Eq u v) Q' E s) (hq : Q r s) : wpAny (model prog w) A (PySem.eqBool u v) Q E s := by
  unfold PySem.eqBool
  refine wpAny_holding ?_
  rw [if_neg (by rw [hn]; exact Bool.false_ne_true)]
  have fin : wpAny (model prog w) A (richCompare .Eq u v >>= fun x => truthOfDropped x) Q E s := wpAny_bind (hc (fun x s' => wpAny (model prog w) A (truthOfDropped x) Q E s') (wpAny_truthy_bool hq))
  cases u <;> cases v <;> first | exact fin | exact (hf _ _ _ _ rfl rfl).elim

def leafKind (prog : Program) (w : World) (h : Heap) : ItemKind prog w h Leaf where
  lev := 0
  is := LeafIs
  hash := fun | .s x => hashStr w x | .b x => if x then 1 else 0
  inj := fun {x y v} hx hy => by
    cases x <;> cases y <;> simp_all [LeafIs]
    · obtain ⟨t, rfl⟩ := hx; obtain ⟨u, hu⟩ := hy; injection hu
  pyHash := fun {A E s k v Q} hu hk hv hq => by
    cases k with
    | s x => obtain ⟨t, rfl⟩ := hv; exact wpAny_pyHash_str (hq _)
    | b x => obtain rfl := hv; exact pyHash_bool hq
  eqBool := fun {A E s x y u v Q} hu hk hx hy hq => by
    have hq := hq s.toks
    cases x with
    | s x =>
      obtain ⟨t, rfl⟩ := hx
      cases y with
      | s y =>
        obtain ⟨t', rfl⟩ := hy
        exact wpAny_eqBool_str (by simpa using hq)
      | b y =>
        obtain rfl := hy
        exact eqBool_val (r := false) rfl (fun _ _ _ _ e => nomatch e) (fun Q' h' => EqMixed.eq_str_bool h') (by simpa using hq)
    | b x =>
      obtain rfl := hx
      cases y with
      | s y =>
        obtain ⟨t', rfl⟩ := hy
        exact eqBool_val (r := false) rfl (fun _ _ _ _ e => nomatch e) (fun Q' h' => EqMixed.eq_bool_str h') (by simpa using hq)
      | b y =>
        obtain rfl := hy
        by_cases e : x = y
        · subst e
          unfold PySem.eqBool
          refine wpAny_holding ?_
          rw [if_pos (by simp)]
          exact wpAny_bind (wpAny_rule (wpAny_pure (by simpa using hq)))
        · exact eqBool_val (r := x == y) (by simpa using e) (fun _ _ _ _ e => nomatch e) (fun Q' h' => eq_bool h') (by have : (x == y) = decide (Leaf.b x = Leaf.b y) := by cases x <;> cases y <;> rfl
                                                                                                                       rw [this]; exact hq)
  quiet := fun n {A E s k v Q} hn hk hv hq => by
    cases k with
    | s x => obtain ⟨t, rfl⟩ := hv; rw [eqIsQuiet_byValue _ rfl]; exact wpAny_pure hq
    | b x => obtain rfl := hv; rw [eqIsQuiet_byValue _ rfl]; exact wpAny_pure hq
theorem tupCls_tuple : TupCls prog w h (.type "tuple") where
  eq_ := Looks.of_pure F.slot_tuple_eq.lookup
  hash_ := Looks.of_pure F.slot_tuple_hash.lookup
  sub := Looks.of_pure isSubtype_tuple_tuple
theorem tupCls_K {K : Frag} {C : Addr} (X : K.In h) (e1 : findIn K (.ref C) "__eq__" = some (some (.builtin "tuple.__eq__"))) (e2 : findIn K (.ref C) "__hash__" = some (some (.builtin "tuple.__hash__"))) (e3 : mroIn K C (.type "tuple") = some true) :
    TupCls prog w h (.ref C) := ⟨looks_findIn X e1, looks_findIn X e2, looks_mroIn X e3⟩
end
end Mine
end
section
open PySem PySem.W PyProof.Rows PySem.Calls
set_option Elab.async false
namespace Mine
section
variable {prog : Program} {w : World} {A : Around} {E : Value → Shared → Prop} {s : Shared} {h : Heap} {α : Type} [DecidableEq α] (K : ItemKind prog w h α)
abbrev Row (α : Type) := α × Value × Value
def ent (x : Row α) : DictEntry := ⟨K.hash x.1, x.2.1, x.2.2⟩
abbrev dicO (xs : List (Row α)) (ep : Nat) : Obj := ⟨.type "dict", none, .dict (xs.map (ent K)).toArray ep, #[]⟩
structure KeysIn (xs : List (Row α)) : Prop where
  is : ∀ x ∈ xs, K.is x.1 x.2.1
  ref : ∀ x ∈ xs, ∃ a, x.2.1 = .ref a
  nodup : (xs.map (·.1)).Nodup
variable {K}
def placeOf (xs : List (Row α)) (k : α) : Option Nat := xs.findIdx? (fun x => decide (x.1 = k))
theorem placeOf_some {xs : List (Row α)} {k : α} (hn : (xs.map (·.1)).Nodup) {j : Nat} {x : Row α} (hj : xs[j]? = some x) (hk : x.1 = k) : placeOf xs k = some j := by
  unfold placeOf
  rw [List.findIdx?_eq_some_iff_getElem]
  obtain ⟨hl, e⟩ := List.getElem?_eq_some_iff.mp hj
  refine ⟨hl, by rw [e, hk]; simp, fun i hi => ?_⟩
  have hi' : i < xs.length := by omega
  simp only [decide_eq_true_eq]
  intro q
  have h1 : (xs.map (·.1))[i]'(by simpa using hi') = (xs.map (·.1))[j]'(by simpa using hl) := by
    simp only [List.getElem_map]; rw [q, e, hk]
  have := (List.getElem_inj hn).mp h1
  omega
theorem placeOf_none {xs : List (Row α)} {k : α} (hn : ∀ (j : Nat) (x : Row α), xs[j]? = some x → x.1 ≠ k) : placeOf xs k = none := by
  unfold placeOf
  rw [List.findIdx?_eq_none_iff]
  intro x hx
  obtain ⟨j, hj⟩ := List.mem_iff_getElem?.mp hx
  simpa using hn j x hj

theorem mayTell {v : Value} {k : α} {stored : List Value} {Q : Bool → Shared → Prop} (hl : K.lev ≤ 8) (hk : h.StaysIn s.heap) (hv : K.is k v) (hs : ∀ u ∈ stored, ∃ j, K.is j u) (hq : Q false s) :
    wpAny (model prog w) A (tableMayTell v stored) Q E s := by
  unfold tableMayTell
  split
  · exact wpAny_pure hq
  · refine wpAny_bind (K.quiet 8 hl hk hv ?_)
    simp only [Bool.not_true, Bool.false_eq_true, if_false]
    refine wpAny_bind (wpAny_forIn_list _ (fun rest r s' => s' = s ∧ r = (none, ()) ∧ ∀ u ∈ rest, ∃ j, K.is j u) _ ?_ ?_ _ _ ⟨rfl, rfl, hs⟩)
    · rintro u rest r s' ⟨rfl, rfl, hr⟩
      obtain ⟨j, hj⟩ := hr u List.mem_cons_self
      refine wpAny_bind (K.quiet 8 hl hk hj ?_)
      simp only [Bool.not_true, Bool.false_eq_true, if_false]
      exact wpAny_pure ⟨rfl, rfl, fun u hu => hr u (List.mem_cons_of_mem _ hu)⟩
    · rintro r s' ⟨rfl, rfl, _⟩
      exact wpAny_pure hq

theorem dicFind {d a : Addr} {xs : List (Row α)} {ep : Nat} {k : α} {Q : Option Nat → Shared → Prop} (hl : K.lev ≤ 8) (hu : A.units + 10 * K.lev < cLine) (hk : h.StaysIn s.heap) (hkey : K.is k (.ref a))
    (ho : s.heap.get? d = some (dicO K xs ep)) (hx : KeysIn K xs) (hq : ∀ tk, Q (placeOf xs k) { s with toks := tk }) :
    wpAny (model prog w) A (dictFind d (.ref a) (K.hash k)) Q E s := by
  have at_ : ∀ j : Nat, ((xs.map (ent K)).toArray)[j]? = (xs[j]?).map (ent K) := fun j => by rw [List.getElem?_toArray, List.getElem?_map]
  have hst : ∀ v ∈ (placesWithHash (xs.map (ent K)).toArray.size (fun i => ((xs.map (ent K)).toArray)[i]?.map (·.hash)) (K.hash k)).filterMap (fun i => ((xs.map (ent K)).toArray)[i]?.map (·.key)), ∃ j, K.is j v := by
    intro v hv
    obtain ⟨i, _, hi⟩ := List.mem_filterMap.mp hv
    rw [at_] at hi
    cases e : xs[i]? with
    | none => rw [e] at hi; cases hi
    | some x => rw [e] at hi; obtain rfl : x.2.1 = v := by simpa [ent] using hi
                exact ⟨x.1, hx.is x (List.mem_of_getElem? e)⟩
  have hany : ¬ ((xs.map (ent K)).toArray.any fun e => e.key == Value.ref a && e.hash != K.hash k) = true := by
    rw [List.any_toArray, List.any_map, List.any_eq_true]
    rintro ⟨x, hm, hc⟩
    simp only [Function.comp, ent, Bool.and_eq_true, beq_iff_eq, bne_iff_ne, ne_eq] at hc
    have := hx.is x hm
    rw [hc.1] at this
    exact hc.2 (by rw [K.inj this hkey])
  unfold dictFind
  refine wpAny_holding (wpAny_bind (wpAny_dictEntries ho rfl ?_))
  dsimp only
  rw [if_neg (show ¬ ((Value.ref a :: _).all carriedByValue) = true by simp [carriedByValue]), if_neg hany]
  generalize hS : (placesWithHash (xs.map (ent K)).toArray.size (fun i => ((xs.map (ent K)).toArray)[i]?.map (·.hash)) (K.hash k)).filterMap (fun i => ((xs.map (ent K)).toArray)[i]?.map (·.key)) = stored at hst ⊢
  by_cases hc : (stored == [Value.ref a]) = true
  all_goals
    first | rw [if_pos hc] | rw [if_neg hc]
    first | refine wpAny_bind (mayTell hl hk hkey hst ?_) | refine wpAny_bind (wpAny_pure ?_)
    rw [if_neg (by simp)]
    refine wpAny_bind (wpAny_forIn_list _
      (fun rest b s' => (∃ tk, s' = { s with toks := tk }) ∧ b.1 = none ∧ rest.Nodup ∧ (∀ i ∈ rest, i < xs.length) ∧
        ((b.2 = none ∧ ∀ (j : Nat) x, xs[j]? = some x → x.1 = k → j ∈ rest) ∨ ∃ (j : Nat) (x : Row α), b.2 = some j ∧ xs[j]? = some x ∧ x.1 = k ∧ j ∉ rest)) _ ?_ ?_ _ _ ⟨⟨_, rfl⟩, rfl, ?_, ?_, ?_⟩)
    · rintro i rest ⟨b1, b2⟩ s' ⟨⟨tk, rfl⟩, hb, hn, hlt, hH⟩
      obtain rfl : b1 = none := hb
      obtain ⟨x, hxi⟩ : ∃ x, xs[i]? = some x := ⟨_, List.getElem?_eq_getElem (hlt i List.mem_cons_self)⟩
      have hxm := List.mem_of_getElem? hxi
      rw [at_, hxi]
      have keep : x.1 ≠ k → ((b2 = none ∧ ∀ (j : Nat) x, xs[j]? = some x → x.1 = k → j ∈ rest) ∨ ∃ (j : Nat) (x : Row α), b2 = some j ∧ xs[j]? = some x ∧ x.1 = k ∧ j ∉ rest) := by
        intro hne
        rcases hH with ⟨h1, h2⟩ | ⟨j, y, h1, h2, h3, h4⟩
        · refine .inl ⟨h1, fun j y hj hy => ?_⟩
          rcases List.mem_cons.mp (h2 j y hj hy) with rfl | hm
          · rw [hxi] at hj; cases hj; exact absurd hy hne
          · exact hm
        · exact .inr ⟨j, y, h1, h2, h3, fun hm => h4 (List.mem_cons_of_mem _ hm)⟩
      have hn' := (List.nodup_cons.mp hn)
      have rest' : ∀ i ∈ rest, i < xs.length := fun i hi => hlt i (List.mem_cons_of_mem _ hi)
      simp only [Option.map_some, ent]
      by_cases hh : (K.hash x.1 == K.hash k) = true
      · rw [if_pos hh]
        refine wpAny_bind (wpAny_dictEpoch ho rfl (wpAny_bind (K.eqBool hu hk (hx.is x hxm) hkey fun tk' => wpAny_bind (wpAny_dictEpoch ho rfl ?_))))
        rw [if_neg (by simp)]
        by_cases hkk : x.1 = k
        · rw [decide_eq_true hkk, if_pos rfl]
          rcases hH with ⟨rfl, h2⟩ | ⟨j, y, h1, h2, h3, h4⟩
          · simp only [Option.isSome_none, Bool.false_eq_true, if_false]
            refine wpAny_bind (wpAny_rule ?_)
            split
            · refine wpAny_pure ?_
              have := hq tk'
              rw [placeOf_some hx.nodup hxi hkk] at this
              exact wpAny_pure this
            · exact wpAny_pure ⟨⟨tk', rfl⟩, rfl, hn'.2, rest', .inr ⟨i, x, rfl, hxi, hkk, hn'.1⟩⟩
          · have e1 := placeOf_some hx.nodup h2 h3
            have e2 := placeOf_some hx.nodup hxi hkk
            rw [e1] at e2; cases e2
            exact absurd List.mem_cons_self h4
        · rw [decide_eq_false hkk]
          simp only [Bool.false_eq_true, if_false, Bool.false_and]
          exact wpAny_bind (wpAny_rule (wpAny_pure ⟨⟨tk', rfl⟩, rfl, hn'.2, rest', keep hkk⟩))
      · rw [if_neg hh]
        exact wpAny_pure ⟨⟨tk, rfl⟩, rfl, hn'.2, rest', keep fun e => hh (by rw [e]; simp)⟩
    · rintro ⟨b1, b2⟩ s' ⟨⟨tk, rfl⟩, hb, _, _, hH⟩
      obtain rfl : b1 = none := hb
      rcases hH with ⟨rfl, h2⟩ | ⟨j, y, rfl, h2, h3, _⟩
      · have e : placeOf xs k = none := placeOf_none fun j x hj hy => List.not_mem_nil (h2 j x hj hy)
        have := hq tk
        rw [e] at this
        exact wpAny_pure this
      · have := hq tk
        rw [placeOf_some hx.nodup h2 h3] at this
        exact wpAny_pure this
    · exact (List.nodup_range).filter _
    · intro i hi
      have := (List.mem_filter.mp hi).1
      simpa using this
    · refine .inl ⟨rfl, fun j x hj hy => ?_⟩
      refine List.mem_filter.mpr ⟨?_, ?_⟩
      · simp; exact (List.getElem?_eq_some_iff.mp hj).1
      · simp only [at_, hj]; simp [ent, hy]
end
end Mine
end
section
open PySem PySem.W PyProof.Rows PySem.Calls
set_option Elab.async false
namespace Mine
section
variable {prog : Program} {w : World} {A : Around} {E : Value → Shared → Prop} {s : Shared} {h : Heap} {α : Type} [DecidableEq α] {K : ItemKind prog w h α}
def valAtRow (xs : List (Row α)) (k : α) : Option Value := (placeOf xs k).bind fun j => (xs[j]?).map (·.2.2)
def setRow (k : α) (v : Value) (x : Row α) : Row α := if x.1 = k then (x.1, x.2.1, v) else x
def putRow (xs : List (Row α)) (k : α) (key v : Value) : List (Row α) := match placeOf xs k with
  | some _ => xs.map (setRow k v)
  | none => xs ++ [(k, key, v)]
theorem placeOf_get {xs : List (Row α)} {k : α} {j : Nat} (e : placeOf xs k = some j) : ∃ x, xs[j]? = some x ∧ x.1 = k := by
  unfold placeOf at e
  rw [List.findIdx?_eq_some_iff_getElem] at e
  obtain ⟨hl, h1, _⟩ := e
  exact ⟨xs[j], List.getElem?_eq_getElem hl, by simpa using h1⟩
theorem placeOf_none_iff {xs : List (Row α)} {k : α} : placeOf xs k = none ↔ k ∉ xs.map (·.1) := by
  unfold placeOf
  rw [List.findIdx?_eq_none_iff]
  simp only [decide_eq_false_iff_not, List.mem_map, not_exists, not_and]
theorem setRow_key (k : α) (v : Value) (x : Row α) : (setRow k v x).1 = x.1 ∧ (setRow k v x).2.1 = x.2.1 := by
  unfold setRow; split <;> exact ⟨rfl, rfl⟩
theorem keys_setRow (xs : List (Row α)) (k : α) (v : Value) : (xs.map (setRow k v)).map (·.1) = xs.map (·.1) := by
  rw [List.map_map]
  exact List.map_congr_left fun x _ => (setRow_key k v x).1
theorem modify_setRow {xs : List (Row α)} {k : α} {j : Nat} {v : Value} (hn : (xs.map (·.1)).Nodup) (e : placeOf xs k = some j) :
    (xs.map (ent K)).toArray.modify j (fun e => { e with val := v }) = ((xs.map (setRow k v)).map (ent K)).toArray := by
  obtain ⟨y, hy, hk⟩ := placeOf_get e
  apply Array.ext'
  rw [Array.toList_modify]
  show (xs.map (ent K)).modify j _ = (xs.map (setRow k v)).map (ent K)
  apply List.ext_getElem?
  intro i
  rw [List.getElem?_modify, List.getElem?_map, List.getElem?_map, List.getElem?_map]
  cases hi : xs[i]? with
  | none => simp
  | some x =>
    simp only [Option.map_some]
    by_cases hij : j = i
    · subst hij
      rw [hy] at hi; cases hi
      simp [setRow, hk, ent]
    · have : x.1 ≠ k := fun q => by
        have e2 := placeOf_some hn hi q
        rw [e] at e2
        exact hij (Option.some.inj e2)
      simp [setRow, this, hij]
theorem KeysIn.put {xs : List (Row α)} {k : α} {a : Addr} {v : Value} (hx : KeysIn K xs) (hkey : K.is k (.ref a)) : KeysIn K (putRow xs k (.ref a) v) := by
  unfold putRow
  cases e : placeOf xs k with
  | some j =>
    dsimp only
    refine ⟨fun x hm => ?_, fun x hm => ?_, by rw [keys_setRow]; exact hx.nodup⟩
    · obtain ⟨y, hy, rfl⟩ := List.mem_map.mp hm
      rw [(setRow_key k v y).1, (setRow_key k v y).2]; exact hx.is y hy
    · obtain ⟨y, hy, rfl⟩ := List.mem_map.mp hm
      rw [(setRow_key k v y).2]; exact hx.ref y hy
  | none =>
    dsimp only
    refine ⟨fun x hm => ?_, fun x hm => ?_, ?_⟩
    · rcases List.mem_append.mp hm with hm | hm
      · exact hx.is x hm
      · obtain rfl := List.mem_singleton.mp hm; exact hkey
    · rcases List.mem_append.mp hm with hm | hm
      · exact hx.ref x hm
      · obtain rfl := List.mem_singleton.mp hm; exact ⟨a, rfl⟩
    · rw [List.map_append, List.nodup_append]
      refine ⟨hx.nodup, by simp, ?_⟩
      intro p hp q hq
      obtain rfl : q = k := by simpa using hq
      exact fun e' => placeOf_none_iff.mp e (e' ▸ hp)
theorem dicO_typeIs {d : Addr} {xs : List (Row α)} {ep : Nat} (ho : s.heap.get? d = some (dicO K xs ep)) : s.TypeIs (.ref d) "dict" := ⟨_, ho, rfl⟩

theorem dicGet {d a : Addr} {xs : List (Row α)} {ep : Nat} {k : α} {Q : Option Value → Shared → Prop} (hl : K.lev ≤ 8) (hu : A.units + 10 * K.lev < cLine) (hk : h.StaysIn s.heap) (hkey : K.is k (.ref a))
    (ho : s.heap.get? d = some (dicO K xs ep)) (hx : KeysIn K xs) (hq : ∀ tk, Q (valAtRow xs k) { s with toks := tk }) : wpAny (model prog w) A (dictGet d (.ref a)) Q E s := by
  unfold dictGet
  refine wpAny_holding (wpAny_bind (K.pyHash hu hk hkey fun tk => wpAny_bind (dicFind (s := { s with toks := tk }) hl hu hk hkey ho hx fun tk' => ?_)))
  have hq := hq tk'
  unfold valAtRow at hq
  cases e : placeOf xs k with
  | none => rw [e] at hq; exact wpAny_pure hq
  | some j =>
    rw [e] at hq
    refine wpAny_bind (wpAny_dictEntries (s := { s with toks := tk' }) ho rfl ?_)
    rw [List.getElem?_toArray, List.getElem?_map, Option.map_map]
    exact wpAny_pure hq
theorem dicSet {d a : Addr} {xs : List (Row α)} {ep : Nat} {k : α} {v : Value} {Q : Unit → Shared → Prop} (hl : K.lev ≤ 8) (hu : A.units + 10 * K.lev < cLine) (hk : h.StaysIn s.heap) (hkey : K.is k (.ref a))
    (ho : s.heap.get? d = some (dicO K xs ep)) (hx : KeysIn K xs) (hz : xs.length ≤ 1000)
    (hq : ∀ h' tk ep', h'.get? d = some (dicO K (putRow xs k (.ref a) v) ep') → Heap.SameBut d s.heap h' → Q () { s with heap := h', toks := tk }) : wpAny (model prog w) A (dictSet d (.ref a) v) Q E s := by
  unfold dictSet
  refine wpAny_holding (wpAny_bind (K.pyHash hu hk hkey fun tk => ?_))
  unfold dictSetHashed
  refine wpAny_holding (wpAny_bind (dicFind (s := { s with toks := tk }) hl hu hk hkey ho hx fun tk' => ?_))
  have hz1 : (xs.map (ent K)).toArray.size ≤ sizeLine := by rw [List.size_toArray, List.length_map, sizeLine_eq]; omega
  cases e : placeOf xs k with
  | some j =>
    refine wpAny_bind (wpAny_rule (wpAny_bind (wpAny_updateDict (s := { s with toks := tk' }) ho rfl (wpAny_point (hq _ tk' ep ?_ (Heap.SameBut.update ..))))))
    rw [Heap.get?_update_self (f := Obj.mapDict fun es => es.modify j fun e => { e with val := v }) (o := dicO K xs ep) ho rfl]
    show some (⟨.type "dict", none, .dict ((xs.map (ent K)).toArray.modify j fun e => { e with val := v }) ep, #[]⟩ : Obj) = _
    rw [modify_setRow hx.nodup e]
    unfold putRow; rw [e]
  | none =>
    refine wpAny_bind (wpAny_rule (wpAny_updateDictKeys (hz := hz1) (s := { s with toks := tk' }) ho rfl (hq _ tk' (ep + 1) ?_ (Heap.SameBut.update ..))))
    rw [Heap.get?_update_self (f := Obj.mapDictKeys fun es => es.push ⟨K.hash k, .ref a, v⟩) (o := dicO K xs ep) ho rfl]
    show some (⟨.type "dict", none, .dict ((xs.map (ent K)).toArray.push ⟨K.hash k, .ref a, v⟩) (ep + 1), #[]⟩ : Obj) = _
    unfold putRow; rw [e]
    simp [ent]
theorem dicItem {d a : Addr} {xs : List (Row α)} {ep : Nat} {k : α} {v : Value} {Q : Value → Shared → Prop} (hl : K.lev ≤ 8) (hu : A.units + 1 + 10 * K.lev < cLine) (hk : h.StaysIn s.heap) (hkey : K.is k (.ref a))
    (ho : s.heap.get? d = some (dicO K xs ep)) (hx : KeysIn K xs) (hv : valAtRow xs k = some v) (hq : ∀ tk, Q v { s with toks := tk }) : wpAny (model prog w) A (getItem (.ref d) (.ref a)) Q E s := by
  unfold getItem
  refine wpAny_holding ?_
  refine wpAny_bind (wpAny_sequenceKey (dicO_typeIs ho) (by decide) ?_)
  refine wpAny_bind (wpAny_callSpecial?_slot (name := Str.ofString "__getitem__") (dicO_typeIs ho) slot_dict_getitem
    (wpAny_call_entry slot_dict_getitem (dicO_typeIs ho) entry_dict_getitem ?_ (args_dict_getitem _ _)))
  show wpAny _ _ (dictGet d (.ref a) >>= _) _ _ s
  refine wpAny_bind (dicGet hl hu hk hkey ho hx fun tk => ?_)
  rw [hv]
  exact wpAny_pure ⟨v, rfl, wpAny_pure (hq tk)⟩
theorem dicStore {d a : Addr} {xs : List (Row α)} {ep : Nat} {k : α} {v : Value} {Q : Unit → Shared → Prop} (hl : K.lev ≤ 8) (hu : A.units + 1 + 10 * K.lev < cLine) (hk : h.StaysIn s.heap) (hkey : K.is k (.ref a))
    (ho : s.heap.get? d = some (dicO K xs ep)) (hx : KeysIn K xs) (hz : xs.length ≤ 1000)
    (hq : ∀ h' tk ep', h'.get? d = some (dicO K (putRow xs k (.ref a) v) ep') → Heap.SameBut d s.heap h' → Q () { s with heap := h', toks := tk }) : wpAny (model prog w) A (setItem (.ref d) (.ref a) v) Q E s := by
  unfold setItem
  refine wpAny_holding ?_
  refine wpAny_bind (wpAny_sequenceKey (dicO_typeIs ho) (by decide) ?_)
  refine wpAny_bind (wpAny_callSpecial?_slot (name := Str.ofString "__setitem__") (dicO_typeIs ho) slot_dict_setitem
    (wpAny_call_entry slot_dict_setitem (dicO_typeIs ho) entry_dict_setitem ?_ (args_dict_setitem _ _ _)))
  show wpAny _ _ (Builtin.Dict.notOrdered "__setitem__" ⟨[.ref d, .ref a, v], []⟩ >>= _) _ _ s
  refine wpAny_bind (wpAny_notOrdered_dict (dicO_typeIs ho) ?_)
  show wpAny _ _ (dictSet d (.ref a) v >>= _) _ _ s
  exact wpAny_bind (dicSet hl hu hk hkey ho hx hz fun h' tk ep' e1 e2 => wpAny_pure ⟨.none, rfl, wpAny_pure (hq h' tk ep' e1 e2)⟩)
theorem dicIn {d a : Addr} {xs : List (Row α)} {ep : Nat} {k : α} {Q : Value → Shared → Prop} (hl : K.lev ≤ 8) (hu : A.units + 1 + 10 * K.lev < cLine) (hk : h.StaysIn s.heap) (hkey : K.is k (.ref a)) (lo : (d == sysModules) = false)
    (ho : s.heap.get? d = some (dicO K xs ep)) (hx : KeysIn K xs) (hq : ∀ tk, Q (.bool (valAtRow xs k).isSome) { s with toks := tk }) : wpAny (model prog w) A (compareOp .In (.ref a) (.ref d)) Q E s := by
  show wpAny _ _ (do return .bool (← contains (.ref d) (.ref a))) Q E s
  refine wpAny_bind ?_
  unfold contains
  refine wpAny_holding (wpAny_bind (wpAny_specialOf (dicO_typeIs ho) slot_dict_contains.lookup ?_))
  show wpAny _ _ (if (some (Value.builtin "dict.__contains__") == some Value.none) = true then _ else _) _ E s
  rw [if_neg (by rw [beq_builtin_none]; exact Bool.false_ne_true)]
  refine wpAny_bind (wpAny_callSpecialUnlessNone?_slot (name := Str.ofString "__contains__") (dicO_typeIs ho) slot_dict_contains
    (wpAny_call_entry slot_dict_contains (dicO_typeIs ho) entry_dict_contains ?_ (args_dict_contains _ _)))
  show wpAny _ _ (dictGet d (.ref a) >>= _) _ _ s
  refine wpAny_bind (dicGet hl hu hk hkey ho hx fun tk => ?_)
  have hq := hq tk
  cases hf : valAtRow xs k with
  | some p =>
    rw [hf] at hq
    show wpAny _ _ (ret (.bool true)) _ _ _
    exact wpAny_pure ⟨_, rfl, wpAny_truthy_bool (wpAny_pure hq)⟩
  | none =>
    rw [hf] at hq
    show wpAny _ _ (Builtin.Dict.pendingKey? d (.ref a) >>= _) _ _ _
    exact wpAny_bind (wpAny_pendingKey_other lo (wpAny_pure ⟨_, rfl, wpAny_truthy_bool (wpAny_pure hq)⟩))
end
end Mine
end
section
open PySem PySem.W PyProof.Rows PySem.Calls
set_option Elab.async false
set_option linter.unusedVariables false
namespace Mine
theorem Tab.probe_out {t : SetTable} (u : Tab.Up t.place) (d : t.dummies = #[]) {hashAt : Nat → Int} {h : Int} {N n : Nat} {p : SetTable.Probe} {r : Option SetTable.Met} (F : Tab.FreeAt t h N) (hN : N ≤ 10 * (13 + t.mask)) (hn : n ≤ N) (hp : p = Tab.walk t.mask (Tab.start t.mask h) n) (e : t.probe hashAt h p = r) :
    ∃ n', n ≤ n' ∧ n' ≤ N ∧ (∀ m, n ≤ m → m < n' → ∃ i : Nat, t.place[i]? = some (Tab.walk t.mask (Tab.start t.mask h) m).j ∧ hashAt i ≠ h) ∧
      ((n' = N ∧ r = some (.empty (Tab.walk t.mask (Tab.start t.mask h) N).j none)) ∨
        ∃ i : Nat, n' < N ∧ t.place[i]? = some (Tab.walk t.mask (Tab.start t.mask h) n').j ∧ hashAt i = h ∧ r = some (.candidate (Tab.walk t.mask (Tab.start t.mask h) n').j i (Tab.walk t.mask (Tab.start t.mask h) (n' + 1)))) := by
  subst hp
  unfold SetTable.probe at e
  subst e
  exact Tab.probe_go u d hashAt h F _ n hn (by unfold SetTable.turns; omega)
section
variable {prog : Program} {w : World} {A : Around} {E : Value → Shared → Prop} {s : Shared} {h : Heap} {α : Type} [DecidableEq α] (K : ItemKind prog w h α)
/-- plain tuples, told by their items, and no class statement about -/
structure Plainly : Prop where
  cls : ∀ {A : Around} {E : Value → Shared → Prop} {s : Shared} {k : α} {v : Value} {Q : Bool → Shared → Prop}, h.StaysIn s.heap → K.is k v → Q false s → wpAny (model prog w) A (ofAClassStatement 8 v) Q E s
  byv : ∀ {A : Around} {E : Value → Shared → Prop} {s : Shared} {k : α} {v : Value} {Q : Bool → Shared → Prop}, h.StaysIn s.heap → K.is k v → Q false s → wpAny (model prog w) A (hashByValue 8 v) Q E s
  ref : ∀ {k v}, K.is k v → ∃ a, v = .ref a
  lev : K.lev ≤ 8
structure SetOk (es : Array (Int × Value)) (t : SetTable) (ks : List α) : Prop where
  mask : Tab.okMask t.mask
  up : Tab.Up t.place
  dum : t.dummies = #[]
  size : t.place.size = es.size
  room : t.place.size * 5 < t.mask * 3
  le : ∀ (i j : Nat), t.place[i]? = some j → j ≤ t.mask
  len : ks.length = es.size
  ents : ∀ (i : Nat) (k : α), ks[i]? = some k → ∃ v, es[i]? = some (K.hash k, v) ∧ K.is k v
  nodup : ks.Nodup
  path : ∀ (i j : Nat) (k : α), t.place[i]? = some j → ks[i]? = some k → ∃ n, (Tab.walk t.mask (Tab.start t.mask (K.hash k)) n).j = j ∧ ∀ m, m < n → ∃ i' : Nat, t.place[i']? = some (Tab.walk t.mask (Tab.start t.mask (K.hash k)) m).j
variable {K}
theorem SetOk.state {M : Model} {a : Addr} {o : Obj} {es : Array (Int × Value)} {ep : Nat} {t : SetTable} {ks : List α} {Q : Array (Int × Value) × Nat × SetTable → Shared → Prop} (I : SetOk K es t ks) (ho : s.heap.get? a = some o) (hd : o.data = .set es ep t) (hq : Q (es, ep, t) s) : wpAny M A (setState a) Q E s := by
  unfold setState
  refine wpAny_bind (wpAny_load ho ?_)
  rw [hd]
  have h1 : (t.place.size != es.size || decide (t.fill > t.mask)) = false := by
    rw [I.size]
    have : ¬ t.fill > t.mask := by unfold SetTable.fill; rw [I.dum]; have := I.room; simp; omega
    simp [this]
  dsimp only
  rw [if_neg (by simpa using h1)]
  exact wpAny_pure hq
theorem SetOk.key {es : Array (Int × Value)} {t : SetTable} {ks : List α} (I : SetOk K es t ks) {i j : Nat} (e : t.place[i]? = some j) : ∃ k, ks[i]? = some k := by
  have h1 := (Array.getElem?_eq_some_iff.mp e).1
  rw [I.size, ← I.len] at h1
  exact ⟨_, List.getElem?_eq_getElem h1⟩
theorem not_seen (P : Plainly K) {x : Addr} {k : α} {Q : Bool → Shared → Prop} (kh : h.StaysIn s.heap) (hx : K.is k (.ref x)) : ∀ (stored : List Value), (∀ u ∈ stored, ∃ j, K.is j u) → Q false s → wpAny (model prog w) A (searchCouldBeSeen (.ref x) stored) Q E s := by
  intro stored hs hq
  unfold searchCouldBeSeen
  refine wpAny_bind (wpAny_forIn_list _ (fun rest r s' => s' = s ∧ r = (none, ()) ∧ ∀ u ∈ rest, ∃ j, K.is j u) _ ?_ ?_ _ _ ⟨rfl, rfl, hs⟩)
  · rintro u rest r s' ⟨rfl, rfl, hr⟩
    obtain ⟨j, hj⟩ := hr u List.mem_cons_self
    have hr' : ∀ u ∈ rest, ∃ j, K.is j u := fun u hu => hr u (List.mem_cons_of_mem _ hu)
    obtain ⟨b, rfl⟩ := P.ref hj
    dsimp only
    split
    · refine wpAny_pure ?_
      exact ⟨rfl, rfl, hr'⟩
    · refine wpAny_bind (K.quiet 8 P.lev kh hx ?_)
      simp only [Bool.not_true, Bool.false_eq_true, if_false]
      refine wpAny_bind (K.quiet 8 P.lev kh hj ?_)
      simp only [Bool.not_true, Bool.false_eq_true, if_false]
      refine wpAny_bind (P.cls kh hx ?_)
      simp only [Bool.false_eq_true, if_false]
      refine wpAny_bind (P.cls kh hj ?_)
      simp only [Bool.false_eq_true, if_false]
      exact wpAny_pure ⟨rfl, rfl, hr'⟩
  · rintro r s' ⟨rfl, rfl, _⟩
    exact wpAny_pure hq
theorem set_search (P : Plainly K) {a x : Addr} {k : α} {es : Array (Int × Value)} {ep : Nat} {t : SetTable} {ks : List α} {o : Obj} {Q : SetFound → Shared → Prop} (hu : A.units + 10 * K.lev < cLine) (kh : h.StaysIn s.heap) (hx : K.is k (.ref x))
    (ho : s.heap.get? a = some o) (hd : o.data = .set es ep t) (I : SetOk K es t ks)
    (hfound : k ∈ ks → ∀ tk, Q (.there none) { s with toks := tk })
    (hfree : k ∉ ks → ∀ n tk, Tab.FreeAt t (K.hash k) n → Q (.free (Tab.walk t.mask (Tab.start t.mask (K.hash k)) n).j false) { s with toks := tk }) :
    wpAny (model prog w) A (setSearch a (.ref x) (K.hash k) true) Q E s := by
  obtain ⟨N, hN, F⟩ := Tab.first_free I.mask I.up I.dum (by have := I.room; omega) (K.hash k)
  have hm : t.mask ≤ 127 := by rcases I.mask with q | q | q <;> omega
  have gen : ∀ (d n fuel : Nat) (tk : Nat) (stand : Option SetTable.Probe), N - n = d → n ≤ N → N + 1 - n ≤ fuel → stand.getD (t.probeStart (K.hash k)) = Tab.walk t.mask (Tab.start t.mask (K.hash k)) n →
      (∀ m, m < n → ∀ i : Nat, t.place[i]? = some (Tab.walk t.mask (Tab.start t.mask (K.hash k)) m).j → ks[i]? ≠ some k) →
      wpAny (model prog w) A (setSearchFrom a (.ref x) (K.hash k) true fuel stand) Q E { s with toks := tk } := by
    intro d
    induction d using Nat.strongRecOn with
    | ind d ih =>
    intro n fuel tk stand hd' hn hf hst hv
    obtain ⟨fuel, rfl⟩ : ∃ f, fuel = f + 1 := ⟨fuel - 1, by omega⟩
    unfold setSearchFrom
    refine wpAny_bind (I.state (s := { s with toks := tk }) ho hd ?_)
    dsimp only
    have hgw : t.gaveWay = false := by unfold SetTable.gaveWay; rcases I.mask with q | q | q <;> rw [q] <;> rfl
    rw [hgw]
    simp only [Bool.false_eq_true, if_false]
    have fin : ∀ n', n ≤ n' → n' ≤ N → (∀ m, m < n' → ∀ i : Nat, t.place[i]? = some (Tab.walk t.mask (Tab.start t.mask (K.hash k)) m).j → ks[i]? ≠ some k) → n' = N → k ∉ ks := by
      intro n' _ _ hv' e hmem
      subst e
      obtain ⟨i0, hi0⟩ := List.mem_iff_getElem?.mp hmem
      have hlt : i0 < t.place.size := by rw [I.size, ← I.len]; exact (List.getElem?_eq_some_iff.mp hi0).1
      have hp : t.place[i0]? = some t.place[i0] := Array.getElem?_eq_getElem hlt
      obtain ⟨n0, e0, path⟩ := I.path i0 _ k hp hi0
      have : n0 < n' ∨ n' ≤ n0 := by omega
      rcases this with q | q
      · exact hv' n0 q i0 (by rw [hp, e0]) hi0
      · have hF := F.1
        rcases Nat.lt_or_eq_of_le q with q | q
        · obtain ⟨i', hi'⟩ := path n' q
          rw [Tab.slot_live I.up hi'] at hF; cases hF
        · subst q
          rw [e0, Tab.slot_live I.up hp] at hF; cases hF
    split
    · rename_i met heq
      obtain ⟨n', a1, a2, a3, a4⟩ := Tab.probe_out I.up I.dum F hN hn hst heq
      have hv' : ∀ m, m < n' → ∀ i : Nat, t.place[i]? = some (Tab.walk t.mask (Tab.start t.mask (K.hash k)) m).j → ks[i]? ≠ some k := by
        intro m hm' i hi hk
        by_cases q : m < n
        · exact hv m q i hi hk
        · obtain ⟨i', b1, b2⟩ := a3 m (by omega) hm'
          have e1 := Tab.slot_live I.up hi
          rw [Tab.slot_live I.up b1] at e1
          injection e1 with e1
          subst e1
          obtain ⟨v, c1, _⟩ := I.ents i' k hk
          apply b2
          show (es[i']?.map (·.1)).getD 0 = K.hash k
          rw [c1]; rfl
      rcases a4 with ⟨e, q⟩ | ⟨i, hlt, hi, hh, q⟩
      · cases q
        exact wpAny_pure (hfree (fin n' a1 a2 hv' e) N tk F)
      · cases q
        obtain ⟨k', hk'⟩ := I.key hi
        obtain ⟨v, c1, c2⟩ := I.ents i k' hk'
        have hst : ∀ u ∈ (es.filter (·.1 == K.hash k)).toList.map (·.2), ∃ j, K.is j u := by
          intro u hu
          obtain ⟨y, hy, rfl⟩ := List.mem_map.mp hu
          have hy' : y ∈ es := (Array.mem_filter.mp (Array.mem_toList_iff.mp hy)).1
          obtain ⟨i1, hi1⟩ := Array.mem_iff_getElem?.mp hy'
          have hl1 := (Array.getElem?_eq_some_iff.mp hi1).1
          rw [← I.len] at hl1
          obtain ⟨v1, d1, d2⟩ := I.ents i1 _ (List.getElem?_eq_getElem hl1)
          rw [hi1] at d1; cases d1
          exact ⟨_, d2⟩
        obtain ⟨b, rfl⟩ := P.ref c2
        dsimp only
        split
        all_goals
          first | (refine wpAny_bind (not_seen (s := { s with toks := tk }) P kh hx _ hst ?_); rw [if_neg (by simp)]) | skip
          rw [c1]
          dsimp only
          refine wpAny_bind (wpAny_holding (K.eqBool hu kh c2 hx fun tk' => ?_))
          refine wpAny_bind (I.state (s := { s with toks := tk' }) ho hd ?_)
          dsimp only
          by_cases hkk : k' = k
          · rw [decide_eq_true hkk]
            simp only [Bool.and_self, if_true]
            exact wpAny_pure (hfound (hkk ▸ List.mem_of_getElem? hk') tk')
          · rw [decide_eq_false hkk]
            simp only [Bool.and_false, Bool.false_eq_true, if_false]
            have sm : t.sameMemory t.moves t.mask = some true := by unfold SetTable.sameMemory; simp
            rw [sm]
            simp only [if_true]
            rw [Tab.slot_live I.up hi]
            dsimp only
            rw [c1]
            dsimp only
            refine wpAny_bind (m := isSame _ _) (wpAny_of_eq (a := true) (by unfold isSame; simp) ?_)
            rw [if_pos rfl]
            refine wpAny_bind (wpAny_pure ?_)
            dsimp only
            refine ih (N - (n' + 1)) (by omega) (n' + 1) fuel tk' (some _) rfl (by omega) (by omega) rfl fun m hm' i' hi' hk => ?_
            by_cases q : m < n'
            · exact hv' m q i' hi' hk
            · obtain rfl : m = n' := by omega
              have e1 := Tab.slot_live I.up hi
              rw [Tab.slot_live I.up hi'] at e1
              injection e1 with e1
              subst e1
              rw [hk'] at hk
              exact hkk (Option.some.inj hk)
    · rename_i heq
      exact (let ⟨n', _, _, _, a4⟩ := Tab.probe_out I.up I.dum F hN hn hst rfl; a4.elim (fun z => heq _ z.2) fun ⟨i, _, _, _, q⟩ => heq _ q).elim
  exact gen (N - 0) 0 100000 s.toks none rfl (Nat.zero_le _) (by omega) rfl (fun m hm => absurd hm (Nat.not_lt_zero _))
end
end Mine
end
section
open PySem PySem.W PyProof.Rows PySem.Calls
set_option Elab.async false
set_option linter.unusedVariables false
namespace Mine
namespace Tab
open SetTable
theorem runEnd_mask {mask i : Nat} (h : i ≤ mask) : runEnd mask i ≤ mask := by unfold runEnd; split <;> omega
theorem runEnd_ge (mask i : Nat) : i ≤ runEnd mask i := by unfold runEnd; split <;> omega
theorem walk_le (mask : Nat) (h : Int) : ∀ n, (walk mask (start mask h) n).j + (walk mask (start mask h) n).more ≤ mask
  | 0 => by
    show bits h % (mask + 1) + (runEnd mask (bits h % (mask + 1)) - bits h % (mask + 1)) ≤ mask
    have h1 : bits h % (mask + 1) ≤ mask := Nat.le_of_lt_succ (Nat.mod_lt _ (Nat.succ_pos _))
    have h2 := runEnd_mask h1
    have h3 := runEnd_ge mask (bits h % (mask + 1))
    omega
  | n + 1 => by
    have ih := walk_le mask h n
    show (adv mask (walk mask (start mask h) n)).j + (adv mask (walk mask (start mask h) n)).more ≤ mask
    generalize walk mask (start mask h) n = p at ih
    unfold adv SetTable.advance
    split
    · dsimp only; omega
    · dsimp only
      have h1 : (leap mask p.i p.perturb).1 ≤ mask := Nat.le_of_lt_succ (Nat.mod_lt _ (Nat.succ_pos _))
      have h2 := runEnd_mask h1
      have h3 := runEnd_ge mask (leap mask p.i p.perturb).1
      omega
theorem ins_get {α : Type} (xs : Array α) {p : Nat} (hp : p ≤ xs.size) (x : α) (i : Nat) : (insertAt xs p x)[i]? = if i < p then xs[i]? else if i = p then some x else xs[i - 1]? := by
  rw [← Array.getElem?_toList, SetTable.toList_insertAt]
  have hl : (xs.toList.take p).length = p := by rw [List.length_take]; simp; omega
  by_cases h1 : i < p
  · rw [if_pos h1, List.getElem?_append_left (by omega), List.getElem?_take_of_lt h1, Array.getElem?_toList]
  · rw [if_neg h1, List.getElem?_append_right (by omega), hl]
    by_cases h2 : i = p
    · rw [if_pos h2, h2]; simp
    · rw [if_neg h2]
      obtain ⟨d, hd⟩ : ∃ d, i - p = d + 1 := ⟨i - p - 1, by omega⟩
      rw [hd, List.getElem?_cons_succ, List.getElem?_drop, Array.getElem?_toList]
      congr 1; omega
theorem ins_size {α : Type} (xs : Array α) (p : Nat) (x : α) : (insertAt xs p x).size = xs.size + 1 := by
  have := (SetTable.insertAt_perm xs p x).length_eq
  simpa using this
theorem up_of_get {xs : Array Nat} (h : ∀ (a b x y : Nat), a < b → xs[a]? = some x → xs[b]? = some y → x < y) : Up xs := fun a b h1 h2 => by
  have e1 : xs[a]? = some (xs.getD a 0) := by simp [Array.getD, Nat.lt_trans h1 h2]
  have e2 : xs[b]? = some (xs.getD b 0) := by simp [Array.getD, h2]
  exact h a b _ _ h1 e1 e2
theorem up_get {xs : Array Nat} (u : Up xs) {a b x y : Nat} (h : a < b) (e1 : xs[a]? = some x) (e2 : xs[b]? = some y) : x < y := by
  obtain ⟨_, q1⟩ := getD_of e1
  obtain ⟨h2, q2⟩ := getD_of e2
  rw [← q1, ← q2]; exact u a b h h2
theorem ins_up {xs : Array Nat} (u : Up xs) {j : Nat} (n : ∀ i : Nat, xs[i]? ≠ some j) : Up (insertAt xs (below xs j) j) := by
  obtain ⟨b1, b2, b3⟩ := below_spec u j
  have lo : ∀ i x, i < below xs j → xs[i]? = some x → x < j := fun i x h e => by obtain ⟨_, q⟩ := getD_of e; rw [← q]; exact b2 i h
  have hi : ∀ i x, below xs j ≤ i → xs[i]? = some x → j < x := fun i x h e => by
    obtain ⟨h1, q⟩ := getD_of e
    have h3 := b3 i h h1
    rw [q] at h3
    exact Nat.lt_of_le_of_ne h3 fun z => n i (z ▸ e)
  refine up_of_get fun a b x y hab e1 e2 => ?_
  rw [ins_get xs b1] at e1 e2
  by_cases a1 : a < below xs j
  · rw [if_pos a1] at e1
    by_cases c1 : b < below xs j
    · rw [if_pos c1] at e2; exact up_get u hab e1 e2
    · rw [if_neg c1] at e2
      by_cases c2 : b = below xs j
      · rw [if_pos c2] at e2; cases e2; exact lo _ _ a1 e1
      · rw [if_neg c2] at e2; exact Nat.lt_trans (lo _ _ a1 e1) (hi _ _ (by omega) e2)
  · rw [if_neg a1] at e1
    by_cases a2 : a = below xs j
    · rw [if_pos a2] at e1; cases e1
      rw [if_neg (by omega), if_neg (by omega)] at e2
      exact hi _ _ (by omega) e2
    · rw [if_neg a2] at e1
      rw [if_neg (by omega), if_neg (by omega)] at e2
      exact up_get u (by omega) e1 e2

/-- laying anew -/
def Occ (owner : Array (Option Nat)) (j : Nat) : Prop := ∃ k, owner[j]? = some (some k)
theorem free_spec {mask : Nat} (owner : Array (Option Nat)) (hs : owner.size = mask + 1) (p0 : Probe) (hle : ∀ n, (walk mask p0 n).j + (walk mask p0 n).more ≤ mask) : ∀ (fuel s i pt m e : Nat), walk mask p0 s = runAt mask i pt → (∀ n, n < s → Occ owner (walk mask p0 n).j) →
    m < fuel → (leaps mask m (i, pt)).1 = e → owner[e]? = some none → ∃ n j, layClean.free mask owner fuel i pt = some j ∧ (walk mask p0 n).j = j ∧ owner[j]? = some none ∧ ∀ n', n' < n → Occ owner (walk mask p0 n').j
  | 0, s, i, pt, m, e, _, _, h, _, _ => absurd h (Nat.not_lt_zero _)
  | fuel + 1, s, i, pt, m, e, hw, ho, hm, he, hn => by
    unfold layClean.free
    have hi : i + (runEnd mask i - i) ≤ mask := by have := hle s; rw [hw] at this; exact this
    have hge := runEnd_ge mask i
    have pos : ∀ k, k ≤ runEnd mask i - i → (walk mask p0 (s + k)).j = i + k := fun k hk => by
      rw [walk_add, hw]; exact run_in mask i pt _ _ k hk
    have at_ : ∀ k, k ≤ runEnd mask i - i → owner[i + k]? = some (owner.getD (i + k) (some 0)) := fun k hk => by
      have : i + k < owner.size := by omega
      simp [Array.getD, this]
    cases hf : (List.range (runEnd mask i + 1 - i)).find? fun k => (owner.getD (i + k) (some 0)).isNone with
    | some k =>
      have hk := List.find?_some hf
      have hmem := List.mem_range.mp (List.mem_of_find?_eq_some hf)
      have hkr : k ≤ runEnd mask i - i := by omega
      refine ⟨s + k, i + k, rfl, pos k hkr, ?_, fun n' hn' => ?_⟩
      · rw [at_ k hkr]
        simp only [Option.isNone_iff_eq_none] at hk
        rw [hk]
      · by_cases q : n' < s
        · exact ho n' q
        · obtain ⟨d, rfl⟩ : ∃ d, n' = s + d := ⟨n' - s, by omega⟩
          have hd : d < k := by omega
          rw [pos d (by omega)]
          have := List.find?_eq_some_iff_getElem.mp hf
          obtain ⟨_, i', hi', e1, e2⟩ := this
          have : i' = k := by simpa using e1
          subst this
          have := e2 d hd
          simp only [List.getElem_range, Bool.not_eq_true'] at this
          cases q' : owner.getD (i + d) (some 0) with
          | none => rw [q'] at this; cases this
          | some z => exact ⟨z, by rw [at_ d (by omega), q']⟩
    | none =>
      have hno : ∀ k, k ≤ runEnd mask i - i → Occ owner (i + k) := fun k hk => by
        have := List.find?_eq_none.mp hf k (List.mem_range.mpr (by omega))
        cases q' : owner.getD (i + k) (some 0) with
        | none => rw [q'] at this; simp at this
        | some z => exact ⟨z, by rw [at_ k hk, q']⟩
      have hm0 : m ≠ 0 := by
        rintro rfl
        obtain ⟨z, hz⟩ := hno 0 (Nat.zero_le _)
        have : i = e := he
        rw [Nat.add_zero, this, hn] at hz; cases hz
      obtain ⟨m', rfl⟩ : ∃ m', m = m' + 1 := ⟨m - 1, by omega⟩
      dsimp only
      refine free_spec owner hs p0 hle fuel (s + (runEnd mask i - i + 1)) _ _ m' e ?_ (fun n' hn' => ?_) (by omega) he hn
      · rw [walk_add, hw]; exact run_end mask i pt _ _
      · by_cases q : n' < s
        · exact ho n' q
        · obtain ⟨d, rfl⟩ : ∃ d, n' = s + d := ⟨n' - s, by omega⟩
          rw [pos d (by omega)]; exact hno d (by omega)
structure Lay (mask : Nat) (hs : List Int) (owner : Array (Option Nat)) : Prop where
  size : owner.size = mask + 1
  cnt : owner.toList.countP (·.isNone) + hs.length = mask + 1
  lt : ∀ (j k : Nat), owner[j]? = some (some k) → k < hs.length
  one : ∀ (j j' k : Nat), owner[j]? = some (some k) → owner[j']? = some (some k) → j = j'
  at_ : ∀ (k : Nat) (h : Int), hs[k]? = some h → ∃ n, owner[(walk mask (start mask h) n).j]? = some (some k) ∧ ∀ m, m < n → Occ owner (walk mask (start mask h) m).j
theorem lay_step {mask : Nat} (c : okMask mask) {hs : List Int} {owner : Array (Option Nat)} (L : Lay mask hs owner) (hl : hs.length ≤ mask) (h : Int) :
    ∃ j, layClean.free mask owner (turns mask) (bits h % (mask + 1)) (bits h) = some j ∧ Lay mask (hs ++ [h]) (owner.setIfInBounds j (some hs.length)) := by
  have hpos : 0 < owner.toList.countP (·.isNone) := by have := L.cnt; omega
  obtain ⟨y, hy, hyn⟩ := List.countP_pos_iff.mp hpos
  obtain ⟨e, he⟩ := List.mem_iff_getElem?.mp hy
  rw [Array.getElem?_toList] at he
  have hyn' : y = none := by simpa using hyn
  subst hyn'
  have hel : e ≤ mask := by have := (Array.getElem?_eq_some_iff.mp he).1; have := L.size; omega
  obtain ⟨_, _, _, m, hm, em⟩ := reach c h hel
  obtain ⟨n, j, e1, e2, e3, e4⟩ := free_spec owner L.size (start mask h) (walk_le mask h) (turns mask) 0 _ _ m e rfl (fun n hn => absurd hn (Nat.not_lt_zero _)) (by unfold turns; omega) em he
  have hj : j < owner.size := (Array.getElem?_eq_some_iff.mp e3).1
  have get : ∀ i : Nat, (owner.setIfInBounds j (some hs.length))[i]? = if j = i then some (some hs.length) else owner[i]? := fun i => by
    rw [Array.getElem?_setIfInBounds]; simp [hj]
  have up : ∀ i, Occ owner i → Occ (owner.setIfInBounds j (some hs.length)) i := fun i ⟨z, hz⟩ => by
    unfold Occ; rw [get]; split
    · exact ⟨_, rfl⟩
    · exact ⟨z, hz⟩
  have ne : ∀ i, Occ owner i → j ≠ i := fun i ⟨z, hz⟩ q => by rw [← q, e3] at hz; cases hz
  refine ⟨j, e1, by rw [Array.size_setIfInBounds]; exact L.size, ?_, fun i k hi => ?_, fun i i' k hi hi' => ?_, fun k h' hk => ?_⟩
  · rw [Array.toList_setIfInBounds, List.countP_set (by simpa using hj)]
    have : owner.toList[j]'(by simpa using hj) = none := by
      have := (Array.getElem?_eq_some_iff.mp e3).2
      simpa using this
    rw [this]
    have := L.cnt
    simp only [Option.isNone_none, if_true, Option.isNone_some, Bool.false_eq_true, if_false, List.length_append, List.length_singleton]
    omega
  · rw [get] at hi
    rw [List.length_append, List.length_singleton]
    split at hi
    · cases hi; omega
    · have := L.lt i k hi; omega
  · rw [get] at hi hi'
    split at hi <;> split at hi'
    · omega
    · cases hi; exact absurd (L.lt _ _ hi') (Nat.lt_irrefl _)
    · cases hi'; exact absurd (L.lt _ _ hi) (Nat.lt_irrefl _)
    · exact L.one _ _ _ hi hi'
  · by_cases q : k < hs.length
    · rw [List.getElem?_append_left q] at hk
      obtain ⟨n', a1, a2⟩ := L.at_ k h' hk
      refine ⟨n', ?_, fun m' hm' => up _ (a2 m' hm')⟩
      rw [get, if_neg (ne _ ⟨_, a1⟩)]; exact a1
    · have hlt := (List.getElem?_eq_some_iff.mp hk).1
      rw [List.length_append, List.length_singleton] at hlt
      obtain rfl : k = hs.length := by omega
      rw [List.getElem?_append_right (Nat.le_refl _), Nat.sub_self] at hk
      cases hk
      exact ⟨n, by rw [e2, get, if_pos rfl], fun m' hm' => up _ (e4 m' hm')⟩
theorem lay_all {mask : Nat} (c : okMask mask) (hs : List Int) (hl : hs.length ≤ mask) : ∃ owner, layClean mask hs.toArray = some owner ∧ Lay mask hs owner := by
  have gen : ∀ (rest done : List Int) (owner : Array (Option Nat)), (done ++ rest).length ≤ mask → Lay mask done owner → ∃ owner', rest.foldl (init := some (owner, done.length)) (fun acc h => do
      let (owner, k) ← acc
      let j ← layClean.free mask owner (turns mask) (bits h % (mask + 1)) (bits h)
      pure (owner.setIfInBounds j (some k), k + 1)) = some (owner', (done ++ rest).length) ∧ Lay mask (done ++ rest) owner' := by
    intro rest
    induction rest with
    | nil => intro done owner _ L; exact ⟨owner, by simp, by simpa using L⟩
    | cons h rest ih =>
      intro done owner hl L
      obtain ⟨j, e1, L'⟩ := lay_step c L (by simp at hl; omega) h
      obtain ⟨owner', e2, L2⟩ := ih (done ++ [h]) _ (by simpa using hl) L'
      refine ⟨owner', ?_, by simpa using L2⟩
      rw [List.foldl_cons]
      simp only [Option.pure_def, Option.bind_eq_bind, Option.bind_some, e1]
      have : (done ++ [h]).length = done.length + 1 := by simp
      rw [this] at e2
      simpa using e2
  obtain ⟨owner, e, L⟩ := gen hs [] (Array.replicate (mask + 1) none) (by simpa using hl) ⟨by simp, by simp [List.countP_replicate], fun j k hj => by
    simp [Array.getElem?_replicate] at hj, fun j j' k hj => by simp [Array.getElem?_replicate] at hj, fun k h hk => by simp at hk⟩
  refine ⟨owner, ?_, by simpa using L⟩
  unfold layClean
  rw [List.foldl_toArray]
  simp only [List.length_nil] at e
  rw [e]; rfl
end Tab
end Mine
end
section
open PySem PySem.W PyProof.Rows PySem.Calls
set_option Elab.async false
set_option linter.unusedVariables false
namespace Mine
open SetTable in
theorem fm_get {β γ : Type} {g : β → Option γ} : ∀ {l : List β}, (∀ k ∈ l, (g k).isSome = true) → ∀ i : Nat, (l.filterMap g)[i]? = (l[i]?).bind g
  | [], _, i => by simp
  | k :: l, h, i => by
    obtain ⟨y, hy⟩ := Option.isSome_iff_exists.mp (h k (.head _))
    rw [List.filterMap_cons_some hy]
    cases i with
    | zero => simp [hy]
    | succ i => simpa using fm_get (fun k hk => h k (.tail _ hk)) i
theorem nodup_get {β : Type} {l : List β} (h : l.Nodup) {i j : Nat} {x : β} (e : l[i]? = some x) (e' : l[j]? = some x) : i = j := by
  obtain ⟨h1, q1⟩ := List.getElem?_eq_some_iff.mp e
  obtain ⟨h2, q2⟩ := List.getElem?_eq_some_iff.mp e'
  exact (List.getElem_inj h).mp (q1.trans q2.symm)
section
variable {prog : Program} {w : World} {A : Around} {E : Value → Shared → Prop} {s : Shared} {h : Heap} {α : Type} [DecidableEq α] (K : ItemKind prog w h α)
structure Ents (es : Array (Int × Value)) (ks : List α) : Prop where
  len : ks.length = es.size
  ents : ∀ (i : Nat) (k : α), ks[i]? = some k → ∃ v, es[i]? = some (K.hash k, v) ∧ K.is k v
  nodup : ks.Nodup
/-- what is so before room is looked at -/
structure Loose (es : Array (Int × Value)) (t : SetTable) (ks : List α) : Prop where
  mask : Tab.okMask t.mask
  up : Tab.Up t.place
  dum : t.dummies = #[]
  size : t.place.size = es.size
  fits : t.place.size ≤ t.mask
  le : ∀ (i j : Nat), t.place[i]? = some j → j ≤ t.mask
  en : Ents K es ks
  path : ∀ (i j : Nat) (k : α), t.place[i]? = some j → ks[i]? = some k → ∃ n, (Tab.walk t.mask (Tab.start t.mask (K.hash k)) n).j = j ∧ ∀ m, m < n → ∃ i' : Nat, t.place[i']? = some (Tab.walk t.mask (Tab.start t.mask (K.hash k)) m).j
variable {K}
theorem Loose.ok {es : Array (Int × Value)} {t : SetTable} {ks : List α} (L : Loose K es t ks) (r : t.place.size * 5 < t.mask * 3) : SetOk K es t ks := ⟨L.mask, L.up, L.dum, L.size, r, L.le, L.en.len, L.en.ents, L.en.nodup, L.path⟩
theorem SetOk.loose {es : Array (Int × Value)} {t : SetTable} {ks : List α} (I : SetOk K es t ks) : Loose K es t ks := ⟨I.mask, I.up, I.dum, I.size, by have := I.room; omega, I.le, ⟨I.len, I.ents, I.nodup⟩, I.path⟩
theorem Loose.state {M : Model} {a : Addr} {o : Obj} {es : Array (Int × Value)} {ep : Nat} {t : SetTable} {ks : List α} {Q : Array (Int × Value) × Nat × SetTable → Shared → Prop} (I : Loose K es t ks) (ho : s.heap.get? a = some o) (hd : o.data = .set es ep t) (hq : Q (es, ep, t) s) : wpAny M A (setState a) Q E s := by
  unfold setState
  refine wpAny_bind (wpAny_load ho ?_)
  rw [hd]
  have h1 : (t.place.size != es.size || decide (t.fill > t.mask)) = false := by
    rw [I.size]
    have : ¬ t.fill > t.mask := by unfold SetTable.fill; rw [I.dum]; have := I.fits; simp; omega
    simp [this]
  dsimp only
  rw [if_neg (by simpa using h1)]
  exact wpAny_pure hq
/-- laid anew, all is as before but for the order -/
theorem relaid_ok {es : Array (Int × Value)} {ks : List α} (N : Ents K es ks) {mask f m : Nat} {led pl : Bool} (c : Tab.okMask mask) (hl : es.size ≤ mask) :
    ∃ (t' : SetTable) (order : Array Nat) (ks' : List α), SetTable.laid mask f m led pl (es.map (·.1)) = some (t', order) ∧ (order.filterMap (es[·]?)).size = es.size ∧ Loose K (order.filterMap (es[·]?)) t' ks' ∧ t'.mask = mask ∧ t'.plain = pl ∧ t'.led = led ∧ ∀ k, k ∈ ks' ↔ k ∈ ks := by
  have hhs : (es.map (·.1)) = (es.toList.map (·.1)).toArray := by apply Array.toList_inj.mp; simp
  obtain ⟨owner, e, L⟩ := Tab.lay_all c (es.toList.map (·.1)) (by simpa using hl)
  rw [← hhs] at e
  have hn : (es.toList.map (·.1)).length = es.size := by simp
  generalize hlive : (List.range (mask + 1)).filterMap (fun j => (owner.getD j none).map (j, ·)) = live
  have mem : ∀ j k, (j, k) ∈ live ↔ owner[j]? = some (some k) := fun j k => by
    rw [← hlive, List.mem_filterMap]
    constructor
    · rintro ⟨j', hj', q⟩
      rw [List.mem_range] at hj'
      have hs : j' < owner.size := by rw [L.size]; exact hj'
      cases q' : owner.getD j' none with
      | none => rw [q'] at q; cases q
      | some z =>
        rw [q'] at q
        simp only [Option.map_some, Option.some.injEq, Prod.mk.injEq] at q
        obtain ⟨rfl, rfl⟩ := q
        have : owner[j']? = some (owner.getD j' none) := by simp [Array.getD, hs]
        rw [this, q']
    · intro q
      obtain ⟨h1, h2⟩ := Array.getElem?_eq_some_iff.mp q
      refine ⟨j, List.mem_range.mpr (by rw [← L.size]; exact h1), ?_⟩
      have : owner.getD j none = some k := by simp [Array.getD, h1, h2]
      rw [this]; rfl
  have rise : live.Pairwise fun x y => x.1 < y.1 := by
    rw [← hlive]
    refine List.Pairwise.filterMap _ (fun a a' hlt b hb b' hb' => ?_) (List.pairwise_lt_range (n := mask + 1))
    cases q : owner.getD a none with
    | none => rw [q] at hb; simp at hb
    | some z =>
      cases q' : owner.getD a' none with
      | none => rw [q'] at hb'; simp at hb'
      | some z' =>
        rw [q] at hb; rw [q'] at hb'
        simp at hb hb'
        subst hb hb'
        exact hlt
  have ondup : (live.map (·.2)).Nodup := by
    rw [List.Nodup, List.pairwise_map]
    refine List.Pairwise.imp_of_mem (fun {x y} hx hy hlt heq => ?_) rise
    have h1 := (mem x.1 x.2).mp hx
    have h2 := (mem y.1 y.2).mp hy
    rw [← heq] at h2
    have := L.one _ _ _ h1 h2
    omega
  have omem : ∀ k, k ∈ live.map (·.2) ↔ k < es.size := fun k => by
    constructor
    · intro hk
      obtain ⟨⟨j, k'⟩, hx, rfl⟩ := List.mem_map.mp hk
      have := L.lt j _ ((mem j _).mp hx)
      rw [hn] at this; exact this
    · intro hk
      obtain ⟨n, q, _⟩ := L.at_ k _ (List.getElem?_eq_getElem (by rw [hn]; exact hk))
      exact List.mem_map.mpr ⟨(_, k), (mem _ k).mpr q, rfl⟩
  have operm : (live.map (·.2)).Perm (List.range es.size) := (List.perm_ext_iff_of_nodup ondup List.nodup_range).mpr fun k => by rw [omem, List.mem_range]
  have llen : live.length = es.size := by have := operm.length_eq; simpa using this
  have some_es : ∀ k ∈ live.map (·.2), ((fun i : Nat => es[i]?) k).isSome = true := fun k hk => by have := (omem k).mp hk; simp [this]
  have some_ks : ∀ k ∈ live.map (·.2), ((fun i : Nat => ks[i]?) k).isSome = true := fun k hk => by have := (omem k).mp hk; rw [← N.len] at this; simp [this]
  have es_get : ∀ i : Nat, (((live.map (·.2)).toArray).filterMap (es[·]?))[i]? = (live[i]?).bind fun x => es[x.2]? := fun i => by
    rw [← Array.getElem?_toList, Array.toList_filterMap, fm_get some_es, List.getElem?_map]; cases live[i]? <;> rfl
  have ks_get : ∀ i : Nat, ((live.map (·.2)).filterMap (ks[·]?))[i]? = (live[i]?).bind fun x => ks[x.2]? := fun i => by
    rw [fm_get some_ks, List.getElem?_map]; cases live[i]? <;> rfl
  have es_size : (((live.map (·.2)).toArray).filterMap (es[·]?)).size = es.size := by
    rw [← Array.length_toList, Array.toList_filterMap]
    have : ((live.map (·.2)).filterMap (fun i : Nat => es[i]?)).length = (live.map (·.2)).length := by
      have gen : ∀ (l : List Nat), (∀ k ∈ l, ((fun i : Nat => es[i]?) k).isSome = true) → (l.filterMap (fun i : Nat => es[i]?)).length = l.length := by
        intro l
        induction l with
        | nil => intro _; rfl
        | cons k l ih =>
          intro hk
          obtain ⟨y, hy⟩ := Option.isSome_iff_exists.mp (hk k (.head _))
          rw [List.filterMap_cons_some hy, List.length_cons, List.length_cons, ih fun k h => hk k (.tail _ h)]
      exact gen _ some_es
    rw [this, List.length_map, llen]
  have pl_get : ∀ (i j : Nat), ((live.map (·.1)).toArray)[i]? = some j → ∃ k, live[i]? = some (j, k) := fun i j q => by
    rw [List.getElem?_toArray, List.getElem?_map] at q
    cases q' : live[i]? with
    | none => rw [q'] at q; cases q
    | some x => rw [q'] at q; cases q; exact ⟨x.2, rfl⟩
  refine ⟨{ mask, place := (live.map (·.1)).toArray, dummies := #[], finger := f, led, moves := m, plain := pl }, (live.map (·.2)).toArray, (live.map (·.2)).filterMap (ks[·]?), ?_, es_size, ⟨c, ?_, rfl, ?_, ?_, ?_, ⟨?_, ?_, ?_⟩, ?_⟩, rfl, rfl, rfl, ?_⟩
  · unfold SetTable.laid
    rw [e]
    simp only [Option.bind_eq_bind, Option.bind_some, Option.pure_def, hlive]
  · refine Tab.up_of_get fun a b x y hab e1 e2 => ?_
    obtain ⟨k1, q1⟩ := pl_get _ _ e1
    obtain ⟨k2, q2⟩ := pl_get _ _ e2
    obtain ⟨h1, r1⟩ := List.getElem?_eq_some_iff.mp q1
    obtain ⟨h2, r2⟩ := List.getElem?_eq_some_iff.mp q2
    have := (List.pairwise_iff_getElem.mp rise) a b h1 h2 hab
    rw [r1, r2] at this; exact this
  · show ((live.map (·.1)).toArray).size = _
    rw [es_size]; simp [llen]
  · show ((live.map (·.1)).toArray).size ≤ mask
    simp [llen]; exact hl
  · intro i j q
    obtain ⟨k, q'⟩ := pl_get _ _ q
    have := (mem j k).mp (List.mem_of_getElem? q')
    have := (Array.getElem?_eq_some_iff.mp this).1
    rw [L.size] at this
    show j ≤ mask
    omega
  · rw [es_size]
    have gen : ∀ (l : List Nat), (∀ k ∈ l, ((fun i : Nat => ks[i]?) k).isSome = true) → (l.filterMap (fun i : Nat => ks[i]?)).length = l.length := by
      intro l
      induction l with
      | nil => intro _; rfl
      | cons k l ih =>
        intro hk
        obtain ⟨y, hy⟩ := Option.isSome_iff_exists.mp (hk k (.head _))
        rw [List.filterMap_cons_some hy, List.length_cons, List.length_cons, ih fun k h => hk k (.tail _ h)]
    rw [gen _ some_ks, List.length_map, llen]
  · intro i k q
    rw [ks_get] at q
    rw [es_get]
    cases q' : live[i]? with
    | none => rw [q'] at q; cases q
    | some x => rw [q'] at q; exact N.ents x.2 k q
  · refine List.Pairwise.filterMap _ (fun a a' hne b hb b' hb' heq => ?_) ondup
    subst heq
    exact hne (nodup_get N.nodup hb hb')
  · intro i j k q1 q2
    obtain ⟨kk, q'⟩ := pl_get _ _ q1
    rw [ks_get, q'] at q2
    obtain ⟨v, b1, _⟩ := N.ents kk k q2
    have hk : (es.toList.map (·.1))[kk]? = some (K.hash k) := by rw [List.getElem?_map, Array.getElem?_toList, b1]; rfl
    obtain ⟨n, a1, a2⟩ := L.at_ kk _ hk
    refine ⟨n, L.one _ _ _ a1 ((mem j kk).mp (List.mem_of_getElem? q')), fun m' hm' => ?_⟩
    obtain ⟨z, hz⟩ := a2 m' hm'
    obtain ⟨i', hi'⟩ := List.mem_iff_getElem?.mp ((mem _ z).mpr hz)
    exact ⟨i', by show ((live.map (·.1)).toArray)[i']? = _; rw [List.getElem?_toArray, List.getElem?_map, hi']; rfl⟩
  · intro k
    rw [List.mem_filterMap]
    constructor
    · rintro ⟨i, _, q⟩; exact List.mem_of_getElem? q
    · intro hk
      obtain ⟨i, q⟩ := List.mem_iff_getElem?.mp hk
      refine ⟨i, (omem i).mpr ?_, q⟩
      rw [← N.len]; exact (List.getElem?_eq_some_iff.mp q).1
end
end Mine
end
section
open PySem PySem.W PyProof.Rows PySem.Calls
set_option Elab.async false
set_option linter.unusedVariables false
namespace Mine
section
variable {prog : Program} {w : World} {A : Around} {E : Value → Shared → Prop} {s : Shared} {h : Heap} {α : Type} [DecidableEq α] {K : ItemKind prog w h α}
theorem insert_ok {es : Array (Int × Value)} {t : SetTable} {ks : List α} {k : α} {v : Value} {n : Nat} {pl : Bool} (I : SetOk K es t ks) (hk : k ∉ ks) (hv : K.is k v) (F : Tab.FreeAt t (K.hash k) n) :
    Loose K (SetTable.insertAt es (SetTable.below t.place (Tab.walk t.mask (Tab.start t.mask (K.hash k)) n).j) (K.hash k, v)) { (t.put (Tab.walk t.mask (Tab.start t.mask (K.hash k)) n).j).1 with plain := pl }
      (SetTable.insertAt ks.toArray (SetTable.below t.place (Tab.walk t.mask (Tab.start t.mask (K.hash k)) n).j) k).toList := by
  generalize hj : (Tab.walk t.mask (Tab.start t.mask (K.hash k)) n).j = j
  have jm : j ≤ t.mask := by have := Tab.walk_le t.mask (K.hash k) n; omega
  have nj : ∀ i : Nat, t.place[i]? ≠ some j := fun i e => by
    have := F.1
    rw [hj, Tab.slot_live I.up e] at this; cases this
  obtain ⟨b1, _, _⟩ := Tab.below_spec I.up j
  generalize hp : SetTable.below t.place j = p at b1
  have pe : p ≤ es.size := by rw [← I.size]; exact b1
  have pk : p ≤ ks.toArray.size := by rw [List.size_toArray, I.len]; exact pe
  have hplace : (t.put j).1.place = SetTable.insertAt t.place p j := by unfold SetTable.put; rw [hp]
  have hdum : (t.put j).1.dummies = #[] := by unfold SetTable.put; rw [I.dum, Tab.has_empty]; rfl
  have hmask : (t.put j).1.mask = t.mask := rfl
  have pg := fun i => Tab.ins_get t.place b1 j i
  have eg := fun i => Tab.ins_get es pe (K.hash k, v) i
  have kg := fun i => Tab.ins_get ks.toArray pk k i
  have kgl : ∀ i : Nat, (SetTable.insertAt ks.toArray p k).toList[i]? = if i < p then ks[i]? else if i = p then some k else ks[i - 1]? := fun i => by
    rw [Array.getElem?_toList, kg]; simp
  have up : ∀ x, (∃ i : Nat, t.place[i]? = some x) → ∃ i : Nat, (SetTable.insertAt t.place p j)[i]? = some x := by
    rintro x ⟨i, q⟩
    by_cases z : i < p
    · exact ⟨i, by rw [pg, if_pos z]; exact q⟩
    · exact ⟨i + 1, by rw [pg, if_neg (by omega), if_neg (by omega)]; exact q⟩
  refine ⟨hmask ▸ I.mask, ?_, hdum, ?_, ?_, ?_, ⟨?_, ?_, ?_⟩, ?_⟩
  · show Tab.Up (t.put j).1.place
    rw [hplace, ← hp]; exact Tab.ins_up I.up nj
  · show (t.put j).1.place.size = _
    rw [hplace, Tab.ins_size, Tab.ins_size, I.size]
  · show (t.put j).1.place.size ≤ t.mask
    rw [hplace, Tab.ins_size]; have := I.room; omega
  · intro i x q
    replace q : (t.put j).1.place[i]? = some x := q
    show x ≤ t.mask
    rw [hplace, pg] at q
    split at q
    · exact I.le _ _ q
    · split at q
      · cases q; exact jm
      · exact I.le _ _ q
  · rw [Array.length_toList, Tab.ins_size, Tab.ins_size, List.size_toArray, I.len]
  · intro i y q
    rw [kgl] at q
    rw [eg]
    split at q
    · rw [if_pos (by assumption)]; exact I.ents _ _ q
    · rw [if_neg (by assumption)]
      split at q
      · rw [if_pos (by assumption)]; cases q; exact ⟨v, rfl, hv⟩
      · rw [if_neg (by assumption)]; exact I.ents _ _ q
  · have := SetTable.insertAt_perm ks.toArray p k
    rw [this.nodup_iff]
    rw [Array.toList_push]
    rw [List.nodup_append]
    refine ⟨I.nodup, by simp, ?_⟩
    intro a ha b hb
    obtain rfl : b = k := by simpa using hb
    exact fun e => hk (e ▸ ha)
  · intro i x y q1 q2
    replace q1 : (t.put j).1.place[i]? = some x := q1
    show ∃ n', (Tab.walk t.mask (Tab.start t.mask (K.hash y)) n').j = x ∧ ∀ m, m < n' → ∃ i' : Nat, (t.put j).1.place[i']? = some (Tab.walk t.mask (Tab.start t.mask (K.hash y)) m).j
    rw [hplace] at q1 ⊢
    rw [pg] at q1
    rw [kgl] at q2
    have old : ∀ i : Nat, t.place[i]? = some x → ks[i]? = some y → ∃ n', (Tab.walk t.mask (Tab.start t.mask (K.hash y)) n').j = x ∧ ∀ m, m < n' → ∃ i' : Nat, (SetTable.insertAt t.place p j)[i']? = some (Tab.walk t.mask (Tab.start t.mask (K.hash y)) m).j := fun i a b => by
      obtain ⟨n', c1, c2⟩ := I.path i x y a b
      exact ⟨n', c1, fun m hm => up _ (c2 m hm)⟩
    split at q1
    · rw [if_pos (by assumption)] at q2; exact old _ q1 q2
    · rw [if_neg (by assumption)] at q2
      split at q1
      · rw [if_pos (by assumption)] at q2
        cases q1; cases q2
        exact ⟨n, hj, fun m hm => up _ (F.2 m hm)⟩
      · rw [if_neg (by assumption)] at q2; exact old _ q1 q2
theorem insert_mem {ks : List α} {p : Nat} {k y : α} : y ∈ (SetTable.insertAt ks.toArray p k).toList ↔ y = k ∨ y ∈ ks := by
  rw [(SetTable.insertAt_perm ks.toArray p k).mem_iff]
  simp [or_comm]
abbrev setO (es : Array (Int × Value)) (ep : Nat) (t : SetTable) : Obj := ⟨.type "set", none, .set es ep t, #[]⟩
theorem set_add (P : Plainly K) {a x : Addr} {k : α} {es : Array (Int × Value)} {ep : Nat} {t : SetTable} {ks : List α} {Q : Bool → Shared → Prop} (hu : A.units + 10 * K.lev < cLine) (kh : h.StaysIn s.heap) (ha : h.get? a = none) (hx : K.is k (.ref x))
    (ho : s.heap.get? a = some (setO es ep t)) (I : SetOk K es t ks) (hpl : ks ≠ [] → t.plain = false) (hz : ks.length < 76)
    (hq : ∀ r h' tk es' ep' t' ks', h'.get? a = some (setO es' ep' t') → Heap.SameBut a s.heap h' → SetOk K es' t' ks' → (∀ y, y ∈ ks' ↔ y = k ∨ y ∈ ks) → t'.plain = false → t'.led = t.led → Q r { s with heap := h', toks := tk }) :
    wpAny (model prog w) A (setAddHashed a (.ref x) (K.hash k)) Q E s := by
  unfold setAddHashed setAddHashedIn
  refine wpAny_holding (wpAny_bind (I.state ho rfl ?_))
  dsimp only
  rw [if_neg (show ¬ (byScan (.ref x) es = true) from Bool.false_ne_true)]
  refine wpAny_bind (set_search P hu kh hx ho rfl I (fun hm tk => ?_) (fun hm n tk F => ?_))
  · exact wpAny_pure (hq false s.heap tk es ep t ks ho (.refl _ _) I (fun y => ⟨.inr, fun q => q.elim (fun e => e ▸ hm) id⟩) (hpl fun e => by rw [e] at hm; cases hm) rfl)
  · dsimp only
    refine wpAny_bind (I.state (s := { s with toks := tk }) ho rfl ?_)
    dsimp only
    generalize hj : (Tab.walk t.mask (Tab.start t.mask (K.hash k)) n).j = j
    have L : Loose K _ _ _ := insert_ok (pl := false) I hm hx F
    rw [hj] at L
    have hsz : es.size < 76 := by rw [← I.len]; exact hz
    have hplace : ({ (t.put j).1 with plain := false } : SetTable).place.size = es.size + 1 := by rw [L.size, Tab.ins_size]
    have hfill : ({ (t.put j).1 with plain := false } : SetTable).fill = es.size + 1 := by
      unfold SetTable.fill; rw [hplace, L.dum]; rfl
    have hmask : ({ (t.put j).1 with plain := false } : SetTable).mask = t.mask := rfl
    have tail : wpAny (model prog w) A (do
        storeSet a (SetTable.insertAt es (SetTable.below t.place j) (K.hash k, Value.ref x)) { (t.put j).1 with plain := false }
        if (!false && ({ (t.put j).1 with plain := false } : SetTable).tooFull) = true then do
            setRelay a (SetTable.grown (es.size + 1))
            pure true
          else pure true) Q E { s with toks := tk } := by
      generalize ht2 : ({ (t.put j).1 with plain := false } : SetTable) = t2 at L hplace hfill hmask
      have hpl2 : t2.plain = false := by rw [← ht2]
      have hled2 : t2.led = t.led := by rw [← ht2]; rfl
      generalize hes1 : SetTable.insertAt es (SetTable.below t.place j) (K.hash k, Value.ref x) = es1 at L
      have hes1s : es1.size = es.size + 1 := by rw [← hes1, Tab.ins_size]
      generalize hks1 : (SetTable.insertAt ks.toArray (SetTable.below t.place j) k).toList = ks1 at L
      have hmem : ∀ y, y ∈ ks1 ↔ y = k ∨ y ∈ ks := fun y => by rw [← hks1]; exact insert_mem
      refine wpAny_bind (wpAny_storeSet_of (s := { s with toks := tk }) ho rfl ?_ (by rw [sizeLine_eq]; omega))
      have g1 : (s.heap.update a (Obj.putSet es1 t2)).get? a = some (setO es1 (ep + 1) t2) := Heap.get?_update_self (f := Obj.putSet es1 t2) (o := setO es ep t) ho rfl
      have s1 : Heap.SameBut a s.heap (s.heap.update a (Obj.putSet es1 t2)) := Heap.SameBut.update ..
      split
      · rename_i hfull
        have hfull' : t2.tooFull = true := by simpa using hfull
        unfold SetTable.tooFull at hfull'
        rw [hfill, hmask] at hfull'
        have hfull2 : (es.size + 1) * 5 ≥ t.mask * 3 := by simpa using hfull'
        have hroom := I.room
        rw [I.size] at hroom
        obtain ⟨M, hM, hok, hle, hr⟩ : ∃ M, SetTable.sizeAbove (SetTable.grown (es.size + 1)) = M + 1 ∧ Tab.okMask M ∧ es1.size ≤ M ∧ es1.size * 5 < M * 3 := by
          rcases I.mask with q | q | q <;> rw [q] at hfull2 hroom
          · have : es.size = 4 := by omega
            rw [hes1s, this]; exact ⟨31, by decide, .inr (.inl rfl), by decide, by decide⟩
          · have : es.size = 18 := by omega
            rw [hes1s, this]; exact ⟨127, by decide, .inr (.inr rfl), by decide, by decide⟩
          · omega
        obtain ⟨t', order, ks', e1, e2, L2, e3, e4, e5, e6⟩ := relaid_ok (K := K) L.en (mask := M) (f := t2.finger) (m := t2.movedTo M) (led := t2.led) (pl := t2.plain) hok hle
        refine wpAny_bind ?_
        unfold setRelay
        refine wpAny_bind (L.state (s := { s with heap := s.heap.update a (Obj.putSet es1 t2), toks := tk }) g1 rfl ?_)
        dsimp only
        have hMs : M ≤ 127 := by rcases hok with q | q | q <;> omega
        rw [hM, if_neg (by rw [sizeLine_eq]; omega)]
        have er : t2.relaid (es1.map (·.1)) (SetTable.grown (es.size + 1)) = some (t', order) := by
          unfold SetTable.relaid; rw [hM]; exact e1
        rw [er]
        refine wpAny_bind (wpAny_of_eq (a := (order.filterMap (es1[·]?), t')) ?_ ?_)
        · show (if ((order.filterMap (es1[·]?)).size != es1.size) = true then _ else pure (order.filterMap (es1[·]?), t')) = _
          rw [if_neg (by simp [e2])]
        dsimp only
        refine wpAny_storeSet_of (s := { s with heap := s.heap.update a (Obj.putSet es1 t2), toks := tk }) g1 rfl ?_ (by rw [e2, sizeLine_eq]; omega)
        refine wpAny_pure (hq true _ tk _ (ep + 1 + 1) t' ks' (Heap.get?_update_self (f := Obj.putSet (order.filterMap (es1[·]?)) t') (o := setO es1 (ep + 1) t2) g1 rfl) (s1.trans (Heap.SameBut.update ..)) (L2.ok ?_) (fun y => by rw [e6, hmem]) (by rw [e4]; exact hpl2) (by rw [e5]; exact hled2))
        rw [L2.size, e2, e3]; exact hr
      · rename_i hfull
        have hfull' : ¬ t2.tooFull = true := by simpa using hfull
        unfold SetTable.tooFull at hfull'
        rw [hfill, hmask] at hfull'
        have hfull2 : ¬ (es.size + 1) * 5 ≥ t.mask * 3 := by simpa using hfull'
        exact wpAny_pure (hq true _ tk _ (ep + 1) t2 ks1 g1 s1 (L.ok (by rw [hplace, hmask]; omega)) hmem hpl2 hled2)
    rw [show t.put j = ((t.put j).1, SetTable.below t.place j) from rfl]
    dsimp only
    cases hb : t.plain with
    | true =>
      rw [if_pos (show ((t.put j).1.plain = true) from hb)]
      refine wpAny_bind (P.byv kh hx ?_)
      rw [if_neg (by simp)]
      exact tail
    | false =>
      rw [if_neg (show ¬ ((t.put j).1.plain = true) by rw [show (t.put j).1.plain = t.plain from rfl, hb]; simp)]
      refine wpAny_bind (wpAny_pure ?_)
      rw [if_pos rfl]
      have : (t.put j).1 = { (t.put j).1 with plain := false } := by
        have h1 : (t.put j).1.plain = false := hb
        generalize (t.put j).1 = u at h1
        cases u; simp at h1; subst h1; rfl
      rw [this]
      exact tail
end
end Mine
end
section
open PySem PySem.W PyProof.Rows PySem.Calls
set_option Elab.async false
set_option linter.unusedVariables false
namespace Mine
theorem Pw.of_get' {α : Type} {P : α → Value → Prop} : ∀ {ks : List α} {vs : List Value}, Pw P ks vs → ∀ i : Nat, (ks[i]? = none ∧ vs[i]? = none) ∨ ∃ k v, ks[i]? = some k ∧ vs[i]? = some v ∧ P k v := by
  intro ks vs p
  induction p with
  | nil => intro i; exact .inl ⟨by simp, by simp⟩
  | @cons k v ks vs h _ ih =>
    intro i
    cases i with
    | zero => exact .inr ⟨k, v, by simp, by simp, h⟩
    | succ i => simpa using ih i
theorem size_none' (h : Heap) : h.get? h.objs.size = none := by
  cases q : h.get? h.objs.size with
  | none => rfl
  | some o => exact absurd (Heap.lt_size q) (Nat.lt_irrefl _)
theorem nodup_len {α : Type} [DecidableEq α] : ∀ {ks l : List α}, ks.Nodup → (∀ y ∈ ks, y ∈ l) → ks.length ≤ l.length
  | [], _, _, _ => Nat.zero_le _
  | a :: r, l, hn, hs => by
    obtain ⟨h1, h2⟩ := List.nodup_cons.mp hn
    have ha := hs a (.head _)
    have := nodup_len (l := l.erase a) h2 fun y hy => (List.mem_erase_of_ne (fun e : y = a => h1 (by rw [← e]; exact hy))).mpr (hs y (.tail _ hy))
    rw [List.length_erase_of_mem ha] at this
    have := List.length_pos_of_mem ha
    simp only [List.length_cons]; omega
section
variable {prog : Program} {w : World} {A : Around} {E : Value → Shared → Prop} {s : Shared} {h : Heap} {α : Type} [DecidableEq α] {K : ItemKind prog w h α} {R : Result → Shared → Prop}
theorem set_loop (P : Plainly K) (hh : A.handled = none) {S I l : Addr} {led : Bool} {vs : Array Value} {n : Nat} {xs : List α} (hu : A.units + 1 + 10 * K.lev < cLine) (hl : h.get? l = some (listOf vs n)) (hp : Pw K.is xs vs.toList) (hS : h.get? S = none) (hI : h.get? I = none) (hSI : S ≠ I) (hz : xs.length < 76) :
    ∀ (d i : Nat) (s : Shared) (es : Array (Int × Value)) (ep : Nat) (t : SetTable) (ks : List α), xs.length - i = d → i ≤ xs.length → h.StaysIn s.heap → s.heap.IsListIter I l i → s.heap.get? S = some (setO es ep t) → SetOk K es t ks → (ks ≠ [] → t.plain = false) → t.led = led → (∀ y, y ∈ ks ↔ y ∈ xs.take i) →
      (∀ h' tk es' ep' t' ks', h'.get? S = some (setO es' ep' t') → (∀ b o, b ≠ S → b ≠ I → s.heap.get? b = some o → h'.get? b = some o) → SetOk K es' t' ks' → (ks' ≠ [] → t'.plain = false) → t'.led = led → (∀ y, y ∈ ks' ↔ y ∈ xs) → R (.ok (.ret .none)) { s with heap := h', toks := tk }) →
      codeAny (model prog w) A (.builtin "set.update.loop" ⟨[.ref S, .ref I], []⟩) R s := by
  have hlen := hp.length
  intro d
  induction d with
  | zero =>
    intro i s es ep t ks hd hi hk hit ho ok hpl hld hm hR
    refine codeAny_builtin F.entry_set_update_loop ?_
    rw [Around.under_plainId F.plain_set_update_loop _]
    show wpAny _ A.in1 (pyNext (.ref I) >>= _) _ _ s
    have he : i = xs.length := by omega
    refine wpAny_bind (wpAny_pyNext_list_end (A := A.in1) hh hit ⟨_, hk _ _ hl, rfl, n, rfl⟩ (by rw [he, hlen]; simp) fun h' hx => ?_)
    show wpAny _ A.in1 (ret Value.none) _ _ _
    refine wpAny_pure (hR h' s.toks es ep t ks (hx S _ hSI ho) (fun b o _ b2 e => hx b o b2 e) ok hpl hld fun y => ?_)
    rw [hm, he, List.take_length]
  | succ d ih =>
    intro i s es ep t ks hd hi hk hit ho ok hpl hld hm hR
    rcases hp.of_get' i with ⟨q, _⟩ | ⟨x, v, q1, q2, q3⟩
    · have := List.getElem?_eq_none_iff.mp q; omega
    obtain ⟨b, rfl⟩ := P.ref q3
    refine codeAny_builtin F.entry_set_update_loop ?_
    rw [Around.under_plainId F.plain_set_update_loop _]
    show wpAny _ A.in1 (pyNext (.ref I) >>= _) _ _ s
    refine wpAny_bind (wpAny_pyNext_list_item hit ⟨_, hk _ _ hl, rfl, n, rfl⟩ (by simpa using q2) fun h1 hit1 hs1 => ?_)
    show wpAny _ A.in1 (holding [Value.ref b] (setAdd S (.ref b)) >>= _) _ _ _
    refine wpAny_bind (wpAny_holding ?_)
    unfold setAdd
    have hk1 : h.StaysIn h1 := fun b o e => hs1.extBut b o (fun q => by rw [q, hI] at e; cases e) (hk b o e)
    refine wpAny_holding (wpAny_bind (K.pyHash (s := { s with heap := h1 }) (by show A.units + 1 + _ < _; exact hu) hk1 q3 fun tk => ?_))
    have ho1 : h1.get? S = some (setO es ep t) := hs1.extBut _ _ hSI ho
    have hkz : ks.length < 76 := by
      have := nodup_len ok.nodup fun y hy => (hm y).mp hy
      have := List.length_take_le' i xs
      omega
    refine set_add (s := { s with heap := h1, toks := tk }) (A := A.in1) P (by show A.units + 1 + _ < _; exact hu) hk1 hS q3 ho1 ok hpl hkz fun r h2 tk2 es' ep' t' ks' g2 s2 ok2 m2 pl2 ld2 => ?_
    have hk2 : h.StaysIn h2 := fun b o e => s2.extBut b o (fun q => by rw [q, hS] at e; cases e) (hk1 b o e)
    obtain ⟨oi, i1, i2, i3⟩ := hit1
    refine wpAny_pure ⟨plainId_quiet F.plain_set_update_loop _, ih (i + 1) _ es' ep' t' ks' (by omega) (by omega) hk2 ⟨oi, s2.extBut _ _ hSI.symm i1, i2, i3⟩ g2 ok2 (fun _ => pl2) (ld2.trans hld) (fun y => ?_) fun h3 tk3 es3 ep3 t3 ks3 g3 k3 ok3 pl3 ld3 m3 => ?_⟩
    · rw [m2, hm, List.take_add_one, q1]
      simp [or_comm]
    · exact hR h3 tk3 es3 ep3 t3 ks3 g3 (fun b o b1 b2 e => k3 b o b1 b2 (s2.extBut b o b1 (hs1.extBut b o b2 e))) ok3 pl3 ld3 m3
theorem set_new_led (a : Value) {Q₁ : Value → Shared → Prop} (hq : Q₁ (.ref s.heap.objs.size) { s with heap := s.heap.push (setO #[] 0 (.fresh 0 0 (!w.params.followText "set-order"))) }) :
    codeAny (model prog w) A (.call (.builtin "set.__new__") ⟨[.type "set", a], []⟩) (wants Q₁ E) s := by
  refine codeAny_of_tree ?_
  show wpAny _ A.in1 (do checkBuiltinCall "set.__new__" ⟨[.type "set", a], []⟩; again (.builtin "set.__new__" ⟨[.type "set", a], []⟩)) _ _ s
  refine wpAny_bind (wpAny_of_eq (F.newCall_set_1 a) (wpAny_pure ⟨plainId_quiet F.plain_set_new _, codeAny_builtin F.entry_set_new ?_⟩))
  rw [Around.under_plainId F.plain_set_new _]
  unfold Builtin.«set.__new__» Builtin.Frozenset.newClass
  have hsub := sub_set_self
  obtain ⟨hp, g, d, tk, os⟩ := s
  dsimp only
  wp_walk
  refine wpAny_askSetting (wpAny_pure ?_)
  dsimp only
  simp only [newObj]
  refine wpAny_bind (wpAny_alloc (wpAny_pure ?_))
  exact wpAny_pure hq
set_option maxRecDepth 100000 in
set_option maxHeartbeats 3200000 in
theorem set_call (P : Plainly K) (hh : A.handled = none) {l : Addr} {vs : Array Value} {n : Nat} {xs : List α} {Q : Value → Shared → Prop} (hu : A.units + 10 + 10 * K.lev < cLine) (kh : h.StaysIn s.heap) (hl : h.get? l = some (listOf vs n)) (hp : Pw K.is xs vs.toList) (hz : xs.length < 76)
    (hq : ∀ h' tk es ep t ks, s.heap.StaysIn h' → h'.get? s.heap.objs.size = some (setO es ep t) → SetOk K es t ks → (ks ≠ [] → t.plain = false) → t.led = (!w.params.followText "set-order") → (∀ y, y ∈ ks ↔ y ∈ xs) → Q (.ref s.heap.objs.size) { s with heap := h', toks := tk }) :
    wpAny (model prog w) A (call (.type "set") [.ref l]) Q E s := by
  obtain ⟨c, tl, hmro⟩ := F.called_set.mro
  have hmade := F.called_set.made
  have hsub := F.called_set.sub
  have zS : h.get? s.heap.objs.size = none := by
    cases q : h.get? s.heap.objs.size with
    | none => rfl
    | some o => exact absurd (Heap.lt_size (kh _ _ q)) (Nat.lt_irrefl _)
  have hol : s.heap.get? l = some (listOf vs n) := kh _ _ hl
  have hlS : l < s.heap.objs.size := Heap.lt_size hol
  refine wpAny_call (codeAny_of_tree ?_)
  show wpAny _ _ (callAny (.type "set") _) _ _ _
  refine wpAny_pure ⟨Code.quiet_builtin _ (by decide +kernel), codeAny_builtin F.entry_type_call ?_⟩
  rw [Around.under_plain (weight_type_call_type "set" [.ref l] []) rfl]
  have h1 := F.called_set.notType
  have h2 := F.called_set.canCreate
  have hct := F.typeCall_set_1 (.ref l)
  repeat (any_goals (first | assumption | wp_step))
  refine codeAny_mono (set_new_led (.ref l) (E := E) (Q₁ := fun obj s₁ => ∃ led : Bool, led = (!w.params.followText "set-order") ∧ obj = .ref s.heap.objs.size ∧ s₁ = { s with heap := s.heap.push (setO #[] 0 (.fresh 0 0 led)) }) ⟨_, rfl, rfl, rfl⟩) fun r s₁ hr => ?_
  cases r with
  | error e => exact hr
  | ok fl =>
    cases fl with
    | ret obj =>
      obtain ⟨led, hled, rfl, rfl⟩ := hr
      have hS : (s.heap.push (setO #[] 0 (.fresh 0 0 led))).get? s.heap.objs.size = some (setO #[] 0 (.fresh 0 0 led)) := Heap.get?_push_size _ rfl
      have hT : Shared.TypeIs { s with heap := s.heap.push (setO #[] 0 (.fresh 0 0 led)) } (.ref s.heap.objs.size) "set" := ⟨_, hS, rfl⟩
      have hli := F.called_set.init.lookup
      have hbi := F.called_set.init.bind (.ref s.heap.objs.size)
      repeat (any_goals (first | assumption | wp_step))
      refine codeAny_mono (codeAny_call_builtin (R := wants (fun r s₂ => r = .none ∧ ∃ h' tk, s₂ = { s with heap := h', toks := tk } ∧ s.heap.StaysIn h' ∧
          ∃ es ep t ks, h'.get? s.heap.objs.size = some (setO es ep t) ∧ SetOk K es t ks ∧ (ks ≠ [] → t.plain = false) ∧ t.led = (!w.params.followText "set-order") ∧ ∀ y, y ∈ ks ↔ y ∈ xs) E) F.called_set.init.plain F.entry_set_init (check_set_init_1 hT ?_)) fun r₂ s₂ hr₂ => ?_
      · have hol' : (s.heap.push (setO #[] 0 (.fresh 0 0 led))).get? l = some (listOf vs n) := Heap.get?_push_of_some _ hol
        have hsls := F.sub_list_set
        have hslf := F.sub_list_frozenset
        have hne : (Value.type "list" == Value.type "dict") = false := by decide
        have hl1 : (s.heap.push (setO #[] 0 (.fresh 0 0 led))).IsList l vs := ⟨_, hol', rfl, n, rfl⟩
        unfold Builtin.«set.__init__» noKeywords Builtin.Frozenset.updateFrom
        generalize hPI : pyIter = PI
        wp_walk
        subst hPI
        refine wpAny_pyIter_list hl1 ?_
        refine wpAny_bind (wpAny_runValue ?_)
        have hh3 : A.in1.in1.handled = none := by simp [hh]
        generalize hI : (s.heap.push (setO #[] 0 (.fresh 0 0 led))).objs.size = I
        have eI : I = s.heap.objs.size + 1 := by rw [← hI, Heap.size_push]
        have hSI : s.heap.objs.size ≠ I := by rw [eI]; exact Nat.ne_of_lt (Nat.lt_succ_self _)
        have zI0 : s.heap.get? I = none := by
          cases q : s.heap.get? I with
          | none => rfl
          | some o => have := Heap.lt_size q; rw [eI] at this; exact absurd this (Nat.not_lt.mpr (Nat.le_succ _))
        have zI : h.get? I = none := by
          cases q : h.get? I with
          | none => rfl
          | some o => rw [kh _ _ q] at zI0; cases zI0
        have up : s.heap.StaysIn ((s.heap.push (setO #[] 0 (.fresh 0 0 led))).push { cls := .type "list_iterator", data := .fields #[.ref l, .int 0 0] }) := fun b o e => Heap.get?_push_of_some _ (Heap.get?_push_of_some _ e)
        have hit0 : ((s.heap.push (setO #[] 0 (.fresh 0 0 led))).push { cls := .type "list_iterator", data := .fields #[.ref l, .int 0 0] }).IsListIter I l 0 :=
          ⟨{ cls := .type "list_iterator", data := .fields #[.ref l, .int 0 0] }, by rw [← hI]; exact Heap.get?_push_size _ rfl, rfl, rfl⟩
        refine set_loop (K := K) (xs := xs) P hh3 (by show A.units + 2 + 1 + _ < _; omega) hl hp zS zI hSI hz xs.length 0 ⟨(s.heap.push (setO #[] 0 (.fresh 0 0 led))).push { cls := .type "list_iterator", data := .fields #[.ref l, .int 0 0] }, s.gens, s.drawn, s.toks, s.os⟩ #[] 0 (.fresh 0 0 led) [] (by omega) (Nat.zero_le _) (fun b o e => up _ _ (kh _ _ e)) hit0 (Heap.get?_push_of_some _ hS)
          ⟨.inl rfl, fun a b _ hb => absurd hb (Nat.not_lt_zero _), rfl, rfl, (by show 0 * 5 < 7 * 3; decide), fun i j e => by simp [SetTable.fresh] at e, rfl, fun i k e => by simp at e, List.nodup_nil, fun i j k e => by simp [SetTable.fresh] at e⟩ (fun e => absurd rfl e) rfl (fun y => by simp) ?_
        intro h' tk es' ep' t' ks' g k ok pl ld m
        show wpAny _ _ _ _ _ _
        refine wpAny_pure ?_
        show wpAny _ _ (ret Value.none) _ _ _
        refine wpAny_pure ⟨rfl, h', tk, rfl, fun b o e => ?_, es', ep', t', ks', g, ok, pl, ld.trans hled, m⟩
        exact k b o (fun q => by rw [q, size_none'] at e; cases e) (fun q => by rw [q, zI0] at e; cases e) (up b o e)
      · cases r₂ with
        | error e => exact hr₂
        | ok fl₂ =>
          cases fl₂ with
          | ret r =>
            obtain ⟨rfl, h', tk, rfl, k', es, ep, t, ks, g, ok, pl, ld, m⟩ := hr₂
            repeat (any_goals (first | assumption | wp_step))
            exact hq h' tk es ep t ks k' g ok pl ld m
          | _ => exact hr₂.elim
    | _ => exact hr.elim
end
end Mine
end
section
open PySem PySem.W PyProof.Rows PySem.Calls
set_option Elab.async false
set_option linter.unusedVariables false
namespace Mine
set_option maxRecDepth 100000
theorem slot_siter_next : Slot "set_iterator" "__next__" "set_iterator.__next__" :=
  .of (owner := "set_iterator") (n := "__next__") (by rw [typeLookup_type, builtinLookup_eq_fast]; kernel_rfl) (by decide +kernel) (by decide +kernel) (by decide +kernel)
    (by first | exact .inl (by decide +kernel) | exact .inr (by decide +kernel)) (by rw [isSubtype_type]; kernel_rfl)
theorem entry_siter_next : entryFor table "set_iterator.__next__" = some Builtin.«set_iterator.__next__» := entryFor_of_tree (by kernel_rfl)
theorem args_siter_next (a : Value) : argsOk "set_iterator.__next__" ⟨[a], []⟩ := by unfold argsOk; kernel_rfl
theorem entry_set_iter' : entryFor table "set.__iter__" = some Builtin.«frozenset.__iter__» :=
  entryFor_alias (id' := "frozenset.__iter__") (by kernel_rfl) rfl (by decide +kernel) (by kernel_rfl)
section
variable {prog : Program} {w : World} {A : Around} {E : Value → Shared → Prop} {s : Shared} {h : Heap} {α : Type} [DecidableEq α] {K : ItemKind prog w h α}
abbrev tupleOf' (vs : Array Value) (n : Nat) : Obj := ⟨.type "tuple", none, .seq vs n, #[]⟩
abbrev siterO (first : Value) (i : Nat) (S : Value) (n : Nat) (ep : Nat) : Obj := { cls := .type "set_iterator", dict := none, data := .fields #[first, rawInt i, S, rawInt n, rawInt ep], slots := #[] }
variable {I S ep i slot : Nat} {es : Array (Int × Value)} {t : SetTable} {ks : List α} {Q : Option Value → Shared → Prop}
/-- by the places of the table, or by the text -/
theorem siter_item {x : Value} {nx : Nat} (ho : s.heap.get? I = some (siterO (rawInt slot) i (.ref S) es.size ep)) (hS : s.heap.get? S = some (setO es ep t)) (L : Loose K es t ks)
    (hn : ∀ (Q' : Option (Value × Nat) → Shared → Prop) (E' : Value → Shared → Prop), Q' (some (x, nx)) s → wpAny (model prog w) A.in1 (setNext S slot i ep) Q' E' s)
    (hq : ∀ h', h'.get? I = some (siterO (rawInt nx) (i + 1) (.ref S) es.size ep) → Heap.SameBut I s.heap h' → Q (some x) { s with heap := h' }) :
    wpAny (model prog w) A (pyNext (.ref I)) Q E s := by
  have hT : s.TypeIs (.ref I) "set_iterator" := ⟨_, ho, rfl⟩
  unfold pyNext
  refine wpAny_bind (wpAny_attempt (wpAny_callSpecial?_slot (name := Str.ofString "__next__") hT slot_siter_next (wpAny_call_entry slot_siter_next hT entry_siter_next ?_ (args_siter_next _))))
  show wpAny _ _ (fieldsOf (.ref I) >>= _) _ _ s
  refine wpAny_bind (wpAny_fieldsOf ho rfl ?_)
  show wpAny _ _ (setEntries S >>= _) _ _ s
  unfold setEntries
  refine wpAny_bind (wpAny_bind (L.state hS rfl (wpAny_pure ?_)))
  rw [if_neg (by simp)]
  show wpAny _ _ (setNext S slot i ep >>= _) _ _ s
  refine wpAny_bind (hn _ _ ?_)
  dsimp only
  refine wpAny_bind (wpAny_setField_rec ho (by simp) fun h1 g1 s1 => ?_)
  refine wpAny_bind (wpAny_setField_rec g1 (by simp) fun h2 g2 s2 => ?_)
  refine wpAny_pure ⟨x, rfl, wpAny_pure (hq h2 ?_ (s1.trans s2))⟩
  have e : rawInt ((i + 1 : Nat) : Int) = rawInt ((i : Int) + 1) := by congr 1
  unfold siterO
  rw [e]; simpa using g2
/-- the end, raised and caught -/
theorem stopped (hh : A.handled = none) {m : Sem PySem.Fin} (hm : m = (do raiseNew (← newExc (.type "StopIteration") [])))
    (hq : ∀ h', (∀ b o, s.heap.get? b = some o → h'.get? b = some o) → ∀ e, (∃ o, h'.get? e = some o ∧ o.cls = .type "StopIteration") → E (.ref e) { s with heap := h' }) {P : PySem.Fin → Shared → Prop} : wpAny (model prog w) A m P E s := by
  subst hm
  refine wpAny_bind ?_
  simp only [newExc, newTuple]
  refine wpAny_bind (wpAny_newObj_type ?_ (by size_fits))
  refine wpAny_bind (m := firstArgMember _ _) (wpAny_of_eq (a := Value.none) (by first | rfl | (simp only [firstArgMember]; rfl)) ?_)
  refine wpAny_newObj_type ?_ (by size_fits)
  simp only [raiseNew]
  refine wpAny_bind (wpAny_handled ?_)
  rw [hh]
  refine wpAny_bind (wpAny_pure (wpAny_throw ?_))
  exact hq _ (fun b o e => Heap.get?_push_of_some _ (Heap.get?_push_of_some _ e)) _ ⟨_, Heap.get?_push_size _ rfl, rfl⟩
theorem siter_end (hh : A.handled = none) (ho : s.heap.get? I = some (siterO (rawInt slot) i (.ref S) es.size ep)) (hS : s.heap.get? S = some (setO es ep t)) (L : Loose K es t ks)
    (hn : ∀ (Q' : Option (Value × Nat) → Shared → Prop) (E' : Value → Shared → Prop), Q' none s → wpAny (model prog w) A.in1 (setNext S slot i ep) Q' E' s)
    (hq : ∀ h', Heap.ExtBut I s.heap h' → Q none { s with heap := h' }) : wpAny (model prog w) A (pyNext (.ref I)) Q E s := by
  have hT : s.TypeIs (.ref I) "set_iterator" := ⟨_, ho, rfl⟩
  unfold pyNext
  refine wpAny_bind (wpAny_attempt (wpAny_callSpecial?_slot (name := Str.ofString "__next__") hT slot_siter_next (wpAny_call_entry slot_siter_next hT entry_siter_next ?_ (args_siter_next _))))
  show wpAny _ _ (fieldsOf (.ref I) >>= _) _ _ s
  refine wpAny_bind (wpAny_fieldsOf ho rfl ?_)
  show wpAny _ _ (setEntries S >>= _) _ _ s
  unfold setEntries
  refine wpAny_bind (wpAny_bind (L.state hS rfl (wpAny_pure ?_)))
  rw [if_neg (by simp)]
  show wpAny _ _ (setNext S slot i ep >>= _) _ _ s
  refine wpAny_bind (hn _ _ ?_)
  dsimp only
  refine wpAny_bind (wpAny_setField_rec ho (by simp) fun h1 g1 s1 => ?_)
  refine stopped (A := A.in1) (s := { s with heap := h1 }) hh rfl fun h2 k2 e he => ?_
  obtain ⟨oe, e1, e2⟩ := he
  refine wpAny_bind (wpAny_isInstance (T := "StopIteration") (b := true) ⟨oe, e1, e2⟩ isSubtype_stop ?_)
  exact wpAny_pure (hq _ fun b o n q => k2 b o (s1.extBut b o n q))
/-- by the draw -/
theorem siterD_item {T : Addr} {ps : Array Value} {pn place : Nat} {x : Value} (ho : s.heap.get? I = some (siterO (.ref T) i (.ref S) es.size ep)) (hT' : s.heap.get? T = some (tupleOf' ps pn)) (hp : ps[i]? = some (rawInt place)) (hx : (es[place]?).map (·.2) = some x) (hS : s.heap.get? S = some (setO es ep t)) (L : Loose K es t ks)
    (hq : ∀ h', h'.get? I = some (siterO (.ref T) (i + 1) (.ref S) es.size ep) → Heap.SameBut I s.heap h' → Q (some x) { s with heap := h' }) :
    wpAny (model prog w) A (pyNext (.ref I)) Q E s := by
  have hT : s.TypeIs (.ref I) "set_iterator" := ⟨_, ho, rfl⟩
  unfold pyNext
  refine wpAny_bind (wpAny_attempt (wpAny_callSpecial?_slot (name := Str.ofString "__next__") hT slot_siter_next (wpAny_call_entry slot_siter_next hT entry_siter_next ?_ (args_siter_next _))))
  show wpAny _ _ (fieldsOf (.ref I) >>= _) _ _ s
  refine wpAny_bind (wpAny_fieldsOf ho rfl ?_)
  show wpAny _ _ (setEntries S >>= _) _ _ s
  unfold setEntries
  refine wpAny_bind (wpAny_bind (L.state hS rfl (wpAny_pure ?_)))
  rw [if_neg (by simp)]
  show wpAny _ _ (seqItems? (.ref T) >>= _) _ _ s
  refine wpAny_bind (wpAny_seqItems hT' rfl ?_)
  dsimp only
  rw [show ps[((i : Nat) : Int).toNat]? = some (rawInt place) by simpa using hp]
  dsimp only [rawInt]
  refine wpAny_bind ?_
  unfold setNextDrawn
  refine wpAny_bind (L.state hS rfl ?_)
  dsimp only
  rw [if_neg (by simp)]
  obtain ⟨⟨hh, y⟩, e1, e2⟩ := Option.map_eq_some_iff.mp hx
  have : es[((place : Nat) : Int).toNat]? = some (hh, y) := by simpa using e1
  rw [this]
  dsimp only at e2 ⊢
  subst e2
  refine wpAny_pure ?_
  refine wpAny_bind (wpAny_setField_rec ho (by simp) fun h1 g1 s1 => ?_)
  refine wpAny_pure ⟨y, rfl, wpAny_pure (hq h1 ?_ s1)⟩
  have e : rawInt ((i + 1 : Nat) : Int) = rawInt ((i : Int) + 1) := by congr 1
  unfold siterO
  rw [e]; simpa [rawInt] using g1
theorem siterD_end (hh : A.handled = none) {T : Addr} {ps : Array Value} {pn : Nat} (ho : s.heap.get? I = some (siterO (.ref T) i (.ref S) es.size ep)) (hT' : s.heap.get? T = some (tupleOf' ps pn)) (hp : ps[i]? = none) (hS : s.heap.get? S = some (setO es ep t)) (L : Loose K es t ks)
    (hq : ∀ h', Heap.ExtBut I s.heap h' → Q none { s with heap := h' }) : wpAny (model prog w) A (pyNext (.ref I)) Q E s := by
  have hT : s.TypeIs (.ref I) "set_iterator" := ⟨_, ho, rfl⟩
  unfold pyNext
  refine wpAny_bind (wpAny_attempt (wpAny_callSpecial?_slot (name := Str.ofString "__next__") hT slot_siter_next (wpAny_call_entry slot_siter_next hT entry_siter_next ?_ (args_siter_next _))))
  show wpAny _ _ (fieldsOf (.ref I) >>= _) _ _ s
  refine wpAny_bind (wpAny_fieldsOf ho rfl ?_)
  show wpAny _ _ (setEntries S >>= _) _ _ s
  unfold setEntries
  refine wpAny_bind (wpAny_bind (L.state hS rfl (wpAny_pure ?_)))
  rw [if_neg (by simp)]
  show wpAny _ _ (seqItems? (.ref T) >>= _) _ _ s
  refine wpAny_bind (wpAny_seqItems hT' rfl ?_)
  dsimp only
  rw [show ps[((i : Nat) : Int).toNat]? = none by simpa using hp]
  dsimp only
  refine wpAny_bind (wpAny_setField_rec ho (by simp) fun h1 g1 s1 => ?_)
  refine wpAny_bind (wpAny_setField_rec g1 (by simp) fun h2 g2 s2 => ?_)
  refine stopped (A := A.in1) (s := { s with heap := h2 }) hh rfl fun h3 k3 e he => ?_
  obtain ⟨oe, e1, e2⟩ := he
  refine wpAny_bind (wpAny_isInstance (T := "StopIteration") (b := true) ⟨oe, e1, e2⟩ isSubtype_stop ?_)
  exact wpAny_pure (hq _ fun b o n q => k3 b o (s2.extBut b o n (s1.extBut b o n q)))
end
end Mine
end
section
open PySem PySem.W PyProof.Rows PySem.Calls
set_option Elab.async false
set_option linter.unusedVariables false
namespace Mine
theorem erase_perm {α : Type} {l : List α} {i : Nat} (h : i < l.length) : (l[i] :: l.eraseIdx i).Perm l := by
  rw [List.eraseIdx_eq_take_drop_succ]
  refine (List.perm_middle.symm).trans (List.Perm.of_eq ?_)
  rw [List.getElem_cons_drop, List.take_append_drop]
theorem pick_perm {α : Type} (next : Nat → Nat) : ∀ (fuel k : Nat) (left : List α) (out : Array α), left.length = fuel → (pickOrder.go next fuel k left out).toList.Perm (out.toList ++ left)
  | 0, k, left, out, h => by
    have : left = [] := List.length_eq_zero_iff.mp h
    subst this
    unfold pickOrder.go; simp
  | fuel + 1, k, left, out, h => by
    unfold pickOrder.go
    have hlt : next k % left.length < left.length := Nat.mod_lt _ (by omega)
    rw [List.getElem?_eq_getElem hlt]
    dsimp only
    refine (pick_perm next fuel (k + 1) _ _ (by rw [List.length_eraseIdx, if_pos hlt, h]; rfl)).trans ?_
    rw [Array.toList_push, List.append_assoc]
    exact List.Perm.append_left _ (erase_perm hlt)
theorem pickOrder_perm {α : Type} (next : Nat → Nat) (xs : Array α) : (pickOrder next xs).toList.Perm xs.toList := by
  have := pick_perm next xs.size 0 xs.toList #[] (by simp)
  simpa [pickOrder] using this
section
variable {prog : Program} {w : World} {A : Around} {E : Value → Shared → Prop} {s : Shared} {h : Heap} {α : Type} [DecidableEq α] {K : ItemKind prog w h α}
theorem wpAny_choose' {M : Model} {n : Nat} {Q : Nat → Shared → Prop} {src : Source} (hn : n ≠ 0) (h : ∀ i d, i < n → Q i { s with drawn := d }) : wpAny M A (choose src n) Q E s := fun Γ p _ => by
  show Sem.wp M Γ (.choose src n .pure) _ _ p s
  rw [Sem.wp_choose]
  refine ⟨hn, ?_⟩
  rw [Sem.wp_pure]
  exact h _ _ (Nat.mod_lt _ (Nat.pos_of_ne_zero hn))
theorem draw_order {β : Type} : ∀ (n : Nat) (xs : List β) (s : Shared) (Q : List β → Shared → Prop), xs.length = n → (∀ ys d, ys.Perm xs → Q ys { s with drawn := d }) → wpAny (model prog w) A (drawOrder n xs) Q E s
  | 0, xs, s, Q, h, hq => by
    have : xs = [] := List.length_eq_zero_iff.mp h
    subst this
    unfold drawOrder
    exact wpAny_pure (hq [] s.drawn (List.Perm.refl _))
  | n + 1, [], s, Q, h, hq => by cases h
  | n + 1, x :: xs, s, Q, h, hq => by
    unfold drawOrder
    refine wpAny_bind (wpAny_choose' (by simp) fun i d hi => ?_)
    rw [List.getElem?_eq_getElem hi]
    dsimp only
    refine wpAny_bind (draw_order n _ _ _ (by rw [List.length_eraseIdx, if_pos hi, h]; rfl) fun ys d' hp => ?_)
    refine wpAny_pure (hq _ d' ((List.Perm.cons _ hp).trans (erase_perm hi)))
variable {I S ep i slot : Nat} {es : Array (Int × Value)} {t : SetTable} {ks : List α}
theorem next_text {Q : Option (Value × Nat) → Shared → Prop} (hS : s.heap.get? S = some (setO es ep t)) (L : Loose K es t ks) (by_ : w.params.followText "set-order" = true)
    (hq : Q (((pickOrder (w.params.setOrder S ep) es)[i]?).map fun e => (e.2, slot)) s) : wpAny (model prog w) A (setNext S slot i ep) Q E s := by
  unfold setNext
  refine wpAny_bind (L.state hS rfl ?_)
  unfold setsByText
  refine wpAny_bind (wpAny_bind (wpAny_askSetting (wpAny_pure ?_)))
  dsimp only
  rw [if_pos (show (model prog w).w.params.followText "set-order" = true from by_), if_neg (by simp)]
  unfold setWalk
  refine wpAny_bind (wpAny_bind (L.state hS rfl ?_))
  unfold setsByText
  refine wpAny_bind (wpAny_bind (wpAny_askSetting (wpAny_pure ?_)))
  dsimp only
  rw [if_pos (show (model prog w).w.params.followText "set-order" = true from by_)]
  refine wpAny_bind (wpAny_askSetting (wpAny_pure (wpAny_pure ?_)))
  exact hq
theorem next_place {Q : Option (Value × Nat) → Shared → Prop} (hS : s.heap.get? S = some (setO es ep t)) (L : Loose K es t ks) (by_ : w.params.followText "set-order" = false) (hl : t.led = true) (h1 : es.size ≤ 1)
    (hq : Q (match es[SetTable.below t.place slot]?, t.place[SetTable.below t.place slot]? with
      | some (_, x), some j => some (x, j + 1)
      | _, _ => none) s) : wpAny (model prog w) A (setNext S slot i ep) Q E s := by
  unfold setNext
  refine wpAny_bind (L.state hS rfl ?_)
  unfold setsByText
  refine wpAny_bind (wpAny_bind (wpAny_askSetting (wpAny_pure ?_)))
  dsimp only
  rw [if_neg (show ¬ (model prog w).w.params.followText "set-order" = true by show ¬ w.params.followText "set-order" = true; rw [by_]; simp)]
  split
  · rename_i hd
    exact absurd hd (by show ¬ ((!t.plain && decide (es.size > 1)) = true); simp; omega)
  · refine wpAny_bind (wpAny_of_eq (a := ()) (by show (if (!t.led && !es.isEmpty) = true then _ else pure ()) = _; rw [hl]; rfl) ?_)
    exact wpAny_pure hq
end
end Mine
end
section
open PySem PySem.W PyProof.Rows PySem.Calls
set_option Elab.async false
set_option linter.unusedVariables false
namespace Mine
set_option maxRecDepth 100000
theorem slot_siter_iter : Slot "set_iterator" "__iter__" "set_iterator.__iter__" :=
  .of (owner := "set_iterator") (n := "__iter__") (by rw [typeLookup_type, builtinLookup_eq_fast]; kernel_rfl) (by decide +kernel) (by decide +kernel) (by decide +kernel)
    (by first | exact .inl (by decide +kernel) | exact .inr (by decide +kernel)) (by rw [isSubtype_type]; kernel_rfl)
theorem entry_siter_iter : entryFor table "set_iterator.__iter__" = some Builtin.«dict_keyiterator.__iter__» :=
  entryFor_alias (id' := "dict_keyiterator.__iter__") (by kernel_rfl) (by first | rfl | decide +kernel | (unfold String.splitOn; simp +decide [String.splitOnAux])) (by decide +kernel) (by kernel_rfl)
theorem args_siter_iter (a : Value) : argsOk "set_iterator.__iter__" ⟨[a], []⟩ := by unfold argsOk; kernel_rfl
theorem split_set_len : splitId "set.__len__" = some ("set", "__len__") := by kernel_rfl
section
variable {prog : Program} {w : World} {A : Around} {E : Value → Shared → Prop} {s : Shared} {h : Heap} {α : Type} [DecidableEq α] {K : ItemKind prog w h α}
variable {S ep : Nat} {es : Array (Int × Value)} {t : SetTable} {ks : List α}
abbrev valsOf (es : Array (Int × Value)) : List Value := es.toList.map (·.2)
theorem self_siter {I i n : Nat} {first : Value} {Q : Value → Shared → Prop} {s : Shared} (ho : s.heap.get? I = some (siterO first i (.ref S) n ep)) (hq : Q (.ref I) s) : wpAny (model prog w) A (pyIter (.ref I)) Q E s := by
  have hT : s.TypeIs (.ref I) "set_iterator" := ⟨_, ho, rfl⟩
  refine wpAny_pyIter_slot hT slot_siter_iter (wpAny_call_entry slot_siter_iter hT entry_siter_iter ?_ (args_siter_iter _))
  show wpAny _ _ (ret (.ref I)) _ _ s
  exact wpAny_pure ⟨_, rfl, "set_iterator", _, hT, slot_siter_next.lookup, hq⟩
theorem walks_text (hh : A.handled = none) (L : Loose K es t ks) (by_ : w.params.followText "set-order" = true) (I : Nat) (hIS : S ≠ I) :
    Walks prog w A I [I, S] [I] es.size (fun i v => (((pickOrder (w.params.setOrder S ep) es).toList.map (·.2))[i]? = some v)) (fun i h => h.get? I = some (siterO (rawInt (0 : Nat)) i (.ref S) es.size ep) ∧ h.get? S = some (setO es ep t)) where
  sub := fun b hb => by simp at hb; simp [hb]
  frame := fun i h h' st k => ⟨k I (by simp) _ st.1, k S (by simp) _ st.2⟩
  item := fun i s Q E hi st hQ => by
    have hsz : (pickOrder (w.params.setOrder S ep) es).size = es.size := by have := (pickOrder_perm (w.params.setOrder S ep) es).length_eq; simpa using this
    obtain ⟨e, he⟩ : ∃ e, (pickOrder (w.params.setOrder S ep) es)[i]? = some e := ⟨_, Array.getElem?_eq_getElem (by rw [hsz]; exact hi)⟩
    refine siter_item (nx := 0) (x := e.2) st.1 st.2 L (fun Q' E' hq' => next_text st.2 L by_ (by rw [he]; exact hq')) fun h' g sb => ?_
    exact hQ _ h' s.toks (by rw [List.getElem?_map, Array.getElem?_toList, he]; rfl) ⟨g, (sb.2 S hIS).trans st.2⟩ fun b o n q => sb.extBut b o (fun z => n (by simp [z])) q
  done := fun s Q E st hQ => by
    have hsz : (pickOrder (w.params.setOrder S ep) es).size = es.size := by have := (pickOrder_perm (w.params.setOrder S ep) es).length_eq; simpa using this
    refine siter_end hh st.1 st.2 L (fun Q' E' hq' => next_text st.2 L by_ (by rw [Array.getElem?_eq_none (by omega)]; exact hq')) fun h' x => ?_
    exact hQ h' s.toks fun b o n q => x b o (fun z => n (by simp [z])) q
  self := fun i s Q E st hQ => self_siter st.1 hQ
theorem walks_few (hh : A.handled = none) (L : Loose K es t ks) (by_ : w.params.followText "set-order" = false) (hl : t.led = true) (h1 : es.size ≤ 1) (I : Nat) (hIS : S ≠ I) :
    Walks prog w A I [I, S] [I] es.size (fun i v => ((valsOf es)[i]? = some v)) (fun i h => (∃ slot : Nat, h.get? I = some (siterO (rawInt slot) i (.ref S) es.size ep) ∧ (i = 0 → slot = 0) ∧ (i = 1 → ∃ j, t.place[0]? = some j ∧ slot = j + 1)) ∧ h.get? S = some (setO es ep t)) where
  sub := fun b hb => by simp at hb; simp [hb]
  frame := fun i h h' st k => ⟨let ⟨sl, a, b⟩ := st.1; ⟨sl, k I (by simp) _ a, b⟩, k S (by simp) _ st.2⟩
  item := fun i s Q E hi st hQ => by
    obtain ⟨⟨sl, a, b, c⟩, st2⟩ := st
    obtain rfl : i = 0 := by omega
    obtain rfl := b rfl
    have hp : 0 < t.place.size := by rw [L.size]; exact hi
    obtain ⟨b1, b2, b3⟩ := Tab.below_spec L.up 0
    have hb0 : SetTable.below t.place 0 = 0 := by
      rcases Nat.eq_zero_or_pos (SetTable.below t.place 0) with q | q
      · exact q
      · exact absurd (b2 0 q) (Nat.not_lt_zero _)
    have e1 : es[0]? = some es[0] := Array.getElem?_eq_getElem hi
    have e2 : t.place[0]? = some t.place[0] := Array.getElem?_eq_getElem hp
    refine siter_item (nx := t.place[0] + 1) (x := es[0].2) a st2 L (fun Q' E' hq' => next_place st2 L by_ hl h1 (by rw [hb0, e1, e2]; exact hq')) fun h' g sb => ?_
    exact hQ _ h' s.toks (by rw [List.getElem?_map, Array.getElem?_toList, e1]; rfl) ⟨⟨_, g, fun z => absurd z (by omega), fun _ => ⟨_, e2, rfl⟩⟩, (sb.2 S hIS).trans st2⟩ fun b o n q => sb.extBut b o (fun z => n (by simp [z])) q
  done := fun s Q E st hQ => by
    obtain ⟨⟨sl, a, b, c⟩, st2⟩ := st
    obtain ⟨b1, b2, b3⟩ := Tab.below_spec L.up sl
    have hb : es[SetTable.below t.place sl]? = none := by
      rw [Array.getElem?_eq_none_iff]
      rcases Nat.lt_or_ge 0 es.size with q | q
      · have : es.size = 1 := by omega
        obtain ⟨j, hj, rfl⟩ := c this
        obtain ⟨_, hj'⟩ := Tab.getD_of hj
        rcases Nat.eq_zero_or_pos (SetTable.below t.place (j + 1)) with z | z
        · have := b3 0 (by omega) (by rw [L.size]; exact q)
          omega
        · omega
      · omega
    refine siter_end hh a st2 L (fun Q' E' hq' => next_place st2 L by_ hl h1 (by rw [hb]; exact hq')) fun h' x => ?_
    exact hQ h' s.toks fun b o n q => x b o (fun z => n (by simp [z])) q
  self := fun i s Q E st hQ => let ⟨sl, a, _⟩ := st.1; self_siter a hQ
theorem walks_drawn (hh : A.handled = none) (L : Loose K es t ks) (I T : Nat) (hIS : S ≠ I) (hIT : T ≠ I) (order : List Nat) (hp : order.Perm (List.range es.size)) {pn : Nat} :
    Walks prog w A I [I, S, T] [I] es.size (fun i v => ((order.filterMap fun p => (es[p]?).map (·.2))[i]? = some v)) (fun i h => h.get? I = some (siterO (.ref T) i (.ref S) es.size ep) ∧ h.get? S = some (setO es ep t) ∧ h.get? T = some (tupleOf' ((order.map fun (i : Nat) => rawInt i).toArray) pn)) where
  sub := fun b hb => by simp at hb; simp [hb]
  frame := fun i h h' st k => ⟨k I (by simp) _ st.1, k S (by simp) _ st.2.1, k T (by simp) _ st.2.2⟩
  item := fun i s Q E hi st hQ => by
    have hlen : order.length = es.size := by have := hp.length_eq; simpa using this
    have ho : order[i]? = some order[i] := List.getElem?_eq_getElem (by omega)
    have hlt : order[i] < es.size := List.mem_range.mp (hp.mem_iff.mp (List.getElem_mem _))
    have e1 : es[order[i]]? = some es[order[i]] := Array.getElem?_eq_getElem hlt
    refine siterD_item (place := order[i]) (x := es[order[i]].2) st.1 st.2.2 (by rw [List.getElem?_toArray, List.getElem?_map, ho]; rfl) (by rw [e1]; rfl) st.2.1 L fun h' g sb => ?_
    refine hQ _ h' s.toks ?_ ⟨g, (sb.2 S hIS).trans st.2.1, (sb.2 T hIT).trans st.2.2⟩ fun b o n q => sb.extBut b o (fun z => n (by simp [z])) q
    rw [fm_get (fun p hp' => by
      have : p < es.size := List.mem_range.mp (hp.mem_iff.mp hp')
      simp [this]), ho]
    simp [e1]
  done := fun s Q E st hQ => by
    have hlen : order.length = es.size := by have := hp.length_eq; simpa using this
    refine siterD_end hh st.1 st.2.2 (by rw [List.getElem?_toArray, List.getElem?_eq_none (by simp [hlen])]) st.2.1 L fun h' x => ?_
    exact hQ h' s.toks fun b o n q => x b o (fun z => n (by simp [z])) q
  self := fun i s Q E st hQ => self_siter st.1 hQ
/-- a set is gone through: its values, in some order -/
theorem set_iter (hh : A.handled = none) (L : Loose K es t ks) (hS : s.heap.get? S = some (setO es ep t)) (hpl : ks ≠ [] → t.plain = false) (hld : t.led = (!w.params.followText "set-order")) (hz : es.size ≤ 1000) {Q : Value → Shared → Prop}
    (hq : ∀ h' d' I fp (vals : List Value) (St : Nat → Heap → Prop), s.heap.StaysIn h' → Walks prog w A I fp [I] es.size (fun i v => vals[i]? = some v) St → St 0 h' → I ∈ fp → (∀ b ∈ fp, b < h'.objs.size) → (∀ b ∈ fp, b = S ∨ s.heap.get? b = none) → s.heap.get? I = none → vals.Perm (valsOf es) → Q (.ref I) { s with heap := h', drawn := d' }) :
    wpAny (model prog w) A (pyIter (.ref S)) Q E s := by
  have hT : s.TypeIs (.ref S) "set" := ⟨_, hS, rfl⟩
  have hSl : S < s.heap.objs.size := Heap.lt_size hS
  refine wpAny_pyIter_slot hT F.slot_set_iter (wpAny_call_entry F.slot_set_iter hT entry_set_iter' ?_ (F.args_set_iter_1 _))
  show wpAny _ _ (Builtin.Frozenset.sizeOf S >>= _) _ _ s
  unfold Builtin.Frozenset.sizeOf setEntries
  refine wpAny_bind (wpAny_bind (wpAny_bind (L.state hS rfl (wpAny_pure (wpAny_pure ?_)))))
  unfold setDrawn
  refine wpAny_bind (wpAny_bind (L.state hS rfl ?_))
  unfold setsByText
  refine wpAny_bind (wpAny_bind (wpAny_askSetting (wpAny_pure (wpAny_pure ?_))))
  dsimp only
  have quick : (w.params.followText "set-order" = true ∨ es.size ≤ 1) → wpAny (model prog w) A.in1 (do
      let __do_lift ← setEpoch S
      let __do_lift ← newFields "set_iterator" [rawInt 0, rawInt 0, .ref S, rawInt es.size, rawInt __do_lift]
      ret __do_lift) (fun fin s' => ∃ v, fin = .done (.ret v) ∧ ∃ T' r, s'.TypeIs v T' ∧ typeLookup (.type T') "__next__" = pure (some r) ∧ Q v s') E s := fun hc => by
    unfold setEpoch
    refine wpAny_bind (wpAny_bind (L.state hS rfl (wpAny_pure ?_)))
    refine wpAny_bind (m := newFields "set_iterator" _) (wpAny_newObj_type (wpAny_pure ⟨_, rfl, "set_iterator", _, ⟨_, Heap.get?_push_size _ rfl, rfl⟩, slot_siter_next.lookup, ?_⟩))
    have hne : S ≠ s.heap.objs.size := Nat.ne_of_lt hSl
    have gI := Heap.get?_push_size s.heap (o := siterO (rawInt (0 : Nat)) 0 (.ref S) es.size ep) rfl
    have gS := Heap.get?_push_of_some (siterO (rawInt (0 : Nat)) 0 (.ref S) es.size ep) hS
    have lt : ∀ b ∈ [s.heap.objs.size, S], b < (s.heap.push (siterO (rawInt (0 : Nat)) 0 (.ref S) es.size ep)).objs.size := fun b hb => by
      rw [Heap.size_push]
      rcases List.mem_cons.mp hb with rfl | hb
      · exact Nat.lt_succ_self _
      · rw [List.mem_singleton.mp hb]; exact Nat.lt_succ_of_lt hSl
    have fr : ∀ b ∈ [s.heap.objs.size, S], b = S ∨ s.heap.get? b = none := fun b hb => by
      rcases List.mem_cons.mp hb with rfl | hb
      · exact .inr (size_none' _)
      · exact .inl (List.mem_singleton.mp hb)
    by_cases by_ : w.params.followText "set-order" = true
    · exact hq _ s.drawn _ _ _ _ (fun b o e => Heap.get?_push_of_some _ e) (walks_text hh L by_ s.heap.objs.size hne) ⟨gI, gS⟩ (by simp) lt fr (size_none' _) ((pickOrder_perm _ _).map _)
    · have by' : w.params.followText "set-order" = false := by simpa using by_
      exact hq _ s.drawn _ _ _ _ (fun b o e => Heap.get?_push_of_some _ e) (walks_few hh L by' (by rw [hld, by']; rfl) (hc.resolve_left by_) s.heap.objs.size hne) ⟨⟨0, gI, fun _ => rfl, fun z => absurd z (by omega)⟩, gS⟩ (by simp) lt fr (size_none' _) (List.Perm.refl _)
  split
  · rename_i hc
    have hc' : ((!w.params.followText "set-order") && (!t.plain && decide (es.size > 1))) = true := hc
    simp only [Bool.and_eq_true, Bool.not_eq_true', decide_eq_true_eq] at hc'
    refine wpAny_bind (draw_order es.size (List.range es.size) s _ (by simp) fun order d hp => ?_)
    have hol : order.length = es.size := by have := hp.length_eq; simpa using this
    refine wpAny_bind (wpAny_newTuple ?_ (by rw [List.length_map, hol, sizeLine_eq]; omega))
    unfold setEpoch
    have hS1 := Heap.get?_push_of_some (tupleOf' ((order.map fun (i : Nat) => rawInt i).toArray) 0) hS
    refine wpAny_bind (wpAny_bind (L.state (s := { s with heap := s.heap.push (tupleOf' ((order.map fun (i : Nat) => rawInt i).toArray) 0), drawn := d }) hS1 rfl (wpAny_pure ?_)))
    refine wpAny_bind (m := newFields "set_iterator" _) (wpAny_newObj_type (wpAny_pure ⟨_, rfl, "set_iterator", _, ⟨_, Heap.get?_push_size _ rfl, rfl⟩, slot_siter_next.lookup, ?_⟩))
    generalize hH : s.heap.push (tupleOf' ((order.map fun (i : Nat) => rawInt i).toArray) 0) = H at hS1
    have hHs : H.objs.size = s.heap.objs.size + 1 := by rw [← hH, Heap.size_push]
    have gT : H.get? s.heap.objs.size = some (tupleOf' ((order.map fun (i : Nat) => rawInt i).toArray) 0) := hH ▸ Heap.get?_push_size _ rfl
    have up : s.heap.StaysIn H := fun b o e => hH ▸ Heap.get?_push_of_some _ e
    have zI : s.heap.get? H.objs.size = none := by
      cases q : s.heap.get? H.objs.size with
      | none => rfl
      | some o => exact absurd (Heap.lt_size (up _ _ q)) (Nat.lt_irrefl _)
    have gI := Heap.get?_push_size H (o := siterO (.ref s.heap.objs.size) 0 (.ref S) es.size ep) rfl
    refine hq _ d H.objs.size [H.objs.size, S, s.heap.objs.size] _ _ (fun b o e => Heap.get?_push_of_some _ (up b o e)) (walks_drawn hh L H.objs.size s.heap.objs.size (by rw [hHs]; exact Nat.ne_of_lt (Nat.lt_succ_of_lt hSl)) (by rw [hHs]; exact Nat.ne_of_lt (Nat.lt_succ_self _)) order hp) ⟨gI, Heap.get?_push_of_some _ hS1, Heap.get?_push_of_some _ gT⟩ (by simp) (fun b hb => ?_) (fun b hb => ?_) zI ?_
    · rw [Heap.size_push, hHs]
      simp only [List.mem_cons, List.not_mem_nil, or_false] at hb
      rcases hb with rfl | rfl | rfl
      · rw [hHs]; exact Nat.lt_succ_self _
      · exact Nat.lt_succ_of_lt (Nat.lt_succ_of_lt hSl)
      · exact Nat.lt_succ_of_lt (Nat.lt_succ_self _)
    · simp only [List.mem_cons, List.not_mem_nil, or_false] at hb
      rcases hb with rfl | rfl | rfl
      · exact .inr zI
      · exact .inl rfl
      · exact .inr (size_none' _)
    · refine (hp.filterMap _).trans (List.Perm.of_eq ?_)
      have := PySem.filterMap_getElem?_range es
      show _ = es.toList.map (·.2)
      rw [← this, List.map_filterMap]
  · rename_i hc
    have hc' : ¬ ((!w.params.followText "set-order") && (!t.plain && decide (es.size > 1))) = true := hc
    refine quick ?_
    by_cases by_ : w.params.followText "set-order" = true
    · exact .inl by_
    · refine .inr (Nat.le_of_not_lt fun hlt => hc' ?_)
      have : ks ≠ [] := fun e => by have := L.en.len; rw [e] at this; simp at this; omega
      rw [hpl this]
      simp [by_]; omega
end
end Mine
end
section
open PySem PySem.W PyProof.Rows PySem.Calls
set_option Elab.async false
set_option linter.unusedVariables false
namespace Mine
section
variable {prog : Program} {w : World} {A : Around} {E : Value → Shared → Prop} {s : Shared} {h : Heap} {α : Type} [DecidableEq α] {K : ItemKind prog w h α}
variable {S ep : Nat} {es : Array (Int × Value)} {t : SetTable} {ks : List α}
theorem set_collect (hh : A.handled = none) (L : Loose K es t ks) (hS : s.heap.get? S = some (setO es ep t)) (hpl : ks ≠ [] → t.plain = false) (hld : t.led = (!w.params.followText "set-order")) (hz : es.size ≤ 1000) {Q : List Value → Shared → Prop}
    (hq : ∀ h' d' tk (vals : List Value), s.heap.StaysIn h' → vals.Perm (valsOf es) → Q vals { s with heap := h', drawn := d', toks := tk }) : wpAny (model prog w) A (collect (.ref S)) Q E s := by
  have hSl : S < s.heap.objs.size := Heap.lt_size hS
  unfold collect
  refine wpAny_bind (wpAny_runValue (codeAny_builtin F.entry_proto_collect ?_))
  rw [Around.under_plainId F.plain_proto_collect _]
  show wpAny _ A.in1 (newList [] >>= fun l => again (.builtin "list.__iadd__" ⟨[l, .ref S], []⟩)) _ _ s
  refine wpAny_bind (wpAny_newObj_type ?_)
  refine wpAny_pure ⟨plainId_quiet F.plain_list_iadd _, codeAny_builtin F.entry_list_iadd ?_⟩
  rw [Around.under_plainId F.plain_list_iadd _]
  generalize hL : s.heap.objs.size = l
  generalize hH : s.heap.push { cls := .type "list", data := .seq ([] : List Value).toArray } = H
  have gl : H.get? l = some (listOf #[] 0) := by rw [← hH, ← hL]; exact Heap.get?_push_size _ rfl
  have up : s.heap.StaysIn H := fun b o e => hH ▸ Heap.get?_push_of_some _ e
  have hS1 : H.get? S = some (setO es ep t) := up _ _ hS
  have hSlne : l ≠ S := by rw [← hL]; exact Nat.ne_of_gt hSl
  have h1 : Builtin.List.listSameRef (.ref l) (.ref S) = false := by simp [Builtin.List.listSameRef, hSlne]
  have hT : Shared.TypeIs { s with heap := H } (.ref S) "set" := ⟨_, hS1, rfl⟩
  show wpAny _ A.in1 (Builtin.List.listExtendWith (.ref l) (.ref S) (.ref l)) _ _ { s with heap := H }
  unfold Builtin.List.listExtendWith
  refine wpAny_bind (wpAny_typeOf hT ?_)
  rw [if_neg (by rw [h1]; decide)]
  refine wpAny_bind (set_iter (A := A.in1) (s := { s with heap := H }) hh L hS1 hpl hld hz fun H1 d1 I fp vals St k1 W st hI hfp hfr zI hperm => ?_)
  have hS2 : H1.get? S = some (setO es ep t) := k1 _ _ hS1
  have hT2 : Shared.TypeIs { s with heap := H1, drawn := d1 } (.ref S) "set" := ⟨_, hS2, rfl⟩
  refine wpAny_bind (wpAny_holding ?_)
  unfold Builtin.List.listLengthHint
  refine wpAny_bind (wpAny_specialOf (s := { s with heap := H1, drawn := d1 }) hT2 F.slot_set_len.lookup ?_)
  dsimp only
  rw [split_set_len]
  dsimp only
  refine wpAny_bind (wpAny_isInstance (b := true) hT2 (by rw [isSubtype_type]; kernel_rfl) ?_)
  rw [if_neg (by simp)]
  rw [if_pos]
  rotate_left
  · decide +kernel
  refine wpAny_bind (wpAny_typeOf hT2 ?_)
  dsimp only
  refine wpAny_pure ?_
  rw [if_pos]
  rotate_left
  · decide +kernel
  refine wpAny_bind (wpAny_rule ?_)
  unfold Builtin.List.listTouch
  have hl1 : H1.get? l = some (listOf #[] 0) := k1 _ _ gl
  refine wpAny_bind (wpAny_bind (listUpdate_at (s := { s with heap := H1, drawn := d1 }) hl1 rfl ?_ (Nat.zero_le _) (by decide)))
  have g2 := get?_update_seq hl1 (fun xs : Array Value => xs.push .none)
  refine listUpdate_at (s := { s with heap := H1.update l (Obj.mapSeq fun xs => xs.push .none), drawn := d1 }) g2 rfl ?_ (by decide) (by decide)
  have g3 := get?_update_seq g2 (fun xs : Array Value => xs.pop)
  generalize hH3 : (H1.update l (Obj.mapSeq fun xs => xs.push Value.none)).update l (Obj.mapSeq fun xs => xs.pop) = H3 at g3
  have sb : Heap.SameBut l H1 H3 := by rw [← hH3]; exact (Heap.SameBut.update ..).trans (Heap.SameBut.update ..)
  have lfp : l ∉ fp := fun hm => (hfr l hm).elim hSlne fun q => by
    have : H.get? l = none := q
    rw [gl] at this; cases this
  have hvl : vals.length = es.size := by have := hperm.length_eq; simpa using this
  have st3 : St 0 H3 := W.frame 0 H1 H3 st fun b hb o e => sb.extBut b o (fun q => lfp (q ▸ hb)) e
  refine wpAny_pure ⟨plainId_quiet F.plain_extend_loop _, codeAny_extend_loopS (A := A) W.toS (by rw [sizeLine_eq]; omega) l lfp _ es.size 0 { s with heap := H3, drawn := d1 } _ _ rfl (Nat.zero_le _) st3 g3 (ItemsOf.nil _) fun s' acc' c' hm hS' hacc => ?_⟩
  show wpAny _ A (load l >>= _) _ _ s'
  refine wpAny_bind (wpAny_load hS' ?_)
  obtain ⟨h', g', d', tk', os'⟩ := s'
  obtain rfl : g' = s.gens := hm.gens
  obtain rfl : d' = d1 := hm.drawn
  obtain rfl : os' = s.os := hm.os
  have hv : acc'.toList = vals := by
    apply List.ext_getElem?
    intro i
    rw [Array.getElem?_toList]
    cases q : acc'[i]? with
    | some v => exact (hacc.2 i v q).symm
    | none =>
      rw [Array.getElem?_eq_none_iff, hacc.1] at q
      exact (List.getElem?_eq_none (by omega)).symm
  refine wpAny_pure ?_
  show Q acc'.toList _
  rw [hv]
  refine hq h' d' tk' vals (fun b o e => ?_) hperm
  have bl : b ≠ l := fun q => by rw [q, ← hL, size_none'] at e; cases e
  have bI : b ≠ I := fun q => by
    have : H.get? I = none := zI
    rw [← q, up _ _ e] at this; cases this
  exact hm.heap b o (by simp [bl, bI]) (sb.extBut b o bl (k1 b o (up b o e)))
end
end Mine
end
section
open PySem PySem.W PyProof.Rows PySem.Calls
set_option Elab.async false
set_option linter.unusedVariables false
namespace Mine
section
variable {prog : Program} {w : World} {A : Around} {E : Value → Shared → Prop} {s : Shared} {h : Heap} {α : Type} [DecidableEq α] (K : ItemKind prog w h α)
/-- items that are told apart by lt, as the sort asks it -/
structure Ordered (ltα : α → α → Bool) where
  κ : SortKind
  kind : ∀ {A : Around} {E : Value → Shared → Prop} {s : Shared} {zs : List α} {vs : List Value} {Q : SortKind → Shared → Prop}, h.StaysIn s.heap → Pw K.is zs vs → 2 ≤ vs.length → Q κ s → wpAny (model prog w) A (keyKind' vs.toArray) Q E s
  cmp : ∀ {A : Around} {E : Value → Shared → Prop} {s : Shared} {x y : α} {u v : Value} {C : Bool → Shared → Prop}, A.units + 100 < cLine → h.StaysIn s.heap → K.is x u → K.is y v → (∀ tk, C (ltα x y) { s with toks := tk }) → wpAny (model prog w) A (keyLt' κ u v) C E s
  trans : ∀ {a b c}, ltα a b = true → ltα b c = true → ltα a c = true
  asym : ∀ {a b}, ltα a b = true → ltα b a = false
  tot : ∀ {a b}, a ≠ b → ltα a b = false → ltα b a = true
variable {K} {ltα : α → α → Bool}
theorem wp_of_sat {κ : SortKind} {it : Array Keyed} {n : Nat} {lt : Nat → Nat → Bool} {β : Type} {P : β → Prop} {G : β → Shared → Prop} (hc : ∀ i j, i < n → j < n → ∀ tk (C : Bool → Shared → Prop), (∀ tk', C (lt i j) { s with toks := tk' }) → kas_cmp prog w A κ it i j C { s with toks := tk })
    (hg : ∀ a tk, P a → G a { s with toks := tk }) : ∀ (t : KasT β) (tk : Nat), Srt.Sat n lt t P → t.kasWp (kas_cmp prog w A κ it) G { s with toks := tk }
  | .ret a, tk, x => hg a tk x
  | .ask i j k, tk, x => hc i j x.1 x.2.1 tk _ fun tk' => wp_of_sat hc hg _ tk' x.2.2
theorem Pw.getD {β : Type} {P : β → Value → Prop} {ks : List β} {vs : List Value} (p : Pw P ks vs) {i : Nat} (hi : i < ks.length) (d : β) : P (ks.getD i d) (vs.getD i Value.none) := by
  rcases p.of_get' i with ⟨q, _⟩ | ⟨k, v, q1, q2, q3⟩
  · exact absurd hi (Nat.not_lt.mpr (List.getElem?_eq_none_iff.mp q))
  · simpa [List.getD, q1, q2] using q3
theorem Pw.of_map {β : Type} {P : β → Value → Prop} {f : Nat → β} {g : Nat → Value} : ∀ {l : List Nat}, (∀ i ∈ l, P (f i) (g i)) → Pw P (l.map f) (l.map g)
  | [], _ => .nil
  | i :: l, h => .cons (h i (.head _)) (Pw.of_map fun j hj => h j (.tail _ hj))
theorem map_range_getD {β : Type} (l : List β) (d : β) : (List.range l.length).map (fun i => l.getD i d) = l := by
  apply List.ext_getElem?
  intro i
  by_cases hi : i < l.length
  · simp [hi]
  · simp [hi]
theorem sort_list (O : Ordered K ltα) {a : Addr} {vs : List Value} {zs : List α} {n : Nat} {P : PySem.Fin → Shared → Prop} (hu : A.units + 100 < cLine) (ho : s.heap.get? a = some (seqObj "list" vs.toArray n)) (ha : h.get? a = none) (kh : h.StaysIn s.heap) (hp : Pw K.is zs vs) (hn : zs.Nodup) (h64 : vs.length < 64)
    (hq : ∀ h' tk out ys c, h'.get? a = some (seqObj "list" (List.toArray out) c) → (∀ b o, b ≠ a → s.heap.get? b = some o → h'.get? b = some o) → Pw K.is ys out → ys.Perm zs → ys.Pairwise (fun x y => ltα x y = true) → P (.done (.ret .none)) { s with heap := h', toks := tk }) :
    wpAny (model prog w) A (Builtin.«list.sort» ⟨[.ref a], []⟩) P E s := by
  have hlt : a < s.heap.objs.size := Heap.lt_size ho
  have hlen := hp.length
  rw [list_sort_plain]
  refine wpAny_bind (listItems_at ho rfl ?_)
  refine wpAny_bind (listUpdate_at ho rfl ?_ (by rw [List.size_toArray, sizeLine_eq]; omega) (Nat.zero_le _))
  obtain ⟨e1, ho1⟩ : ∃ e1, (s.heap.update a (Obj.mapSeq fun _ => #[])).get? a = some (seqObj "list" #[] e1) := ⟨_, get?_update_seq ho (fun _ => #[])⟩
  have s1 := Heap.SameBut.update s.heap a (Obj.mapSeq fun _ => (#[] : Array Value))
  refine wpAny_bind (seqEpoch_at ho1 rfl ?_)
  refine wpAny_bind (wpAny_newTuple ?_ (by show vs.length ≤ _; rw [sizeLine_eq]; omega))
  refine wpAny_bind (wpAny_newList ?_ (Nat.zero_le _))
  refine wpAny_holding ?_
  generalize hH : ((s.heap.update a (Obj.mapSeq fun _ => #[])).push (seqObj "tuple" vs.toArray 0)).push (seqObj "list" #[] 0) = H
  have gH : H.get? a = some (seqObj "list" #[] e1) := by rw [← hH]; exact Heap.get?_push_of_some _ (Heap.get?_push_of_some _ ho1)
  have kH : ∀ b o, b ≠ a → s.heap.get? b = some o → H.get? b = some o := fun b o nb e => by rw [← hH]; exact Heap.get?_push_of_some _ (Heap.get?_push_of_some _ (s1.extBut b o nb e))
  have hkH : h.StaysIn H := fun b o e => kH b o (fun q => by rw [q, ha] at e; cases e) (kh b o e)
  show wpAny (model prog w) A _ P E ⟨H, s.gens, s.drawn, s.toks, s.os⟩
  dsimp only
  by_cases h2 : vs.toArray.size < 2
  · rw [if_pos h2, if_pos h2]
    refine wpAny_bind (wpAny_pure ?_)
    rw [StateT.run_pure]
    refine wpAny_bind (wpAny_pure ?_)
    dsimp only
    refine wpAny_bind (seqEpoch_at gH rfl ?_)
    have hz : ((arrOf (SortSt.mk' general' (vs.toArray.zip vs.toArray) #[] 7 none)).map (·.2)) = vs.toArray := by
      show ((vs.toArray.zip vs.toArray).map (·.2)) = _
      apply Array.toList_inj.mp
      have : ∀ l : List Value, (l.zip l).map (·.2) = l := fun l => by induction l with | nil => rfl | cons x l ih => simp [ih]
      simpa using this vs
    rw [hz]
    refine wpAny_bind (listUpdate_at gH rfl ?_ (Nat.zero_le _) (by rw [List.size_toArray, sizeLine_eq]; omega))
    simp only [bne_self_eq_false, Bool.false_eq_true, if_false]
    refine wpAny_pure (hq _ s.toks vs zs _ (get?_update_seq gH fun _ => vs.toArray) (fun b o nb e => (Heap.SameBut.update H a _).extBut b o nb (kH b o nb e)) hp (List.Perm.refl _) ?_)
    match zs, hlen with
    | [], _ => exact List.Pairwise.nil
    | [x], _ => exact List.pairwise_singleton _ _
    | x :: y :: r, hlen => simp at h2 hlen; omega
  · rw [if_neg h2, if_neg h2]
    rw [List.size_toArray] at h2
    refine wpAny_bind (O.kind (s := ⟨H, s.gens, s.drawn, s.toks, s.os⟩) hkH hp (by omega) ?_)
    have hz0 : 0 < zs.length := by omega
    generalize hd : zs[0] = d0
    let lt : Nat → Nat → Bool := fun i j => ltα (zs.getD i d0) (zs.getD j d0)
    have T : Srt.Tot vs.length lt := ⟨fun x y => O.trans x y, fun x => O.asym x, fun {a b} ha' hb' ne x => O.tot (fun e => ne (nodup_get hn (i := a) (j := b) (x := zs.getD a d0) (by simp [hlen, ha']) (by rw [e]; simp [hlen, hb']))) x⟩
    refine wpAny_bind (wpAny_mono (kat_run (E := fun _ _ => False) (Q := fun st' s' => ∃ (p : Array Nat) (tk : Nat), s' = ⟨H, s.gens, s.drawn, tk, s.os⟩ ∧ Srt.Per vs.length p ∧ Srt.Asc lt p vs.length ∧ arrOf st' = p.map (kas_item (vs.toArray.zip vs.toArray)) ∧ failedOf st' = none) (G := fun p s' => ∃ tk, s' = ⟨H, s.gens, s.drawn, tk, s.os⟩ ∧ Srt.Per vs.length p ∧ Srt.Asc lt p vs.length) (ks := vs) (vs := vs) rfl (by omega) h64 (fun p' st' s' b1 b2 b3 ⟨tk, b4, b5, b6⟩ => ⟨p', tk, b4, b5, b6, b2, b3⟩) ?_) ?_ fun _ _ e => e.elim)
    · rw [kat_ask_eq rfl]
      refine wp_of_sat (s := ⟨H, s.gens, s.drawn, s.toks, s.os⟩) (n := vs.length) (lt := lt) (fun i j hi hj tk C hC => ?_) (fun a tk x => ⟨tk, rfl, x⟩) _ s.toks (Srt.sort_ T (by omega))
      unfold kas_cmp
      rw [kat_item rfl, kat_item rfl]
      exact O.cmp (s := ⟨H, s.gens, s.drawn, tk, s.os⟩) hu hkH (hp.getD (by omega) d0) (hp.getD (by omega) d0) hC
    · rintro ⟨⟨⟩, st'⟩ s' ⟨p, tk, rfl, hper, hasc, har, hf⟩
      dsimp only
      have hout := kat_snds (ks := vs) (vs := vs) rfl har
      rw [hout]
      have hps : p.size = vs.length := hper.size
      refine wpAny_bind (seqEpoch_at gH rfl ?_)
      refine wpAny_bind (listUpdate_at gH rfl ?_ (Nat.zero_le _) (by rw [List.size_toArray, List.length_map, Array.length_toList, hps, sizeLine_eq]; omega))
      rw [hf]
      simp only [bne_self_eq_false, Bool.false_eq_true, if_false]
      refine wpAny_pure (hq _ tk (p.toList.map fun i => vs.getD i Value.none) (p.toList.map fun i => zs.getD i d0) _ (get?_update_seq gH fun _ => _) (fun b o nb e => (Heap.SameBut.update H a _).extBut b o nb (kH b o nb e)) ?_ ?_ ?_)
      · refine Pw.of_map fun i hi => hp.getD ?_ d0
        have := List.mem_range.mp (hper.mem_iff.mp hi)
        omega
      · refine (hper.map _).trans (List.Perm.of_eq ?_)
        rw [← hlen]; exact map_range_getD zs d0
      · rw [List.pairwise_map, List.pairwise_iff_getElem]
        intro i j hi hj hij
        rw [Array.length_toList, hps] at hi hj
        have := hasc i j hij hj
        have e1 : Srt.at_ p i = p.toList[i] := by simp [Srt.at_, Array.getD, hps, hi]
        have e2 : Srt.at_ p j = p.toList[j] := by simp [Srt.at_, Array.getD, hps, hj]
        rw [e1, e2] at this
        exact this
end
end Mine
end
section
open PySem PySem.W PyProof.Rows PySem.Calls
set_option Elab.async false
set_option linter.unusedVariables false
namespace Mine
section
variable {prog : Program} {w : World} {A : Around} {E : Value → Shared → Prop} {s : Shared} {h : Heap} {α : Type} [DecidableEq α] {K : ItemKind prog w h α} {ltα : α → α → Bool}
theorem sorted_call (O : Ordered K ltα) {x : Value} {xs : List α} {Q : Value → Shared → Prop} (hu : A.units + 110 < cLine) (kh : h.StaysIn s.heap) (h64 : xs.length < 64)
    (hcol : ∀ Q' : List Value → Shared → Prop, (∀ h' d' tk vals zs, s.heap.StaysIn h' → Pw K.is zs vals → zs.Nodup → (∀ y, y ∈ zs ↔ y ∈ xs) → Q' vals { s with heap := h', drawn := d', toks := tk }) → wpAny (model prog w) A.in1 (collect x) Q' E s)
    (hq : ∀ h' d' tk D out ys c, s.heap.StaysIn h' → h'.get? D = some (listOf (List.toArray out) c) → s.heap.get? D = none → Pw K.is ys out → ys.Pairwise (fun x y => ltα x y = true) → (∀ y, y ∈ ys ↔ y ∈ xs) → Q (.ref D) { s with heap := h', drawn := d', toks := tk }) :
    wpAny (model prog w) A (call (.builtin "sorted") [x]) Q E s := by
  refine Calls.call_function_entry kind_sorted plain_sorted entry_sorted (args_sorted1 _) ?_
  unfold Builtin.«sorted»
  refine wpAny_bind (m := checkCount "sorted" 1 1 _) (wpAny_pure ?_)
  refine wpAny_bind (hcol _ fun h1 d1 tk1 vals zs k1 p1 n1 m1 => ?_)
  have hz : zs.length < 64 := Nat.lt_of_le_of_lt (nodup_len n1 fun y hy => (m1 y).mp hy) h64
  have hvl := p1.length
  refine wpAny_bind (wpAny_newList ?_ (by rw [sizeLine_eq]; omega))
  generalize hD : h1.objs.size = D
  have gD : (h1.push (seqObj "list" vals.toArray 0)).get? D = some (seqObj "list" vals.toArray 0) := by rw [← hD]; exact Heap.get?_push_size _ rfl
  have zD : s.heap.get? D = none := by
    cases q : s.heap.get? D with
    | none => rfl
    | some o => have := Heap.lt_size (k1 _ _ q); rw [hD] at this; exact absurd this (Nat.lt_irrefl _)
  have zhD : h.get? D = none := by
    cases q : h.get? D with
    | none => rfl
    | some o => rw [kh _ _ q] at zD; cases zD
  have up : s.heap.StaysIn (h1.push (seqObj "list" vals.toArray 0)) := fun b o e => Heap.get?_push_of_some _ (k1 b o e)
  show wpAny _ _ _ _ _ ⟨h1.push (seqObj "list" vals.toArray 0), s.gens, d1, tk1, s.os⟩
  refine wpAny_bind (wpAny_holding (wpAny_call_entry slot_list_sort (s := ⟨h1.push (seqObj "list" vals.toArray 0), s.gens, d1, tk1, s.os⟩) ⟨_, gD, rfl⟩ entry_list_sort ?body (args_list_sort _)))
  case body =>
    refine sort_list (s := ⟨h1.push (seqObj "list" vals.toArray 0), s.gens, d1, tk1, s.os⟩) (A := A.in1.in1) O (by show A.units + 2 + 100 < _; omega) gD zhD (fun b o e => up b o (kh b o e)) p1 n1 (by omega) fun h2 tk2 out ys c g2 k2 p2 pm pw => ?_
    exact ⟨_, rfl, wpAny_pure ⟨_, rfl, hq h2 d1 tk2 D out ys c (fun b o e => k2 b o (fun q => by rw [q, zD] at e; cases e) (up b o e)) g2 zD p2 pw fun y => (pm.mem_iff).trans (m1 y)⟩⟩
theorem sorted_list (O : Ordered K ltα) {l : Addr} {vs : Array Value} {n : Nat} {xs : List α} {Q : Value → Shared → Prop} (hu : A.units + 110 < cLine) (kh : h.StaysIn s.heap) (hl : s.heap.get? l = some (listOf vs n)) (hp : Pw K.is xs vs.toList) (hn : xs.Nodup) (h64 : xs.length < 64)
    (hq : ∀ h' d' tk D out ys c, s.heap.StaysIn h' → h'.get? D = some (listOf (List.toArray out) c) → s.heap.get? D = none → Pw K.is ys out → ys.Pairwise (fun x y => ltα x y = true) → (∀ y, y ∈ ys ↔ y ∈ xs) → Q (.ref D) { s with heap := h', drawn := d', toks := tk }) :
    wpAny (model prog w) A (call (.builtin "sorted") [.ref l]) Q E s := by
  have hlen := hp.length
  refine sorted_call O hu kh h64 (fun Q' hQ' => ?_) hq
  refine collect_list (vs := vs.toList) ⟨_, hl, rfl, n, by simp⟩ ?_ (by rw [sizeLine_eq]; omega)
  refine hQ' _ s.drawn s.toks vs.toList xs (fun b o e => ?_) hp hn fun y => Iff.rfl
  have nb : b ≠ s.heap.objs.size := fun q => by rw [q, size_none'] at e; cases e
  exact (Heap.SameBut.update _ _ _).extBut b o nb (Heap.get?_push_of_some _ e)
theorem sorted_set (O : Ordered K ltα) {S ep : Nat} {es : Array (Int × Value)} {t : SetTable} {ks xs : List α} {Q : Value → Shared → Prop} (hh : A.handled = none) (hu : A.units + 110 < cLine) (kh : h.StaysIn s.heap) (L : SetOk K es t ks) (hS : s.heap.get? S = some (setO es ep t)) (hpl : ks ≠ [] → t.plain = false) (hld : t.led = (!w.params.followText "set-order")) (hm : ∀ y, y ∈ ks ↔ y ∈ xs) (h64 : xs.length < 64)
    (hq : ∀ h' d' tk D out ys c, s.heap.StaysIn h' → h'.get? D = some (listOf (List.toArray out) c) → s.heap.get? D = none → Pw K.is ys out → ys.Pairwise (fun x y => ltα x y = true) → (∀ y, y ∈ ys ↔ y ∈ xs) → Q (.ref D) { s with heap := h', drawn := d', toks := tk }) :
    wpAny (model prog w) A (call (.builtin "sorted") [.ref S]) Q E s := by
  have hkl : ks.length < 64 := Nat.lt_of_le_of_lt (nodup_len L.nodup fun y hy => (hm y).mp hy) h64
  refine sorted_call O hu kh h64 (fun Q' hQ' => ?_) hq
  refine set_collect (A := A.in1) hh L.loose hS hpl hld (by rw [← L.len]; omega) fun h' d' tk vals k hperm => ?_
  -- the values, and the keys along with them
  have hks : Pw K.is ks (valsOf es) := by
    have gen : ∀ (ks : List α) (l : List (Int × Value)), ks.length = l.length → (∀ (i : Nat) (k : α), ks[i]? = some k → ∃ v, l[i]? = some (K.hash k, v) ∧ K.is k v) → Pw K.is ks (l.map (·.2)) := by
      intro ks
      induction ks with
      | nil => intro l hl _; cases l with
        | nil => exact .nil
        | cons x l => simp at hl
      | cons k ks ih =>
        intro l hl H
        cases l with
        | nil => simp at hl
        | cons x l =>
          obtain ⟨v, e1, e2⟩ := H 0 k (by simp)
          simp at e1
          subst e1
          exact .cons e2 (ih l (by simpa using hl) fun i k hk => H (i + 1) k (by simpa using hk))
    exact gen ks es.toList (by rw [L.len]; simp) fun i k hk => by obtain ⟨v, e1, e2⟩ := L.ents i k hk; exact ⟨v, by rw [Array.getElem?_toList]; exact e1, e2⟩
  obtain ⟨zs, pz, hz⟩ : ∃ zs, Pw K.is zs vals ∧ zs.Perm ks := by
    clear hQ' hq hS
    have gen : ∀ {v1 v2 : List Value}, v1.Perm v2 → ∀ ks, Pw K.is ks v2 → ∃ zs, Pw K.is zs v1 ∧ zs.Perm ks := by
      intro v1 v2 hp
      induction hp with
      | nil => intro ks p; exact ⟨ks, p, List.Perm.refl _⟩
      | cons x _ ih =>
        intro ks p
        cases p with
        | cons a b => obtain ⟨zs, c1, c2⟩ := ih _ b; exact ⟨_ :: zs, .cons a c1, List.Perm.cons _ c2⟩
      | swap x y l =>
        intro ks p
        cases p with
        | cons a b => cases b with
          | cons c d => exact ⟨_ :: _ :: _, .cons c (.cons a d), List.Perm.swap _ _ _⟩
      | trans _ _ ih1 ih2 =>
        intro ks p
        obtain ⟨z2, c1, c2⟩ := ih2 ks p
        obtain ⟨z1, d1, d2⟩ := ih1 z2 c1
        exact ⟨z1, d1, d2.trans c2⟩
    exact gen hperm ks hks
  exact hQ' h' d' tk vals zs k pz (hz.nodup_iff.mpr L.nodup) fun y => (hz.mem_iff).trans (hm y)
end
end Mine
end
section
open PySem PySem.W PyProof.Rows PySem.Calls
set_option Elab.async false
namespace Mine
abbrev PP : Program := PySem.Challenge.pw_fi0012_01
theorem fillK : PySem.Challenge.rw_fi0012_01 = PySem.Challenge.rw_fi0012_01 ∧ hd.heap_39 = hd.heap_39 := by
  k_fill
  exact ⟨rfl, rfl⟩

section
variable {prog : Program} {w : World} {A : Around} {s : Shared} {K : Frag} {p : Program} {loose : List Str} {mg mb : Str → Option Value} {R : Result → Shared → Prop}
  {name qual : Str} {params : Arguments} {body : List Stmt} {scope : Scope} {dV kV doc pm cdv ct oc : Value} {an od : Option Addr} {osl : Array (Option Value)} {f : Addr} {args : Args} {binds : List (Str × Value)}

/-- a call of a def of the top: everything that stands is kept as the callee's base -/
theorem call_pure (X : K.In s.heap) (T : TopRead p loose mg mb s.heap)
    (ho : K.lookup f = some ⟨oc, od, .func (fnOf name qual params body scope dV kV doc pm an cdv ct), osl⟩) (hcd : codeIn K cdv qual = true) (hroom : A.depth < recursionLimit)
    (hbind : BindsTo s (fnOf name qual params body scope dV kV doc pm an cdv ct) args binds) (hloc : ∀ y ∈ binds, scope.names.lookup y.1 = some .local)
    (h : ∀ L h₁, Fr s.heap L h₁ (fun y => binds.reverse.lookup y) →
      wpAny (model prog w) (A.deeper (envOf qual scope L f cdv)) (execs body (envOf qual scope L f cdv))
        (fun fl s' => R (.ok (.ret (match fl with | .ret v => v | _ => .none))) s') (fun _ _ => False)
        { s with heap := h₁, toks := s.toks + binds.length })
    (hco : scope.isCoroutine = false) (hgen : scope.isGenerator = false) (hk : scope.kind = .function)
    (hcell : ∀ x ∈ scope.names, x.2 ≠ .cell) : codeAny (model prog w) A (.call (.ref f) args) R s := by
  refine codeAny_call_def (fd := fnX name qual params body scope [] dV kV doc pm an cdv ct) (body := body) (binds := binds) hroom (X _ _ ho) rfl T.nolimit (codeRec_of X hcd) rfl hbind hcell hloc (fun h₁ hns hk₁ => ?_) hco hgen hk
  exact wpAny_mono (h s.heap.objs.size h₁ ⟨hns, hk₁, Nat.le_refl _⟩) (fun _ _ x => x) fun _ _ x => x.elim

theorem call_cells (X : K.In s.heap) (T : TopRead p loose mg mb s.heap)
    (ho : K.lookup f = some ⟨oc, od, .func (fnOf name qual params body scope dV kV doc pm an cdv ct), osl⟩) (hcd : codeIn K cdv qual = true) (hroom : A.depth < recursionLimit)
    (hbind : BindsTo s (fnOf name qual params body scope dV kV doc pm an cdv ct) args binds) (hkind : (binds.all fun y => scope.names.lookup y.1 == some .local || scope.names.lookup y.1 == some .cell) = true)
    (hnd : ((cellsFrom 0 scope.names []).map (·.1)).Nodup)
    (h : ∀ L h₁ tk cells, Fr s.heap L h₁ (bindL (envOfC qual scope L f cdv).kindOf binds fun _ => none) → News s.heap L h₁ cells →
      CellsAre (bindC (envOfC qual scope L f cdv).kindOf binds fun _ => none) (cellsFrom (L + 1) scope.names []) cells →
      wpAny (model prog w) (A.deeper (envOfC qual scope L f cdv)) (execs body (envOfC qual scope L f cdv))
        (fun fl s' => R (.ok (.ret (match fl with | .ret v => v | _ => .none))) s') (fun _ _ => False)
        { s with heap := h₁, toks := tk })
    (hco : scope.isCoroutine = false) (hgen : scope.isGenerator = false) (hk : scope.kind = .function) : codeAny (model prog w) A (.call (.ref f) args) R s := by
  refine codeAny_call_function (fd := fnX name qual params body scope [] dV kV doc pm an cdv ct) hroom (X _ _ ho) rfl hco hgen rfl (codeRec_of X hcd) (hbind _ _ _ _ ?_)
  refine wpAny_newFunctionEnv_cells hk (kindsX hkind _) fun env' he s' x => ?_
  subst he
  refine ⟨T.nolimit.keeps x.toInCall.keep, codeAny_func ?_⟩
  obtain ⟨h₁, tk, rfl, _⟩ := x.done
  have hk₁ := x.toInCall.keep
  obtain ⟨cells, NC, Y⟩ := Cl.news (h₀ := s.heap) (Nat.le_refl _) fun n c hm => ⟨x.cell n c (lookup_of_mem_nodup (cellsFrom_names scope.names 0 (s.heap.objs.size + 1) [] [] rfl ▸ hnd) hm), x.above n c hm⟩
  exact wpAny_mono (h s.heap.objs.size h₁ tk cells ⟨x.toInCall.ns, hk₁, Nat.le_refl _⟩ (fun p hp => ⟨(NC p hp).1, (NC p hp).2.1, (NC p hp).2.2⟩) Y) (fun _ _ x => x) fun _ _ x => x.elim
end
end Mine
end
section
open PySem PySem.W PySem.W.X PyProof.Rows PySem.Calls
set_option Elab.async false
namespace Mine
/-- what is shown around many frames holds around few -/
theorem any_le {α : Type} {M : Model} {A : Around} {dp un : Nat} {t : Sem α} {Q : α → Shared → Prop} {E : Value → Shared → Prop} {s : Shared}
    (h : wpAny M ⟨none, dp, none, none, un⟩ t Q E s) (hh : A.handled = none) (hd : A.depth ≤ dp) (hu : A.units ≤ un) : wpAny M A t Q E s := fun Γ p hΓ =>
  h Γ p ⟨hΓ.1.trans hh, Nat.le_trans hΓ.2.1 hd, fun _ e => (nomatch e), fun _ e => (nomatch e), Nat.le_trans hΓ.2.2.2.2 hu⟩
theorem mem_stays {h₀ h : Heap} {news : List (Addr × Obj)} (D : Mem h₀ h [] news) : h₀.StaysIn h := fun b o e => D.keep b o e (by show (hasCls o || true) = true; rw [Bool.or_true])
theorem mem_at {h₀ h : Heap} {a : Addr} {o : Obj} {news : List (Addr × Obj)} (D : Mem h₀ h [] news) (hm : (a, o) ∈ news) : h.get? a = some o ∧ h₀.get? a = none := D.nw _ hm
theorem fillK2 : PySem.Challenge.rw_fi0012_01 = PySem.Challenge.rw_fi0012_01 ∧ hd.heap_39 = hd.heap_39 := by
  k_fill
  exact ⟨rfl, rfl⟩
/-- a place made anew -/
def NewAt (h₀ h : Heap) (a : Addr) (o : Obj) : Prop := h.get? a = some o ∧ h₀.get? a = none
def Ends (hp : Heap) (g : Array GenState) (d : Drawn) (os : OsState) (Q : Value → Shared → Prop) (o : Addr → Obj) : Prop :=
  ∀ h' tk' a dd, hp.StaysIn h' → NewAt hp h' a (o dd) → NewAt hp h' dd ⟨.type "dict", none, .dict #[] 0, #[]⟩ → Q (.ref a) ⟨h', g, d, tk', os⟩
theorem Ends.use {hp h' : Heap} {g : Array GenState} {d : Drawn} {os : OsState} {Q : Value → Shared → Prop} {o : Addr → Obj} {a dd : Addr} {tk' : Nat} {rest : List (Addr × Obj)}
    (E : Ends hp g d os Q o) (D : Mem hp h' [] ((a, o dd) :: (dd, ⟨.type "dict", none, .dict #[] 0, #[]⟩) :: rest)) : Q (.ref a) ⟨h', g, d, tk', os⟩ := E h' tk' a dd (mem_stays D) (mem_at D (.head _)) (mem_at D (.tail _ (.head _)))
def EndsAny (hp : Heap) (g : Array GenState) (d : Drawn) (os : OsState) (Q : Value → Shared → Prop) : Prop :=
  ∀ h' tk' a, hp.StaysIn h' → Q (.ref a) ⟨h', g, d, tk', os⟩
theorem EndsAny.use {hp h' : Heap} {g : Array GenState} {d : Drawn} {os : OsState} {Q : Value → Shared → Prop} {a : Addr} {tk' : Nat} {l : List (Addr × Obj)}
    (E : EndsAny hp g d os Q) (D : Mem hp h' [] l) : Q (.ref a) ⟨h', g, d, tk', os⟩ := E h' tk' a (mem_stays D)
abbrev symO (nm : Str) (t : Tok) (b : Bool) (dd : Addr) : Obj := ⟨.ref 228, some dd, .seq #[.str nm t, .bool b] 0, #[]⟩
abbrev ruleO (v1 v2 v3 v4 v5 : Value) (dd : Addr) : Obj := ⟨.ref 388, some dd, .seq #[v1, v2, v3, v4, v5] 0, #[]⟩
local macro_rules | `(tactic| x_close) => `(tactic| first | exact Ends.use (by assumption) (by assumption) | exact EndsAny.use (by assumption) (by assumption) | (trace_state; fail "no end"))
set_option pp.deepTerms false
set_option pp.deepTerms.threshold 6
set_option maxRecDepth 100000 in
set_option maxHeartbeats 0 in
theorem symNew {w : World} {A : Around} {hp : Heap} {g : Array GenState} {d : Drawn} {tk : Nat} {os : OsState} {Q : Value → Shared → Prop} {nm : Str} {t : Tok} {b : Bool}
   (X : (hd.heap_39 w.params).In hp) (hh : A.handled = none) (hd : A.depth ≤ 500) (hu : A.units ≤ 200) (hE : Ends hp g d os Q (symO nm t b)) :
   wpAny (model PP w) A (call (.ref 228) [.str nm t, .bool b]) Q (fun _ _ => False) ⟨hp, g, d, tk, os⟩ := by
  refine any_le (dp := 500) (un := 200) ?_ hh hd hu
  clear hh hd hu
  x_run
set_option maxRecDepth 100000 in
set_option maxHeartbeats 0 in
theorem ruleNew {w : World} {A : Around} {hp : Heap} {g : Array GenState} {d : Drawn} {tk : Nat} {os : OsState} {Q : Value → Shared → Prop} {a1 a2 a5 : Addr} {k : Int} {t : Tok}
   (X : (hd.heap_39 w.params).In hp) (hh : A.handled = none) (hd : A.depth ≤ 500) (hu : A.units ≤ 200) (hE : Ends hp g d os Q (ruleO (.ref a1) (.ref a2) (.int k t) .none (.ref a5))) :
   wpAny (model PP w) A (call (.ref 388) [.ref a1, .ref a2, .int k t, .none, .ref a5]) Q (fun _ _ => False) ⟨hp, g, d, tk, os⟩ := by
  refine any_le (dp := 500) (un := 200) ?_ hh hd hu
  clear hh hd hu
  x_run
set_option maxRecDepth 100000 in
set_option maxHeartbeats 0 in
theorem optsNew {w : World} {A : Around} {hp : Heap} {g : Array GenState} {d : Drawn} {tk : Nat} {os : OsState} {Q : Value → Shared → Prop} 
   (X : (hd.heap_39 w.params).In hp) (hh : A.handled = none) (hd : A.depth ≤ 500) (hu : A.units ≤ 200) (hE : EndsAny hp g d os Q) :
   wpAny (model PP w) A (call (.ref 415) []) Q (fun _ _ => False) ⟨hp, g, d, tk, os⟩ := by
  refine any_le (dp := 500) (un := 200) ?_ hh hd hu
  clear hh hd hu
  x_run
end Mine
end
section
open PySem PySem.W PySem.W.X PyProof.Rows PySem.Calls
set_option Elab.async false
namespace Mine
theorem fillK3 : PySem.Challenge.rw_fi0012_01 = PySem.Challenge.rw_fi0012_01 ∧ hd.heap_39 = hd.heap_39 := by
  k_fill
  exact ⟨rfl, rfl⟩
section
open PySem.MeetsSeq
set_option maxRecDepth 100000 in
theorem tupItem {prog : Program} {w : World} {A : Around} {s : Shared} {l : Addr} {C : Value} {dd : Option Addr} {sl : Array (Option Value)} {items : Array Value} {n : Nat} {i : Int} {u : Tok} {k : Nat} {y : Value} {R : PySem.Fin → Shared → Prop} {E : Value → Shared → Prop}
    (hl : s.heap.get? l = some ⟨C, dd, .seq items n, sl⟩) (hlo : -2 ^ 63 ≤ i) (hhi : i < 2 ^ 63) (hk : seqIndex? i items.size = some k) (hy : items[k]? = some y) (h : R (.done (.ret y)) s) :
    wpAny (model prog w) A (Builtin.«tuple.__getitem__» ⟨[.ref l, .int i u], []⟩) R E s := by
  obtain ⟨hp, g, d, tk, os⟩ := s
  have f1 := AutoSeq1.idx_int
  have hf : ¬ (decide (i < -2 ^ 63) || decide (i ≥ 2 ^ 63)) = true := by simp; omega
  wp_walk using wpAny_loadPart' hl
  simp only [hk, hy, Option.bind_some]
  refine wpAny_ite_false (by simp; omega) ?_
  wp_walk
  exact h
end

local macro_rules | `(tactic| x_close) => `(tactic| first | (with_reducible rename (∀ _, _) => hEnd; exact hEnd _) | (trace_state; fail "no end"))
set_option maxHeartbeats 0
section
variable {w : World} {A : Around} {hp : Heap} {g : Array GenState} {d : Drawn} {tk : Nat} {os : OsState} {Q : Value → Shared → Prop} {E : Value → Shared → Prop}
theorem tgi_plain : plainId "tuple.__getitem__" = true := by decide +kernel
theorem tgi_kind : builtinKind "tuple.__getitem__" = some .slot := by decide +kernel
theorem tgi_split : splitId "tuple.__getitem__" = some ("tuple", "__getitem__") := by decide +kernel
theorem call_tupItem {x C : Addr} {dd : Option Addr} {sl : Array (Option Value)} {items : Array Value} {n : Nat} {i : Int} {u : Tok} {k : Nat} {y : Value}
    (X : (hd.heap_39 w.params).In hp) (hC : mroIn (hd.heap_39 w.params) C (.type "tuple") = some true)
    (hl : hp.get? x = some ⟨.ref C, dd, .seq items n, sl⟩) (hlo : -2 ^ 63 ≤ i) (hhi : i < 2 ^ 63) (hk : seqIndex? i items.size = some k) (hy : items[k]? = some y) (h : Q y ⟨hp, g, d, tk, os⟩) :
    wpAny (model PP w) A (call (.builtin "tuple.__getitem__") [.ref x, .int i u]) Q E ⟨hp, g, d, tk, os⟩ := by
  have t1 : Looks (model PP w) hp (typeOf (.ref x)) (.ref C) := (Looks.ld hl).andThen .now
  have t2 : Looks (model PP w) hp (isInstance (.ref x) (.type "tuple")) true := t1.andThen (looks_mroIn X hC)
  refine wpAny_call (codeAny_call_builtin tgi_plain PyProof.Rows.entry_tuple_getitem (@check_slot (model PP w) _ _ ⟨hp, g, d, tk, os⟩ "tuple.__getitem__" "tuple" "__getitem__" (.ref x) [.int i u] [] _ tgi_kind tgi_split t2 (PyProof.Rows.args_tuple_getitem (.ref x) (.int i u)) ?_))
  exact tupItem hl hlo hhi hk hy h
theorem call_issub (hh : A.handled = none) (hdp : A.depth ≤ 510) (hu : A.units ≤ 210) (X : (hd.heap_39 w.params).In hp) (h : ∀ tk', Q (.bool true) ⟨hp, g, d, tk', os⟩) :
    wpAny (model PP w) A (call (.builtin "issubclass") [.ref 228, .type "tuple"]) Q (fun _ _ => False) ⟨hp, g, d, tk, os⟩ := by
  refine any_le (dp := 510) (un := 210) ?_ hh hdp hu
  clear hh hdp hu
  x_run
end
end Mine
end
section
open PySem PySem.W PySem.W.X PyProof.Rows PySem.Calls
set_option Elab.async false
namespace Mine
theorem fillK4 : PySem.Challenge.rw_fi0012_01 = PySem.Challenge.rw_fi0012_01 ∧ hd.heap_39 = hd.heap_39 := by
  k_fill
  exact ⟨rfl, rfl⟩
local macro_rules | `(tactic| k_room) => `(tactic| (simp only [depth_under_make, depth_under_kw, depth_in1, depth_deeper] <;> omega))
set_option pp.deepTerms false
set_option pp.deepTerms.threshold 6
set_option maxRecDepth 100000 in
set_option maxHeartbeats 0 in
/-- the getter of a named tuple's place -/
theorem getter {w : World} {A : Around} {hp : Heap} {g : Array GenState} {d : Drawn} {tk : Nat} {os : OsState} {Q : Value → Shared → Prop} {p : Program} {loose : List Str} {mg mb : Str → Option Value}
   {x n : Nat} {dd : Option Addr} {items : Array Value} {sl : Array (Option Value)} {G C dG : Addr} {iG : Int} {tG : Tok} {k : Nat} {y : Value} {esG : List DictEntry} {nG : Nat}
   (X : (hd.heap_39 w.params).In hp) (T : TopRead p loose mg mb hp) (hx : hp.get? x = some ⟨.ref C, dd, .seq items n, sl⟩)
   (hC : mroIn (hd.heap_39 w.params) C (.type "tuple") = some true)
   (hsub : ∀ (A : Around) (tk : Nat) (Q : Value → Shared → Prop) (hp : Heap), A.handled = none → A.depth ≤ 510 → A.units ≤ 210 → (hd.heap_39 w.params).In hp → (∀ tk', Q (.bool true) ⟨hp, g, d, tk', os⟩) →
      wpAny (model PP w) A (call (.builtin "issubclass") [.ref C, .type "tuple"]) Q (fun _ _ => False) ⟨hp, g, d, tk, os⟩)
   (hG1 : (hd.heap_39 w.params).lookup G = some ⟨.ref 156, some dG, .plain, #[]⟩) (hG2 : (hd.heap_39 w.params).lookup dG = some (dictOf esG nG)) (hG3 : getL (Str.ofString "index") esG = some (some (.int iG tG)))
   (h0 : 0 ≤ iG) (h1 : iG < 2 ^ 63) (hk : seqIndex? iG items.size = some k) (hy : items[k]? = some y)
   (hh : A.handled = none) (hroom : A.depth ≤ 500) (hun : A.units ≤ 200) (h : ∀ h' tk', hp.StaysIn h' → Q y ⟨h', g, d, tk', os⟩) :
   wpAny (model PP w) A (call (.ref 139) [.ref G, .ref x, .ref C]) Q (fun _ _ => False) ⟨hp, g, d, tk, os⟩ := by
  refine wpAny_call ?_
  refine' call_pure X T ?k6 ?k7 ?k8 ?k9 ?kB ?_ ?c2 ?c3 ?c4 ?c5
  case k6 => k_is
  case k7 => k_is
  case k8 => have : recursionLimit = 1000 := rfl; omega
  case k9 => exact binds_K X rfl (by k_is) rfl rfl rfl
  case c5 => decide
  case kB => exact locs rfl
  case c2 => rfl
  case c3 => rfl
  case c4 => rfl
  intro L h₁ F
  have N : News hp L h₁ [] := News.nil
  dsimp only
  k_steps
  rename Fr _ _ _ _ => F
  refine call_type_obj (F.keep _ _ hx) rfl ?_
  k_steps
  rename Fr _ _ _ _ => F
  refine hsub _ _ _ _ (by simp only [Around.deeper]; exact hh) (by simp only [depth_deeper]; omega) (by simp only [units_deeper]; omega) (X.keeps F.keep) fun tk' => ?_
  k_steps
  rename Fr _ _ _ _ => F
  refine' method_type (T := "tuple") (v := .builtin "tuple.__getitem__") F X ?m (by decide +kernel) ?e ?h ?_
  case m => kernel_rfl
  case e => k_dflt k_is
  case h => k_handed
  k_steps
  rename Fr _ _ _ _ => F
  have XH : (hd.heap_39 w.params).In h₁ := fun a o e => F.keep a o (X a o e)
  have I := InstAt.of_K XH hG1 hG2
  refine' get_own (attr := none) F X I ?a1 ?a2 ?a3 ?a4 hG3 rfl ?_
  case a1 => k_is
  case a2 => k_is
  case a3 => k_is
  case a4 => k_is
  k_steps
  rename Fr _ _ _ _ => F
  have hx' := F.keep _ _ hx
  refine call_tupItem XH hC hx' (by omega) h1 hk hy ?_
  k_steps

  exact h _ _ F.keep
end Mine
end
section
open PySem PySem.W PySem.W.X PyProof.Rows PySem.Calls
set_option Elab.async false
namespace Mine
theorem fillK5 : PySem.Challenge.rw_fi0012_01 = PySem.Challenge.rw_fi0012_01 ∧ hd.heap_39 = hd.heap_39 := by
  k_fill
  exact ⟨rfl, rfl⟩
local macro_rules | `(tactic| x_close) => `(tactic| first | (with_reducible rename (∀ _, _) => hEnd; exact hEnd _) | (trace_state; fail "no end"))
set_option maxHeartbeats 0 in
theorem call_issub2 {w : World} {A : Around} {hp : Heap} {g : Array GenState} {d : Drawn} {tk : Nat} {os : OsState} {Q : Value → Shared → Prop} (hh : A.handled = none) (hdp : A.depth ≤ 510) (hu : A.units ≤ 210) (X : (hd.heap_39 w.params).In hp) (h : ∀ tk', Q (.bool true) ⟨hp, g, d, tk', os⟩) :
    wpAny (model PP w) A (call (.builtin "issubclass") [.ref 388, .type "tuple"]) Q (fun _ _ => False) ⟨hp, g, d, tk, os⟩ := by
  refine any_le (dp := 510) (un := 210) ?_ hh hdp hu
  clear hh hdp hu
  x_run

theorem tga_kind : builtinKind "tuple.__getattribute__" = some .slot := by decide +kernel
theorem tga_split : splitId "tuple.__getattribute__" = some ("tuple", "__getattribute__") := by decide +kernel
set_option maxRecDepth 100000 in
theorem get_tup {w : World} {A : Around} {hp : Heap} {g : Array GenState} {d : Drawn} {tk : Nat} {os : OsState} {Q : Value → Shared → Prop} {K : Frag} {x C : Addr} {ox : Obj} {od : Option Obj} {name : Str} {expr : Bool} {gg a : Value}
    (X : K.In hp) (I : InstAt hp x ox C od) (hga : findIn K (.ref C) "__getattribute__" = some (some (.builtin "tuple.__getattribute__"))) (hC : mroIn K C (.type "tuple") = some true)
    (hf : findObj K C od name = some (.bind gg a)) (hk : findIn K (.ref C) "__getattr__" = some none)
    (h : wpAny (model PP w) A.in1 (call gg [a, .ref x, .ref C]) (fun v s' => wpAny (model PP w) A (handedOut v) Q (fun _ _ => False) s') (fun _ _ => False) ⟨hp, g, d, tk + 1, os⟩) :
    wpAny (model PP w) A (getAttr (.ref x) name expr) Q (fun _ _ => False) ⟨hp, g, d, tk, os⟩ := by
  have L0 := I.type (M := model PP w)
  have L1 := looks_findIn (M := model PP w) X hga
  have L2 := looks_findIn (M := model PP w) X hk
  have L3 := looks_find (M := model PP w) X I hf
  have L4 : Looks (model PP w) hp (isInstance (.ref x) (.type "tuple")) true := L0.andThen (looks_mroIn X hC)
  have hb := F.slot_tuple_getattribute.bind (.ref x)
  unfold getAttr getAttrBy
  refine wpAny_bind (wpAny_mkText (wpAny_holding (wpAny_bind (L0.at (wpAny_bind (L1.at ?_))))))
  show wpAny _ _ (getAttrByItsOwn _ _ _ _ _ _) _ _ _
  unfold getAttrByItsOwn
  refine wpAny_bind (m := hookBefore (.ref C)) (L2.at ?_)
  have e0 : ∀ n ga, ga = Value.builtin "tuple.__getattribute__" → callGetattribute (.ref x) n ga expr = boundAndCalled ga (.ref x) n := fun n ga e => by subst e; unfold callGetattribute; cases expr <;> rfl
  refine wpAny_bind (wpAny_attempt (wpAny_holding ?_))
  rw [e0 _ _ rfl]
  show wpAny _ _ (boundAndCalled (.builtin "tuple.__getattribute__") (.ref x) (.str name tk)) _ _ _
  unfold boundAndCalled
  rw [hb]
  refine wpAny_bind (wpAny_pure ?_)
  dsimp only
  refine wpAny_call (codeAny_call_builtin F.slot_tuple_getattribute.plain F.entry_tuple_ga (@check_slot (model PP w) _ _ ⟨hp, g, d, tk + 1, os⟩ "tuple.__getattribute__" "tuple" "__getattribute__" (.ref x) [.str name tk] [] _ tga_kind tga_split L4 (F.args_tuple_getattribute_2 (.ref x) (.str name tk)) ?_))
  unfold Builtin.«object.__getattribute__»
  refine wpAny_bind (wpAny_pure (wpAny_bind (wpAny_pure (wpAny_bind (L0.at (wpAny_bind (L3.at ?_)))))))
  show wpAny _ _ (holding [a] (call gg [a, .ref x, .ref C]) >>= ret) _ _ _
  exact wpAny_bind (wpAny_holding (wpAny_mono h (fun v s' z => wpAny_pure z) fun _ _ z => z.elim))
/-- what stands of a named tuple -/
structure Named (h : Heap) (x : Addr) (C : Addr) (items : Array Value) : Prop where
  at_ : ∃ dd, h.get? x = some ⟨.ref C, some dd, .seq items 0, #[]⟩ ∧ h.get? dd = some ⟨.type "dict", none, .dict #[] 0, #[]⟩
theorem Named.keeps {h h' : Heap} {x C : Addr} {items : Array Value} (n : Named h x C items) (k : h.StaysIn h') : Named h' x C items := let ⟨dd, a, b⟩ := n.at_; ⟨dd, k _ _ a, k _ _ b⟩
section
variable {w : World} {A : Around} {hp : Heap} {g : Array GenState} {d : Drawn} {tk : Nat} {os : OsState} {Q : Value → Shared → Prop} {p : Program} {loose : List Str} {mg mb : Str → Option Value}
   {x : Addr} {items : Array Value} {y : Value}
theorem place {C G dG : Addr} {iG : Int} {tG : Tok} {k : Nat} {esG : List DictEntry} {nG : Nat} {name : Str} {expr : Bool}
   (X : (hd.heap_39 w.params).In hp) (T : TopRead p loose mg mb hp) (hx : Named hp x C items)
   (hC : mroIn (hd.heap_39 w.params) C (.type "tuple") = some true)
   (hsub : ∀ (A : Around) (tk : Nat) (Q : Value → Shared → Prop) (hp : Heap), A.handled = none → A.depth ≤ 510 → A.units ≤ 210 → (hd.heap_39 w.params).In hp → (∀ tk', Q (.bool true) ⟨hp, g, d, tk', os⟩) →
      wpAny (model PP w) A (call (.builtin "issubclass") [.ref C, .type "tuple"]) Q (fun _ _ => False) ⟨hp, g, d, tk, os⟩)
   (hG1 : (hd.heap_39 w.params).lookup G = some ⟨.ref 156, some dG, .plain, #[]⟩) (hG2 : (hd.heap_39 w.params).lookup dG = some (dictOf esG nG)) (hG3 : getL (Str.ofString "index") esG = some (some (.int iG tG)))
   (h0 : 0 ≤ iG) (h1 : iG < 2 ^ 63)
   (c1 : findIn (hd.heap_39 w.params) (.ref C) "__getattribute__" = some (some (.builtin "tuple.__getattribute__"))) (c2 : findIn (hd.heap_39 w.params) (.ref C) "__getattr__" = some none)
   (c3 : (clsIn (hd.heap_39 w.params) C).isSome = true) (c4 : findIn (hd.heap_39 w.params) (.ref C) name = some (some (.ref G))) (c5 : specialIn (hd.heap_39 w.params) (.ref G) "__get__" = some (some (.ref 139))) (c6 : takesIn (hd.heap_39 w.params) (.ref G) = some true)
   (hk : seqIndex? iG items.size = some k) (hy : items[k]? = some y) (hhy : handedIn y = true)
   (hh : A.handled = none) (hroom : A.depth ≤ 500) (hun : A.units ≤ 199) (h : ∀ h' tk', hp.StaysIn h' → Q y ⟨h', g, d, tk', os⟩) :
   wpAny (model PP w) A (getAttr (.ref x) name expr) Q (fun _ _ => False) ⟨hp, g, d, tk, os⟩ := by
  obtain ⟨dd, ho, hdd⟩ := hx.at_
  have I : InstAt hp x ⟨.ref C, some dd, .seq items 0, #[]⟩ C (some ⟨.type "dict", none, .dict #[] 0, #[]⟩) := ⟨ho, rfl, rfl, hdd⟩
  refine get_tup (gg := .ref 139) (a := .ref G) X I c1 hC (findObj_data c3 c4 c5 c6) c2 ?_
  refine wpAny_mono (E := fun _ _ => False) (Q := fun v s' => wpAny (model PP w) A (handedOut v) Q (fun _ _ => False) s') ?_ (fun _ _ x => x) (fun _ _ x => x.elim)
  refine getter X T ho hC hsub hG1 hG2 hG3 h0 h1 hk hy hh hroom (by show A.units + 1 ≤ 200; omega) fun h' tk' k => ?_
  rw [handedOut_of hhy]
  exact wpAny_pure (h h' tk' k)
end
section
variable {w : World} {A : Around} {hp : Heap} {g : Array GenState} {d : Drawn} {tk : Nat} {os : OsState} {Q : Value → Shared → Prop} {p : Program} {loose : List Str} {mg mb : Str → Option Value}
   {x : Addr} {v1 v2 v3 v4 v5 : Value} {expr : Bool}
set_option maxRecDepth 100000 in
theorem get_name (X : (hd.heap_39 w.params).In hp) (T : TopRead p loose mg mb hp) (hx : Named hp x 228 #[v1, v2]) (hv : handedIn v1 = true)
    (hh : A.handled = none) (hroom : A.depth ≤ 500) (hun : A.units ≤ 199) (h : ∀ h' tk', hp.StaysIn h' → Q v1 ⟨h', g, d, tk', os⟩) :
    wpAny (model PP w) A (getAttr (.ref x) (Str.ofString "name") expr) Q (fun _ _ => False) ⟨hp, g, d, tk, os⟩ := by
  refine' place (C := 228) (G := 220) X T hx ?a1 (fun A tk Q hp a b c X h => call_issub a b c X h) ?a2 ?a3 ?a4 ?a5 ?a6 ?b1 ?b2 ?b3 ?b4 ?b5 ?b6 (k := 0) ?b7 ?b8 hv hh hroom hun h
  case a1 => k_is
  case a2 => k_is
  case a3 => k_is
  case a4 => k_get
  case a5 => decide
  case a6 => decide
  case b1 => k_is
  case b2 => k_is
  case b3 => exact congrArg Option.isSome (show clsIn (hd.heap_39 w.params) 228 = some _ by k_is)
  case b4 => k_is
  case b5 => k_is
  case b6 => k_is
  case b7 => rfl
  case b8 => rfl
set_option maxRecDepth 100000 in
theorem get_term (X : (hd.heap_39 w.params).In hp) (T : TopRead p loose mg mb hp) (hx : Named hp x 228 #[v1, v2]) (hv : handedIn v2 = true)
    (hh : A.handled = none) (hroom : A.depth ≤ 500) (hun : A.units ≤ 199) (h : ∀ h' tk', hp.StaysIn h' → Q v2 ⟨h', g, d, tk', os⟩) :
    wpAny (model PP w) A (getAttr (.ref x) (Str.ofString "is_term") expr) Q (fun _ _ => False) ⟨hp, g, d, tk, os⟩ := by
  refine' place (C := 228) (G := 223) X T hx ?a1 (fun A tk Q hp a b c X h => call_issub a b c X h) ?a2 ?a3 ?a4 ?a5 ?a6 ?b1 ?b2 ?b3 ?b4 ?b5 ?b6 (k := 1) ?b7 ?b8 hv hh hroom hun h
  case a1 => k_is
  case a2 => k_is
  case a3 => k_is
  case a4 => k_get
  case a5 => decide
  case a6 => decide
  case b1 => k_is
  case b2 => k_is
  case b3 => exact congrArg Option.isSome (show clsIn (hd.heap_39 w.params) 228 = some _ by k_is)
  case b4 => k_is
  case b5 => k_is
  case b6 => k_is
  case b7 => rfl
  case b8 => rfl
set_option maxRecDepth 100000 in
theorem get_origin (X : (hd.heap_39 w.params).In hp) (T : TopRead p loose mg mb hp) (hx : Named hp x 388 #[v1, v2, v3, v4, v5]) (hv : handedIn v1 = true)
    (hh : A.handled = none) (hroom : A.depth ≤ 500) (hun : A.units ≤ 199) (h : ∀ h' tk', hp.StaysIn h' → Q v1 ⟨h', g, d, tk', os⟩) :
    wpAny (model PP w) A (getAttr (.ref x) (Str.ofString "origin") expr) Q (fun _ _ => False) ⟨hp, g, d, tk, os⟩ := by
  refine' place (C := 388) (G := 371) X T hx ?a1 (fun A tk Q hp a b c X h => call_issub2 a b c X h) ?a2 ?a3 ?a4 ?a5 ?a6 ?b1 ?b2 ?b3 ?b4 ?b5 ?b6 (k := 0) ?b7 ?b8 hv hh hroom hun h
  case a1 => k_is
  case a2 => k_is
  case a3 => k_is
  case a4 => k_get
  case a5 => decide
  case a6 => decide
  case b1 => k_is
  case b2 => k_is
  case b3 => exact congrArg Option.isSome (show clsIn (hd.heap_39 w.params) 388 = some _ by k_is)
  case b4 => k_is
  case b5 => k_is
  case b6 => k_is
  case b7 => rfl
  case b8 => rfl
set_option maxRecDepth 100000 in
theorem get_expansion (X : (hd.heap_39 w.params).In hp) (T : TopRead p loose mg mb hp) (hx : Named hp x 388 #[v1, v2, v3, v4, v5]) (hv : handedIn v2 = true)
    (hh : A.handled = none) (hroom : A.depth ≤ 500) (hun : A.units ≤ 199) (h : ∀ h' tk', hp.StaysIn h' → Q v2 ⟨h', g, d, tk', os⟩) :
    wpAny (model PP w) A (getAttr (.ref x) (Str.ofString "expansion") expr) Q (fun _ _ => False) ⟨hp, g, d, tk, os⟩ := by
  refine' place (C := 388) (G := 374) X T hx ?a1 (fun A tk Q hp a b c X h => call_issub2 a b c X h) ?a2 ?a3 ?a4 ?a5 ?a6 ?b1 ?b2 ?b3 ?b4 ?b5 ?b6 (k := 1) ?b7 ?b8 hv hh hroom hun h
  case a1 => k_is
  case a2 => k_is
  case a3 => k_is
  case a4 => k_get
  case a5 => decide
  case a6 => decide
  case b1 => k_is
  case b2 => k_is
  case b3 => exact congrArg Option.isSome (show clsIn (hd.heap_39 w.params) 388 = some _ by k_is)
  case b4 => k_is
  case b5 => k_is
  case b6 => k_is
  case b7 => rfl
  case b8 => rfl
set_option maxRecDepth 100000 in
theorem get_order (X : (hd.heap_39 w.params).In hp) (T : TopRead p loose mg mb hp) (hx : Named hp x 388 #[v1, v2, v3, v4, v5]) (hv : handedIn v3 = true)
    (hh : A.handled = none) (hroom : A.depth ≤ 500) (hun : A.units ≤ 199) (h : ∀ h' tk', hp.StaysIn h' → Q v3 ⟨h', g, d, tk', os⟩) :
    wpAny (model PP w) A (getAttr (.ref x) (Str.ofString "order") expr) Q (fun _ _ => False) ⟨hp, g, d, tk, os⟩ := by
  refine' place (C := 388) (G := 377) X T hx ?a1 (fun A tk Q hp a b c X h => call_issub2 a b c X h) ?a2 ?a3 ?a4 ?a5 ?a6 ?b1 ?b2 ?b3 ?b4 ?b5 ?b6 (k := 2) ?b7 ?b8 hv hh hroom hun h
  case a1 => k_is
  case a2 => k_is
  case a3 => k_is
  case a4 => k_get
  case a5 => decide
  case a6 => decide
  case b1 => k_is
  case b2 => k_is
  case b3 => exact congrArg Option.isSome (show clsIn (hd.heap_39 w.params) 388 = some _ by k_is)
  case b4 => k_is
  case b5 => k_is
  case b6 => k_is
  case b7 => rfl
  case b8 => rfl
end
end Mine
end
section
open PySem PySem.W PyProof.Rows PySem.Calls
set_option Elab.async false
namespace Mine
section
variable {prog : Program} {w : World} {A : Around} {E : Value → Shared → Prop} {s : Shared} {h : Heap} {α : Type} [DecidableEq α] {K : ItemKind prog w h α}
theorem Pw.at {P : α → Value → Prop} {ks : List α} {vs : List Value} (hp : Pw P ks vs) : ∀ (i : Nat) {v : Value}, vs[i]? = some v → ∃ k, ks[i]? = some k ∧ P k v := by
  induction hp with
  | nil => intro i v e; simp at e
  | @cons k u ks' vs' h1 _ ih =>
    intro i v e
    cases i with
    | zero => simp at e; exact ⟨k, by simp, e ▸ h1⟩
    | succ i => simpa using ih i (by simpa using e)
theorem in_loop {l : Addr} {o : Obj} {vs : Array Value} {n : Nat} {v : Value} {ks : List α} {k : α} (hu : A.units + 1 + 10 * K.lev < cLine) (hkey : K.is k v) (hp : Pw K.is ks vs.toList) {R : Result → Shared → Prop} :
    ∀ (j i : Nat) (s : Shared), vs.size - i = j → h.StaysIn s.heap → s.heap.get? l = some o → o.data = .seq vs n → (∀ tk, R (.ok (.ret (.bool (decide (k ∈ ks.drop i))))) { s with toks := tk }) →
      codeAny (model prog w) A (.builtin "list.__contains__.loop" ⟨[.ref l, v, .int i 0], []⟩) R s := by
  intro j
  induction j with
  | zero =>
    intro i s hj hk ho hd hR
    refine codeAny_builtin PySem.MeetsSeq.entry_contains_loop ?_
    rw [Around.under_plainId PySem.MeetsSeq.plain_contains_loop]
    unfold Builtin.«list.__contains__.loop»
    refine wpAny_bind (listItems_at ho hd ?_)
    have e : vs[(i : Int).toNat]? = none := by simp; omega
    rw [e]
    have e2 : ks.drop i = [] := by rw [List.drop_eq_nil_iff]; have := hp.length; simp at this; omega
    rw [e2] at hR
    exact wpAny_pure (hR s.toks)
  | succ j ih =>
    intro i s hj hk ho hd hR
    have hi : i < vs.size := by omega
    refine codeAny_builtin PySem.MeetsSeq.entry_contains_loop ?_
    rw [Around.under_plainId PySem.MeetsSeq.plain_contains_loop]
    unfold Builtin.«list.__contains__.loop»
    refine wpAny_bind (listItems_at ho hd ?_)
    have e : vs[(i : Int).toNat]? = some vs[i] := by simp [hi]
    rw [e]
    obtain ⟨k₁, hk1, hi1⟩ := hp.at i (v := vs[i]) (by simp [hi])
    have ed : ks.drop i = k₁ :: ks.drop (i + 1) := by
      obtain ⟨hl, e'⟩ := List.getElem?_eq_some_iff.mp hk1
      rw [← e', List.getElem_cons_drop]
    rw [ed] at hR
    dsimp only
    refine wpAny_bind (K.eqBool (by show A.units + 1 + _ < _; omega) hk hi1 hkey fun tk => ?_)
    by_cases q : k₁ = k
    · rw [decide_eq_true q, if_pos rfl]
      have : decide (k ∈ k₁ :: ks.drop (i + 1)) = true := by simp [q]
      rw [this] at hR
      exact wpAny_pure (hR tk)
    · rw [decide_eq_false q, if_neg (by simp)]
      have : decide (k ∈ k₁ :: ks.drop (i + 1)) = decide (k ∈ ks.drop (i + 1)) := by
        have : ¬ k = k₁ := fun e => q e.symm
        simp [this]
      rw [this] at hR
      refine wpAny_pure ⟨plainId_quiet PySem.MeetsSeq.plain_contains_loop _, ?_⟩
      exact ih (i + 1) { s with toks := tk } (by omega) hk ho hd hR
theorem listHas {l : Addr} {vs : Array Value} {n : Nat} {dd : Option Addr} {sl : Array (Option Value)} {v : Value} {ks : List α} {k : α} {Q : Bool → Shared → Prop} (hu : A.units + 2 + 10 * K.lev < cLine) (hk : h.StaysIn s.heap) (hkey : K.is k v)
    (ho : s.heap.get? l = some ⟨.type "list", dd, .seq vs n, sl⟩) (hp : Pw K.is ks vs.toList) (hq : ∀ tk, Q (decide (k ∈ ks)) { s with toks := tk }) : wpAny (model prog w) A (contains (.ref l) v) Q E s := by
  have hT : s.TypeIs (.ref l) "list" := ⟨_, ho, rfl⟩
  unfold contains
  refine wpAny_holding ?_
  show wpAny _ _ (specialOf (.ref l) "__contains__" >>= _) _ _ _
  refine wpAny_bind (wpAny_specialOf hT F.slot_list_contains.lookup ?_)
  show wpAny _ _ (if (some (Value.builtin "list.__contains__") == some Value.none) = true then _ else _) _ E s
  rw [if_neg (by rw [beq_builtin_none]; exact Bool.false_ne_true)]
  refine wpAny_bind (wpAny_callSpecialUnlessNone?_slot (name := Str.ofString "__contains__") hT F.slot_list_contains ?_)
  refine wpAny_call (codeAny_call_builtin F.slot_list_contains.plain F.entry_list_contains (F.slot_list_contains.check _ _ _ _ _ _ _ _ hT (F.args_list_contains_2 _ _) ?_))
  show wpAny _ _ (again _) _ _ _
  refine wpAny_pure ⟨plainId_quiet PySem.MeetsSeq.plain_contains_loop _, ?_⟩
  exact in_loop (by omega) hkey hp _ 0 s rfl hk ho rfl fun tk => wpAny_truthy_bool (by simpa using hq tk)
theorem listIn {l : Addr} {vs : Array Value} {n : Nat} {dd : Option Addr} {sl : Array (Option Value)} {v : Value} {ks : List α} {k : α} {Q : Value → Shared → Prop} (hu : A.units + 2 + 10 * K.lev < cLine) (hk : h.StaysIn s.heap) (hkey : K.is k v)
    (ho : s.heap.get? l = some ⟨.type "list", dd, .seq vs n, sl⟩) (hp : Pw K.is ks vs.toList) (hq : ∀ tk, Q (.bool (decide (k ∈ ks))) { s with toks := tk }) : wpAny (model prog w) A (compareOp .In v (.ref l)) Q E s := by
  show wpAny _ _ (do return .bool (← contains (.ref l) v)) Q E s
  exact wpAny_bind (listHas hu hk hkey ho hp fun tk => wpAny_pure (hq tk))
theorem listNotIn {l : Addr} {vs : Array Value} {n : Nat} {dd : Option Addr} {sl : Array (Option Value)} {v : Value} {ks : List α} {k : α} {Q : Value → Shared → Prop} (hu : A.units + 2 + 10 * K.lev < cLine) (hk : h.StaysIn s.heap) (hkey : K.is k v)
    (ho : s.heap.get? l = some ⟨.type "list", dd, .seq vs n, sl⟩) (hp : Pw K.is ks vs.toList) (hq : ∀ tk, Q (.bool (!decide (k ∈ ks))) { s with toks := tk }) : wpAny (model prog w) A (compareOp .NotIn v (.ref l)) Q E s := by
  show wpAny _ _ (do return .bool (!(← contains (.ref l) v))) Q E s
  exact wpAny_bind (listHas hu hk hkey ho hp fun tk => wpAny_pure (hq tk))
end
end Mine
end
section
open PySem PySem.W PyProof.Rows PySem.Calls
set_option Elab.async false
namespace Mine
section
variable {prog : Program} {w : World} {A : Around} {E : Value → Shared → Prop} {s : Shared} {env : Env} {h₀ : Heap} {target : Expr} {body : List Stmt} {R : Result → Shared → Prop}
abbrev NoE : Value → Shared → Prop := fun _ _ => False
theorem noE {α : Type} {M : Model} {t : Sem α} {Q : α → Shared → Prop} (h : wpAny M A t Q NoE s) : wpAny M A t Q E s := wpAny_mono h (fun _ _ x => x) fun _ _ x => x.elim
/-- a for, turn by turn, whatever the target -/
theorem forTurns {it : Value} (I : Nat → Shared → Prop)
    (turn : ∀ n s, I n s → wpAny (model prog w) A (pyNext it) (fun r s₁ => match r with
      | none => R (.ok .next) s₁
      | some v => wpAny (model prog w) A (letOwnedTupleGo target it v) (fun _ s₂ => wpAny (model prog w) A (assign target env v) (fun _ s₂ => wpAny (model prog w) A (execs body env) (fun f s₃ => match f with
          | .next | .cont => ∃ m, m < n ∧ I m s₃
          | .brk => R (.ok .next) s₃
          | .ret v => R (.ok (.ret v)) s₃) NoE s₂) NoE s₂) NoE s₁) NoE s)
    (n : Nat) (h : I n s) : codeAny (model prog w) A (.forLoop target it body [] env) R s := by
  refine codeAny_loop' rfl I (fun n s hI => ?_) n h
  show wpAny _ _ ((forTurn target it body [] env).onRaise (fun x => do noteFrame x env; theTreesLotGoes x)) _ _ s
  refine wpAny_onRaise (wpAny_mono (E := NoE) (Q := _) ?_ (fun _ _ x => x) fun _ _ x => x.elim)
  simp only [forTurn]
  refine wpAny_bind (wpAny_standAt (wpAny_bind (wpAny_onRaise (wpAny_mono (turn n s hI) (fun r s₁ h₁ => ?_) fun _ _ x => x.elim))))
  cases r with
  | none => exact wpAny_pure (.inr ⟨rfl, codeAny_block (wpAny_execs_nil h₁)⟩)
  | some v =>
    refine wpAny_bind (wpAny_mono h₁ (fun _ s₂ h₂ => wpAny_bind (wpAny_mono h₂ (fun _ s₃ h₃ => wpAny_bind (wpAny_mono h₃ (fun f s₄ h₄ => ?_) fun _ _ x => x)) fun _ _ x => x)) fun _ _ x => x)
    cases f with
    | next => exact wpAny_pure (.inl ⟨rfl, h₄⟩)
    | cont => exact wpAny_pure (.inl ⟨rfl, h₄⟩)
    | brk => exact wpAny_pure h₄
    | ret v => exact wpAny_pure h₄
theorem noGo {I : Addr} {o : Obj} {v : Value} {c : String} (ho : s.heap.get? I = some o) (hc : o.cls = .type c) (hn : (["enumerate", "zip", "dict_itemiterator", "dict_reverseitemiterator", "odict_iterator", "itertools.zip_longest", "itertools.pairwise"] : List String).contains c = false)
    {Q : Unit → Shared → Prop} (hq : Q () s) : wpAny (model prog w) A (letOwnedTupleGo target (.ref I) v) Q E s := by
  obtain ⟨oc, od, dt, sl⟩ := o
  dsimp only at hc
  subst hc
  have fin : ∀ a : Addr, wpAny (model prog w) A (load I >>= fun o => (match o.cls, o.data with
      | .type n, .fields vs =>
        if ((["enumerate", "zip", "dict_itemiterator", "dict_reverseitemiterator", "odict_iterator", "itertools.zip_longest", "itertools.pairwise"] : List String).contains n && vs[0]? == some (rawInt a)) = true then do
          rule "for.unpacks-the-owned-tuple"
          updateField I 0 .none
        else pure ()
      | _, _ => pure () : Sem Unit)) Q E s := by
    intro a
    refine wpAny_bind (wpAny_load ho ?_)
    cases dt <;> first | exact wpAny_pure hq | skip
    rename_i vs
    dsimp only
    rw [if_neg (by rw [hn]; simp)]
    exact wpAny_pure hq
  cases target <;> first | exact wpAny_pure hq | skip
  all_goals
    cases v <;> first | exact wpAny_pure hq | skip
    rename_i a
    exact fin a
def ForEnd (h₀ : Heap) (L I : Addr) (o : Obj) (R : Result → Shared → Prop) (os : OsState) (Jn : (Str → Option Value) → List (Addr × Obj) → Array GenState → Drawn → Prop) (f : Flow) (s₃ : Shared) : Prop := match f with
  | .next | .cont => ∃ h' g' d' tk' m' news', s₃ = ⟨h', g', d', tk', os⟩ ∧ Fr h₀ L h' m' ∧ News h₀ L h' ((I, o) :: news') ∧ (∀ p ∈ news', p.1 ≠ I) ∧ Jn m' news' g' d'
  | .brk => R (.ok .next) s₃
  | .ret v => R (.ok (.ret v)) s₃
theorem ForEnd.next {L I : Addr} {o : Obj} {os : OsState} {Jn : (Str → Option Value) → List (Addr × Obj) → Array GenState → Drawn → Prop} {h' : Heap} {g' : Array GenState} {d' : Drawn} {tk' : Nat} {m' : Str → Option Value} {news' : List (Addr × Obj)}
    (F : Fr h₀ L h' m') (N : News h₀ L h' ((I, o) :: news')) (n : ∀ p ∈ news', p.1 ≠ I) (j : Jn m' news' g' d') : ForEnd h₀ L I o R os Jn .next ⟨h', g', d', tk', os⟩ := ⟨h', g', d', tk', m', news', rfl, F, N, n, j⟩
theorem forList {l : Addr} {vs : Array Value} {h : Heap} {g : Array GenState} {d : Drawn} {tk : Nat} {os : OsState} {m : Str → Option Value} {news : List (Addr × Obj)} (hh : A.handled = none)
    (J : Nat → (Str → Option Value) → List (Addr × Obj) → Array GenState → Drawn → Prop)
    (hsrc : ∀ i m news g d h, J i m news g d → Fr h₀ env.locals h m → News h₀ env.locals h news → h.IsList l vs)
    (F : Fr h₀ env.locals h m) (N : News h₀ env.locals h news) (h0 : J 0 m news g d)
    (turn : ∀ I i v m news g d h tk o, vs[i]? = some v → J i m news g d → (∀ p ∈ news, p.1 ≠ I) → Fr h₀ env.locals h m → News h₀ env.locals h ((I, o) :: news) →
      wpAny (model prog w) A (assign target env v) (fun _ s₂ => wpAny (model prog w) A (execs body env) (ForEnd h₀ env.locals I o R os (J (i + 1))) NoE s₂) NoE ⟨h, g, d, tk, os⟩)
    (done : ∀ m news g d h tk, J vs.size m news g d → Fr h₀ env.locals h m → News h₀ env.locals h news → R (.ok .next) ⟨h, g, d, tk, os⟩) :
    wpAny (model prog w) A (pyIter (.ref l)) (fun it s₂ => codeAny (model prog w) A (.forLoop target it body [] env) R s₂) E ⟨h, g, d, tk, os⟩ := by
  refine wpAny_pyIter_list (s := ⟨h, g, d, tk, os⟩) (hsrc _ _ _ _ _ _ h0 F N) ?_
  obtain ⟨oL, e1, e2, hL, e3⟩ := F.ns
  have nI : ∀ p ∈ news, p.1 ≠ h.objs.size := fun p hp => Nat.ne_of_lt (Heap.lt_size (N p hp).1)
  have LI : env.locals ≠ h.objs.size := Nat.ne_of_lt (Heap.lt_size hL)
  have zI : h₀.get? h.objs.size = none := by
    cases q : h₀.get? h.objs.size with
    | none => rfl
    | some o => exact absurd (Heap.lt_size (F.keep _ _ q)) (Nat.lt_irrefl _)
  refine forTurns (fun k s' => ∃ h' g' d' tk' m' news' i, s' = ⟨h', g', d', tk', os⟩ ∧ h'.IsListIter h.objs.size l i ∧ Fr h₀ env.locals h' m' ∧ News h₀ env.locals h' news' ∧ (∀ p ∈ news', p.1 ≠ h.objs.size) ∧ J i m' news' g' d' ∧ i ≤ vs.size ∧ k = vs.size + 1 - i) ?_ (vs.size + 1)
    ⟨_, g, d, tk, m, news, 0, rfl, ⟨_, Heap.get?_push_size _ rfl, rfl, rfl⟩, F.push _, fun p hp => ⟨Heap.get?_push_of_some _ (N p hp).1, (N p hp).2⟩, nI, h0, Nat.zero_le _, rfl⟩
  rintro k s' ⟨h', g', d', tk', m', news', i, rfl, hit, F', N', nI', hJ, hi, rfl⟩
  have hl := hsrc _ _ _ _ _ _ hJ F' N'
  have lI : l ≠ h.objs.size := by
    rintro rfl
    obtain ⟨o, ho, hc, _⟩ := hit
    obtain ⟨o', ho', hc', _⟩ := hl
    rw [ho] at ho'; cases ho'
    rw [hc] at hc'; exact absurd hc' (by decide)
  by_cases hlt : i < vs.size
  · refine wpAny_pyNext_list_item (s := ⟨h', g', d', tk', os⟩) hit hl (Array.getElem?_eq_getElem hlt) fun h₁ hit₁ hs => ?_
    obtain ⟨o, ho, hc, hd⟩ := hit₁
    refine noGo (s := ⟨h₁, g', d', tk', os⟩) ho hc (by decide) ?_
    have F₁ : Fr h₀ env.locals h₁ m' := ⟨F'.ns.sameBut hs LI, fun b ob e => (hs.2 b fun q => by rw [q, zI] at e; cases e).trans (F'.keep b ob e), F'.above⟩
    have N₁ : News h₀ env.locals h₁ ((h.objs.size, o) :: news') := fun p hp => by
      rcases List.mem_cons.mp hp with rfl | hp
      · exact ⟨ho, LI.symm, zI⟩
      · exact ⟨(hs.2 _ (nI' p hp)).trans (N' p hp).1, (N' p hp).2⟩
    refine wpAny_mono (turn h.objs.size i _ m' news' g' d' h₁ tk' o (Array.getElem?_eq_getElem hlt) hJ nI' F₁ N₁) (fun _ s₂ h₂ => wpAny_mono h₂ (fun f s₃ h₃ => ?_) fun _ _ x => x) fun _ _ x => x
    have step : (∃ h' g' d' tk' m' news', s₃ = ⟨h', g', d', tk', os⟩ ∧ Fr h₀ env.locals h' m' ∧ News h₀ env.locals h' ((h.objs.size, o) :: news') ∧ (∀ p ∈ news', p.1 ≠ h.objs.size) ∧ J (i + 1) m' news' g' d') →
        ∃ m, m < vs.size + 1 - i ∧ ∃ h' g' d' tk' m' news' i, s₃ = ⟨h', g', d', tk', os⟩ ∧ h'.IsListIter h.objs.size l i ∧ Fr h₀ env.locals h' m' ∧ News h₀ env.locals h' news' ∧ (∀ p ∈ news', p.1 ≠ h.objs.size) ∧ J i m' news' g' d' ∧ i ≤ vs.size ∧ m = vs.size + 1 - i := by
      rintro ⟨h₂, g₂, d₂, tk₂, m₂, news₂, rfl, F₂, N₂, n₂, J₂⟩
      exact ⟨vs.size + 1 - (i + 1), by omega, h₂, g₂, d₂, tk₂, m₂, news₂, i + 1, rfl, ⟨o, (N₂ _ (.head _)).1, hc, hd⟩, F₂, fun p hp => N₂ p (.tail _ hp), n₂, J₂, hlt, rfl⟩
    cases f with
    | next => exact step h₃
    | cont => exact step h₃
    | brk => exact h₃
    | ret v => exact h₃
  · have hin : i = vs.size := by omega
    subst hin
    refine wpAny_pyNext_list_end (s := ⟨h', g', d', tk', os⟩) hh hit hl (by simp) fun h₁ hx => ?_
    refine done m' news' g' d' h₁ tk' hJ ⟨F'.ns.at' fun o e => hx _ _ LI e, fun b ob e => hx b ob (fun q => by rw [q, zI] at e; cases e) (F'.keep b ob e), F'.above⟩ fun p hp => ⟨hx _ _ (nI' p hp) (N' p hp).1, (N' p hp).2⟩
end
end Mine
end
section
open PySem PySem.W PyProof.Rows PySem.Calls
set_option Elab.async false
set_option linter.unusedVariables false
namespace Mine
/-- from (f, h) to (f', h'), where h is the whole and f what is frozen of it; M may be written -/
structure Ext (M : Addr → Prop) (f h f' h' : Heap) : Prop where
  hk : ∀ b o, ¬ M b → h.get? b = some o → h'.get? b = some o
  fk : f.StaysIn f'
  fh : f'.StaysIn h'
  new : ∀ b, ¬ M b → h.get? b ≠ none → f.get? b = none → f'.get? b = none
abbrev Nil : Addr → Prop := fun _ => False
namespace Ext
variable {M M' : Addr → Prop} {f h f' h' f'' h'' : Heap}
theorem refl (k : f.StaysIn h) : Ext M f h f h := ⟨fun _ _ _ e => e, fun _ _ e => e, k, fun _ _ _ e => e⟩
theorem live (x : Ext M f h f' h') {b : Addr} (n : ¬ M b) (e : h.get? b ≠ none) : h'.get? b ≠ none := by
  cases q : h.get? b with
  | none => exact absurd q e
  | some o => rw [x.hk b o n q]; exact fun e => nomatch e
theorem trans (x : Ext M f h f' h') (y : Ext M f' h' f'' h'') : Ext M f h f'' h'' :=
  ⟨fun b o n e => y.hk b o n (x.hk b o n e), fun b o e => y.fk b o (x.fk b o e), y.fh, fun b n e z => y.new b n (x.live n e) (x.new b n e z)⟩
theorem mono (x : Ext M f h f' h') (k : ∀ b, h.get? b ≠ none → M b → M' b) : Ext M' f h f' h' :=
  ⟨fun b o n e => x.hk b o (fun m => n (k b (by rw [e]; exact fun z => nomatch z) m)) e, x.fk, x.fh, fun b n e z => x.new b (fun m => n (k b e m)) e z⟩
theorem up (x : Ext Nil f h f' h') : Ext M f h f' h' := x.mono fun _ _ m => m.elim
theorem stays (x : Ext Nil f h f' h') : h.StaysIn h' := fun b o e => x.hk b o (fun m => m) e
/-- the heap alone was written -/
theorem wrote (k : f.StaysIn h') (x : ∀ b o, ¬ M b → h.get? b = some o → h'.get? b = some o) : Ext M f h f h' := ⟨x, fun _ _ e => e, k, fun _ _ _ e => e⟩
theorem grown (k : f.StaysIn h) (x : h.StaysIn h') : Ext Nil f h f h' := wrote (fun b o e => x b o (k b o e)) fun b o _ e => x b o e
/-- a frozen heap may grow by what was not there -/
theorem freeze (x : Ext M f h f' h') (k : f'.StaysIn f'') (k' : f''.StaysIn h') (n : ∀ b, h.get? b ≠ none → f'.get? b = none → f''.get? b = none) : Ext M f h f'' h' :=
  ⟨x.hk, fun b o e => k b o (x.fk b o e), k', fun b m e z => n b e (x.new b m e z)⟩
end Ext
/-- f and one more object -/
def addTo (f h : Heap) (P : Addr → Bool) : Heap := ⟨(h.objs.mapIdx fun i o => if P i then o else match f.get? i with | some o => o | none => ⟨.none, none, .freed, #[]⟩), {}⟩
theorem addTo_get {f h : Heap} {P : Addr → Bool} (k : f.StaysIn h) (a : Addr) : (addTo f h P).get? a = if P a then h.get? a else f.get? a := by
  have hs : ∀ b o, f.get? b = some o → b < h.objs.size := fun b o e => Heap.lt_size (k b o e)
  unfold addTo Heap.get?
  simp only [Array.getElem?_mapIdx]
  cases q : h.objs[a]? with
  | none =>
    have e : f.get? a = none := by
      cases e : f.get? a with
      | none => rfl
      | some o => have := hs a o e; rw [Array.getElem?_eq_none_iff] at q; exact absurd this (Nat.not_lt.mpr q)
    unfold Heap.get? at e
    simp only [Option.map_none]
    rw [e]; split <;> rfl
  | some o =>
    simp only [Option.map_some]
    cases hp : P a with
    | true => simp
    | false =>
      simp only [Bool.false_eq_true, if_false]
      cases e : f.get? a with
      | none => unfold Heap.get? at e; rw [e]
      | some o' =>
        unfold Heap.get? at e
        rw [e]
        obtain ⟨c, d, dt, sl⟩ := o'
        cases dt <;> first | rfl | skip
        · split at e
          · cases e
          · exact absurd e (by rename_i hne; intro e; exact hne _ _ _ e)
/-- the frozen heap after the whole has grown: all that is new is frozen -/
def thaw (f h h' : Heap) : Heap := addTo f h' fun b => (h.get? b).isNone
theorem thaw_get {f h h' : Heap} (k : f.StaysIn h') (a : Addr) : (thaw f h h').get? a = if h.get? a = none then h'.get? a else f.get? a := by
  unfold thaw; rw [addTo_get k]; cases h.get? a <;> simp
theorem Ext.all {f h h' : Heap} (k : f.StaysIn h) (x : h.StaysIn h') : Ext Nil f h (thaw f h h') h' := by
  have k' : f.StaysIn h' := fun b o e => x b o (k b o e)
  refine ⟨fun b o _ e => x b o e, fun b o e => ?_, fun b o e => ?_, fun b _ e z => ?_⟩
  · rw [thaw_get k']; have := k b o e; rw [if_neg (by rw [this]; exact fun z => nomatch z)]; exact e
  · rw [thaw_get k'] at e; split at e
    · exact e
    · exact k' b o e
  · rw [thaw_get k', if_neg e]; exact z
theorem Ext.all_new {f h h' : Heap} (k : f.StaysIn h) (x : h.StaysIn h') {a : Addr} {o : Obj} (n : NewAt h h' a o) : (thaw f h h').get? a = some o := by
  rw [thaw_get fun b o e => x b o (k b o e), if_pos n.2]; exact n.1

/-- the generators: those of before are as they were, those since are bare -/
structure Gx (g g' : Array GenState) : Prop where
  size : g.size ≤ g'.size
  old : ∀ i, i < g.size → g'[i]? = g[i]?
  bare : ∀ i s, g.size ≤ i → g'[i]? = some s → s.bare = true
theorem Gx.refl (g : Array GenState) : Gx g g := ⟨Nat.le_refl _, fun _ _ => rfl, fun i s a b => by rw [Array.getElem?_eq_none_iff.mpr a] at b; cases b⟩
theorem Gx.trans {g g' g'' : Array GenState} (x : Gx g g') (y : Gx g' g'') : Gx g g'' :=
  ⟨Nat.le_trans x.size y.size, fun i a => (y.old i (Nat.lt_of_lt_of_le a x.size)).trans (x.old i a), fun i s a b => by
    by_cases c : i < g'.size
    · rw [y.old i c] at b; exact x.bare i s a b
    · exact y.bare i s (Nat.le_of_not_lt c) b⟩
theorem Gx.all {g g' : Array GenState} (x : Gx g g') (a : AllBare g) : AllBare g' := by
  intro y hy
  obtain ⟨i, hi⟩ := Array.mem_iff_getElem?.mp hy
  by_cases c : i < g.size
  · rw [x.old i c] at hi; exact a y (Array.mem_of_getElem? hi)
  · exact x.bare i y (Nat.le_of_not_lt c) hi

structure Ok (w : World) (f : Heap) : Prop where
  X : (hd.heap_39 w.params).In f
  T : ∃ p loose mg mb, TopRead p loose mg mb f
theorem Ok.keeps {w : World} {f f' : Heap} (x : Ok w f) (k : f.StaysIn f') : Ok w f' := ⟨fun a o e => k _ _ (x.X a o e), let ⟨p, l, a, b, t⟩ := x.T; ⟨p, l, a, b, t.keeps k⟩⟩

/-- room around -/
structure Rm (A : Around) (n : Nat) : Prop where
  hh : A.handled = none
  depth : A.depth ≤ n + 400
  units : A.units ≤ n
theorem Rm.mono {A : Around} {n m : Nat} (x : Rm A n) (k : n ≤ m := by omega) : Rm A m := ⟨x.hh, Nat.le_trans x.depth (Nat.add_le_add_right k 400), Nat.le_trans x.units k⟩
theorem Rm.deeper {A : Around} {n : Nat} {env : Env} (x : Rm A n) : Rm (A.deeper env) (n + 3) :=
  ⟨x.hh, by have := x.depth; simp only [depth_deeper]; omega, by have := x.units; simp only [units_deeper]; omega⟩

/-- what a tree does, the rest of the heap as it was -/
def Does {α : Type} (w : World) (A : Around) (t : Sem α) (f h : Heap) (R : Heap → α → Prop) : Prop :=
  ∀ g d tk os (Q : α → Shared → Prop), (∀ h' f' g' d' tk' v, Ext Nil f h f' h' → Gx g g' → R f' v → Q v ⟨h', g', d', tk', os⟩) → wpAny (model PP w) A t Q NoE ⟨h, g, d, tk, os⟩
section
variable {α β : Type} {w : World} {A : Around} {t : Sem α} {f h : Heap} {R : Heap → α → Prop}
theorem Does.bind {k : α → Sem β} {S : Heap → β → Prop} (x : Does w A t f h R) (y : ∀ f' h' v, Ext Nil f h f' h' → R f' v → Does w A (k v) f' h' S) : Does w A (t >>= k) f h S :=
  fun g d tk os Q hq => wpAny_bind (x g d tk os _ fun h' f' g' d' tk' v e ge r => y f' h' v e r g' d' tk' os Q fun h'' f'' g'' d'' tk'' v' e' ge' r' => hq _ _ _ _ _ _ (e.trans e') (ge.trans ge') r')
theorem Does.mono {S : Heap → α → Prop} (x : Does w A t f h R) (k : ∀ f' h' v, Ext Nil f h f' h' → R f' v → S f' v) : Does w A t f h S :=
  fun g d tk os Q hq => x g d tk os Q fun h' f' g' d' tk' v e ge r => hq h' f' g' d' tk' v e ge (k f' h' v e r)
theorem Does.pure {v : α} (k : f.StaysIn h) (r : R f v) : Does w A (pure v) f h R := fun g _ _ _ _ hq => wpAny_pure (hq _ f g _ _ v (.refl k) (.refl g) r)
theorem Does.look {v : α} (x : Looks (model PP w) h t v) (k : f.StaysIn h) (r : R f v) : Does w A t f h R := fun g _ _ _ _ hq => x.here (hq _ f g _ _ v (.refl k) (.refl g) r)
/-- a tree that keeps the generators and freezes nothing of itself -/
theorem Does.of {t : Sem α} (k : f.StaysIn h) (x : ∀ g d tk os (Q : α → Shared → Prop), (∀ h' tk' v, h.StaysIn h' → R (thaw f h h') v → Q v ⟨h', g, d, tk', os⟩) → wpAny (model PP w) A t Q NoE ⟨h, g, d, tk, os⟩) : Does w A t f h R :=
  fun g d tk os Q hq => x g d tk os Q fun h' tk' v e r => hq h' _ g d tk' v (.all k e) (.refl g) r
theorem Does.of_eq {t t' : Sem α} (e : t = t') (x : Does w A t' f h R) : Does w A t f h R := e ▸ x
end

/-- data, told on what is frozen -/
structure Ty (α : Type) where
  is : Heap → α → Value → Prop
  mono : ∀ {f f' a v}, f.StaysIn f' → is f a v → is f' a v
def Ty.int : Ty Int := ⟨fun _ i v => ∃ t, v = .int i t, fun _ h => h⟩
def Ty.nat : Ty Nat := ⟨fun _ i v => ∃ t, v = .int i t, fun _ h => h⟩
def Ty.bool : Ty Bool := ⟨fun _ b v => v = .bool b, fun _ h => h⟩
def Ty.str : Ty Str := ⟨fun _ b v => ∃ t, v = .str b t, fun _ h => h⟩
theorem Pw.mono {α : Type} {P Q : α → Value → Prop} (h : ∀ a v, P a v → Q a v) {ks : List α} {vs : List Value} (p : Pw P ks vs) : Pw Q ks vs := by
  induction p with
  | nil => exact .nil
  | cons a _ ih => exact .cons (h _ _ a) ih
def Ty.list {α : Type} (T : Ty α) : Ty (List α) :=
  ⟨fun f xs v => ∃ a vs n, v = .ref a ∧ f.get? a = some (listOf vs n) ∧ Pw (T.is f) xs vs.toList, fun k ⟨a, vs, n, e, g, p⟩ => ⟨a, vs, n, e, k _ _ g, p.mono fun _ _ => T.mono k⟩⟩
abbrev tupleOf (vs : Array Value) (n : Nat) : Obj := ⟨.type "tuple", none, .seq vs n, #[]⟩
def Ty.tup {α : Type} (T : Ty α) : Ty (List α) :=
  ⟨fun f xs v => ∃ a vs n, v = .ref a ∧ f.get? a = some (tupleOf vs n) ∧ Pw (T.is f) xs vs.toList, fun k ⟨a, vs, n, e, g, p⟩ => ⟨a, vs, n, e, k _ _ g, p.mono fun _ _ => T.mono k⟩⟩
def Ty.pair {α β : Type} (T : Ty α) (U : Ty β) : Ty (α × β) :=
  ⟨fun f x v => ∃ a u u' n, v = .ref a ∧ f.get? a = some (tupleOf #[u, u'] n) ∧ T.is f x.1 u ∧ U.is f x.2 u', fun k ⟨a, u, u', n, e, g, p, q⟩ => ⟨a, u, u', n, e, k _ _ g, T.mono k p, U.mono k q⟩⟩

/-- a name reads so -/
def Var (w : World) (env : Env) (h : Heap) (x : Str) (v : Value) : Prop := ∀ pos, Looks (model PP w) h (eval (.Name x pos) env) v
theorem Var.keeps {w : World} {env : Env} {h h' : Heap} {x : Str} {v : Value} (X : Var w env h x v) (k : h.StaysIn h') : Var w env h' x v := fun pos => (X pos).keeps k
section
variable {w : World} {env : Env} {h f : Heap} {x : Str} {v : Value} {m : Str → Option Value}
theorem Var.local (hn : h.Ns env.locals m) (hv : m x = some v) (hk : env.scope.kind = .function) (hl : env.kindOf x = some .local) (hd : (x == ("__debug__" : Str)) = false := by decide) : Var w env h x v :=
  fun _ _ _ _ _ k q => wpAny_Name (wpAny_loadName_local hk hl (hn.keeps k) hv q) hd
theorem Var.cell {c : Addr} (hv : h.IsCell c (some v)) (hc : env.cells.lookup x = some c) (hk : env.scope.kind = .function) (hl : env.kindOf x = some .cell) (hd : (x == ("__debug__" : Str)) = false := by decide) : Var w env h x v :=
  fun _ _ _ _ _ k q => wpAny_Name (wpAny_loadName_cell hk hl hc (let ⟨o, a, b⟩ := hv; ⟨o, k _ _ a, b⟩) q) hd
theorem Var.glob (K : Ok w f) (kf : f.StaysIn h) (e : nsIn (hd.heap_39 w.params) mainGlobals x = some (some v)) (hg : env.globals = mainGlobals) (hk : env.scope.kind = .function) (hl : env.kindOf x = some .globalImplicit) (hd : (x == ("__debug__" : Str)) = false := by decide) : Var w env h x v := by
  obtain ⟨p, l, mg, mb, T⟩ := K.T
  exact fun _ _ _ _ s k q => Name_function_global hk hl (loadGlobal_global (env := env) (show s.heap.Ns env.globals mg from hg ▸ (T.keeps fun b o e => k _ _ (kf b o e)).g) (mg_of K.X T.g e) q) hd
theorem Var.built (K : Ok w f) (kf : f.StaysIn h) (e : nsIn (hd.heap_39 w.params) mainGlobals x = some none) (hv : bootBuiltins x = some v) (hn : x ≠ "__name__") (hg : env.globals = mainGlobals) (hb : env.builtins = builtinsNs) (hk : env.scope.kind = .function) (hl : env.kindOf x = some .globalImplicit) (hd : (x == ("__debug__" : Str)) = false := by decide) : Var w env h x v := by
  obtain ⟨p, l, mg, mb, T⟩ := K.T
  exact fun _ _ _ _ s k q => Name_function_global hk hl (loadGlobal_builtin (env := env) (show s.heap.Ns env.globals mg from hg ▸ (T.keeps fun b o e => k _ _ (kf b o e)).g) (mg_none_of K.X T.g e) (show s.heap.Ns env.builtins mb from hb ▸ (T.keeps fun b o e => k _ _ (kf b o e)).b) ((T.builtins x hn).trans hv) q) hd
end
abbrev Ev {α : Type} (w : World) (A : Around) (env : Env) (e : Expr) (f h : Heap) (T : Ty α) (a : α) : Prop := Does w A (eval e env) f h fun f' v => T.is f' a v
section
variable {α : Type} {w : World} {A : Around} {env : Env} {f h : Heap} {T : Ty α} {a : α}
theorem ev_name {x : Str} {v : Value} {pos : Pos} (X : Var w env h x v) (t : T.is f a v) (k : f.StaysIn h) : Ev w A env (.Name x pos) f h T a := .look (X pos) k t
theorem ev_int {i : Int} {k' pos} (k : f.StaysIn h) : Ev w A env (.Constant (.int i) k' pos) f h .int i := fun g _ _ _ _ hq => wpAny_Constant_int (hq _ f g _ _ _ (.refl k) (.refl g) ⟨_, rfl⟩)
theorem ev_bool {b : Bool} {k' pos} (k : f.StaysIn h) : Ev w A env (.Constant (.bool b) k' pos) f h .bool b := fun g _ _ _ _ hq => Constant_bool (hq _ f g _ _ _ (.refl k) (.refl g) rfl)
end
end Mine
end
section
open PySem PySem.W PyProof.Rows PySem.Calls
set_option Elab.async false
set_option linter.unusedVariables false
namespace Mine
def Ty.val : Ty Value := ⟨fun _ a v => v = a, fun _ h => h⟩
section
variable {α β γ δ : Type} {w : World} {A : Around} {f h : Heap} {R : Heap → α → Prop}
theorem Does.stand {t : Sem α} {p : Pos} (x : Does w A t f h R) : Does w A (standAt p >>= fun _ => t) f h R := fun g d tk os Q hq => wpAny_bind (wpAny_standAt (x g d tk os Q hq))
theorem Does.hold {t : Sem α} {l : List Value} (x : Does w A t f h R) : Does w A (holding l t) f h R := fun g d tk os Q hq => wpAny_holding (x g d tk os Q hq)
theorem Does.oper {t : Sem Value} {R : Heap → Value → Prop} {l : List Value} (x : Does w A t f h R) : Does w A (operate l t) f h R := fun g d tk os Q hq => wpAny_operating (x g d tk os Q hq)
end
/-- an expression, here and wherever the heap has only grown -/
def Es {α : Type} (w : World) (A : Around) (env : Env) (e : Expr) (f h : Heap) (T : Ty α) (a : α) : Prop := ∀ f' h', Ext Nil f h f' h' → Does w A (eval e env) f' h' fun f'' v => T.is f'' a v
def Ts (w : World) (A : Around) (env : Env) (e : Expr) (f h : Heap) (b : Bool) : Prop := ∀ f' h', Ext Nil f h f' h' → Does w A (isTrue e env (eval e env)) f' h' fun _ c => c = b
section
variable {α β γ δ : Type} {w : World} {A : Around} {env : Env} {f h : Heap} {T : Ty α} {U : Ty β} {V : Ty γ} {W : Ty δ} {a : α} {b : β} {c : γ} {r : δ}
theorem Es.keeps {e : Expr} {f' h' : Heap} (x : Es w A env e f h T a) (k : Ext Nil f h f' h') : Es w A env e f' h' T a := fun _ _ k' => x _ _ (k.trans k')
theorem Es.here {e : Expr} (x : Es w A env e f h T a) (k : f.StaysIn h) : Does w A (eval e env) f h fun f'' v => T.is f'' a v := x _ _ (.refl k)
theorem Ts.keeps {e : Expr} {f' h' : Heap} {b : Bool} (x : Ts w A env e f h b) (k : Ext Nil f h f' h') : Ts w A env e f' h' b := fun _ _ k' => x _ _ (k.trans k')
theorem es_name {x : Str} {v : Value} {pos : Pos} (X : Var w env h x v) (t : T.is f a v) : Es w A env (.Name x pos) f h T a := fun _ _ k => .look ((X pos).keeps k.stays) k.fh (T.mono k.fk t)
theorem es_int {i : Int} {k' pos} : Es w A env (.Constant (.int i) k' pos) f h .int i := fun _ _ k => ev_int k.fh
theorem es_nat {i : Nat} {k' pos} : Es w A env (.Constant (.int i) k' pos) f h .nat i := fun _ _ k => ev_int k.fh
theorem es_bool {i : Bool} {k' pos} : Es w A env (.Constant (.bool i) k' pos) f h .bool i := fun _ _ k => ev_bool k.fh
theorem es_none {k' pos} : Es w A env (.Constant .none k' pos) f h .val .none := fun _ _ k g _ _ _ _ hq => Constant_none (hq _ _ g _ _ _ (.refl k.fh) (.refl g) rfl)
theorem Es.cast {e : Expr} {a' : α} (x : Es w A env e f h T a) (k : a = a') : Es w A env e f h T a' := k ▸ x
theorem Es.conv {e : Expr} (x : Es w A env e f h T a) (k : ∀ f' v, f.StaysIn f' → T.is f' a v → U.is f' b v) : Es w A env e f h U b := fun _ _ e => (x _ _ e).mono fun _ _ _ e' t => k _ _ (fun b o q => e'.fk _ _ (e.fk _ _ q)) t
/-- two trees, the one behind the other -/
theorem two {l e : Expr} {t : Value → Value → Sem Value} {R : Heap → Value → Prop} (x : Es w A env l f h T a) (y : Es w A env e f h U b)
    (z : ∀ f' h' u v, Ext Nil f h f' h' → T.is f' a u → U.is f' b v → Does w A (t u v) f' h' R) {f₁ h₁ : Heap} (k : Ext Nil f h f₁ h₁) :
    Does w A (eval l env >>= fun u => holding [u] (eval e env) >>= fun v => t u v) f₁ h₁ R :=
  (x _ _ k).bind fun f' h' u e1 t1 => (y _ _ (k.trans e1)).hold.bind fun f'' h'' v e2 t2 => z _ _ _ _ ((k.trans e1).trans e2) (T.mono e2.fk t1) t2
theorem es_bin {l e : Expr} {op : Operator} {pos : Pos} (x : Es w A env l f h T a) (y : Es w A env e f h U b)
    (z : ∀ f' h' u v, Ext Nil f h f' h' → T.is f' a u → U.is f' b v → Does w A (binaryOp op u v) f' h' fun f'' v => V.is f'' c v) : Es w A env (.BinOp l op e pos) f h V c := fun _ _ k => by
  rw [eval_BinOp]
  exact two x y (fun f' h' u v k t1 t2 => .stand (.oper (z f' h' u v k t1 t2))) k
theorem es_cmp {l e : Expr} {op : CmpOp} {pos : Pos} (x : Es w A env l f h T a) (y : Es w A env e f h U b)
    (z : ∀ f' h' u v, Ext Nil f h f' h' → T.is f' a u → U.is f' b v → Does w A (compareOp op u v) f' h' fun f'' v => V.is f'' c v)
    (hm : behindInMarks op e = false := by with_unfolding_all rfl) : Es w A env (.Compare l [op] [e] pos) f h V c := fun _ _ k => by
  rw [eval_Compare1, markedBehindIn_of_false hm]
  exact two x y (fun f' h' u v k t1 t2 => .stand (.oper (z f' h' u v k t1 t2))) k
theorem does_truthy {b : Bool} (k : f.StaysIn h) : Does w A (truthy (.bool b)) f h fun _ c => c = b := fun g _ _ _ _ hq => wpAny_truthy_bool (hq _ f g _ _ _ (.refl k) (.refl g) rfl)
theorem ts_cmp {l e : Expr} {op : CmpOp} {pos : Pos} {r : Bool} (x : Es w A env l f h T a) (y : Es w A env e f h U b)
    (z : ∀ f' h' u v, Ext Nil f h f' h' → T.is f' a u → U.is f' b v → Does w A (compareOp op u v) f' h' fun _ v => v = .bool r)
    (hm : behindInMarks op e = false := by with_unfolding_all rfl) : Ts w A env (.Compare l [op] [e] pos) f h r := fun f₁ h₁ k => by
  rw [isTrue_Compare1, markedBehindIn_of_false hm]
  refine (x _ _ k).bind fun f' h' u e1 t1 => (y _ _ (k.trans e1)).hold.bind fun f'' h'' v e2 t2 => ?_
  refine .stand ((z _ _ _ _ ((k.trans e1).trans e2) (T.mono e2.fk t1) t2).oper.bind fun f3 h3 v e3 t3 => ?_)
  rw [t3]; exact .hold (does_truthy e3.fh)
theorem Es.test {e : Expr} {r : Bool} (x : Es w A env e f h .bool r) (he : isTrue e env (eval e env) = (do let v ← eval e env; standAt e.pos; holding [v] (truthy v)) := by rfl) : Ts w A env e f h r := fun f₁ h₁ k => by
  rw [he]
  refine (x _ _ k).bind fun f' h' u e1 t1 => .stand (.hold ?_)
  rw [show u = .bool r from t1]; exact does_truthy e1.fh
theorem ts_and2 {x y : Expr} {pos : Pos} {b c : Bool} (hx : Ts w A env x f h b) (hy : b = true → Ts w A env y f h c) : Ts w A env (.BoolOp .And [x, y] pos) f h (b && c) := fun f₁ h₁ k g d tk os Q hq => by
  refine isTrue_and (hx _ _ k g d tk os _ fun h' f' g' d' tk' v e ge r => ?_)
  subst r
  cases v with
  | false => exact hq _ _ _ _ _ _ e ge rfl
  | true =>
    refine isTrue_and ((hy rfl) _ _ (k.trans e) g' d' tk' os _ fun h'' f'' g'' d'' tk'' v e' ge' r => ?_)
    subst r
    cases v with
    | false => exact hq _ _ _ _ _ _ (e.trans e') (ge.trans ge') rfl
    | true => exact isTrue_and_nil (hq _ _ _ _ _ _ (e.trans e') (ge.trans ge') rfl)
theorem ts_or2 {x y : Expr} {pos : Pos} {b c : Bool} (hx : Ts w A env x f h b) (hy : b = false → Ts w A env y f h c) : Ts w A env (.BoolOp .Or [x, y] pos) f h (b || c) := fun f₁ h₁ k g d tk os Q hq => by
  refine isTrue_or (hx _ _ k g d tk os _ fun h' f' g' d' tk' v e ge r => ?_)
  subst r
  cases v with
  | true => exact hq _ _ _ _ _ _ e ge rfl
  | false =>
    refine isTrue_or ((hy rfl) _ _ (k.trans e) g' d' tk' os _ fun h'' f'' g'' d'' tk'' v e' ge' r => ?_)
    subst r
    cases v with
    | true => exact hq _ _ _ _ _ _ (e.trans e') (ge.trans ge') rfl
    | false => exact isTrue_or_nil (hq _ _ _ _ _ _ (e.trans e') (ge.trans ge') rfl)
theorem ts_or_nil {pos : Pos} : Ts w A env (.BoolOp .Or [] pos) f h false := fun f₁ h₁ k g d tk os Q hq => isTrue_or_nil (hq _ _ _ _ _ _ (.refl k.fh) (.refl g) rfl)
theorem ts_or {x : Expr} {rest : List Expr} {pos : Pos} {b c : Bool} (hx : Ts w A env x f h b) (hy : b = false → Ts w A env (.BoolOp .Or rest pos) f h c) (hp : ∀ whole whole', isTrue (.BoolOp .Or rest pos) env whole = isTrue (.BoolOp .Or rest pos) env whole' := by intro _ _; rfl) : Ts w A env (.BoolOp .Or (x :: rest) pos) f h (b || c) := fun f₁ h₁ k g d tk os Q hq => by
  refine isTrue_or (hx _ _ k g d tk os _ fun h' f' g' d' tk' v e ge r => ?_)
  subst r
  cases v with
  | true => exact hq _ _ _ _ _ _ e ge rfl
  | false =>
    rw [hp _ (eval (.BoolOp .Or rest pos) env)]
    exact (hy rfl) _ _ (k.trans e) g' d' tk' os _ fun h'' f'' g'' d'' tk'' v e' ge' r => hq _ _ _ _ _ _ (e.trans e') (ge.trans ge') r
theorem es_ite {t x y : Expr} {pos : Pos} {b : Bool} (ht : Ts w A env t f h b) (hx : b = true → Es w A env x f h T a) (hy : b = false → Es w A env y f h T a) : Es w A env (.IfExp t x y pos) f h T a := fun f₁ h₁ k => by
  rw [eval_IfExp]
  refine (ht _ _ k).bind fun f' h' c e1 t1 => ?_
  subst t1
  cases c with
  | true => exact hx rfl _ _ (k.trans e1)
  | false => exact hy rfl _ _ (k.trans e1)
theorem es_attr {x : Expr} {attr : Str} {pos : Pos} (hx : Es w A env x f h T a) (hg : ∀ f' h' u, Ext Nil f h f' h' → T.is f' a u → Does w A (getAttr u attr true) f' h' fun f'' v => U.is f'' b v)
    (he : eval (.Attribute x attr pos) env = (do
      let o ← eval x env
      standAt pos.atName
      let r ← holding [o] (getAttr o attr true)
      letTemporaryGo x o r
      pure r) := by with_unfolding_all rfl) : Es w A env (.Attribute x attr pos) f h U b := fun f₁ h₁ k => by
  rw [he]
  refine (hx _ _ k).bind fun f' h' u e1 t1 => .stand ((hg _ _ _ (k.trans e1) t1).hold.bind fun f'' h'' v e2 t2 => fun g d tk os Q hq => ?_)
  exact wpAny_bind (wpAny_letTemporaryGo (wpAny_pure (hq _ _ _ _ _ _ (.refl e2.fh) (.refl g) t2)))
theorem es_sub {x i : Expr} {pos : Pos} {n id : String} (hx : Es w A env x f h T a) (hi : Es w A env i f h U b) (hl : typeLookup (.type n) "__getitem__" = pure (some (.builtin id)))
    (ht : ∀ f' h' u, Ext Nil f h f' h' → T.is f' a u → ∀ g d tk os, (⟨h', g, d, tk, os⟩ : Shared).TypeIs u n)
    (hg : ∀ f' h' u v, Ext Nil f h f' h' → T.is f' a u → U.is f' b v → Does w A (getItem u v) f' h' fun f'' v => V.is f'' c v)
    (hs : ∀ o v, subscripted i false o v = operate [o, v] (getItem o v) ∨ subscripted i false o v = operate [v, o] (getItem o v) := by intro _ _; first | exact .inl rfl | exact .inr rfl) : Es w A env (.Subscript x i pos) f h V c := fun f₁ h₁ k => by
  rw [eval_Subscript]
  refine (hx _ _ k).bind fun f' h' u e1 t1 => (hi _ _ (k.trans e1)).hold.bind fun f'' h'' v e2 t2 => .stand ?_
  have t1' := T.mono e2.fk t1
  have kk := (k.trans e1).trans e2
  intro g d tk os Q hq
  have hT := ht _ _ _ kk t1' g d tk os
  refine wpAny_bind ?_
  rw [getitemInPython_of_ne hT.not_modules]
  refine wpAny_bind (wpAny_specialOf hT hl ?_)
  have D := hg _ _ _ _ kk t1' t2
  have fin : wpAny (model PP w) A (subscripted i false u v) (fun r s₃ => wpAny (model PP w) A (letTemporaryGo x u r >>= fun _ => pure r) Q NoE s₃) NoE ⟨h'', g, d, tk, os⟩ := by
    rcases hs u v with q | q <;>
    · rw [q]
      exact wpAny_operating (D g d tk os _ fun h3 f3 g3 d3 tk3 v e3 ge3 r3 => wpAny_bind (wpAny_letTemporaryGo (wpAny_pure (hq _ _ _ _ _ _ e3 ge3 r3))))
  exact wpAny_pure (wpAny_bind fin)
/-- who is called -/
def Kp (w : World) (h : Heap) (fv : Value) : Prop := ∃ k, (k = Keeper.frame ∨ k = Keeper.machine ∨ k = Keeper.boundFrame) ∧ Looks (model PP w) h (keeperOf fv) k
theorem Kp.keeps {h h' : Heap} {fv : Value} (x : Kp w h fv) (k : h.StaysIn h') : Kp w h' fv := let ⟨a, b, c⟩ := x; ⟨a, b, c.keeps k⟩
theorem Kp.builtin {h : Heap} {id : String} : Kp w h (.builtin id) := ⟨.machine, .inr (.inl rfl), .of_pure rfl⟩
theorem Kp.type {h : Heap} {id : String} : Kp w h (.type id) := ⟨.machine, .inr (.inl rfl), .of_pure rfl⟩
theorem Kp.ref {h : Heap} {x : Addr} (X : (hd.heap_39 w.params).In h) (e : keepIn (hd.heap_39 w.params) (.ref x) = true) : Kp w h (.ref x) := let ⟨k, a, b⟩ := looks_keep e X; ⟨k, a.elim .inl fun q => .inr (.inl q), b⟩
/-- the arguments, one behind the other -/
def Args (w : World) (A : Around) (env : Env) (es : List Expr) (f h : Heap) (P : Heap → List Value → Prop) : Prop :=
  ∀ f' h', Ext Nil f h f' h' → ∀ g d tk os (Q : List Value → Shared → Prop), (∀ h'' f'' g' d' tk' vs, Ext Nil f' h' f'' h'' → Gx g g' → P f'' vs → Q vs ⟨h'', g', d', tk', os⟩) → ∀ pos, wpAny (model PP w) A (spliced (backTo pos (starEach es env))) Q NoE ⟨h', g, d, tk, os⟩
theorem args0 : Args w A env [] f h fun _ vs => vs = [] := fun _ _ k g _ _ _ _ hq _ => spliced_nil (hq _ _ _ _ _ _ (.refl k.fh) (.refl g) rfl)
theorem argsS {e : Expr} {es : List Expr} {P : Heap → List Value → Prop} (x : Es w A env e f h T a) (y : Args w A env es f h P) (he : starEach (e :: es) env = (false, eval e env) :: starEach es env := by rfl) :
    Args w A env (e :: es) f h fun f' vs => ∃ v r, vs = v :: r ∧ T.is f' a v ∧ P f' r := fun _ _ k g d tk os Q hq pos => by
  rw [he]
  refine spliced_cons (x _ _ k g d tk os _ fun h' f' g' d' tk' v e ge r => ?_)
  exact y _ _ (k.trans e) g' d' tk' os _ (fun h'' f'' g'' d'' tk'' vs e' ge' r' => hq _ _ _ _ _ _ (e.trans e') (ge.trans ge') ⟨v, vs, rfl, T.mono e'.fk r, r'⟩) pos
theorem callWith_does {fv : Value} {first : List Value} {es : List Expr} {P : Heap → List Value → Prop} {pos : Pos} (kp : Kp w h fv) (y : Args w A env es f h P)
    (hc : ∀ f' h' vs, Ext Nil f h f' h' → P f' vs → Does w A (call fv (first ++ vs)) f' h' fun f'' v => V.is f'' c v) {f₁ h₁ : Heap} (k : Ext Nil f h f₁ h₁)
    (hpl : (backTo pos (starEach es env)).any (·.1) = false := by rfl) (hn : es = [] ∨ ∃ x r, backTo pos (starEach es env) = (false, x) :: r := by first | exact .inl rfl | exact .inr ⟨_, _, rfl⟩) :
    Does w A (callWith pos fv first (backTo pos (starEach es env)) []) f₁ h₁ fun f'' v => V.is f'' c v := fun g d tk os Q hq => by
  refine callWith_of (P := fun h' => h.StaysIn h') (by rw [hpl]; rfl) (fun h' k => (kp.keeps k)) ?_
  have fin := y _ _ k g d tk os (fun vs s₁ => h.StaysIn s₁.heap ∧ wpAny (model PP w) A (call fv (first ++ vs)) Q NoE s₁) (fun h' f' g' d' tk' vs e ge r => ⟨(k.trans e).stays, hc _ _ _ (k.trans e) r g' d' tk' os Q fun h'' f'' g'' d'' tk'' v e' ge' r' => hq _ _ _ _ _ _ (e.trans e') (ge.trans ge') r'⟩) pos
  rcases hn with rfl | ⟨x, r, hb⟩
  · unfold evalArgs
    show wpAny _ _ (spliced [] >>= _) _ _ _
    refine wpAny_bind (wpAny_mono fin (fun vs s h1 => ?_) fun _ _ x => x)
    exact wpAny_bind (wpAny_pure (wpAny_holding (wpAny_bind (wpAny_pure (wpAny_bind (wpAny_pure (wpAny_pure h1)))))))
  · rw [hb] at fin ⊢
    exact evalArgs_plain fin
theorem es_call {x : Str} {p pos : Pos} {fv : Value} {es : List Expr} {P : Heap → List Value → Prop} (X : Var w env h x fv) (kp : Kp w h fv) (y : Args w A env es f h P)
    (hc : ∀ f' h' vs, Ext Nil f h f' h' → P f' vs → Does w A (call fv vs) f' h' fun f'' v => V.is f'' c v)
    (hpl : (backTo pos (starEach es env)).any (·.1) = false := by rfl) (hn : es = [] ∨ ∃ x r, backTo pos (starEach es env) = (false, x) :: r := by first | exact .inl rfl | exact .inr ⟨_, _, rfl⟩) :
    Es w A env (.Call (.Name x p) es [] pos) f h V c := fun f₁ h₁ k g d tk os Q hq => by
  refine Call_Name rfl ?_
  exact (X p).keeps k.stays |>.here (callWith_does (first := []) kp y hc k hpl hn g d tk os Q hq)
theorem args1 {e : Expr} (x : Es w A env e f h T a) (he : starEach [e] env = (false, eval e env) :: starEach [] env := by rfl) : Args w A env [e] f h fun f' vs => ∃ v, vs = [v] ∧ T.is f' a v := fun f1 h1 k g d tk os Q hq pos =>
  argsS x args0 he f1 h1 k g d tk os Q (fun h'' f'' g' d' tk' vs e ge ⟨v, r, e1, e2, e3⟩ => hq h'' f'' g' d' tk' vs e ge ⟨v, by rw [e1, e3], e2⟩) pos
theorem args2 {e e2 : Expr} (x : Es w A env e f h T a) (y : Es w A env e2 f h U b) (he : starEach [e, e2] env = (false, eval e env) :: starEach [e2] env := by rfl) (he2 : starEach [e2] env = (false, eval e2 env) :: starEach [] env := by rfl) :
    Args w A env [e, e2] f h fun f' vs => ∃ v v2, vs = [v, v2] ∧ T.is f' a v ∧ U.is f' b v2 := fun f1 h1 k g d tk os Q hq pos =>
  argsS x (args1 y he2) he f1 h1 k g d tk os Q (fun h'' f'' g' d' tk' vs e ge ⟨v, r, e1, e2, v2, e3, e4⟩ => hq h'' f'' g' d' tk' vs e ge ⟨v, v2, by rw [e1, e3], e2, e4⟩) pos
theorem args3 {e e2 e3 : Expr} (x : Es w A env e f h T a) (y : Es w A env e2 f h U b) (z : Es w A env e3 f h V c) (he : starEach [e, e2, e3] env = (false, eval e env) :: starEach [e2, e3] env := by rfl) (he2 : starEach [e2, e3] env = (false, eval e2 env) :: starEach [e3] env := by rfl) (he3 : starEach [e3] env = (false, eval e3 env) :: starEach [] env := by rfl) :
    Args w A env [e, e2, e3] f h fun f' vs => ∃ v v2 v3, vs = [v, v2, v3] ∧ T.is f' a v ∧ U.is f' b v2 ∧ V.is f' c v3 := fun f1 h1 k g d tk os Q hq pos =>
  argsS x (args2 y z he2 he3) he f1 h1 k g d tk os Q (fun h'' f'' g' d' tk' vs e ge ⟨v, r, e1, e2, v2, v3, e3, e4, e5⟩ => hq h'' f'' g' d' tk' vs e ge ⟨v, v2, v3, by rw [e1, e3], e2, e4, e5⟩) pos
/-- a new tuple, a new list -/
theorem new_get {cls : Value} {dt : Data} {o : Obj} {h : Heap} (k : f.StaysIn h) (ho : o.isFreed = false) : (thaw f h (h.push o)).get? h.objs.size = some o := by
  rw [thaw_get fun b o' e => Heap.get?_push_of_some _ (k b o' e)]
  have : h.get? h.objs.size = none := by
    cases q : h.get? h.objs.size with
    | none => rfl
    | some o => exact absurd (Heap.lt_size q) (Nat.lt_irrefl _)
  rw [if_pos this]; exact Heap.get?_push_size _ ho
theorem does_new {o : Obj} {t : Sem Value} {R : Heap → Value → Prop} (k : f.StaysIn h) (ho : o.isFreed = false)
    (ht : ∀ g d tk os (Q : Value → Shared → Prop), Q (.ref h.objs.size) ⟨h.push o, g, d, tk, os⟩ → wpAny (model PP w) A t Q NoE ⟨h, g, d, tk, os⟩)
    (r : ∀ f' : Heap, f.StaysIn f' → f'.get? h.objs.size = some o → R f' (.ref h.objs.size)) : Does w A t f h R := fun g d tk os Q hq =>
  have e := Ext.all k fun b o' e => Heap.get?_push_of_some o e
  ht g d tk os Q (hq _ _ g d tk _ e (.refl g) (r _ e.fk (new_get (cls := .none) (dt := .freed) k ho)))
theorem es_tup2 {e e2 : Expr} {n : Nat} {pos : Pos} (x : Es w A env e f h T a) (y : Es w A env e2 f h U b) (he : starEach [e, e2] env = (false, eval e env) :: starEach [e2] env := by rfl) (he2 : starEach [e2] env = (false, eval e2 env) :: starEach [] env := by rfl) :
    Es w A env (.Tuple [e, e2] n pos) f h (.pair T U) (a, b) := fun f₁ h₁ k g d tk os Q hq => by
  refine Tuple_ (args2 x y he he2 _ _ k g d tk os _ (fun h' f' g' d' tk' vs e ge r => ?_) pos)
  obtain ⟨v, v2, rfl, r1, r2⟩ := r
  refine does_new (f := f') (R := fun f'' v => (Ty.pair T U).is f'' (a, b) v) e.fh rfl (fun g d tk os Q hq => wpAny_newObj_type hq (by size_fits)) (fun f'' kk gt => ⟨_, v, v2, 0, rfl, gt, T.mono kk r1, U.mono kk r2⟩) g' d' tk' os Q ?_
  exact fun h'' f'' g'' d'' tk'' v e' ge' r' => hq _ _ _ _ _ _ (e.trans e') (ge.trans ge') r'
end
end Mine
end
section
open PySem PySem.W PyProof.Rows PySem.Calls
set_option Elab.async false
set_option linter.unusedVariables false
namespace Mine
/-- a kind, told by another datum and a stronger relation -/
def ItemKind.of {prog : Program} {w : World} {h : Heap} {α β : Type} [DecidableEq α] [DecidableEq β] (K : ItemKind prog w h α) (e : β → α) (ei : ∀ x y, e x = e y → x = y) (is : β → Value → Prop) (sub : ∀ k v, is k v → K.is (e k) v) : ItemKind prog w h β where
  lev := K.lev
  is := is
  hash k := K.hash (e k)
  inj := fun hx hy => ei _ _ (K.inj (sub _ _ hx) (sub _ _ hy))
  pyHash := fun hu k hv hq => K.pyHash hu k (sub _ _ hv) hq
  eqBool := fun {A E s x y u v Q} hu k hx hy hq => K.eqBool hu k (sub _ _ hx) (sub _ _ hy) fun tk => by
    have : decide (e x = e y) = decide (x = y) := by
      by_cases q : x = y
      · subst q; simp
      · have : e x ≠ e y := fun z => q (ei _ _ z)
        simp [q, this]
    rw [this]; exact hq tk
  quiet := fun n {_ _ _ _ _ _} hn k hv hq => K.quiet n hn k (sub _ _ hv) hq
abbrev Sy := Str × Bool
abbrev Ty.law : Ty Sy := Ty.pair Ty.str Ty.bool
def lawKind (w : World) (f : Heap) : ItemKind PP w f Sy := ItemKind.of (tupKind (leafKind PP w f) tupCls_tuple) (fun x => [Leaf.s x.1, Leaf.b x.2]) (fun x y e => by
    obtain ⟨a, b⟩ := x; obtain ⟨c, d⟩ := y; simp at e; exact Prod.ext e.1 e.2) (Ty.law.is f) fun k v h => by
  obtain ⟨a, u, u', n, rfl, e, ⟨t, rfl⟩, q⟩ := h
  cases q
  exact ⟨a, _, rfl, ⟨⟨_, n, e, rfl, rfl⟩⟩, .cons ⟨t, rfl⟩ (.cons rfl .nil)⟩
abbrev Ty.two : Ty (Sy × Sy) := Ty.pair Ty.law Ty.law
def twoKind (w : World) (f : Heap) : ItemKind PP w f (Sy × Sy) := ItemKind.of (tupKind (lawKind w f) tupCls_tuple) (fun x => [x.1, x.2]) (fun x y e => by
    obtain ⟨a, b⟩ := x; obtain ⟨c, d⟩ := y; simp at e; exact Prod.ext e.1 e.2) (Ty.two.is f) fun k v h => by
  obtain ⟨a, u, u', n, rfl, e, t1, t2⟩ := h
  exact ⟨a, _, rfl, ⟨⟨_, n, e, rfl, rfl⟩⟩, .cons t1 (.cons t2 .nil)⟩
section
variable {w : World} {A : Around} {E : Value → Shared → Prop} {s : Shared} {f : Heap}
theorem cls_leaf {d : Nat} {v : Value} (hv : ∀ a, v ≠ .ref a) {Q : Bool → Shared → Prop} (hq : Q false s) : wpAny (model PP w) A (ofAClassStatement d v) Q E s := by
  cases v <;> first | exact absurd rfl (hv _) | (cases d <;> exact wpAny_pure hq)
theorem cls_tup {d : Nat} {a : Addr} {vs : Array Value} {n : Nat} {Q : Bool → Shared → Prop} (ha : s.heap.get? a = some (tupleOf vs n)) (hi : ∀ v ∈ vs.toList, ∀ (Q' : Bool → Shared → Prop), Q' false s → wpAny (model PP w) A (ofAClassStatement d v) Q' E s) (hq : Q false s) :
    wpAny (model PP w) A (ofAClassStatement (d + 1) (.ref a)) Q E s := by
  have hT : s.TypeIs (.ref a) "tuple" := ⟨_, ha, rfl⟩
  unfold ofAClassStatement
  refine wpAny_bind (wpAny_typeOf hT ?_)
  dsimp only
  rw [if_pos (by decide)]
  refine wpAny_bind (wpAny_pure ?_)
  simp only [Bool.not_true, Bool.false_eq_true, if_false]
  refine wpAny_bind (wpAny_seqItems ha rfl ?_)
  dsimp only
  refine wpAny_bind ?_
  rw [← Array.forIn_toList]
  refine wpAny_forIn_list _ (fun rest r s' => r = (none, ()) ∧ s' = s ∧ ∀ v ∈ rest, v ∈ vs.toList) _ ?_ ?_ _ _ ⟨rfl, rfl, fun v hv => hv⟩
  · rintro v rest r s' ⟨rfl, rfl, hr⟩
    refine wpAny_bind (hi v (hr v (.head _)) _ ?_)
    simp only [Bool.false_eq_true, if_false]
    refine wpAny_pure ?_
    exact ⟨rfl, rfl, fun u hu => hr u (.tail _ hu)⟩
  · rintro r s' ⟨rfl, rfl, _⟩
    exact wpAny_pure hq
theorem byv_tup {d : Nat} {a : Addr} {v : Value} {r : List Value} {n : Nat} {Q : Bool → Shared → Prop} (ha : s.heap.get? a = some (tupleOf (v :: r).toArray n)) (hi : ∀ (Q' : Bool → Shared → Prop), Q' false s → wpAny (model PP w) A (hashByValue d v) Q' E s) (hq : Q false s) :
    wpAny (model PP w) A (hashByValue (d + 1) (.ref a)) Q E s := by
  have hT : s.TypeIs (.ref a) "tuple" := ⟨_, ha, rfl⟩
  unfold hashByValue
  refine wpAny_bind (wpAny_specialOf hT F.slot_tuple_hash.lookup ?_)
  dsimp only
  refine wpAny_bind (wpAny_seqItems ha rfl ?_)
  dsimp only [Option.getD]
  refine wpAny_bind ?_
  rw [← Array.forIn_toList]
  simp only [List.forIn_cons]
  refine wpAny_bind (wpAny_bind (hi _ ?_))
  simp only [Bool.not_false, if_true]
  exact wpAny_pure (wpAny_pure (wpAny_pure hq))
theorem lawPlain : Plainly (lawKind w f) where
  cls := fun {A E s k v Q} kh hv hq => by
    obtain ⟨a, u, u', n, rfl, e, ⟨t, rfl⟩, q⟩ := hv
    cases q
    refine cls_tup (kh _ _ e) (fun v hv Q' hq' => ?_) hq
    simp at hv
    rcases hv with rfl | rfl
    · exact cls_leaf (v := .str _ _) (by intro a e; cases e) hq'
    · exact cls_leaf (v := .bool _) (by intro a e; cases e) hq'
  byv := fun {A E s k v Q} kh hv hq => by
    obtain ⟨a, u, u', n, rfl, e, ⟨t, rfl⟩, q⟩ := hv
    exact byv_tup (r := [u']) (kh _ _ e) (fun Q' hq' => by unfold hashByValue; exact wpAny_pure hq') hq
  ref := fun ⟨a, _, _, _, e, _⟩ => ⟨a, e⟩
  lev := by show 0 + 1 ≤ 8; decide
theorem twoPlain : Plainly (twoKind w f) where
  cls := fun {A E s k v Q} kh hv hq => by
    obtain ⟨a, u, u', n, rfl, e, t1, t2⟩ := hv
    refine cls_tup (kh _ _ e) (fun v hv Q' hq' => ?_) hq
    simp at hv
    have one : ∀ {x : Sy} {v : Value}, Ty.law.is f x v → wpAny (model PP w) A (ofAClassStatement 7 v) Q' E s := fun hv => by
      obtain ⟨a, u, u', n, rfl, e, ⟨t, rfl⟩, q⟩ := hv
      cases q
      refine cls_tup (kh _ _ e) (fun v hv Q'' hq'' => ?_) hq'
      simp at hv
      rcases hv with rfl | rfl
      · exact cls_leaf (v := .str _ _) (by intro a e; cases e) hq''
      · exact cls_leaf (v := .bool _) (by intro a e; cases e) hq''
    rcases hv with rfl | rfl
    · exact one t1
    · exact one t2
  byv := fun {A E s k v Q} kh hv hq => by
    obtain ⟨a, u, u', n, rfl, e, ⟨a2, u2, u2', n2, rfl, e2, ⟨t, rfl⟩, _⟩, t2⟩ := hv
    exact byv_tup (r := [u']) (kh _ _ e) (fun Q' hq' => byv_tup (r := [u2']) (kh _ _ e2) (fun Q'' hq'' => by unfold hashByValue; exact wpAny_pure hq'') hq') hq
  ref := fun ⟨a, _, _, _, e, _⟩ => ⟨a, e⟩
  lev := by show 0 + 1 + 1 ≤ 8; decide
end
end Mine
end
section
open PySem PySem.W PyProof.Rows PySem.Calls
set_option Elab.async false
set_option linter.unusedVariables false
namespace Mine
def ltS (x y : Sy) : Bool := if x.1 = y.1 then (!x.2 && y.2) else decide (x.1.cps.toList < y.1.cps.toList)
def ltP (x y : Sy × Sy) : Bool := if x.1 = y.1 then ltS x.2 y.2 else ltS x.1 y.1
theorem str_ext {a b : Str} (e : a.cps.toList = b.cps.toList) : a = b := by
  obtain ⟨a⟩ := a; obtain ⟨b⟩ := b
  exact congrArg Str.mk (Array.toList_inj.mp e)
theorem ltS_asym {a b : Sy} (h : ltS a b = true) : ltS b a = false := by
  unfold ltS at h ⊢
  by_cases e : a.1 = b.1
  · rw [if_pos e] at h; rw [if_pos e.symm]
    cases ha : a.2 <;> cases hb : b.2 <;> simp_all
  · rw [if_neg e] at h; rw [if_neg (Ne.symm e)]
    simp only [decide_eq_true_eq] at h
    simp only [decide_eq_false_iff_not]
    exact List.lt_asymm h
theorem ltS_tot {a b : Sy} (n : a ≠ b) (h : ltS a b = false) : ltS b a = true := by
  unfold ltS at h ⊢
  by_cases e : a.1 = b.1
  · rw [if_pos e] at h; rw [if_pos e.symm]
    have : a.2 ≠ b.2 := fun q => n (Prod.ext e q)
    cases ha : a.2 <;> cases hb : b.2 <;> simp_all
  · rw [if_neg e] at h; rw [if_neg (Ne.symm e)]
    simp only [decide_eq_false_iff_not] at h
    simp only [decide_eq_true_eq]
    exact Classical.byContradiction fun q => e (str_ext (List.le_antisymm (List.not_lt.mp q) (List.not_lt.mp h)))
theorem ltS_trans {a b c : Sy} (h : ltS a b = true) (h' : ltS b c = true) : ltS a c = true := by
  unfold ltS at h h' ⊢
  by_cases e : a.1 = b.1
  · rw [if_pos e] at h
    by_cases e' : b.1 = c.1
    · rw [if_pos e'] at h'; rw [if_pos (e.trans e')]
      cases ha : a.2 <;> cases hb : b.2 <;> cases hc : c.2 <;> simp_all
    · rw [if_neg e'] at h'; rw [if_neg (fun q => e' (e.symm.trans q)), e]; exact h'
  · rw [if_neg e] at h
    by_cases e' : b.1 = c.1
    · rw [if_neg (fun q => e (q.trans e'.symm)), ← e']; exact h
    · rw [if_neg e'] at h'
      simp only [decide_eq_true_eq] at h h'
      have t := List.lt_trans h h'
      by_cases e2 : a.1 = c.1
      · rw [e2] at t; exact absurd t (List.lt_irrefl _)
      · rw [if_neg e2]; simpa using t
theorem ltP_asym {a b : Sy × Sy} (h : ltP a b = true) : ltP b a = false := by
  unfold ltP at h ⊢
  by_cases e : a.1 = b.1
  · rw [if_pos e] at h; rw [if_pos e.symm]; exact ltS_asym h
  · rw [if_neg e] at h; rw [if_neg (Ne.symm e)]; exact ltS_asym h
theorem ltP_tot {a b : Sy × Sy} (n : a ≠ b) (h : ltP a b = false) : ltP b a = true := by
  unfold ltP at h ⊢
  by_cases e : a.1 = b.1
  · rw [if_pos e] at h; rw [if_pos e.symm]; exact ltS_tot (fun q => n (Prod.ext e q)) h
  · rw [if_neg e] at h; rw [if_neg (Ne.symm e)]; exact ltS_tot e h
theorem ltP_trans {a b c : Sy × Sy} (h : ltP a b = true) (h' : ltP b c = true) : ltP a c = true := by
  unfold ltP at h h' ⊢
  by_cases e : a.1 = b.1
  · rw [if_pos e] at h
    by_cases e' : b.1 = c.1
    · rw [if_pos e'] at h'; rw [if_pos (e.trans e')]; exact ltS_trans h h'
    · rw [if_neg e'] at h'; rw [if_neg (fun q => e' (e.symm.trans q)), e]; exact h'
  · rw [if_neg e] at h
    by_cases e' : b.1 = c.1
    · rw [if_neg (fun q => e (q.trans e'.symm)), ← e']; exact h
    · rw [if_neg e'] at h'
      have t := ltS_trans h h'
      by_cases e2 : a.1 = c.1
      · rw [e2] at t; have := ltS_asym t; rw [t] at this; cases this
      · rw [if_neg e2]; exact t
section
variable {w : World} {A : Around} {E : Value → Shared → Prop} {s : Shared} {f : Heap}
theorem firsts {α : Type} {P : α → Value → Prop} {T : Value} {h : Heap} (hP : ∀ k v, P k v → ∃ a o xs n y, v = .ref a ∧ h.get? a = some o ∧ o.cls = .type "tuple" ∧ o.data = .seq xs n ∧ xs[0]? = some y ∧ Looks (model PP w) h (typeOf y) T) {zs : List α} {vs : List Value} (p : Pw P zs vs) :
    ∃ fs, KatTups h vs fs ∧ fs.length = vs.length ∧ ∀ v ∈ fs, Looks (model PP w) h (typeOf v) T := by
  induction p with
  | nil => exact ⟨[], trivial, rfl, fun v hv => nomatch hv⟩
  | cons a _ ih =>
    obtain ⟨fs, h1, h2, h3⟩ := ih
    obtain ⟨ad, o, xs, n, y, rfl, b1, b2, b3, b4, b5⟩ := hP _ _ a
    refine ⟨y :: fs, .cons b1 b2 b3 b4 h1, by simp [h2], fun v hv => ?_⟩
    rcases List.mem_cons.mp hv with rfl | hv
    · exact b5
    · exact h3 v hv
theorem lt_law {x y : Sy} {u v : Value} {C : Bool → Shared → Prop} (hu : A.units + 100 < cLine) (kf : f.StaysIn s.heap) (hx : Ty.law.is f x u) (hy : Ty.law.is f y v) (hc : ∀ tk, C (ltS x y) { s with toks := tk }) : wpAny (model PP w) A (keyLt' (tuples' true) u v) C E s := by
  obtain ⟨a, a1, a2, n, rfl, ea, ⟨t, rfl⟩, qa⟩ := hx
  cases qa
  obtain ⟨b, b1, b2, m, rfl, eb, ⟨t', rfl⟩, qb⟩ := hy
  cases qb
  refine kat_lt (kf _ _ ea) rfl (kf _ _ eb) rfl (kat_cons (wpAny_eqBool_str ?_))
  unfold ltS at hc
  by_cases e : x.1 = y.1
  · rw [decide_eq_true e]
    rw [if_pos e] at hc
    refine kat_yes (kat_cons ?_)
    refine (leafKind PP w f).eqBool (x := .b x.2) (y := .b y.2) (by show A.units + 10 * 0 < _; omega) kf rfl rfl fun tk => ?_
    have hc := hc tk
    by_cases e2 : x.2 = y.2
    · rw [show decide (Leaf.b x.2 = Leaf.b y.2) = true by simp [e2]]
      refine kat_yes (kat_nil ?_)
      have : (!x.2 && y.2) = false := by rw [e2]; cases y.2 <;> rfl
      rw [this] at hc; exact hc
    · rw [show decide (Leaf.b x.2 = Leaf.b y.2) = false by simp [e2]]
      refine kat_no (kat_one _ _ (PyProof.Rows.lt_bool ?_))
      show C _ _
      have : decide (b2i x.2 < b2i y.2) = (!x.2 && y.2) := by cases x.2 <;> cases y.2 <;> rfl
      rw [this]; exact hc
  · rw [decide_eq_false e]
    rw [if_neg e] at hc
    exact kat_no (oneLt_str (hc s.toks))
def lawOrd : Ordered (lawKind w f) ltS where
  κ := tuples' (Value.type "str" != Value.type "tuple")
  kind := fun {A E s zs vs Q} kf p h2 hq => by
    obtain ⟨fs, k1, k2, k3⟩ := firsts (w := w) (h := s.heap) (T := .type "str") (fun k v hv => by
      obtain ⟨a, u, u', n, rfl, e, ⟨t, rfl⟩, q⟩ := hv
      exact ⟨a, _, _, n, _, rfl, kf _ _ e, rfl, rfl, rfl, .of_pure rfl⟩) p
    exact kat_kind k1 (by omega) k3 (by decide) hq
  cmp := fun hu kf hx hy hc => lt_law hu kf hx hy hc
  trans := ltS_trans
  asym := ltS_asym
  tot := ltS_tot
end
end Mine
end
section
open PySem PySem.W PyProof.Rows PySem.Calls
set_option Elab.async false
set_option linter.unusedVariables false
namespace Mine
theorem tl_kind : builtinKind "tuple.__lt__" = some .slot := by decide +kernel
theorem tl_split : splitId "tuple.__lt__" = some ("tuple", "__lt__") := by decide +kernel
section
variable {w : World} {A : Around} {E : Value → Shared → Prop} {s : Shared} {f : Heap}
theorem lt_tup {x y : Sy} {u v : Value} {Q : Value → Shared → Prop} (hu : A.units + 20 < cLine) (kf : f.StaysIn s.heap) (hx : Ty.law.is f x u) (hy : Ty.law.is f y v) (hq : ∀ tk, Q (.bool (ltS x y)) { s with toks := tk }) : wpAny (model PP w) A (compareOp .Lt u v) Q E s := by
  obtain ⟨a, a1, a2, n, rfl, ea, ⟨t, rfl⟩, qa⟩ := hx
  cases qa
  obtain ⟨b, b1, b2, m, rfl, eb, ⟨t', rfl⟩, qb⟩ := hy
  cases qb
  have Ta : Looks (model PP w) f (typeOf (.ref a)) (.type "tuple") := (Looks.ld ea).andThen .now
  have Tb : Looks (model PP w) f (typeOf (.ref b)) (.type "tuple") := (Looks.ld eb).andThen .now
  have L : Looks (model PP w) f (specialOf (.ref a) "__lt__") (some (.builtin "tuple.__lt__")) := Ta.andThen (Looks.of_pure F.slot_tuple_lt.lookup)
  have I : Looks (model PP w) f (isInstance (.ref a) (.type "tuple")) true := Ta.andThen (Looks.of_pure isSubtype_tuple_tuple)
  have I' : Looks (model PP w) f (isInstance (.ref b) (.type "tuple")) true := Tb.andThen (Looks.of_pure isSubtype_tuple_tuple)
  have ho : oneThing? .Lt (.ref a) (.ref b) = none := rfl
  show wpAny _ _ (richCompare .Lt (.ref a) (.ref b)) Q E s
  simp only [richCompare, ho]
  refine wpAny_holding (wpAny_bind (wpAny_cRoomFor_or (.inr (by omega)) ?_))
  refine wpAny_bind (Ta A _ E s kf (wpAny_bind (Tb A _ E s kf ?_)))
  simp only [bne_self_eq_false, Bool.false_eq_true, if_false, pure_bind]
  show wpAny _ _ (tryCompare (.ref a) "__lt__" (.ref b) >>= _) _ _ _
  unfold tryCompare
  refine wpAny_bind (wpAny_bind (bound_look kf L (F.slot_tuple_lt.bind _) (call_tupSlot kf I F.slot_tuple_lt.plain F.entry_tuple_lt tl_kind tl_split (F.args_tuple_lt_2 _ _) ?_)))
  have fin : ∀ tk r, r = ltS x y → ∃ v, (PySem.Fin.done (.ret (.bool r))) = .done (.ret v) ∧ wpAny (model PP w) A (pure (some v) >>= fun v => pure v : Sem (Option Value)) (fun r s' => r = some (.bool (ltS x y)) ∧ s' = s') E { s with toks := tk } := fun tk r e => ⟨_, rfl, wpAny_bind (wpAny_pure (wpAny_pure ⟨by rw [e], rfl⟩))⟩
  show wpAny _ _ (isInstance (.ref b) (.type "tuple") >>= _) _ _ s
  refine wpAny_bind (I' _ _ E s kf ?_)
  simp only [Bool.not_true, Bool.false_eq_true, if_false]
  refine wpAny_bind (wpAny_tupleItemsOf (kf _ _ ea) rfl ?_)
  refine wpAny_bind (wpAny_tupleItemsOf (kf _ _ eb) rfl ?_)
  refine wpAny_bind ?_
  show wpAny _ _ (forIn [(Value.str x.1 t, Value.str y.1 t'), (Value.bool x.2, Value.bool y.2)] _ _) _ _ _
  rw [List.forIn_cons]
  refine wpAny_bind (wpAny_bind (wpAny_eqBool_str ?_))
  by_cases e : x.1 = y.1
  · rw [decide_eq_true e]
    simp only [Bool.not_true, Bool.false_eq_true, if_false]
    refine wpAny_pure ?_
    dsimp only
    rw [List.forIn_cons]
    refine wpAny_bind (wpAny_bind ((leafKind PP w f).eqBool (x := .b x.2) (y := .b y.2) (by show A.units + 1 + 10 * 0 < _; omega) kf rfl rfl fun tk => ?_))
    have hq := hq tk
    unfold ltS at hq
    rw [if_pos e] at hq
    by_cases e2 : x.2 = y.2
    · rw [show decide (Leaf.b x.2 = Leaf.b y.2) = true by simp [e2]]
      simp only [Bool.not_true, Bool.false_eq_true, if_false]
      refine wpAny_pure ?_
      dsimp only
      rw [List.forIn_nil]
      refine wpAny_pure ?_
      have : (!x.2 && y.2) = false := by rw [e2]; cases y.2 <;> rfl
      rw [this] at hq
      exact wpAny_pure ⟨_, rfl, wpAny_pure (wpAny_pure hq)⟩
    · rw [show decide (Leaf.b x.2 = Leaf.b y.2) = false by simp [e2]]
      simp only [Bool.not_false, if_true]
      refine wpAny_bind (wpAny_rule (wpAny_bind (PyProof.Rows.lt_bool ?_)))
      have : decide (b2i x.2 < b2i y.2) = (!x.2 && y.2) := by cases x.2 <;> cases y.2 <;> rfl
      rw [this]
      refine wpAny_bind (wpAny_pure (wpAny_pure ?_))
      exact wpAny_pure (wpAny_pure ⟨_, rfl, wpAny_pure (wpAny_pure hq)⟩)
  · rw [decide_eq_false e]
    simp only [Bool.not_false, if_true]
    have hq := hq s.toks
    unfold ltS at hq
    rw [if_neg e] at hq
    refine wpAny_bind (wpAny_rule (wpAny_bind (PyProof.Rows.lt_str ?_)))
    refine wpAny_bind (wpAny_pure (wpAny_pure ?_))
    exact wpAny_pure (wpAny_pure ⟨_, rfl, wpAny_pure (wpAny_pure hq)⟩)
def twoOrd : Ordered (twoKind w f) ltP where
  κ := tuples' (Value.type "tuple" != Value.type "tuple")
  kind := fun {A E s zs vs Q} kf p h2 hq => by
    obtain ⟨fs, k1, k2, k3⟩ := firsts (w := w) (h := s.heap) (T := .type "tuple") (fun k v hv => by
      obtain ⟨a, u, u', n, rfl, e, ⟨a2, u2, u2', n2, rfl, e2, _⟩, q⟩ := hv
      exact ⟨a, _, _, n, _, rfl, kf _ _ e, rfl, rfl, rfl, (Looks.ld (kf _ _ e2)).andThen .now⟩) p
    exact kat_kind k1 (by omega) k3 (by decide) hq
  cmp := fun {A E s x y u v C} hu kf hx hy hc => by
    obtain ⟨a, u1, u2, n, rfl, ea, p1, p2⟩ := hx
    obtain ⟨b, v1, v2, m, rfl, eb, q1, q2⟩ := hy
    have z : (lawKind w f).lev = 1 := rfl
    refine kat_lt (kf _ _ ea) rfl (kf _ _ eb) rfl (kat_cons ((lawKind w f).eqBool (by rw [z]; omega) kf p1 q1 fun tk => ?_))
    unfold ltP at hc
    by_cases e : x.1 = y.1
    · rw [decide_eq_true e]
      rw [if_pos e] at hc
      refine kat_yes (kat_cons ((lawKind w f).eqBool (s := { s with toks := tk }) (by rw [z]; omega) kf p2 q2 fun tk2 => ?_))
      by_cases e2 : x.2 = y.2
      · rw [decide_eq_true e2]
        refine kat_yes (kat_nil ?_)
        have : ltS x.2 y.2 = false := by rw [e2]; unfold ltS; rw [if_pos rfl]; cases y.2.2 <;> rfl
        have hc := hc tk2
        rw [this] at hc; exact hc
      · rw [decide_eq_false e2]
        refine kat_no (kat_one _ _ (lt_tup (s := { s with toks := tk2 }) (by omega) kf p2 q2 fun tk3 => ?_))
        exact hc tk3
    · rw [decide_eq_false e]
      rw [if_neg e] at hc
      refine kat_no (kat_one _ _ (lt_tup (s := { s with toks := tk }) (by omega) kf p1 q1 fun tk3 => ?_))
      exact hc tk3
  trans := ltP_trans
  asym := ltP_asym
  tot := ltP_tot
end
end Mine
end
section
open PySem PySem.W PyProof.Rows PySem.Calls
set_option Elab.async false
set_option linter.unusedVariables false
namespace Mine
theorem size_none (h : Heap) : h.get? h.objs.size = none := by
  cases q : h.get? h.objs.size with
  | none => rfl
  | some o => exact absurd (Heap.lt_size q) (Nat.lt_irrefl _)
theorem Pw.of_get {α : Type} {P : α → Value → Prop} : ∀ {ks : List α} {vs : List Value}, Pw P ks vs → ∀ i : Nat, (ks[i]? = none ∧ vs[i]? = none) ∨ ∃ k v, ks[i]? = some k ∧ vs[i]? = some v ∧ P k v := by
  intro ks vs p
  induction p with
  | nil => intro i; exact .inl ⟨by simp, by simp⟩
  | @cons k v ks vs h _ ih =>
    intro i
    cases i with
    | zero => exact .inr ⟨k, v, by simp, by simp, h⟩
    | succ i => simpa using ih i
theorem Pw.picks {α : Type} {P : α → Value → Prop} {ks : List α} {vs : List Value} (p : Pw P ks vs) : ∀ is : List Nat, Pw P (is.filterMap (ks[·]?)) (is.filterMap (vs[·]?))
  | [] => .nil
  | i :: is => by
    rcases p.of_get i with ⟨a, b⟩ | ⟨k, v, a, b, c⟩
    · simpa [a, b] using p.picks is
    · simpa [a, b] using Pw.cons c (p.picks is)
theorem Pw.append {α : Type} {P : α → Value → Prop} {ks ks' : List α} {vs vs' : List Value} (p : Pw P ks vs) (q : Pw P ks' vs') : Pw P (ks ++ ks') (vs ++ vs') := by
  induction p with
  | nil => exact q
  | cons a _ ih => exact .cons a ih
def pick {α : Type} (l : List α) (lo hi st : Option Int) : List α := (sliceRange (sliceBounds lo hi st l.length).1 (sliceBounds lo hi st l.length).2.1 (sliceBounds lo hi st l.length).2.2).filterMap (l[·]?)
/-- from a up to b -/
def cut {α : Type} (l : List α) (a b : Nat) : List α := (l.drop a).take (b - a)
theorem picks_cut {α : Type} (l : List α) (a : Nat) : ∀ k : Nat, ((List.range k).map (a + ·)).filterMap (l[·]?) = (l.drop a).take k
  | 0 => by simp
  | k + 1 => by
    rw [List.range_succ, List.map_append, List.filterMap_append, picks_cut l a k, List.take_add_one]
    congr 1
    simp only [List.map_cons, List.map_nil, List.getElem?_drop]
    cases h : l[a + k]? <;> simp [h]
theorem Pw.cut {α : Type} {P : α → Value → Prop} {ks : List α} {vs : List Value} (p : Pw P ks vs) (a b : Nat) : Pw P (cut ks a b) (cut vs a b) := by
  unfold Mine.cut; rw [← picks_cut, ← picks_cut]; exact p.picks _
def Ty.slice : Ty (Option Int × Option Int × Option Int) :=
  ⟨fun f x v => ∃ a v1 v2 v3, v = .ref a ∧ f.get? a = some { cls := .type "slice", data := .fields #[v1, v2, v3] } ∧ IsPart v1 x.1 ∧ IsPart v2 x.2.1 ∧ IsPart v3 x.2.2, fun k ⟨a, v1, v2, v3, e, g, p⟩ => ⟨a, v1, v2, v3, e, k _ _ g, p⟩⟩
def Ty.part : Ty (Option Int) := ⟨fun _ x v => IsPart v x, fun _ h => h⟩
section
variable {α β : Type} {w : World} {A : Around} {env : Env} {f h : Heap} {T : Ty α} {U : Ty β}
def Ep (w : World) (A : Around) (env : Env) (e : Option Expr) (f h : Heap) (x : Option Int) : Prop := ∀ f' h', Ext Nil f h f' h' → Does w A (evalPart e env) f' h' fun _ v => IsPart v x
theorem ep_none : Ep w A env none f h none := fun _ _ k => .pure k.fh .none
theorem ep_some {e : Expr} {i : Int} (x : Es w A env e f h .int i) : Ep w A env (some e) f h (some i) := fun _ _ k => (x _ _ k).mono fun _ _ v _ ⟨t, e⟩ => e ▸ .int i t
theorem ep_nat {e : Expr} {i : Nat} (x : Es w A env e f h .nat i) : Ep w A env (some e) f h (some i) := fun _ _ k => (x _ _ k).mono fun _ _ v _ ⟨t, e⟩ => e ▸ .int _ t
theorem es_slice {lo hi st : Option Expr} {p : Pos} {a b c : Option Int} (x : Ep w A env lo f h a) (y : Ep w A env hi f h b) (z : Ep w A env st f h c) : Es w A env (.Slice lo hi st p) f h .slice (a, b, c) := fun f₁ h₁ k g d tk os Q hq => by
  refine wpAny_Slice (x _ _ k g d tk os _ fun h2 f2 g2 d2 tk2 v1 e1 ge1 r1 => y _ _ (k.trans e1) g2 d2 tk2 os _ fun h3 f3 g3 d3 tk3 v2 e2 ge2 r2 => z _ _ ((k.trans e1).trans e2) g3 d3 tk3 os _ fun h4 f4 g4 d4 tk4 v3 e3 ge3 r3 => ?_)
  have e4 : Ext Nil f4 h4 (thaw f4 h4 (h4.push { cls := .type "slice", data := .fields #[v1, v2, v3] })) (h4.push { cls := .type "slice", data := .fields #[v1, v2, v3] }) := Ext.all e3.fh fun b o e => Heap.get?_push_of_some _ e
  exact hq _ _ _ _ _ _ (((e1.trans e2).trans e3).trans e4) ((ge1.trans ge2).trans ge3) ⟨_, v1, v2, v3, rfl, new_get (cls := .none) (dt := .freed) e3.fh rfl, r1, r2, r3⟩
theorem IsList.of {h : Heap} {l : Addr} {vs : Array Value} {n : Nat} (e : h.get? l = some (listOf vs n)) : h.IsList l vs := ⟨_, e, rfl, n, rfl⟩
theorem IsTup.of {h : Heap} {l : Addr} {vs : Array Value} {n : Nat} (e : h.get? l = some (tupleOf vs n)) : IsTup h l vs := ⟨_, e, rfl, n, rfl⟩
theorem p_len_list {xs : List α} {u : Value} (k : f.StaysIn h) (t : (Ty.list T).is f xs u) (hz : xs.length ≤ 1000) : Does w A (call (.builtin "len") [u]) f h fun _ v => ∃ t, v = .int xs.length t := by
  obtain ⟨a, vs, n, rfl, e, p⟩ := t
  have hl := p.length
  intro g d tk os Q hq
  refine len_list (s := ⟨h, g, d, tk, os⟩) (IsList.of (k _ _ e)) (by simp at hl; omega) ?_
  exact hq _ f _ _ _ _ (.refl k) (.refl g) ⟨_, by rw [hl, Array.length_toList]⟩
theorem p_len_tup {xs : List α} {u : Value} (k : f.StaysIn h) (t : (Ty.tup T).is f xs u) (hz : xs.length ≤ 1000) : Does w A (call (.builtin "len") [u]) f h fun _ v => ∃ t, v = .int xs.length t := by
  obtain ⟨a, vs, n, rfl, e, p⟩ := t
  have hl := p.length
  intro g d tk os Q hq
  refine len_tuple (s := ⟨h, g, d, tk, os⟩) (IsTup.of (k _ _ e)) (by simp at hl; omega) ?_
  exact hq _ f _ _ _ _ (.refl k) (.refl g) ⟨_, by rw [hl, Array.length_toList]⟩
theorem p_item_list {xs : List α} {i : Nat} {x : α} {u v : Value} (k : f.StaysIn h) (t : (Ty.list T).is f xs u) (ti : ∃ t, v = .int i t) (hi : (i : Int) < 2 ^ 63) (hx : xs[i]? = some x) : Does w A (getItem u v) f h fun f' v => T.is f' x v := by
  obtain ⟨a, vs, n, rfl, e, p⟩ := t
  obtain ⟨tv, rfl⟩ := ti
  intro g d tk os Q hq
  rcases p.of_get i with ⟨q, _⟩ | ⟨x', y, q1, q2, q3⟩
  · rw [q] at hx; cases hx
  · rw [q1] at hx; cases hx
    exact wpAny_getItem_list (s := ⟨h, g, d, tk, os⟩) (IsList.of (k _ _ e)) (by omega) hi (by simpa using q2) (hq _ f _ _ _ _ (.refl k) (.refl g) q3)
theorem p_item_tup {xs : List α} {i : Nat} {x : α} {u v : Value} (k : f.StaysIn h) (t : (Ty.tup T).is f xs u) (ti : ∃ t, v = .int i t) (hz : xs.length ≤ 1000) (hx : xs[i]? = some x) : Does w A (getItem u v) f h fun f' v => T.is f' x v := by
  obtain ⟨a, vs, n, rfl, e, p⟩ := t
  obtain ⟨tv, rfl⟩ := ti
  intro g d tk os Q hq
  have hl := p.length
  have hlt := (List.getElem?_eq_some_iff.mp hx).1
  rcases p.of_get i with ⟨q, _⟩ | ⟨x', y, q1, q2, q3⟩
  · rw [q] at hx; cases hx
  · rw [q1] at hx; cases hx
    refine getItem_tuple (s := ⟨h, g, d, tk, os⟩) (IsTup.of (k _ _ e)) (by omega) (by omega) (j := i) ?_ (by simpa using q2) (hq _ f _ _ _ _ (.refl k) (.refl g) q3)
    unfold seqIndex?
    simp only [Array.length_toList] at hl
    simp; omega
theorem p_fst {x : α × β} {u v : Value} (k : f.StaysIn h) (t : (Ty.pair T U).is f x u) (ti : ∃ t, v = .int 0 t) : Does w A (getItem u v) f h fun f' v => T.is f' x.1 v := by
  obtain ⟨a, y, z, n, rfl, e, p, q⟩ := t
  obtain ⟨tv, rfl⟩ := ti
  exact fun g d tk os Q hq => getItem_tuple (s := ⟨h, g, d, tk, os⟩) (IsTup.of (k _ _ e)) (by omega) (by omega) (j := 0) rfl rfl (hq _ f _ _ _ _ (.refl k) (.refl g) p)
theorem p_snd {x : α × β} {u v : Value} (k : f.StaysIn h) (t : (Ty.pair T U).is f x u) (ti : ∃ t, v = .int 1 t) : Does w A (getItem u v) f h fun f' v => U.is f' x.2 v := by
  obtain ⟨a, y, z, n, rfl, e, p, q⟩ := t
  obtain ⟨tv, rfl⟩ := ti
  exact fun g d tk os Q hq => getItem_tuple (s := ⟨h, g, d, tk, os⟩) (IsTup.of (k _ _ e)) (by omega) (by omega) (j := 1) rfl rfl (hq _ f _ _ _ _ (.refl k) (.refl g) q)
theorem push_new {o : Obj} {g : Array GenState} {d : Drawn} {tk : Nat} {os : OsState} {R : Heap → Value → Prop} {Q : Value → Shared → Prop} (k : f.StaysIn h) (ho : o.isFreed = false)
    (r : ∀ f' : Heap, f.StaysIn f' → f'.get? h.objs.size = some o → R f' (.ref h.objs.size))
    (hq : ∀ h' f' g' d' tk' v, Ext Nil f h f' h' → Gx g g' → R f' v → Q v ⟨h', g', d', tk', os⟩) : Q (.ref h.objs.size) ⟨h.push o, g, d, tk, os⟩ :=
  have e := Ext.all k fun b o' e => Heap.get?_push_of_some o e
  hq _ _ g d tk _ e (.refl g) (r _ e.fk (new_get (cls := .none) (dt := .freed) k ho))
theorem p_slice_list {xs : List α} {s : Option Int × Option Int × Option Int} {u v : Value} (k : f.StaysIn h) (t : (Ty.list T).is f xs u) (ts : Ty.slice.is f s v) (h0 : s.2.2 ≠ some 0) (hz : xs.length ≤ 1000) :
    Does w A (getItem u v) f h fun f' v => (Ty.list T).is f' (pick xs s.1 s.2.1 s.2.2) v := by
  obtain ⟨a, vs, n, rfl, e, p⟩ := t
  obtain ⟨b, v1, v2, v3, rfl, e', p1, p2, p3⟩ := ts
  have hl := p.length
  intro g d tk os Q hq
  refine wpAny_getItem_list_slice (s := ⟨h, g, d, tk, os⟩) (IsList.of (k _ _ e)) ⟨_, k _ _ e', rfl, rfl⟩ p1 p2 p3 h0 ?_ (by rw [sizeLine_eq]; simp at hl; omega)
  refine push_new k rfl (fun f' kk gt => ⟨_, slicePick vs s.1 s.2.1 s.2.2, 0, rfl, gt, ?_⟩) hq
  simp only [slicePick, pick]
  rw [hl]
  simpa using ((p.mono fun a v h => T.mono kk h).picks _)
theorem p_add_list {xs ys : List α} {u v : Value} (k : f.StaysIn h) (t : (Ty.list T).is f xs u) (t' : (Ty.list T).is f ys v) (hz : xs.length ≤ 1000) (hz' : ys.length ≤ 1000) :
    Does w A (binaryOp .Add u v) f h fun f' v => (Ty.list T).is f' (xs ++ ys) v := by
  obtain ⟨a, vs, n, rfl, e, p⟩ := t
  obtain ⟨b, vs', n', rfl, e', p'⟩ := t'
  have hl := p.length
  have hl' := p'.length
  intro g d tk os Q hq
  have h1 : (⟨h, g, d, tk, os⟩ : Shared).TypeIs (.ref a) "list" := ⟨_, k _ _ e, rfl⟩
  have h2 : (⟨h, g, d, tk, os⟩ : Shared).TypeIs (.ref b) "list" := ⟨_, k _ _ e', rfl⟩
  have hsz : vs.size + vs'.size ≤ sizeLine := by rw [sizeLine_eq]; simp at hl hl'; omega
  refine concat_meets (s := ⟨h, g, d, tk, os⟩) h1 h2 noFill_list_add seq_list_add PySem.F.slot_list_add PySem.F.entry_list_add (PySem.F.args_list_add_2 _ _) (list_addW a b vs vs' n n' none none #[] #[] hsz) ?_
  refine ⟨k _ _ e, k _ _ e', ?_⟩
  refine push_new k rfl (fun f' kk gt => ⟨_, vs ++ vs', _, rfl, gt, ?_⟩) hq
  simpa using (p.mono fun a v h => T.mono kk h).append (p'.mono fun a v h => T.mono kk h)
end
end Mine
end
section
open PySem PySem.W PyProof.Rows PySem.Calls
set_option Elab.async false
set_option linter.unusedVariables false
namespace Mine
section
variable {α : Type} [DecidableEq α]
def ins (lt : α → α → Bool) (x : α) : List α → List α
  | [] => [x]
  | y :: l => if x = y then y :: l else if lt x y then x :: y :: l else y :: ins lt x l
/-- in order, each once -/
def srt (lt : α → α → Bool) (xs : List α) : List α := xs.foldr (ins lt) []
theorem ins_mem {lt : α → α → Bool} {x z : α} : ∀ {l : List α}, z ∈ ins lt x l ↔ z = x ∨ z ∈ l
  | [] => by simp [ins]
  | y :: l => by
    unfold ins
    split
    · rename_i e; subst e; simp
    · split
      · simp
      · rw [List.mem_cons, ins_mem, List.mem_cons]
        constructor
        · rintro (h | h | h)
          · exact .inr (.inl h)
          · exact .inl h
          · exact .inr (.inr h)
        · rintro (h | h | h)
          · exact .inr (.inl h)
          · exact .inl h
          · exact .inr (.inr h)
theorem srt_mem {lt : α → α → Bool} {z : α} : ∀ {l : List α}, z ∈ srt lt l ↔ z ∈ l
  | [] => Iff.rfl
  | x :: l => by
    show z ∈ ins lt x (srt lt l) ↔ _
    rw [ins_mem, srt_mem, List.mem_cons]
structure IsLt (lt : α → α → Bool) : Prop where
  trans : ∀ {a b c}, lt a b = true → lt b c = true → lt a c = true
  asym : ∀ {a b}, lt a b = true → lt b a = false
  tot : ∀ {a b}, a ≠ b → lt a b = false → lt b a = true
variable {lt : α → α → Bool}
theorem ins_sorted (T : IsLt lt) (x : α) : ∀ {l : List α}, l.Pairwise (fun a b => lt a b = true) → (ins lt x l).Pairwise (fun a b => lt a b = true)
  | [], _ => List.pairwise_singleton _ _
  | y :: l, h => by
    obtain ⟨h1, h2⟩ := List.pairwise_cons.mp h
    unfold ins
    split
    · exact h
    · rename_i ne
      split
      · rename_i hl
        refine List.pairwise_cons.mpr ⟨fun z hz => ?_, h⟩
        rcases List.mem_cons.mp hz with rfl | hz
        · exact hl
        · exact T.trans hl (h1 z hz)
      · rename_i hl
        refine List.pairwise_cons.mpr ⟨fun z hz => ?_, ins_sorted T x h2⟩
        rcases ins_mem.mp hz with rfl | hz
        · exact T.tot ne (by simpa using hl)
        · exact h1 z hz
theorem srt_sorted (T : IsLt lt) : ∀ (l : List α), (srt lt l).Pairwise (fun a b => lt a b = true)
  | [] => List.Pairwise.nil
  | x :: l => ins_sorted T x (srt_sorted T l)
theorem sorted_unique (T : IsLt lt) : ∀ {l l' : List α}, l.Pairwise (fun a b => lt a b = true) → l'.Pairwise (fun a b => lt a b = true) → (∀ z, z ∈ l ↔ z ∈ l') → l = l'
  | [], [], _, _, _ => rfl
  | [], y :: l', _, _, h => by have := (h y).mpr (.head _); cases this
  | x :: l, [], _, _, h => by have := (h x).mp (.head _); cases this
  | x :: l, y :: l', hl, hl', h => by
    obtain ⟨a1, a2⟩ := List.pairwise_cons.mp hl
    obtain ⟨b1, b2⟩ := List.pairwise_cons.mp hl'
    have irr : ∀ a, lt a a = true → False := fun a q => by have := T.asym q; rw [q] at this; cases this
    have e : x = y := by
      rcases List.mem_cons.mp ((h x).mp (.head _)) with q | q
      · exact q
      · rcases List.mem_cons.mp ((h y).mpr (.head _)) with q' | q'
        · exact q'.symm
        · exact absurd (T.trans (a1 y q') (b1 x q)) (fun z => irr _ z)
    subst e
    congr 1
    refine sorted_unique T a2 b2 fun z => ⟨fun hz => ?_, fun hz => ?_⟩
    · rcases List.mem_cons.mp ((h z).mp (.tail _ hz)) with q | q
      · subst q; exact absurd (a1 _ hz) (fun z => irr _ z)
      · exact q
    · rcases List.mem_cons.mp ((h z).mpr (.tail _ hz)) with q | q
      · subst q; exact absurd (b1 _ hz) (fun z => irr _ z)
      · exact q
theorem srt_of (T : IsLt lt) {l l' : List α} (hl : l.Pairwise (fun a b => lt a b = true)) (h : ∀ z, z ∈ l ↔ z ∈ l') : l = srt lt l' := sorted_unique T hl (srt_sorted T l') fun z => (h z).trans srt_mem.symm
theorem srt_congr (T : IsLt lt) {l l' : List α} (h : ∀ z, z ∈ l ↔ z ∈ l') : srt lt l = srt lt l' := srt_of T (srt_sorted T l) fun z => srt_mem.trans (h z)
end
/-- all that is asked of items of sets -/
structure Kd (w : World) (α : Type) [DecidableEq α] where
  T : Ty α
  K : ∀ f, ItemKind PP w f α
  is : ∀ f k v, (K f).is k v ↔ T.is f k v
  hash : ∀ f f', (K f).hash = (K f').hash
  plain : ∀ f, Plainly (K f)
  lt : α → α → Bool
  ord : ∀ f, Ordered (K f) lt
  lev : ∀ f, (K f).lev ≤ 3
def kdLaw (w : World) : Kd w Sy := ⟨Ty.law, lawKind w, fun _ _ _ => Iff.rfl, fun _ _ => rfl, fun _ => lawPlain, ltS, fun _ => lawOrd, fun _ => by show 0 + 1 ≤ 3; omega⟩
def kdTwo (w : World) : Kd w (Sy × Sy) := ⟨Ty.two, twoKind w, fun _ _ _ => Iff.rfl, fun _ _ => rfl, fun _ => twoPlain, ltP, fun _ => twoOrd, fun _ => by show 0 + 1 + 1 ≤ 3; omega⟩
theorem Kd.isLt {w : World} {α : Type} [DecidableEq α] (D : Kd w α) : IsLt D.lt := let O := D.ord {}; ⟨O.trans, O.asym, O.tot⟩
section
variable {w : World} {A : Around} {f h : Heap} {α : Type} [DecidableEq α]
theorem Kd.up (D : Kd w α) {f f' : Heap} {es : Array (Int × Value)} {t : SetTable} {ks : List α} (k : f.StaysIn f') (I : SetOk (D.K f) es t ks) : SetOk (D.K f') es t ks :=
  ⟨I.mask, I.up, I.dum, I.size, I.room, I.le, I.len, fun i y q => by
    obtain ⟨v, e1, e2⟩ := I.ents i y q
    exact ⟨v, by rw [D.hash f' f]; exact e1, (D.is _ _ _).mpr (D.T.mono k ((D.is _ _ _).mp e2))⟩, I.nodup, fun i j y q1 q2 => by rw [D.hash f' f]; exact I.path i j y q1 q2⟩
def Kd.set (D : Kd w α) : Ty (List α) := ⟨fun f xs v => ∃ a es ep t ks, v = .ref a ∧ f.get? a = some (setO es ep t) ∧ SetOk (D.K f) es t ks ∧ (ks ≠ [] → t.plain = false) ∧ t.led = (!w.params.followText "set-order") ∧ ∀ y, y ∈ ks ↔ y ∈ xs,
  fun {f f' xs v} k ⟨a, es, ep, t, ks, e, g, I, p, l, m⟩ => ⟨a, es, ep, t, ks, e, k _ _ g, D.up k I, p, l, m⟩⟩
theorem p_set (D : Kd w α) {xs : List α} {u : Value} (kf : f.StaysIn h) (rm : Rm A 200) (t : (Ty.list D.T).is f xs u) (hz : xs.length < 64) : Does w A (call (.type "set") [u]) f h fun f' v => D.set.is f' xs v := by
  obtain ⟨a, vs, n, rfl, e, p⟩ := t
  refine Does.of kf fun g d tk os Q hq => ?_
  refine set_call (K := D.K f) (s := ⟨h, g, d, tk, os⟩) (D.plain f) rm.hh (by have := D.lev f; have := rm.units; have : cLine = 9900 := rfl; omega) kf e (p.mono fun k v => (D.is f k v).mpr) (by omega) fun h' tk es ep t ks k g' I pl ld m => ?_
  exact hq h' tk _ k ⟨_, es, ep, t, ks, rfl, Ext.all_new kf k ⟨g', size_none' _⟩, D.up (Ext.all kf k).fk I, pl, ld, m⟩
theorem p_sorted_list (D : Kd w α) {xs : List α} {u : Value} (kf : f.StaysIn h) (rm : Rm A 200) (t : (Ty.list D.T).is f xs u) (hn : xs.Nodup) (hz : xs.length < 64) : Does w A (call (.builtin "sorted") [u]) f h fun f' v => (Ty.list D.T).is f' (srt D.lt xs) v := by
  obtain ⟨a, vs, n, rfl, e, p⟩ := t
  intro g d tk os Q hq
  refine sorted_list (K := D.K f) (s := ⟨h, g, d, tk, os⟩) (D.ord f) (by have := rm.units; have : cLine = 9900 := rfl; omega) kf (kf _ _ e) (p.mono fun k v => (D.is f k v).mpr) hn hz fun h' d' tk' l out ys c k g' z p' pw m => ?_
  have E := Ext.all kf k
  refine hq h' _ g d' tk' _ E (.refl g) ⟨l, List.toArray out, c, rfl, Ext.all_new kf k ⟨g', z⟩, ?_⟩
  rw [← srt_of D.isLt pw m]
  exact p'.mono fun k v q => D.T.mono E.fk ((D.is f k v).mp q)
theorem p_sorted_set (D : Kd w α) {xs : List α} {u : Value} (kf : f.StaysIn h) (rm : Rm A 200) (t : D.set.is f xs u) (hz : xs.length < 64) : Does w A (call (.builtin "sorted") [u]) f h fun f' v => (Ty.list D.T).is f' (srt D.lt xs) v := by
  obtain ⟨a, es, ep, t, ks, rfl, e, I, pl, ld, m⟩ := t
  intro g d tk os Q hq
  refine sorted_set (K := D.K f) (s := ⟨h, g, d, tk, os⟩) (D.ord f) rm.hh (by have := rm.units; have : cLine = 9900 := rfl; omega) kf I (kf _ _ e) pl ld m hz fun h' d' tk' l out ys c k g' z p' pw m => ?_
  have E := Ext.all kf k
  refine hq h' _ g d' tk' _ E (.refl g) ⟨l, List.toArray out, c, rfl, Ext.all_new kf k ⟨g', z⟩, ?_⟩
  rw [← srt_of D.isLt pw m]
  exact p'.mono fun k v q => D.T.mono E.fk ((D.is f k v).mp q)
end
end Mine
end
section
open PySem PySem.W PyProof.Rows PySem.Calls
set_option Elab.async false
set_option linter.unusedVariables false
namespace Mine
abbrev Keep (M : Addr → Prop) (h h' : Heap) : Prop := ∀ b o, ¬ M b → h.get? b = some o → h'.get? b = some o
theorem get_ne {h : Heap} {b : Addr} {o : Obj} (e : h.get? b = some o) : h.get? b ≠ none := by rw [e]; exact fun z => nomatch z
/-- something that is gone through: what it yields, told beforehand -/
structure It (w : World) (A : Around) {α : Type} (T : Ty α) (xs : List α) (tgt : Expr) (base : Array GenState) (it : Value) where
  St : Nat → (Addr → Prop) → (Addr → Prop) → Heap → Heap → Array GenState → Prop
  gx : ∀ {i fp wr f h g}, St i fp wr f h g → Gx base g
  live : ∀ {i fp wr f h g}, St i fp wr f h g → ∀ b, fp b → h.get? b ≠ none
  sub : ∀ {i fp wr f h g}, St i fp wr f h g → ∀ b, wr b → fp b
  keep : ∀ {i fp wr f h g f' h' g'}, St i fp wr f h g → (∀ b o, fp b → h.get? b = some o → h'.get? b = some o) → f.StaysIn f' → (∀ b, fp b → f.get? b = none → f'.get? b = none) → Gx g g' → St i fp wr f' h' g'
  self : ∀ {i fp wr f h g d tk os} {Q : Value → Shared → Prop}, St i fp wr f h g → Q it ⟨h, g, d, tk, os⟩ → wpAny (model PP w) A (pyIter it) Q NoE ⟨h, g, d, tk, os⟩
  next : ∀ {i fp wr f h g d tk os x} {Q : Value → Shared → Prop}, St i fp wr f h g → f.StaysIn h → xs[i]? = some x →
    (∀ v fp' wr' f' h' g' d' tk', Ext wr f h f' h' → (∀ b, fp' b → fp b ∨ h.get? b = none) → (∀ b, wr' b → wr b ∨ h.get? b = none) → St (i + 1) fp' wr' f' h' g' → T.is f' x v → Q v ⟨h', g', d', tk', os⟩) →
    wpAny (model PP w) A (pyNext it) (fun r s₁ => ∃ v, r = some v ∧ wpAny (model PP w) A (letOwnedTupleGo tgt it v) (fun _ => Q v) NoE s₁) NoE ⟨h, g, d, tk, os⟩
  stop : ∀ {fp wr f h g d tk os} {Q : Option Value → Shared → Prop}, St xs.length fp wr f h g → f.StaysIn h → (∀ f' h' g' d' tk', Ext wr f h f' h' → Gx base g' → Q none ⟨h', g', d', tk', os⟩) →
    wpAny (model PP w) A (pyNext it) Q NoE ⟨h, g, d, tk, os⟩
/-- an expression that is gone through -/
def Itr {α : Type} (w : World) (A : Around) (env : Env) (tgt e : Expr) (f h : Heap) (old : Addr → Prop) (T : Ty α) (xs : List α) : Prop :=
  ∀ f₁ h₁, Ext Nil f h f₁ h₁ → ∀ g d tk os (Q : Value → Shared → Prop),
    (∀ h' f' g' d' tk' it (I : It w A T xs tgt g it) fp wr, Ext Nil f₁ h₁ f' h' → I.St 0 fp wr f' h' g' → (∀ b, wr b → h₁.get? b = none) → (∀ b, fp b → old b ∨ h₁.get? b = none) → Q it ⟨h', g', d', tk', os⟩) →
    wpAny (model PP w) A (eval e env) (fun v s => wpAny (model PP w) A (pyIter v) Q NoE s) NoE ⟨h₁, g, d, tk, os⟩
theorem Ext.step {M : Addr → Prop} {f₀ h₀ f h f' h' : Heap} (x : Ext Nil f₀ h₀ f h) (y : Ext M f h f' h') (k : ∀ b, M b → h₀.get? b = none) : Ext Nil f₀ h₀ f' h' :=
  ⟨fun b o _ e => y.hk b o (fun m => get_ne e (k b m)) (x.hk b o (fun z => z) e), fun b o e => y.fk b o (x.fk b o e), y.fh, fun b _ e z => y.new b (fun m => e (k b m)) (x.live (fun z => z) e) (x.new b (fun z => z) e z)⟩
theorem Ext.heap {M : Addr → Prop} {f h h' : Heap} (k : f.StaysIn h) (x : Keep M h h') (n : ∀ b, M b → f.get? b = none) : Ext M f h f h' :=
  ⟨x, fun _ _ e => e, fun b o e => x b o (fun m => by rw [n b m] at e; cases e) (k b o e), fun _ _ _ e => e⟩

section
variable {w : World} {A : Around} {R : Result → Shared → Prop} {s : Shared}
abbrev testsOf (ifs : List Expr) (env : Env) : Sem Bool := forIn ifs true fun c r => if r = true then do let ok ← isTrue c env (eval c env); pure (ForInStep.yield ok) else pure (ForInStep.yield r)
def turnOf (ip : Pos) (target : Expr) (ifs : List Expr) (emit : Sem Unit) (c : Code) (it : Value) (env : Env) : Sem PySem.Fin := do
  standAt ip
  match ← pyNext it with
  | none => pure (.done .next)
  | some v =>
    letOwnedTupleGo target it v
    assign target env v
    let mut ok := true
    for c in ifs do
      if ok then ok ← isTrue c env (eval c env)
    if ok then emit
    again c
theorem tests_nil {env : Env} {f h : Heap} (k : f.StaysIn h) : Does w A (testsOf [] env) f h fun _ b => b = true := .pure k rfl
theorem tests_one {env : Env} {c : Expr} {f h : Heap} {b : Bool} (x : Ts w A env c f h b) (k : f.StaysIn h) : Does w A (testsOf [c] env) f h fun _ r => r = b := fun g d tk os Q hq => by
  simp only [List.forIn_cons, List.forIn_nil, if_true]
  exact wpAny_bind (wpAny_bind (x _ _ (.refl k) g d tk os _ fun h' f' g' d' tk' v e ge r => wpAny_pure (wpAny_pure (hq _ _ _ _ _ _ e ge r))))
theorem compTurns {e : Expr} {depth : Nat} {it acc : Value} {env : Env} {ip : Pos} {target : Expr} {ifs : List Expr} {emit : Sem Unit} (hf : (Code.compLoop e depth it acc env).isFrame = false) (hq : (Code.compLoop e depth it acc env).quiet = true) (hu : A.under (.compLoop e depth it acc env) = A)
    (he : compTurn e depth it acc env = turnOf ip target ifs emit (.compLoop e depth it acc env) it env) (I : Nat → Shared → Prop)
    (turn : ∀ n s, I n s → wpAny (model PP w) A (pyNext it) (fun r s₁ => match r with
      | none => R (.ok .next) s₁
      | some v => wpAny (model PP w) A (letOwnedTupleGo target it v) (fun _ s₂ => wpAny (model PP w) A (assign target env v) (fun _ s₃ => wpAny (model PP w) A (testsOf ifs env) (fun ok s₄ =>
          if ok = true then wpAny (model PP w) A emit (fun _ s₅ => ∃ m, m < n ∧ I m s₅) NoE s₄ else ∃ m, m < n ∧ I m s₄) NoE s₃) NoE s₂) NoE s₁) NoE s)
    (n : Nat) (h : I n s) : codeAny (model PP w) A (.compLoop e depth it acc env) R s := by
  refine codeAny_loop hq I (fun n s hI => ?_) n h
  have hd : (model PP w).den (.compLoop e depth it acc env) = (compTurn e depth it acc env).onRaise (fun x => do noteFrame x env; theTreesLotGoes x) := by
    show (if (Code.compLoop e depth it acc env).isFrame then _ else _) = _
    rw [hf]; rfl
  rw [hd]
  rw [hu]
  refine wpAny_noted ?_
  rw [he]
  unfold turnOf
  refine wpAny_bind (wpAny_standAt (wpAny_bind (wpAny_mono (turn n s hI) (fun r s₁ h₁ => ?_) fun _ _ h' => h'.elim)))
  cases r with
  | none => exact wpAny_pure h₁
  | some v =>
    refine wpAny_bind (wpAny_mono h₁ (fun _ s₂ h₂ => wpAny_bind (wpAny_mono h₂ (fun _ s₃ h₃ => wpAny_bind (wpAny_mono h₃ (fun ok s₄ h₄ => ?_) fun _ _ x => x.elim)) fun _ _ x => x.elim)) fun _ _ x => x.elim)
    cases ok with
    | false => exact wpAny_pure ⟨rfl, h₄⟩
    | true => exact wpAny_bind (wpAny_mono h₄ (fun _ s₅ h₅ => wpAny_pure ⟨rfl, h₅⟩) fun _ _ x => x.elim)
theorem compStarts {e : Expr} {depth : Nat} {it acc : Value} {env : Env} {g : Comprehension} (hf : (Code.compStart e depth it acc env).isFrame = false) (hu : A.under (.compStart e depth it acc env) = A) (hg : (clausesOf e)[depth]? = some g) (ha : g.is_async = 0)
    (hq : (Code.compLoop e depth it acc env).quiet = true) (hq' : ∀ it', (Code.compLoop e depth it' acc env).quiet = true)
    (h : wpAny (model PP w) A (pyIter it) (fun it' s' => it' = it ∧ s' = s) NoE s) (h0 : codeAny (model PP w) A (.compLoop e depth it acc env) R s) : codeAny (model PP w) A (.compStart e depth it acc env) R s := by
  refine codeAny_of_tree ?_
  have hd : (model PP w).den (.compStart e depth it acc env) = (compStart e depth it acc env).onRaise (fun x => do noteFrame x env; standAt theWindowsPlace) := by
    show (if (Code.compStart e depth it acc env).isFrame then _ else _) = _
    rw [hf]; rfl
  rw [hd, hu]
  refine wpAny_notedAt ?_
  unfold compStart
  rw [hg]
  simp only [Option.elim, ha, bne_self_eq_false, Bool.false_eq_true, if_false]
  refine wpAny_bind (wpAny_askSetting (wpAny_ite ?_))
  split
  · exact wpAny_pure ⟨hq, h0⟩
  · refine wpAny_bind (wpAny_rule (wpAny_bind (wpAny_standAt (wpAny_bind (wpAny_mono h (fun it' s' hh => ?_) fun _ _ x => x.elim)))))
    obtain ⟨rfl, rfl⟩ := hh
    exact wpAny_pure ⟨hq, h0⟩
end
end Mine
end
section
open PySem PySem.W PyProof.Rows PySem.Calls
set_option Elab.async false
set_option linter.unusedVariables false
namespace Mine
abbrev CD (C D : Addr) : Addr → Prop := fun b => b = C ∨ b = D
theorem Keep.ns {M : Addr → Prop} {h h' : Heap} {C : Addr} {m : Str → Option Value} (k : Keep M h h') (n : ¬ M C) (x : h.Ns C m) : h'.Ns C m := x.at' fun o e => k C o n e
theorem Ns.ne {h : Heap} {C : Addr} {m : Str → Option Value} (x : h.Ns C m) : h.get? C ≠ none := let ⟨_, _, _, e, _⟩ := x; get_ne e
/-- M more -/
theorem Ext.step' {M N : Addr → Prop} {f₀ h₀ f h f' h' : Heap} (x : Ext M f₀ h₀ f h) (y : Ext N f h f' h') (k : ∀ b, N b → M b ∨ h₀.get? b = none) : Ext M f₀ h₀ f' h' :=
  ⟨fun b o n e => y.hk b o (fun m => (k b m).elim n fun z => get_ne e z) (x.hk b o n e), fun b o e => y.fk b o (x.fk b o e), y.fh, fun b n e z => y.new b (fun m => (k b m).elim n fun z' => e z') (x.live n e) (x.new b n e z)⟩
def Emits (w : World) (A : Around) (C D : Addr) (emit : Sem Unit) (f h : Heap) (P : Heap → Heap → Prop) : Prop := ∀ g d tk os (Q : Unit → Shared → Prop),
  (∀ h' f' g' d' tk' m', Ext (CD C D) f h f' h' → Gx g g' → h'.Ns C m' → f'.get? C = none → f'.get? D = none → P f' h' → Q () ⟨h', g', d', tk', os⟩) → wpAny (model PP w) A emit Q NoE ⟨h, g, d, tk, os⟩
/-- what a target takes -/
structure Takes {α : Type} (w : World) (A : Around) (tgt : Expr) (env : Env) (T : Ty α) (B : Heap → α → (Str → Option Value) → Prop) : Prop where
  take : ∀ {f h m x v g d tk os} {Q : Unit → Shared → Prop}, T.is f x v → f.StaysIn h → h.Ns env.locals m →
    (∀ h' tk' m', h'.Ns env.locals m' → Keep (· = env.locals) h h' → B f x m' → Q () ⟨h', g, d, tk', os⟩) → wpAny (model PP w) A (assign tgt env v) Q NoE ⟨h, g, d, tk, os⟩
  mono : ∀ {f f' x m}, f.StaysIn f' → B f x m → B f' x m
theorem takes_name {α : Type} {w : World} {A : Around} {T : Ty α} {x : Str} {px : Pos} {env : Env} (hx : env.kindOf x = some .local) (hp : (env.scope.kind == .class || (env.scope.kind == .module && env.locals != env.globals)) = false) :
    Takes w A (.Name x px) env T fun f a m => ∃ v, m x = some v ∧ T.is f a v := by
  refine ⟨fun {f h m a v g d tk os Q} t k hn hq => ?_, fun k ⟨v, e, t⟩ => ⟨v, e, T.mono k t⟩⟩
  refine wpAny_assign_Name (wpAny_storeName_local (s := ⟨h, g, d, tk, os⟩) hx hn (fun h₁ hn₁ hs₁ => ?_) hp)
  exact hq _ _ _ hn₁ (fun b o n e => hs₁.extBut b o n e) ⟨v, by simp, t⟩
theorem takes_pair {α β : Type} {w : World} {A : Around} {T : Ty α} {U : Ty β} {a b : Str} {pa pb tp : Pos} {kk : Nat} {env : Env} (hh : A.handled = none) (hab : a ≠ b) (ha : env.kindOf a = some .local) (hb : env.kindOf b = some .local) (hp : (env.scope.kind == .class || (env.scope.kind == .module && env.locals != env.globals)) = false) :
    Takes w A (.Tuple [.Name a pa, .Name b pb] kk tp) env (.pair T U) fun f x m => (∃ v, m a = some v ∧ T.is f x.1 v) ∧ ∃ v, m b = some v ∧ U.is f x.2 v := by
  refine ⟨fun {f h m x v g d tk os Q} t k hn hq => ?_, fun k ⟨⟨v, e, t⟩, v', e', t'⟩ => ⟨⟨v, e, T.mono k t⟩, v', e', U.mono k t'⟩⟩
  obtain ⟨q, u, u', n, rfl, e, t1, t2⟩ := t
  refine kcp_assign (s := ⟨h, g, d, tk, os⟩) hh (T := q) (x := u) (y := u') ⟨_, k _ _ e, rfl, _, rfl⟩ ha hb hp hn fun h' tk' hn' hk' => ?_
  exact hq _ _ _ hn' (fun b o n e => hk' b o n e) ⟨⟨u, by simp [hab], t1⟩, u', by simp, t2⟩
section
variable {α : Type} {w : World} {A : Around} {T : Ty α} {xs : List α} {tgt : Expr} {base : Array GenState} {it acc : Value} {R : Result → Shared → Prop} {env : Env}
theorem compRun {e : Expr} {depth : Nat} {ip : Pos} {ifs : List Expr} {emit : Sem Unit} {f₀ h₀ f h : Heap} {g : Array GenState} {d : Drawn} {tk : Nat} {os : OsState} {m : Str → Option Value} {D : Addr} {fp wr : Addr → Prop}
    (I : It w A T xs tgt base it) (p : α → Bool) (P : Nat → Heap → Heap → Prop) (B : Heap → α → (Str → Option Value) → Prop)
    (hf : (Code.compLoop e depth it acc env).isFrame = false) (hq : (Code.compLoop e depth it acc env).quiet = true) (hu : A.under (.compLoop e depth it acc env) = A)
    (he : compTurn e depth it acc env = turnOf ip tgt ifs emit (.compLoop e depth it acc env) it env)
    (E0 : Ext (CD env.locals D) f₀ h₀ f h) (hst : I.St 0 fp wr f h g) (DC : D ≠ env.locals) (hwr : ∀ b, wr b → h₀.get? b = none) (hC : ¬ fp env.locals) (hD : ¬ fp D)
    (hn : h.Ns env.locals m) (fC : f.get? env.locals = none) (fD : f.get? D = none) (lD : h.get? D ≠ none) (hP : P 0 f h)
    (pk : ∀ i f h f' h', P i f h → (∀ o, h.get? D = some o → h'.get? D = some o) → f.StaysIn f' → P i f' h')
    (tk_ : Takes w A tgt env T B)
    (tests : ∀ (i : Nat) f h m x, xs[i]? = some x → Ext (CD env.locals D) f₀ h₀ f h → h.Ns env.locals m → B f x m → Does w A (testsOf ifs env) f h fun _ b => b = p x)
    (skip : ∀ (i : Nat) f h x, xs[i]? = some x → p x = false → P i f h → P (i + 1) f h)
    (emits : ∀ (i : Nat) f h m x, xs[i]? = some x → p x = true → Ext (CD env.locals D) f₀ h₀ f h → h.Ns env.locals m → B f x m → f.get? env.locals = none → f.get? D = none → h.get? D ≠ none → P i f h → Emits w A env.locals D emit f h (fun f' h' => h'.get? D ≠ none ∧ P (i + 1) f' h'))
    (done : ∀ h' f' g' d' tk' m', Ext (CD env.locals D) f₀ h₀ f' h' → Gx base g' → h'.Ns env.locals m' → f'.get? env.locals = none → f'.get? D = none → h'.get? D ≠ none → P xs.length f' h' → R (.ok .next) ⟨h', g', d', tk', os⟩) :
    codeAny (model PP w) A (.compLoop e depth it acc env) R ⟨h, g, d, tk, os⟩ := by
  let J : Nat → Shared → Prop := fun k s => ∃ h' f' g' d' tk' m' i fp wr, s = ⟨h', g', d', tk', os⟩ ∧ k = xs.length + 1 - i ∧ i ≤ xs.length ∧ Ext (CD env.locals D) f₀ h₀ f' h' ∧ I.St i fp wr f' h' g' ∧ (∀ b, wr b → h₀.get? b = none) ∧ ¬ fp env.locals ∧ ¬ fp D ∧ h'.Ns env.locals m' ∧ f'.get? env.locals = none ∧ f'.get? D = none ∧ h'.get? D ≠ none ∧ P i f' h'
  refine compTurns hf hq hu he J ?_ (xs.length + 1)
    ⟨h, f, g, d, tk, m, 0, fp, wr, rfl, rfl, Nat.zero_le _, E0, hst, hwr, hC, hD, hn, fC, fD, lD, hP⟩
  rintro k s ⟨h, f, g, d, tk, m, i, fp, wr, rfl, rfl, hi, E0, hst, hwr, hC, hD, hn, fC, fD, lD, hP⟩
  have wC : ¬ wr env.locals := fun z => hC (I.sub hst _ z)
  have wD : ¬ wr D := fun z => hD (I.sub hst _ z)
  by_cases hlt : i < xs.length
  · obtain ⟨x, hx⟩ : ∃ x, xs[i]? = some x := ⟨_, List.getElem?_eq_getElem hlt⟩
    refine wpAny_mono (E := NoE) (I.next (Q := fun v s₂ => wpAny (model PP w) A (assign tgt env v) (fun _ s₃ => wpAny (model PP w) A (testsOf ifs env) (fun ok s₄ => if ok = true then wpAny (model PP w) A emit (fun _ s₅ => ∃ m, m < xs.length + 1 - i ∧ J m s₅) NoE s₄ else ∃ m, m < xs.length + 1 - i ∧ J m s₄) NoE s₃) NoE s₂) hst E0.fh hx ?_) (fun r s₁ hr => ?_) (fun _ _ z => z)
    rotate_left
    · obtain ⟨v, rfl, hv⟩ := hr; exact hv
    intro v fp1 wr1 f1 h1 g1 d1 tk1 e1 hfp1 hwr1 st1 t1
    have E1 := E0.step' e1 fun b z => .inr (hwr b z)
    have n1 : h1.Ns env.locals m := Keep.ns e1.hk wC hn
    have C1 : f1.get? env.locals = none := e1.new _ wC (Ns.ne hn) fC
    have D1 : f1.get? D = none := e1.new _ wD lD fD
    have lD1 := e1.live wD lD
    have hC1 : ¬ fp1 env.locals := fun z => (hfp1 _ z).elim hC (Ns.ne hn)
    have hD1 : ¬ fp1 D := fun z => (hfp1 _ z).elim hD lD
    have hwr1' : ∀ b, wr1 b → h₀.get? b = none := fun b z => (hwr1 b z).elim (hwr b) fun q => by
      cases q' : h₀.get? b with
      | none => rfl
      | some o =>
        have : ¬ CD env.locals D b := by
          rintro (rfl | rfl)
          · exact Ns.ne hn q
          · exact lD q
        exact absurd q (get_ne (E0.hk b o this q'))
    have P1 : P i f1 h1 := pk _ _ _ _ _ hP (fun o e => e1.hk D o wD e) e1.fk
    refine tk_.take t1 e1.fh n1 fun h2 tk2 m2 n2 k2 b2 => ?_
    have e2 : Ext (· = env.locals) f1 h1 f1 h2 := .heap e1.fh k2 (fun b z => z ▸ C1)
    have E2 := E1.step' e2 fun b z => .inl (.inl z)
    have st2 : I.St (i + 1) fp1 wr1 f1 h2 g1 := I.keep st1 (fun b o z e => k2 b o (fun q => hC1 (q ▸ z)) e) (fun _ _ e => e) (fun _ _ e => e) (.refl _)
    have C2 : f1.get? env.locals = none := C1
    have lD2 : h2.get? D ≠ none := e2.live DC lD1
    refine tests i f1 h2 m2 x hx E2 n2 b2 g1 d1 tk2 os _ fun h3 f3 g3 d3 tk3 ok e3 ge3 r3 => ?_
    have E3 := E2.step' e3 fun b z => z.elim
    have n3 : h3.Ns env.locals m2 := Keep.ns e3.hk (fun z => z) n2
    have C3 : f3.get? env.locals = none := e3.new _ (fun z => z) (Ns.ne n2) C1
    have D3 : f3.get? D = none := e3.new _ (fun z => z) lD2 D1
    have lD3 := e3.live (fun z => z) lD2
    have P2 : P i f1 h2 := pk _ _ _ _ _ P1 (fun o e => k2 D o DC e) (fun _ _ e => e)
    have P3 : P i f3 h3 := pk _ _ _ _ _ P2 (fun o e => e3.hk D o (fun z => z) e) e3.fk
    have lv : ∀ b, fp1 b → h2.get? b ≠ none := fun b z => e2.live (fun q => hC1 (q ▸ z)) (I.live st1 b z)
    have st3 : I.St (i + 1) fp1 wr1 f3 h3 g3 := I.keep st2 (fun b o z e => e3.hk b o (fun z => z) e) e3.fk (fun b z q => e3.new b (fun z => z) (lv b z) q) ge3
    cases ok with
    | false =>
      rw [if_neg (by simp)]
      exact ⟨_, by omega, h3, f3, g3, d3, tk3, m2, i + 1, fp1, wr1, rfl, rfl, hlt, E3, st3, hwr1', hC1, hD1, n3, C3, D3, lD3, skip i f3 h3 x hx r3.symm P3⟩
    | true =>
      rw [if_pos rfl]
      refine emits i f3 h3 m2 x hx r3.symm E3 n3 (tk_.mono e3.fk b2) C3 D3 lD3 P3 g3 d3 tk3 os _ fun h4 f4 g4 d4 tk4 m4 e4 ge4 n4 C4 D4 r4 => ?_
      have E4 := E3.step' e4 fun b z => .inl z
      have nCD : ∀ b, fp1 b → ¬ CD env.locals D b := fun b z q => q.elim (fun q => hC1 (q ▸ z)) fun q => hD1 (q ▸ z)
      have st4 : I.St (i + 1) fp1 wr1 f4 h4 g4 := I.keep st3 (fun b o z e => e4.hk b o (nCD b z) e) e4.fk (fun b z q => e4.new b (nCD b z) (e3.live (fun z => z) (lv b z)) q) ge4
      exact ⟨_, by omega, h4, f4, g4, d4, tk4, m4, i + 1, fp1, wr1, rfl, rfl, hlt, E4, st4, hwr1', hC1, hD1, n4, C4, D4, r4.1, r4.2⟩
  · have hin : i = xs.length := by omega
    subst hin
    refine I.stop hst E0.fh fun f1 h1 g1 d1 tk1 e1 ge1 => ?_
    exact done h1 f1 g1 d1 tk1 m (E0.step' e1 fun b z => .inr (hwr b z)) ge1 (Keep.ns e1.hk wC hn) (e1.new _ wC (Ns.ne hn) fC) (e1.new _ wD lD fD) (e1.live wD lD) (pk _ _ _ _ _ hP (fun o e => e1.hk D o wD e) e1.fk)
end
end Mine
end
section
open PySem PySem.W PyProof.Rows PySem.Calls
set_option Elab.async false
set_option linter.unusedVariables false
namespace Mine
theorem turn_list {elt target iter : Expr} {ifs : List Expr} {scope : Scope} {pos : Pos} {it acc : Value} {env : Env} :
    compTurn (.ListComp elt [⟨target, iter, ifs, 0⟩] scope pos) 0 it acc env = turnOf iter.pos target ifs (do let _ ← call (.builtin "list.append") [acc, ← eval elt env]) (.compLoop (.ListComp elt [⟨target, iter, ifs, 0⟩] scope pos) 0 it acc env) it env := rfl
section
variable {α β : Type} {w : World} {A : Around} {env : Env} {f h : Heap} {T : Ty α} {U : Ty β}
/-- the list that grows -/
def Grow (U : Ty β) (D : Addr) (out : List β) (f h : Heap) : Prop := ∃ ys n, h.get? D = some (listOf ys n) ∧ Pw (U.is f) out ys.toList
theorem Grow.keep {D : Addr} {out : List β} {f h f' h' : Heap} (x : Grow U D out f h) (k : ∀ o, h.get? D = some o → h'.get? D = some o) (k' : f.StaysIn f') : Grow U D out f' h' := let ⟨ys, n, a, b⟩ := x; ⟨ys, n, k _ a, b.mono fun _ _ => U.mono k'⟩
theorem emits_elt {C D : Addr} {elt : Expr} {out : List β} {y : β} {m : Str → Option Value} (DC : D ≠ C) (hn : h.Ns C m) (fC : f.get? C = none) (fD : f.get? D = none) (hg : Grow U D out f h) (hz : out.length ≤ 1000)
    (x : Does w A (eval elt env) f h fun f' v => U.is f' y v) : Emits w A C D (do let _ ← call (.builtin "list.append") [.ref D, ← eval elt env]) f h fun f' h' => h'.get? D ≠ none ∧ Grow U D (out ++ [y]) f' h' := fun g d tk os Q hq => by
  refine wpAny_bind (x g d tk os _ fun h1 f1 g1 d1 tk1 v e1 ge1 t1 => wpAny_bind ?_)
  obtain ⟨ys, n, a, b⟩ := hg.keep (fun o e => e1.hk D o (fun z => z) e) e1.fk
  have hl := b.length
  have D1 := e1.new D (fun z => z) (let ⟨ys, n, a, b⟩ := hg; get_ne a) fD
  refine wpAny_list_append_plain (s := ⟨h1, g1, d1, tk1, os⟩) ⟨n, a⟩ (fun h2 ⟨n2, a2⟩ s2 => wpAny_pure ?_) (by rw [sizeLine_eq]; simp at hl; omega)
  have e2 : Ext (· = D) f1 h1 f1 h2 := .heap e1.fh (fun b o n e => s2.extBut b o n e) fun b z => z ▸ D1
  exact hq _ f1 _ _ _ m ((e1.up (M := CD C D)).trans (e2.mono fun b _ z => .inr z)) ge1 (Keep.ns e2.hk DC.symm (Keep.ns e1.hk (fun z => z) hn)) (e1.new C (fun z => z) (Ns.ne hn) fC) D1 ⟨get_ne a2, _, n2, a2, by simpa using b.append (.cons t1 .nil)⟩
theorem Ext.drop {M : Addr → Prop} {f₀ h₀ f h : Heap} (x : Ext M f₀ h₀ f h) (k : ∀ b, M b → h₀.get? b = none) : Ext Nil f₀ h₀ f h := x.mono fun b e m => e (k b m)
theorem Ext.freeze1 {f₀ h₀ f h : Heap} {D : Addr} {o : Obj} (x : Ext Nil f₀ h₀ f h) (e : h.get? D = some o) (n : h₀.get? D = none) : Ext Nil f₀ h₀ (addTo f h (· == D)) h ∧ (addTo f h (· == D)).get? D = some o ∧ f.StaysIn (addTo f h (· == D)) ∧ ∀ b, b ≠ D → (addTo f h (· == D)).get? b = f.get? b := by
  have key := fun b => addTo_get (P := (· == D)) x.fh b
  refine ⟨x.freeze (fun b o' q => ?_) (fun b o' q => ?_) (fun b q z => ?_), ?_, fun b o' q => ?_, fun b q => ?_⟩
  · rw [key]; split
    · exact x.fh b o' q
    · exact q
  · rw [key] at q; split at q
    · exact q
    · exact x.fh b o' q
  · rw [key]; split
    · rename_i hb; obtain rfl : b = D := by simpa using hb
      exact absurd n q
    · exact z
  · rw [key, if_pos (by simp)]; exact e
  · rw [key]; split
    · exact x.fh b o' q
    · exact q
  · rw [key, if_neg (by simpa using q)]
theorem cell_none {scope : Scope} {cl : List (Str × Addr)} {C : Addr} : True := trivial
/-- a comprehension's own frame -/
theorem comp_frame {s : Shared} {scope : Scope} {cl : List (Str × Addr)} {Q : Env → Shared → Prop} (hcell : ∀ x ∈ scope.names, x.2 ≠ .cell) (hkind : scope.kind = .function)
    (hq : ∀ h' tk, h'.Ns s.heap.objs.size (fun _ => none) → s.heap.StaysIn h' → Q (compEnvC scope cl s.heap.objs.size env) ⟨h', s.gens, s.drawn, tk, s.os⟩) :
    wpAny (model PP w) A (newFunctionEnv scope env.globals cl [] env.qual none .none (some env)) (fun cenv s₄ => Q { cenv with scope := relabel scope env } s₄) NoE s := by
  refine wpAny_newFunctionEnv hcell (by intro y hy; simp at hy) (fun h₁ hns₁ hsb₁ => ?_) hkind
  refine hq h₁ _ (by simpa using hns₁) fun b o e => ?_
  exact hsb₁.extBut b o (Nat.ne_of_lt (Heap.lt_size e)) (Heap.get?_push_of_some _ e)
theorem compCore {old : Addr → Prop} {elt tgt iter : Expr} {ifs : List Expr} {scope : Scope} {cl : List (Str × Addr)} {pos : Pos} {xs : List α} (p : α → Bool) (fn : α → β) (B : Heap → α → (Str → Option Value) → Prop)
    (hcell : ∀ x ∈ scope.names, x.2 ≠ .cell) (hkind : scope.kind = .function)
    (hi : Itr w A env tgt iter f h old T xs) (tk_ : ∀ C, Takes w A tgt (compEnvC scope cl C env) T B) (hz : xs.length ≤ 1000)
    (tests : ∀ C f' h' m x, x ∈ xs → Ext Nil f h f' h' → h'.Ns C m → B f' x m → Does w A (testsOf ifs (compEnvC scope cl C env)) f' h' fun _ b => b = p x)
    (helt : ∀ C f' h' m x, x ∈ xs → p x = true → Ext Nil f h f' h' → h'.Ns C m → B f' x m → Does w A (eval elt (compEnvC scope cl C env)) f' h' fun f'' v => U.is f'' (fn x) v)
    {g : Array GenState} {d : Drawn} {tk : Nat} {os : OsState} {f₁ h₁ : Heap} (k : Ext Nil f h f₁ h₁) {RR : Value → Addr → Result → Shared → Prop}
    (hRR : ∀ C D h' f' g' d' tk' m', Ext Nil f₁ h₁ f' h' → Gx g g' → h'.Ns C m' → f'.get? C = none → h₁.get? C = none → (Ty.list U).is f' ((xs.filter p).map fn) (.ref D) → RR (.ref D) C (.ok .next) ⟨h', g', d', tk', os⟩) :
    wpAny (model PP w) A (eval iter env) (fun x s₁ => wpAny (model PP w) A (pyIter x) (fun it s₂ => wpAny (model PP w) A (newList []) (fun acc s₃ => wpAny (model PP w) A (newFunctionEnv scope env.globals cl [] env.qual none .none (some env)) (fun cenv s₄ =>
      codeAny (model PP w) A (.compStart (.ListComp elt [⟨tgt, iter, ifs, 0⟩] scope pos) 0 it acc { cenv with scope := relabel scope env }) (RR acc cenv.locals) s₄) NoE s₃) NoE s₂) NoE s₁) NoE ⟨h₁, g, d, tk, os⟩ := by
  refine hi f₁ h₁ k g d tk os _ fun h2 f2 g2 d2 tk2 it I fp wr e2 st wrN fpN => ?_
  refine wpAny_newObj_type ?_ (by size_fits)
  have zD : h₁.get? h2.objs.size = none := by
    cases q : h₁.get? h2.objs.size with
    | none => rfl
    | some o => exact absurd (Heap.lt_size (e2.stays _ _ q)) (Nat.lt_irrefl _)
  generalize hH : h2.push { cls := .type "list", dict := none, data := .seq ([] : List Value).toArray } = H
  have hHs : H.objs.size = h2.objs.size + 1 := by rw [← hH, Heap.size_push]
  have up : h2.StaysIn H := fun b o e => hH ▸ Heap.get?_push_of_some _ e
  have gD : H.get? h2.objs.size = some (listOf #[] 0) := hH ▸ Heap.get?_push_size _ rfl
  have zC : h₁.get? H.objs.size = none := by
    cases q : h₁.get? H.objs.size with
    | none => rfl
    | some o => exact absurd (Heap.lt_size (up _ _ (e2.stays _ _ q))) (Nat.lt_irrefl _)
  refine comp_frame (Q := fun cenv s₄ => codeAny (model PP w) A (.compStart (.ListComp elt [⟨tgt, iter, ifs, 0⟩] scope pos) 0 it (.ref h2.objs.size) cenv) (RR (.ref h2.objs.size) cenv.locals) s₄) hcell hkind fun h3 tk3 n3 k3 => ?_
  dsimp only at n3 k3 ⊢
  generalize hC : H.objs.size = C at n3 zC
  generalize hD : h2.objs.size = D at gD zD
  have DC : D ≠ C := by rw [← hC, ← hD, hHs]; exact Nat.ne_of_lt (Nat.lt_succ_self _)
  have hD2 : h2.get? D = none := hD ▸ size_none h2
  have hC2 : h2.get? C = none := by
    cases q : h2.get? C with
    | none => rfl
    | some o => have := up _ _ q; rw [← hC, size_none] at this; cases this
  have C2 : f2.get? C = none := by
    cases q : f2.get? C with
    | none => rfl
    | some o => rw [e2.fh _ _ q] at hC2; cases hC2
  have D2 : f2.get? D = none := by
    cases q : f2.get? D with
    | none => rfl
    | some o => rw [e2.fh _ _ q] at hD2; cases hD2
  have gD3 := k3 _ _ gD
  have st3 : I.St 0 fp wr f2 h3 g2 := I.keep st (fun b o z e => k3 _ _ (up _ _ e)) (fun _ _ e => e) (fun _ _ e => e) (.refl _)
  have e3 : Ext Nil f₁ h₁ f2 h3 := e2.trans (.grown e2.fh fun b o e => k3 _ _ (up _ _ e))
  have loop : codeAny (model PP w) A (.compLoop (.ListComp elt [⟨tgt, iter, ifs, 0⟩] scope pos) 0 it (.ref D) (compEnvC scope cl C env)) (RR (.ref D) C) ⟨h3, g2, d2, tk3, os⟩ := by
    have cdn : ∀ b, CD C D b → h₁.get? b = none := fun b z => z.elim (fun q => q ▸ zC) fun q => q ▸ zD
    refine compRun (env := compEnvC scope cl C env) I p (fun i f' h' => Grow U D (((xs.take i).filter p).map fn) f' h') B rfl rfl rfl turn_list e3.up st3 DC wrN (fun z => I.live st _ z hC2) (fun z => I.live st _ z hD2) n3 C2 D2 (get_ne gD3)
      ⟨#[], 0, gD3, .nil⟩ (fun i f h f' h' x k k' => x.keep k k') (tk_ C) (fun i f' h' m x hx e n b => tests C f' h' m x (List.mem_of_getElem? hx) (k.trans (e.drop cdn)) n b) ?_ ?_ ?_
    · intro i f' h' x hx hp hP
      rw [take_succ_filter p xs i x hx, hp]
      simpa using hP
    · intro i f' h' m x hx hp e n b fC fD lD hP
      rw [take_succ_filter p xs i x hx, hp]
      simp only [if_true, List.map_append, List.map_cons, List.map_nil]
      refine emits_elt DC n fC fD hP ?_ (helt C f' h' m x (List.mem_of_getElem? hx) hp (k.trans (e.drop cdn)) n b)
      have e1 := List.length_filter_le p (xs.take i)
      have e2 := List.length_take_le i xs
      rw [List.length_map]; have e3 : (xs.take i).length ≤ xs.length := List.length_take_le' i xs
      omega
    · intro h' f' g' d' tk' m' e ge n fC fD lD hP
      obtain ⟨ys, nn, a, b⟩ := hP
      rw [List.take_length] at b
      obtain ⟨q1, q2, q3, q4⟩ := (e.drop cdn).freeze1 a zD
      exact hRR C D h' _ g' d' tk' m' q1 ge n ((q4 C DC.symm).trans fC) zC ⟨D, ys, nn, rfl, q2, b.mono fun _ _ => U.mono q3⟩
  subst hD hC
  exact compStarts rfl rfl rfl rfl rfl (fun _ => rfl) (I.self st3 ⟨rfl, rfl⟩) loop
theorem es_comp {old : Addr → Prop} {elt tgt iter : Expr} {ifs : List Expr} {scope : Scope} {cl : List (Str × Addr)} {pos : Pos} {xs : List α} (p : α → Bool) (fn : α → β) (B : Heap → α → (Str → Option Value) → Prop)
    (hclos : closureFor scope env = pure cl) (hi : Itr w A env tgt iter f h old T xs) (tk_ : ∀ C, Takes w A tgt (compEnvC scope cl C env) T B) (hz : xs.length ≤ 1000)
    (tests : ∀ C f' h' m x, x ∈ xs → Ext Nil f h f' h' → h'.Ns C m → B f' x m → Does w A (testsOf ifs (compEnvC scope cl C env)) f' h' fun _ b => b = p x)
    (helt : ∀ C f' h' m x, x ∈ xs → p x = true → Ext Nil f h f' h' → h'.Ns C m → B f' x m → Does w A (eval elt (compEnvC scope cl C env)) f' h' fun f'' v => U.is f'' (fn x) v)
    (hcell : ∀ x ∈ scope.names, x.2 ≠ .cell := by decide) (hkind : scope.kind = .function := by rfl) (hnames : ∀ x ∈ scope.names, x.2 = .local → scope.names.lookup x.1 = some .local := by decide)
    (hs : ∀ x, foldedSetIterable iter env x = pure x := by intro _; rfl) :
    Es w A env (.ListComp elt [⟨tgt, iter, ifs, 0⟩] scope pos) f h (.list U) ((xs.filter p).map fn) := fun f₁ h₁ k g d tk os Q hq => by
  rw [eval_ListComp]
  refine wpAny_comprehension_free (use := none) rfl hs hclos hkind hnames (compCore (RR := fun acc C => compPost (model PP w) A NoE none Q acc C) p fn B hcell hkind hi tk_ hz tests helt k ?_)
  intro C D h' f' g' d' tk' m' e ge n fC zC t
  exact ⟨m', n, fun h'' s'' => hq h'' f' g' d' tk' _ (e.step (Ext.heap (M := (· = C)) e.fh (fun b o n e => s''.extBut b o n e) (fun b z => z ▸ fC)) fun b z => z ▸ zC) ge t⟩
end
end Mine
end
section
open PySem PySem.W PyProof.Rows PySem.Calls
set_option Elab.async false
set_option linter.unusedVariables false
namespace Mine
section
variable {α β : Type} {w : World} {A : Around} {env : Env} {f h : Heap} {T : Ty α} {U : Ty β} {xs : List α} {base : Array GenState} {tgt e : Expr}
abbrev Only (I : Addr) : Addr → Prop := fun b => b = I
def itList (hh : A.handled = none) (T : Ty α) (xs : List α) (tgt : Expr) (base : Array GenState) (I l : Addr) (vs : Array Value) (n : Nat) : It w A T xs tgt base (.ref I) where
  St i fp wr f h g := Gx base g ∧ fp = Only I ∧ wr = Only I ∧ f.get? l = some (listOf vs n) ∧ Pw (T.is f) xs vs.toList ∧ h.IsListIter I l i ∧ f.get? I = none
  gx s := s.1
  live := by rintro i fp wr f h g ⟨_, rfl, _, _, _, ⟨o, ho, _⟩, _⟩ b rfl; exact get_ne ho
  sub := by rintro i fp wr f h g ⟨_, rfl, rfl, _⟩ b hb; exact hb
  keep := by
    rintro i fp wr f h g f' h' g' ⟨s0, rfl, rfl, s1, s2, s3, s4⟩ k kf kn kg
    exact ⟨s0.trans kg, rfl, rfl, kf _ _ s1, s2.mono fun _ _ => T.mono kf, s3.at fun o e => k _ o rfl e, kn _ rfl s4⟩
  self := fun s q => wpAny_pyIter_listiter s.2.2.2.2.2.1 q
  next := by
    rintro i fp wr f h g d tk os x Q ⟨s0, rfl, rfl, s1, s2, s3, s4⟩ k hx hq
    rcases s2.of_get i with ⟨q, _⟩ | ⟨x', v, q1, q2, q3⟩
    · rw [q] at hx; cases hx
    rw [q1] at hx; cases hx
    refine wpAny_pyNext_list_item (s := ⟨h, g, d, tk, os⟩) s3 (IsList.of (k _ _ s1)) (by simpa using q2) fun h₁ hit₁ hs => ?_
    refine ⟨v, rfl, ?_⟩
    obtain ⟨o, ho, hc, hd⟩ := id hit₁
    have e1 : Ext (Only I) f h f h₁ := .heap k (fun b o n e => hs.extBut b o n e) fun b z => z ▸ s4
    exact noGo (s := ⟨h₁, g, d, tk, os⟩) ho hc (by decide) (hq v _ _ f h₁ g d tk e1 (fun _ z => .inl z) (fun _ z => .inl z) ⟨s0, rfl, rfl, s1, s2, hit₁, s4⟩ q3)
  stop := by
    rintro fp wr f h g d tk os Q ⟨s0, rfl, rfl, s1, s2, s3, s4⟩ k hq
    have hl := s2.length
    refine wpAny_pyNext_list_end (s := ⟨h, g, d, tk, os⟩) hh s3 (IsList.of (k _ _ s1)) (by rw [hl]; simp) fun h₁ hx => ?_
    exact hq f h₁ g d tk (.heap k (fun b o n e => hx b o n e) fun b z => z ▸ s4) s0
def itTup (hh : A.handled = none) (T : Ty α) (xs : List α) (tgt : Expr) (base : Array GenState) (I l : Addr) (vs : Array Value) (n : Nat) : It w A T xs tgt base (.ref I) where
  St i fp wr f h g := Gx base g ∧ fp = Only I ∧ wr = Only I ∧ f.get? l = some (tupleOf vs n) ∧ Pw (T.is f) xs vs.toList ∧ h.IsTupleIter I l i ∧ f.get? I = none
  gx s := s.1
  live := by rintro i fp wr f h g ⟨_, rfl, _, _, _, ⟨o, ho, _⟩, _⟩ b rfl; exact get_ne ho
  sub := by rintro i fp wr f h g ⟨_, rfl, rfl, _⟩ b hb; exact hb
  keep := by
    rintro i fp wr f h g f' h' g' ⟨s0, rfl, rfl, s1, s2, s3, s4⟩ k kf kn kg
    exact ⟨s0.trans kg, rfl, rfl, kf _ _ s1, s2.mono fun _ _ => T.mono kf, s3.at fun o e => k _ o rfl e, kn _ rfl s4⟩
  self := fun s q => wpAny_pyIter_tupleiter s.2.2.2.2.2.1 q
  next := by
    rintro i fp wr f h g d tk os x Q ⟨s0, rfl, rfl, s1, s2, s3, s4⟩ k hx hq
    rcases s2.of_get i with ⟨q, _⟩ | ⟨x', v, q1, q2, q3⟩
    · rw [q] at hx; cases hx
    rw [q1] at hx; cases hx
    refine wpAny_pyNext_tuple_item (s := ⟨h, g, d, tk, os⟩) s3 (IsTup.of (k _ _ s1)) (by simpa using q2) fun h₁ hit₁ hs => ?_
    refine ⟨v, rfl, ?_⟩
    obtain ⟨o, ho, hc, hd⟩ := id hit₁
    have e1 : Ext (Only I) f h f h₁ := .heap k (fun b o n e => hs.extBut b o n e) fun b z => z ▸ s4
    exact noGo (s := ⟨h₁, g, d, tk, os⟩) ho hc (by decide) (hq v _ _ f h₁ g d tk e1 (fun _ z => .inl z) (fun _ z => .inl z) ⟨s0, rfl, rfl, s1, s2, hit₁, s4⟩ q3)
  stop := by
    rintro fp wr f h g d tk os Q ⟨s0, rfl, rfl, s1, s2, s3, s4⟩ k hq
    have hl := s2.length
    refine wpAny_pyNext_tuple_end (s := ⟨h, g, d, tk, os⟩) hh s3 (IsTup.of (k _ _ s1)) (by rw [hl]; simp) fun h₁ hx => ?_
    exact hq f h₁ g d tk (.heap k (fun b o n e => hx b o n e) fun b z => z ▸ s4) s0
theorem Ext.push {M : Addr → Prop} {o : Obj} (k : f.StaysIn h) : Ext M f h f (h.push o) := (Ext.grown k fun b o e => Heap.get?_push_of_some _ e).up
theorem fsize_none (k : f.StaysIn h) : f.get? h.objs.size = none := by
  cases q : f.get? h.objs.size with
  | none => rfl
  | some o => exact absurd (Heap.lt_size (k _ _ q)) (Nat.lt_irrefl _)
theorem fresh_up {h₁ h : Heap} (k : h₁.StaysIn h) : h₁.get? h.objs.size = none := by
  cases q : h₁.get? h.objs.size with
  | none => rfl
  | some o => exact absurd (Heap.lt_size (k _ _ q)) (Nat.lt_irrefl _)
theorem itr_list (hh : A.handled = none) (x : Es w A env e f h (.list T) xs) : Itr w A env tgt e f h Nil T xs := fun f₁ h₁ k g d tk os Q hq =>
  x _ _ k g d tk os _ fun h2 f2 g2 d2 tk2 v e2 ge2 t2 => by
    obtain ⟨l, vs, n, rfl, el, p⟩ := t2
    refine wpAny_pyIter_list (s := ⟨h2, g2, d2, tk2, os⟩) (IsList.of (e2.fh _ _ el)) ?_
    refine hq _ f2 g2 d2 tk2 _ (itList hh T xs tgt g h2.objs.size l vs n) (Only _) (Only _) (e2.trans (.push e2.fh)) ⟨ge2, rfl, rfl, el, p, ⟨_, Heap.get?_push_size _ rfl, rfl, rfl⟩, fsize_none e2.fh⟩ (fun b z => z ▸ fresh_up e2.stays) fun b z => .inr (z ▸ fresh_up e2.stays)
theorem itr_tup (hh : A.handled = none) (x : Es w A env e f h (.tup T) xs) : Itr w A env tgt e f h Nil T xs := fun f₁ h₁ k g d tk os Q hq =>
  x _ _ k g d tk os _ fun h2 f2 g2 d2 tk2 v e2 ge2 t2 => by
    obtain ⟨l, vs, n, rfl, el, p⟩ := t2
    refine wpAny_pyIter_tuple (s := ⟨h2, g2, d2, tk2, os⟩) (IsTup.of (e2.fh _ _ el)) ?_
    refine hq _ f2 g2 d2 tk2 _ (itTup hh T xs tgt g h2.objs.size l vs n) (Only _) (Only _) (e2.trans (.push e2.fh)) ⟨ge2, rfl, rfl, el, p, ⟨_, Heap.get?_push_size _ rfl, rfl, rfl⟩, fsize_none e2.fh⟩ (fun b z => z ▸ fresh_up e2.stays) fun b z => .inr (z ▸ fresh_up e2.stays)
/-- a, a + 1, .. -/
def natsFrom (a : Nat) (n : Nat) : List Nat := (List.range n).map (a + ·)
theorem natsFrom_length (a n : Nat) : (natsFrom a n).length = n := by simp [natsFrom]
theorem natsFrom_get {a n i x : Nat} (e : (natsFrom a n)[i]? = some x) : i < n ∧ x = a + i := by
  have hl := (List.getElem?_eq_some_iff.mp e).1
  rw [natsFrom_length] at hl
  simp [natsFrom, hl] at e
  exact ⟨hl, e.symm⟩
def itRange (hh : A.handled = none) (a n : Nat) (tgt : Expr) (base : Array GenState) (I : Addr) : It w A Ty.nat (natsFrom a n) tgt base (.ref I) where
  St i fp wr f h g := Gx base g ∧ fp = Only I ∧ wr = Only I ∧ IsRangeIter h I (a + i : Nat) ((n : Int) - i) 1 ∧ f.get? I = none
  gx s := s.1
  live := by rintro i fp wr f h g ⟨_, rfl, _, ho, _⟩ b rfl; exact get_ne ho
  sub := by rintro i fp wr f h g ⟨_, rfl, rfl, _⟩ b hb; exact hb
  keep := by
    rintro i fp wr f h g f' h' g' ⟨s0, rfl, rfl, s3, s4⟩ k kf kn kg
    exact ⟨s0.trans kg, rfl, rfl, k _ _ rfl s3, kn _ rfl s4⟩
  self := fun s q => wpAny_pyIter_rangeiter s.2.2.2.1 q
  next := by
    rintro i fp wr f h g d tk os x Q ⟨s0, rfl, rfl, s3, s4⟩ k hx hq
    obtain ⟨hi, rfl⟩ := natsFrom_get hx
    refine wpAny_pyNext_range_item (s := ⟨h, g, d, tk, os⟩) s3 (by omega) fun h₁ hit₁ hs => ?_
    refine ⟨_, rfl, ?_⟩
    have e1 : Ext (Only I) f h f h₁ := .heap k (fun b o n e => hs.extBut b o n e) fun b z => z ▸ s4
    refine noGo (s := ⟨h₁, g, d, tk + 1, os⟩) hit₁ rfl (by decide) (hq _ _ _ f h₁ g d _ e1 (fun _ z => .inl z) (fun _ z => .inl z) ⟨s0, rfl, rfl, ?_, s4⟩ ⟨_, rfl⟩)
    have q1 : ((a + (i + 1) : Nat) : Int) = ((a + i : Nat) : Int) + 1 := by omega
    have q2 : (n : Int) - ((i + 1 : Nat) : Int) = (n : Int) - (i : Int) - 1 := by omega
    rw [q1, q2]; exact hit₁
  stop := by
    rintro fp wr f h g d tk os Q ⟨s0, rfl, rfl, s3, s4⟩ k hq
    rw [natsFrom_length] at s3
    refine wpAny_pyNext_range_end (s := ⟨h, g, d, tk, os⟩) hh s3 (by omega) fun h₁ hx => ?_
    exact hq f h₁ g d tk (.heap k (fun b o n e => hx b o n e) fun b z => z ▸ s4) s0
/-- a range of small numbers -/
def Ty.range : Ty (Nat × Nat) := ⟨fun f x v => ∃ a t u z, v = .ref a ∧ IsRange f a x.1 x.2 1 t u z, fun k ⟨a, t, u, z, e, g⟩ => ⟨a, t, u, z, e, k _ _ g⟩⟩
theorem itr_range {a b : Nat} (hh : A.handled = none) (x : Es w A env e f h .range (a, b)) (hb : b ≤ 1000) (ha : a ≤ 1001) : Itr w A env tgt e f h Nil Ty.nat (natsFrom a (b - a)) := fun f₁ h₁ k g d tk os Q hq =>
  x _ _ k g d tk os _ fun h2 f2 g2 d2 tk2 v e2 ge2 t2 => by
    obtain ⟨r, t, u, z, rfl, el⟩ := t2
    have hsz : Builtin.Range.rangeSize (a : Int) (b : Int) 1 = ((b - a : Nat) : Int) := by rw [rangeSize_one]; split <;> omega
    have hsm : Builtin.Range.small (a : Int) (b : Int) 1 = true := by
      unfold Builtin.Range.small Builtin.Range.rangeFitsLong
      rw [hsz]
      simp only [Bool.and_eq_true, Bool.or_eq_true, decide_eq_true_eq]
      simp
      omega
    refine wpAny_pyIter_range (s := ⟨h2, g2, d2, tk2, os⟩) (e2.fh _ _ el) hsm ?_
    refine hq _ f2 g2 d2 tk2 _ (itRange hh a (b - a) tgt g h2.objs.size) (Only _) (Only _) (e2.trans (.push e2.fh)) ⟨ge2, rfl, rfl, ?_, fsize_none e2.fh⟩ (fun b z => z ▸ fresh_up e2.stays) fun b z => .inr (z ▸ fresh_up e2.stays)
    have := Heap.get?_push_size h2 (o := { cls := .type "range_iterator", data := .fields #[rawInt (a : Int), rawInt (Builtin.Range.rangeSize a b 1), rawInt 1] }) rfl
    rw [hsz] at this ⊢
    simpa [IsRangeIter] using this
theorem es_range1 {x : Str} {p pos : Pos} {b : Nat} {eb : Expr} (X : Var w env h x (.type "range")) (y : Es w A env eb f h .nat b) (he : starEach [eb] env = (false, eval eb env) :: starEach [] env := by rfl)
    (hpl : (backTo pos (starEach [eb] env)).any (·.1) = false := by rfl) (hn : [eb] = [] ∨ ∃ x r, backTo pos (starEach [eb] env) = (false, x) :: r := by first | exact .inl rfl | exact .inr ⟨_, _, rfl⟩) : Es w A env (.Call (.Name x p) [eb] [] pos) f h .range (0, b) :=
  es_call X Kp.type (args1 y he) (fun f' h' vs k ⟨v, e, t, e'⟩ g d tk os Q hq => by
    subst e e'
    exact call_range_1 (s := ⟨h', g, d, tk, os⟩) (push_new (R := fun f'' v => Ty.range.is f'' (0, b) v) k.fh rfl (fun f'' kk gt => ⟨_, _, _, _, rfl, gt⟩) hq)) hpl hn
theorem es_range2 {x : Str} {p pos : Pos} {a b : Nat} {ea eb : Expr} (X : Var w env h x (.type "range")) (z : Es w A env ea f h .nat a) (y : Es w A env eb f h .nat b) (he : starEach [ea, eb] env = (false, eval ea env) :: starEach [eb] env := by rfl) (he2 : starEach [eb] env = (false, eval eb env) :: starEach [] env := by rfl)
    (hpl : (backTo pos (starEach [ea, eb] env)).any (·.1) = false := by rfl) (hn : [ea, eb] = [] ∨ ∃ x r, backTo pos (starEach [ea, eb] env) = (false, x) :: r := by first | exact .inl rfl | exact .inr ⟨_, _, rfl⟩) : Es w A env (.Call (.Name x p) [ea, eb] [] pos) f h .range (a, b) :=
  es_call X Kp.type (args2 z y he he2) (fun f' h' vs k ⟨v, v2, e, ⟨t, e'⟩, t2, e2⟩ g d tk os Q hq => by
    subst e e' e2
    exact call_range_2 (s := ⟨h', g, d, tk, os⟩) (push_new (R := fun f'' v => Ty.range.is f'' (a, b) v) k.fh rfl (fun f'' kk gt => ⟨_, _, _, _, rfl, gt⟩) hq)) hpl hn
end
end Mine
end
section
open PySem PySem.W PyProof.Rows PySem.Calls
open AutoSeq1 (wpAny_loadPart')
set_option Elab.async false
set_option linter.unusedVariables false
namespace Mine
section
variable {prog : Program} {w : World} {A : Around} {E : Value → Shared → Prop} {s : Shared}
theorem nextOf_tuple {it t : Addr} {i : Nat} {items : Array Value} {Q : Value → Shared → Prop} (hh : A.handled = none) (hit : s.heap.IsTupleIter it t i) (ht : s.heap.IsTuple t items)
    (hQ : ∀ x h', items[i]? = some x → h'.IsTupleIter it t (i + 1) → Heap.SameBut it s.heap h' → Q x { s with heap := h' })
    (hE : items[i]? = none → ∀ h' e, Heap.ExtBut it s.heap h' → (∃ o, h'.get? e = some o ∧ o.cls = .type "StopIteration") → E (.ref e) { s with heap := h' }) :
    wpAny (model prog w) A (Builtin.SmallTypes.nextOf (.ref it)) Q E s := by
  obtain ⟨o, ho, hc, hd⟩ := id hit
  obtain ⟨ol, hol, _, nl, hdl⟩ := ht
  unfold Builtin.SmallTypes.nextOf
  refine wpAny_bind (wpAny_callSpecial?_slot (name := Str.ofString "__next__") hit.typeIs F.slot_tuple_iterator_next (wpAny_call_entry F.slot_tuple_iterator_next hit.typeIs F.entry_tuple_iterator_next ?_ (F.args_tuple_iterator_next_1 _)))
  show wpAny _ _ (field (.ref it) 0 >>= _) _ _ s
  refine wpAny_bind (wpAny_field ho hd (x := .ref t) rfl ?_)
  show wpAny _ _ (if (Value.ref t == Value.none) = true then _ else _) _ _ s
  rw [if_neg (show ¬ ((Value.ref t == Value.none) = true) from Bool.false_ne_true)]
  show wpAny _ _ (field (.ref it) 1 >>= _) _ _ s
  refine wpAny_bind (wpAny_field ho hd (x := .int i 0) rfl ?_)
  show wpAny _ _ (seqItems? (.ref t) >>= _) _ _ s
  refine wpAny_bind (wpAny_seqItems hol hdl ?_)
  cases hx : items[i]? with
  | some x =>
    simp only [Int.toNat_natCast, hx]
    refine wpAny_bind (wpAny_setField ho hd (by simp) (wpAny_pure ⟨x, rfl, wpAny_pure (hQ x _ hx ?_ (Heap.SameBut.update ..))⟩))
    exact ⟨_, Heap.get?_update_self _ ho (Obj.isFreed_of_fields (Obj.data_mapFields hd _)), (Obj.cls_mapFields ..).trans hc, by rw [Obj.data_mapFields hd]; simp [rawInt]⟩
  | none =>
    simp only [Int.toNat_natCast, hx]
    refine wpAny_bind (wpAny_rule (wpAny_bind (wpAny_setField ho hd (by simp) ?_)))
    show wpAny _ _ (newExc (.type "StopIteration") [] >>= _) _ _ _
    refine wpAny_bind ?_
    simp only [newExc, newTuple]
    refine wpAny_bind (wpAny_newObj_type ?_ (by size_fits))
    refine wpAny_bind (m := firstArgMember _ _) (wpAny_of_eq (a := Value.none) (by first | rfl | (simp only [firstArgMember]; rfl)) ?_)
    refine wpAny_newObj_type ?_ (by size_fits)
    simp only [raiseNew]
    refine wpAny_bind (wpAny_handled ?_)
    first | rw [show A.in1.handled = none from hh] | rw [hh]
    refine wpAny_bind (wpAny_pure (wpAny_throw ?_))
    exact hE hx _ _ (((Heap.SameBut.update ..).extBut.push _).push _) ⟨_, Heap.get?_push_size _ rfl, rfl⟩
theorem drawsTup (hh : A.handled = none) (it l : Addr) (hne : l ≠ it) (items : Array Value) :
    Draws prog w A it [it, l] items.size (fun i v => items[i]? = some v) (fun i h => h.IsTupleIter it l i ∧ h.IsTuple l items) where
  live := fun _ _ st => let ⟨o, ho, _⟩ := st.1; ⟨o, ho⟩
  frame := fun _ _ _ st hk => ⟨st.1.at fun o e => hk it (by simp) o e, st.2.at fun o e => hk l (by simp) o e⟩
  item := fun i s Q E hi st hQ => nextOf_tuple hh st.1 st.2 (fun x h' hx hit' hs' => hQ _ h' s.toks hx ⟨hit', st.2.extBut hs'.extBut hne⟩ hs') fun hx => absurd hx (by simp [hi])
  done := fun s Q E st hE => nextOf_tuple hh st.1 st.2 (fun x h' hx => by simp at hx) fun _ => hE
theorem enum_new_tup (l : Addr) (items : Array Value) (n : Nat) :
    Meets (Builtin.«enumerate.__new__» ⟨[.type "enumerate", .ref l], []⟩) (fun _ R s => s.heap.get? l = some (tupleOf items n) ∧
      R (.ok (.ret (.ref (s.heap.push { cls := .type "tuple_iterator", data := .fields #[.ref l, .int 0 0] }).objs.size)))
        { s with heap := (s.heap.push { cls := .type "tuple_iterator", data := .fields #[.ref l, .int 0 0] }).push { cls := .type "enumerate", data := .fields #[.none, .bool false, .ref s.heap.objs.size, rawInt 0, .none, .none] } }) :=
  .of_wp fun prog w A R s h => by
    obtain ⟨hp, g, d, tk, os⟩ := s; obtain ⟨hl, h⟩ := h
    have hsub := sub_enumerate
    have hL : Heap.IsTuple (Shared.heap ⟨hp, g, d, tk, os⟩) l items := ⟨_, hl, rfl, n, rfl⟩
    wp_walk using wpAny_loadPart' hl
    refine wpAny_stack_any fun st => wpAny_pure ?_
    split
    · rename_i c _ _ _ _ _
      cases (c == Value.type "enumerate")
      · wp_walk using wpAny_loadPart' hl, wpAny_pyIter_tuple hL
        exact ⟨_, rfl, h⟩
      · wp_walk using wpAny_loadPart' hl, wpAny_pyIter_tuple hL
        exact ⟨_, rfl, h⟩
    · wp_walk using wpAny_loadPart' hl, wpAny_pyIter_tuple hL
      exact ⟨_, rfl, h⟩
theorem call_enum_tup {l : Addr} {items : Array Value} {n : Nat} {Q : Value → Shared → Prop} (hL : s.heap.get? l = some (tupleOf items n))
    (h : ∀ h', IsEnum h' (s.heap.objs.size + 1) s.heap.objs.size 0 .none → h'.IsTupleIter s.heap.objs.size l 0 →
      (∀ b o, s.heap.get? b = some o → h'.get? b = some o) → Q (.ref (s.heap.objs.size + 1)) { s with heap := h' }) : wpAny (model prog w) A (call (.type "enumerate") [.ref l]) Q E s := by
  refine callType_new F.called_enumerate (by decide) (F.typeCall_enumerate_1 _) (F.newCall_enumerate_1 _) (fun obj => F.args_object_init_2 obj _) F.entry_enumerate_new (enum_new_tup l items n) ⟨hL, ?_⟩
  have hz : (s.heap.push { cls := .type "tuple_iterator", data := .fields #[.ref l, .int 0 0] }).objs.size = s.heap.objs.size + 1 := Heap.size_push ..
  show _ ∧ _
  rw [hz]
  have he : IsEnum ((s.heap.push { cls := .type "tuple_iterator", data := .fields #[.ref l, .int 0 0] }).push
      { cls := .type "enumerate", data := .fields #[.none, .bool false, .ref s.heap.objs.size, rawInt 0, .none, .none] }) (s.heap.objs.size + 1) s.heap.objs.size 0 .none := by
    have := Heap.get?_push_size (s.heap.push { cls := .type "tuple_iterator", data := .fields #[.ref l, .int 0 0] })
      (o := { cls := .type "enumerate", data := .fields #[.none, .bool false, .ref s.heap.objs.size, rawInt 0, .none, .none] }) rfl
    rw [hz] at this; exact this
  exact ⟨⟨_, he, rfl⟩, h _ he ⟨_, Heap.get?_push_of_some _ (Heap.get?_push_size _ rfl), rfl, rfl⟩ fun b o x => Heap.get?_push_of_some _ (Heap.get?_push_of_some _ x)⟩
end
section
variable {α β : Type} {w : World} {A : Around} {env : Env} {f h : Heap} {T : Ty α} {xs : List α} {base : Array GenState} {tgt e : Expr}
def enumL (xs : List α) : List (Nat × α) := (List.range xs.length).zip xs
theorem enumL_length (xs : List α) : (enumL xs).length = xs.length := by simp [enumL]
theorem enumL_get (xs : List α) (i : Nat) : (enumL xs)[i]? = (xs[i]?).map fun x => (i, x) := by
  unfold enumL
  by_cases hi : i < xs.length
  · simp [hi]
  · simp [hi]
def Two (a b : Addr) : Addr → Prop := fun x => x = a ∨ x = b
/-- enumerate, over what is frozen -/
def itEnum (T : Ty α) (xs : List α) (elts : List Expr) (k : Nat) (pos : Pos) (base : Array GenState) (ee it l : Addr) (lo : Obj) (vs : Array Value) {DSt : Nat → Heap → Prop} (hn : ee ≠ it) (hel : ee ≠ l)
    (D : Draws PP w A.in1 it [it, l] vs.size (fun i v => vs[i]? = some v) DSt) : It w A (Ty.pair Ty.nat T) (enumL xs) (.Tuple elts k pos) base (.ref ee) where
  St i fp wr f h g := Gx base g ∧ fp = Two ee it ∧ wr = Two ee it ∧ f.get? l = some lo ∧ Pw (T.is f) xs vs.toList ∧ (∃ old, IsEnum h ee it i old) ∧ (∃ o, h.get? it = some o ∧ ∀ h', h'.get? it = some o → f.StaysIn h' → DSt i h') ∧ f.get? ee = none ∧ f.get? it = none
  gx s := s.1
  live := by
    rintro i fp wr f h g ⟨_, rfl, _, _, _, ⟨old, he⟩, ⟨o, ho, _⟩, _⟩ b (rfl | rfl)
    · exact get_ne he
    · exact get_ne ho
  sub := by rintro i fp wr f h g ⟨_, rfl, rfl, _⟩ b hb; exact hb
  keep := by
    rintro i fp wr f h g f' h' g' ⟨s0, rfl, rfl, s1, s2, ⟨old, he⟩, ⟨o, ho, hD⟩, s4, s5⟩ k kf kn kg
    exact ⟨s0.trans kg, rfl, rfl, kf _ _ s1, s2.mono fun _ _ => T.mono kf, ⟨old, k _ _ (.inl rfl) he⟩, ⟨o, k _ _ (.inr rfl) ho, fun h'' e kk => hD h'' e fun b o q => kk b o (kf b o q)⟩, kn _ (.inl rfl) s4, kn _ (.inr rfl) s5⟩
  self := fun s q => let ⟨_, he⟩ := s.2.2.2.2.2.1; wpAny_pyIter_enum he q
  next := by
    rintro i fp wr f h g d tk os x Q ⟨s0, rfl, rfl, s1, s2, ⟨old, he⟩, ⟨o, ho, hD⟩, s4, s5⟩ kf hx hq
    rw [enumL_get] at hx
    rcases s2.of_get i with ⟨q, _⟩ | ⟨x', v, q1, q2, q3⟩
    · rw [q] at hx; cases hx
    rw [q1] at hx; simp only [Option.map_some, Option.some.injEq] at hx; subst hx
    have hlt : i < vs.size := by have := (List.getElem?_eq_some_iff.mp q2).1; simpa using this
    refine wpAny_pyNext_enum_itemD (s := ⟨h, g, d, tk, os⟩) D he (hD h ho kf) hlt hn (by simp [hn, hel]) fun y h₁ tk₁ hP ho₁ hs₁ hT hsz hk => ?_
    refine ⟨_, rfl, ?_⟩
    rw [show vs[i]? = some v by simpa using q2] at hP
    cases hP
    refine wpAny_letOwnedTupleGo_enum (s := ⟨h₁, g, d, tk₁ + 1, os⟩) ho₁ fun h₂ he₂ hs₂ => ?_
    have k2 : Keep (Two ee it) h h₂ := fun b o n e => hs₂.extBut b o (fun q => n (.inl q)) (hk b o (fun q => n (.inl q)) (fun q => n (.inr q)) e)
    have e1 : Ext (Two ee it) f h f h₂ := .heap kf k2 (fun b z => z.elim (fun q => q ▸ s4) fun q => q ▸ s5)
    have lt : ee < h.objs.size := Heap.lt_size he
    have hT2 : h₂.get? h.objs.size = some (tupleOf #[.int i tk₁, v] 0) := hs₂.extBut _ _ (Nat.ne_of_gt lt) hT
    have key := fun b => addTo_get (P := (· == h.objs.size)) e1.fh b
    have up : f.StaysIn (addTo f h₂ (· == h.objs.size)) := fun b o' q => by
      rw [key]; split
      · exact e1.fh b o' q
      · exact q
    have nn : ∀ b, b ≠ h.objs.size → (addTo f h₂ (· == h.objs.size)).get? b = f.get? b := fun b q => by rw [key, if_neg (by simpa using q)]
    have e2 : Ext (Two ee it) f h (addTo f h₂ (· == h.objs.size)) h₂ := e1.freeze up (fun b o' q => by
      rw [key] at q; split at q
      · exact q
      · exact e1.fh b o' q) fun b q z => by
      rw [nn b fun q' => q (q' ▸ size_none h)]; exact z
    have it2 : ∃ o, h₂.get? it = some o := let ⟨o, q⟩ := D.live _ _ hs₁; ⟨o, hs₂.extBut _ _ (fun q => hn q.symm) q⟩
    obtain ⟨o2, ho2⟩ := it2
    have lit : it < h.objs.size := Heap.lt_size ho
    refine hq _ _ _ _ h₂ g d _ e2 (fun _ z => .inl z) (fun _ z => .inl z) ⟨s0, rfl, rfl, up _ _ s1, s2.mono fun _ _ => T.mono up, ⟨_, by simpa using he₂⟩, ⟨o2, ho2, fun h3 q3' kk => ?_⟩, ?_, ?_⟩ ?_
    · have l1 : h₁.get? l = some lo := hk l lo (fun q => hel q.symm) (fun q => by rw [q, s5] at s1; cases s1) (kf _ _ s1)
      refine D.frame _ _ _ hs₁ fun b hb o' q => ?_
      rcases List.mem_cons.mp hb with rfl | hb
      · have := hs₂.extBut _ _ (fun q => hn q.symm) q
        rw [ho2] at this; cases this; exact q3'
      · rw [List.mem_singleton.mp hb] at q ⊢
        rw [l1] at q; cases q
        exact kk _ _ (up _ _ s1)
    · rw [nn _ (Nat.ne_of_lt lt)]; exact s4
    · rw [nn _ (Nat.ne_of_lt lit)]; exact s5
    · exact ⟨_, _, v, 0, rfl, by rw [key, if_pos (by simp)]; exact hT2, ⟨_, rfl⟩, T.mono up q3⟩
  stop := by
    rintro fp wr f h g d tk os Q ⟨s0, rfl, rfl, s1, s2, ⟨old, he⟩, ⟨o, ho, hD⟩, s4, s5⟩ kf hq
    have hl := s2.length
    rw [enumL_length, hl, Array.length_toList] at hD he
    refine wpAny_pyNext_enum_endD (s := ⟨h, g, d, tk, os⟩) D he (hD h ho kf) fun h₁ hx => ?_
    exact hq f h₁ g d tk (.heap kf (fun b o n e => hx b o (fun q => n (.inr q)) e) (fun b z => z.elim (fun q => q ▸ s4) fun q => q ▸ s5)) s0
theorem itr_enum_tup {x : Str} {p pos pos' : Pos} {elts : List Expr} {k' : Nat} (hh : A.handled = none) (X : Var w env h x (.type "enumerate")) (y : Es w A env e f h (.tup T) xs) (he : starEach [e] env = [(false, eval e env)] := by rfl) :
    Itr w A env (.Tuple elts k' pos') (.Call (.Name x p) [e] [] pos) f h Nil (.pair .nat T) (enumL xs) := fun f₁ h₁ k g d tk os Q hq => by
  refine Call_Name1 ?_ he
  refine (X p).keeps k.stays |>.here ?_
  refine PySem.callWith_type1 (y _ _ k g d tk os _ fun h2 f2 g2 d2 tk2 v e2 ge2 t2 => ?_)
  obtain ⟨l, vs, n, rfl, el, pw⟩ := t2
  refine call_enum_tup (s := ⟨h2, g2, d2, tk2, os⟩) (e2.fh _ _ el) fun h3 he3 hi3 k3 => ?_
  refine wpAny_pyIter_enum he3 ?_
  have ll : l < h2.objs.size := Heap.lt_size (e2.fh _ _ el)
  have f1 : f2.get? (h2.objs.size + 1) = none := by
    cases q : f2.get? (h2.objs.size + 1) with
    | none => rfl
    | some o => exact absurd (Heap.lt_size (e2.fh _ _ q)) (Nat.not_lt.mpr (Nat.le_succ _))
  have D := drawsTup (prog := PP) (w := w) (A := A.in1) hh h2.objs.size l (Nat.ne_of_lt ll) vs
  have g1 : h₁.get? (h2.objs.size + 1) = none := by
    cases q : h₁.get? (h2.objs.size + 1) with
    | none => rfl
    | some o => exact absurd (Heap.lt_size (e2.stays _ _ q)) (Nat.not_lt.mpr (Nat.le_succ _))
  have fr : ∀ b, Two (h2.objs.size + 1) h2.objs.size b → h₁.get? b = none := fun b z => z.elim (fun q => q ▸ g1) fun q => q ▸ fresh_up e2.stays
  refine hq h3 f2 g2 d2 tk2 _ (itEnum T xs elts k' pos' g (h2.objs.size + 1) h2.objs.size l (tupleOf vs n) vs (Nat.succ_ne_self _) (Nat.ne_of_gt (Nat.lt_succ_of_lt ll)) D) (Two _ _) (Two _ _)
    (e2.trans (.grown e2.fh k3)) ⟨ge2, rfl, rfl, el, pw, ⟨_, he3⟩, ?_, f1, fsize_none e2.fh⟩ fr fun b z => .inr (fr b z)
  obtain ⟨o, ho, hc, hd⟩ := hi3
  exact ⟨o, ho, fun h' q kk => ⟨⟨o, q, hc, hd⟩, IsTup.of (kk _ _ el)⟩⟩
theorem itr_enum_list {x : Str} {p pos pos' : Pos} {elts : List Expr} {k' : Nat} (hh : A.handled = none) (X : Var w env h x (.type "enumerate")) (y : Es w A env e f h (.list T) xs) (he : starEach [e] env = [(false, eval e env)] := by rfl) :
    Itr w A env (.Tuple elts k' pos') (.Call (.Name x p) [e] [] pos) f h Nil (.pair .nat T) (enumL xs) := fun f₁ h₁ k g d tk os Q hq => by
  refine Call_Name1 ?_ he
  refine (X p).keeps k.stays |>.here ?_
  refine PySem.callWith_type1 (y _ _ k g d tk os _ fun h2 f2 g2 d2 tk2 v e2 ge2 t2 => ?_)
  obtain ⟨l, vs, n, rfl, el, pw⟩ := t2
  refine call_enumerate_list (s := ⟨h2, g2, d2, tk2, os⟩) (IsList.of (e2.fh _ _ el)) fun h3 he3 hi3 _ k3 => ?_
  refine wpAny_pyIter_enum he3 ?_
  have ll : l < h2.objs.size := Heap.lt_size (e2.fh _ _ el)
  have f1 : f2.get? (h2.objs.size + 1) = none := by
    cases q : f2.get? (h2.objs.size + 1) with
    | none => rfl
    | some o => exact absurd (Heap.lt_size (e2.fh _ _ q)) (Nat.not_lt.mpr (Nat.le_succ _))
  have D := Draws.list (prog := PP) (w := w) (A := A.in1) hh h2.objs.size l (Nat.ne_of_lt ll) vs
  have g1 : h₁.get? (h2.objs.size + 1) = none := by
    cases q : h₁.get? (h2.objs.size + 1) with
    | none => rfl
    | some o => exact absurd (Heap.lt_size (e2.stays _ _ q)) (Nat.not_lt.mpr (Nat.le_succ _))
  have fr : ∀ b, Two (h2.objs.size + 1) h2.objs.size b → h₁.get? b = none := fun b z => z.elim (fun q => q ▸ g1) fun q => q ▸ fresh_up e2.stays
  refine hq h3 f2 g2 d2 tk2 _ (itEnum T xs elts k' pos' g (h2.objs.size + 1) h2.objs.size l (listOf vs n) vs (Nat.succ_ne_self _) (Nat.ne_of_gt (Nat.lt_succ_of_lt ll)) D) (Two _ _) (Two _ _)
    (e2.trans (.grown e2.fh k3)) ⟨ge2, rfl, rfl, el, pw, ⟨_, he3⟩, ?_, f1, fsize_none e2.fh⟩ fr fun b z => .inr (fr b z)
  obtain ⟨o, ho, hc, hd⟩ := hi3
  exact ⟨o, ho, fun h' q kk => ⟨⟨o, q, hc, hd⟩, IsList.of (kk _ _ el)⟩⟩
end
end Mine
end
section
open PySem PySem.W PyProof.Rows PySem.Calls
set_option Elab.async false
set_option linter.unusedVariables false
namespace Mine
abbrev Vars := Str → Option Value
def Vars.set (mm : Vars) (x : Str) (v : Value) : Vars := fun y => if y = x then some v else mm y
abbrev Own := List (Addr × Obj)
structure Frm (env : Env) : Prop where
  kind : env.scope.kind = .function
  cells : ∀ n c, env.cells.lookup n = some c → env.kindOf n = some .cell
  apart : ∀ n n' c, env.cells.lookup n = some c → env.cells.lookup n' = some c → n = n'
/-- a frame: what is read by its names, what it owns, and all else since (f₀, h₀) -/
structure FS (M₀ : Addr → Prop) (f₀ h₀ : Heap) (env : Env) (own : Own) (f h : Heap) (mm : Vars) : Prop where
  ext : Ext M₀ f₀ h₀ f h
  ns : ∃ m, h.Ns env.locals m ∧ ∀ x, env.kindOf x = some .local → m x = mm x
  Lf : f.get? env.locals = none
  L0 : h₀.get? env.locals = none ∨ M₀ env.locals
  cell : ∀ n c, env.cells.lookup n = some c → h.IsCell c (mm n) ∧ c ≠ env.locals ∧ f.get? c = none ∧ (h₀.get? c = none ∨ M₀ c)
  own : ∀ p ∈ own, h.get? p.1 = some p.2 ∧ p.1 ≠ env.locals ∧ f.get? p.1 = none ∧ (h₀.get? p.1 = none ∨ M₀ p.1) ∧ ∀ n, env.cells.lookup n ≠ some p.1
def mine (env : Env) (own : Own) : Addr → Prop := fun b => b = env.locals ∨ (∃ n, env.cells.lookup n = some b) ∨ ∃ o, (b, o) ∈ own
namespace FS
variable {w : World} {A : Around} {M₀ : Addr → Prop} {f₀ h₀ f h f' h' : Heap} {env : Env} {own : Own} {mm : Vars}
theorem live (F : FS M₀ f₀ h₀ env own f h mm) {b : Addr} (m : mine env own b) : h.get? b ≠ none := by
  rcases m with rfl | ⟨n, e⟩ | ⟨o, e⟩
  · obtain ⟨m, a, _⟩ := F.ns; exact Ns.ne a
  · obtain ⟨o, a, _⟩ := (F.cell n b e).1; exact get_ne a
  · exact get_ne (F.own _ e).1
theorem not_f (F : FS M₀ f₀ h₀ env own f h mm) {b : Addr} (m : mine env own b) : f.get? b = none := by
  rcases m with rfl | ⟨n, e⟩ | ⟨o, e⟩
  · exact F.Lf
  · exact (F.cell n b e).2.2.1
  · exact (F.own _ e).2.2.1
theorem since (F : FS M₀ f₀ h₀ env own f h mm) {b : Addr} (m : mine env own b) : h₀.get? b = none ∨ M₀ b := by
  rcases m with rfl | ⟨n, e⟩ | ⟨o, e⟩
  · exact F.L0
  · exact (F.cell n b e).2.2.2
  · exact (F.own _ e).2.2.2.1
/-- the rest grew, or was written elsewhere -/
theorem move {M : Addr → Prop} (F : FS M₀ f₀ h₀ env own f h mm) (e : Ext M f h f' h') (d : ∀ b, mine env own b → ¬ M b) (k : ∀ b, M b → M₀ b ∨ h₀.get? b = none) : FS M₀ f₀ h₀ env own f' h' mm := by
  have nf : ∀ b, mine env own b → f'.get? b = none := fun b m => e.new b (d b m) (F.live m) (F.not_f m)
  refine ⟨F.ext.step' e k, ?_, nf _ (.inl rfl), F.L0, fun n c q => ?_, fun p hp => ?_⟩
  · obtain ⟨m, a, b⟩ := F.ns
    exact ⟨m, a.at' fun o q => e.hk _ o (d _ (.inl rfl)) q, b⟩
  · obtain ⟨⟨o, a1, a2⟩, a3, a4, a5⟩ := F.cell n c q
    exact ⟨⟨o, e.hk _ o (d _ (.inr (.inl ⟨n, q⟩))) a1, a2⟩, a3, nf _ (.inr (.inl ⟨n, q⟩)), a5⟩
  · obtain ⟨a1, a2, a3, a4, a5⟩ := F.own p hp
    exact ⟨e.hk _ _ (d _ (.inr (.inr ⟨p.2, hp⟩))) a1, a2, nf _ (.inr (.inr ⟨p.2, hp⟩)), a4, a5⟩
theorem grow (F : FS M₀ f₀ h₀ env own f h mm) (e : Ext Nil f h f' h') : FS M₀ f₀ h₀ env own f' h' mm := F.move e (fun _ _ z => z) fun _ z => z.elim
/-- as a new base -/
theorem rebase (F : FS M₀ f₀ h₀ env own f h mm) : FS (mine env own) f h env own f h mm := by
  refine ⟨.refl F.ext.fh, F.ns, F.Lf, .inr (.inl rfl), fun n c q => ?_, fun p hp => ?_⟩
  · obtain ⟨a1, a2, a3, a4⟩ := F.cell n c q; exact ⟨a1, a2, a3, .inr (.inr (.inl ⟨n, q⟩))⟩
  · obtain ⟨a1, a2, a3, a4, a5⟩ := F.own p hp; exact ⟨a1, a2, a3, .inr (.inr (.inr ⟨p.2, hp⟩)), a5⟩
theorem since' (F : FS M₀ f₀ h₀ env own f h mm) {b : Addr} (m : h.get? b = none ∨ mine env own b) : h₀.get? b = none ∨ M₀ b := m.elim (fun z => by
    cases q : h₀.get? b with
    | none => exact .inl rfl
    | some o => exact .inr (Classical.byContradiction fun n => by rw [F.ext.hk b o n q] at z; cases z)) F.since
theorem join {own' : Own} {mm' : Vars} (F : FS M₀ f₀ h₀ env own f h mm) (G : FS (mine env own) f h env own' f' h' mm') : FS M₀ f₀ h₀ env own' f' h' mm' := by
  refine ⟨F.ext.step' G.ext fun b m => (F.since m).symm, G.ns, G.Lf, F.since' G.L0, fun n c q => ?_, fun p hp => ?_⟩
  · obtain ⟨a1, a2, a3, a4⟩ := G.cell n c q; exact ⟨a1, a2, a3, F.since' a4⟩
  · obtain ⟨a1, a2, a3, a4, a5⟩ := G.own p hp; exact ⟨a1, a2, a3, F.since' a4, a5⟩
theorem var {x : Str} {v : Value} (F : FS M₀ f₀ h₀ env own f h mm) (W : Frm env) (e : mm x = some v) (hk : env.kindOf x = some .local) (hd : (x == ("__debug__" : Str)) = false := by decide) : Var w env h x v := by
  obtain ⟨m, a, b⟩ := F.ns
  exact .local a ((b x hk).trans e) W.kind hk hd
theorem cvar {x : Str} {v : Value} {c : Addr} (F : FS M₀ f₀ h₀ env own f h mm) (W : Frm env) (e : mm x = some v) (hk : env.kindOf x = some .cell) (hc : env.cells.lookup x = some c) (hd : (x == ("__debug__" : Str)) = false := by decide) : Var w env h x v :=
  .cell (e ▸ (F.cell x c hc).1) hc W.kind hk hd
/-- a name is written -/
theorem store {x : Str} {v : Value} {g : Array GenState} {d : Drawn} {tk : Nat} {os : OsState} {Q : Unit → Shared → Prop} (F : FS M₀ f₀ h₀ env own f h mm) (W : Frm env) (hk : env.kindOf x = some .local ∨ (env.kindOf x = some .cell ∧ ∃ c, env.cells.lookup x = some c))
    (hq : ∀ h' tk', FS M₀ f₀ h₀ env own f h' (mm.set x v) → Q () ⟨h', g, d, tk', os⟩) : wpAny (model PP w) A (storeName env x v) Q NoE ⟨h, g, d, tk, os⟩ := by
  rcases hk with hk | ⟨hk, c, hc⟩
  · obtain ⟨m, a, b⟩ := F.ns
    refine wpAny_storeName_local (s := ⟨h, g, d, tk, os⟩) hk a (fun h₁ hn₁ hs₁ => hq h₁ _ ?_) (by rw [W.kind]; rfl)
    have e : Ext (Only env.locals) f h f h₁ := .heap F.ext.fh (fun b o n e => hs₁.extBut b o n e) fun b z => z ▸ F.Lf
    refine ⟨F.ext.step' e fun b z => z ▸ F.L0.symm, ⟨_, hn₁, fun y hy => ?_⟩, F.Lf, F.L0, fun n c q => ?_, fun p hp => ?_⟩
    · unfold Vars.set; split
      · rfl
      · exact b y hy
    · obtain ⟨⟨o, a1, a2⟩, a3, a4⟩ := F.cell n c q
      have : n ≠ x := fun z => by have := W.cells n c q; rw [z, hk] at this; cases this
      exact ⟨⟨o, e.hk _ _ a3 a1, by unfold Vars.set; rw [if_neg this]; exact a2⟩, a3, a4⟩
    · obtain ⟨a1, a2, a3⟩ := F.own p hp
      exact ⟨e.hk _ _ a2 a1, a2, a3⟩
  · obtain ⟨a1, a2, a3, a4⟩ := F.cell x c hc
    refine wpAny_storeName_cell (s := ⟨h, g, d, tk, os⟩) W.kind hk hc a1 fun h₁ hn₁ hs₁ => hq h₁ _ ?_
    have e : Ext (Only c) f h f h₁ := .heap F.ext.fh (fun b o n e => hs₁.extBut b o n e) fun b z => z ▸ a3
    refine ⟨F.ext.step' e fun b z => z ▸ a4.symm, ?_, F.Lf, F.L0, fun n c' q => ?_, fun p hp => ?_⟩
    · obtain ⟨m, a, b⟩ := F.ns
      refine ⟨m, a.at' fun o q => e.hk _ o (fun z => a2 z.symm) q, fun y hy => ?_⟩
      unfold Vars.set; split
      · rename_i z; subst z; rw [hk] at hy; cases hy
      · exact b y hy
    · obtain ⟨⟨o, b1, b2⟩, b3, b4⟩ := F.cell n c' q
      by_cases z : c' = c
      · subst z
        obtain rfl := W.apart _ _ _ q hc
        exact ⟨by simpa [Vars.set] using hn₁, b3, b4⟩
      · have : n ≠ x := fun z' => by rw [z', hc] at q; exact z (Option.some.inj q).symm
        exact ⟨⟨o, e.hk _ _ z b1, by unfold Vars.set; rw [if_neg this]; exact b2⟩, b3, b4⟩
    · obtain ⟨b1, b2, b3, b4, b5⟩ := F.own p hp
      exact ⟨e.hk _ _ (fun z => b5 x (by rw [z]; exact hc)) b1, b2, b3, b4, b5⟩
/-- something new is owned -/
theorem take {a : Addr} {o : Obj} (F : FS M₀ f₀ h₀ env own f h mm) (e : h.StaysIn h') (n : h.get? a = none) (g : h'.get? a = some o) : FS M₀ f₀ h₀ env ((a, o) :: own) f h' mm := by
  have G := F.grow (.grown F.ext.fh e)
  refine ⟨G.ext, G.ns, G.Lf, G.L0, G.cell, fun p hp => ?_⟩
  rcases List.mem_cons.mp hp with rfl | hp
  · refine ⟨g, fun z => F.live (.inl z) n, ?_, F.since' (.inl n), fun m q => F.live (.inr (.inl ⟨m, q⟩)) n⟩
    cases q : f.get? a with
    | none => rfl
    | some o => have := F.ext.fh _ _ q; rw [n] at this; cases this
  · exact G.own p hp
/-- something owned is written -/
theorem write {a : Addr} {o o' : Obj} {pre post : Own} (F : FS M₀ f₀ h₀ env (pre ++ (a, o) :: post) f h mm) (k : Keep (Only a) h h') (g : h'.get? a = some o') (d : ∀ p ∈ pre ++ post, p.1 ≠ a) : FS M₀ f₀ h₀ env (pre ++ (a, o') :: post) f h' mm := by
  have hm : (a, o) ∈ pre ++ (a, o) :: post := by simp
  obtain ⟨a1, a2, a3, a4, a5⟩ := F.own _ hm
  have e : Ext (Only a) f h f h' := .heap F.ext.fh k fun b z => z ▸ a3
  refine ⟨F.ext.step' e fun b z => z ▸ a4.symm, ?_, F.Lf, F.L0, fun n c q => ?_, fun p hp => ?_⟩
  · obtain ⟨m, x, y⟩ := F.ns
    exact ⟨m, x.at' fun o q => e.hk _ o (fun z => a2 z.symm) q, y⟩
  · obtain ⟨⟨o, b1, b2⟩, b3⟩ := F.cell n c q
    exact ⟨⟨o, e.hk _ _ (fun z => a5 n (by rw [← z]; exact q)) b1, b2⟩, b3⟩
  · rcases List.mem_append.mp hp with hp | hp
    · obtain ⟨b1, b2⟩ := F.own p (List.mem_append.mpr (.inl hp))
      exact ⟨e.hk _ _ (d p (List.mem_append.mpr (.inl hp))) b1, b2⟩
    · rcases List.mem_cons.mp hp with rfl | hp
      · exact ⟨g, a2, a3, a4, a5⟩
      · obtain ⟨b1, b2⟩ := F.own p (List.mem_append.mpr (.inr (.tail _ hp)))
        exact ⟨e.hk _ _ (d p (List.mem_append.mpr (.inr hp))) b1, b2⟩
/-- something owned is frozen -/
theorem freeze {a : Addr} {o : Obj} {pre post : Own} (F : FS M₀ f₀ h₀ env (pre ++ (a, o) :: post) f h mm) (d : ∀ p ∈ pre ++ post, p.1 ≠ a) (z : h₀.get? a = none ∨ M₀ a) :
    FS M₀ f₀ h₀ env (pre ++ post) (addTo f h (· == a)) h mm ∧ (addTo f h (· == a)).get? a = some o ∧ f.StaysIn (addTo f h (· == a)) := by
  have hm : (a, o) ∈ pre ++ (a, o) :: post := by simp
  obtain ⟨a1, a2, a3, a4, a5⟩ := F.own _ hm
  have key := fun b => addTo_get (P := (· == a)) F.ext.fh b
  have nn : ∀ b, b ≠ a → (addTo f h (· == a)).get? b = f.get? b := fun b q => by rw [key, if_neg (by simpa using q)]
  have up : f.StaysIn (addTo f h (· == a)) := fun b o' q => by
    rw [key]; split
    · exact F.ext.fh b o' q
    · exact q
  have dn : (addTo f h (· == a)).StaysIn h := fun b o' q => by
    rw [key] at q; split at q
    · exact q
    · exact F.ext.fh b o' q
  refine ⟨⟨⟨F.ext.hk, fun b o' q => up _ _ (F.ext.fk b o' q), dn, fun b n q q' => ?_⟩, F.ns, (nn _ (Ne.symm a2)).trans F.Lf, F.L0, fun n c q => ?_, fun p hp => ?_⟩, ?_, up⟩
  · have : b ≠ a := fun y => by subst y; exact z.elim q n
    rw [nn b this]; exact F.ext.new b n q q'
  · obtain ⟨b1, b2, b3, b4⟩ := F.cell n c q
    exact ⟨b1, b2, (nn _ fun y => a5 n (by rw [← y]; exact q)).trans b3, b4⟩
  · obtain ⟨b1, b2, b3, b4⟩ := F.own p (by rcases List.mem_append.mp hp with q | q <;> simp [q])
    exact ⟨b1, b2, (nn _ (d p hp)).trans b3, b4⟩
  · rw [key, if_pos (by simp)]; exact a1
end FS
end Mine
end
section
open PySem PySem.W PyProof.Rows PySem.Calls
set_option Elab.async false
set_option linter.unusedVariables false
namespace Mine
theorem It.next' {α : Type} {w : World} {A : Around} {T : Ty α} {xs : List α} {tgt : Expr} {base : Array GenState} {it : Value} (I : It w A T xs tgt base it) {i : Nat} {fp wr : Addr → Prop} {f h : Heap} {g : Array GenState} {d : Drawn} {tk : Nat} {os : OsState} {x : α} {Q : Value → Unit → Shared → Prop} {N : Shared → Prop} (st : I.St i fp wr f h g) (k : f.StaysIn h) (hx : xs[i]? = some x)
    (hq : ∀ v fp' wr' f' h' g' d' tk', Ext wr f h f' h' → (∀ b, fp' b → fp b ∨ h.get? b = none) → (∀ b, wr' b → wr b ∨ h.get? b = none) → I.St (i + 1) fp' wr' f' h' g' → T.is f' x v → Q v () ⟨h', g', d', tk', os⟩) :
    wpAny (model PP w) A (pyNext it) (fun r s₁ => match r with
      | none => N s₁
      | some v => wpAny (model PP w) A (letOwnedTupleGo tgt it v) (Q v) NoE s₁) NoE ⟨h, g, d, tk, os⟩ :=
  wpAny_mono (I.next (Q := fun v => Q v ()) st k hx hq) (fun r s₁ ⟨v, e, hv⟩ => by subst e; exact hv) fun _ _ z => z
abbrev Kind (env : Env) (x : Str) : Prop := env.kindOf x = some .local ∨ (env.kindOf x = some .cell ∧ ∃ c, env.cells.lookup x = some c)
structure TakesF {α : Type} (w : World) (A : Around) (tgt : Expr) (env : Env) (T : Ty α) (B : Heap → α → Vars → Vars → Prop) : Prop where
  take : ∀ {M₀ : Addr → Prop} {f₀ h₀ : Heap} {own : Own} {f h : Heap} {mm : Vars} {x : α} {v : Value} {g d tk os} {Q : Unit → Shared → Prop}, FS M₀ f₀ h₀ env own f h mm → T.is f x v →
    (∀ h' tk' mm', FS M₀ f₀ h₀ env own f h' mm' → B f x mm mm' → Q () ⟨h', g, d, tk', os⟩) → wpAny (model PP w) A (assign tgt env v) Q NoE ⟨h, g, d, tk, os⟩
section
variable {α β : Type} {w : World} {A : Around} {env : Env} {f h : Heap} {T : Ty α} {U : Ty β} {M₀ : Addr → Prop} {f₀ h₀ : Heap} {own : Own} {mm : Vars} {Q : Flow → Shared → Prop} {rest : List Stmt} {g : Array GenState} {d : Drawn} {tk : Nat} {os : OsState}
theorem takesF_name {x : Str} {px : Pos} (W : Frm env) (hk : Kind env x) : TakesF w A (.Name x px) env T fun f a mm mm' => ∃ v, T.is f a v ∧ mm' = mm.set x v :=
  ⟨fun F t hq => wpAny_assign_Name (F.store W hk fun h' tk' G => hq h' tk' _ G ⟨_, t, rfl⟩)⟩
theorem takesF_pair {a b : Str} {pa pb tp : Pos} {kk : Nat} (hh : A.handled = none) (W : Frm env) (ha : Kind env a) (hb : Kind env b) :
    TakesF w A (.Tuple [.Name a pa, .Name b pb] kk tp) env (.pair T U) fun f x mm mm' => ∃ u u', T.is f x.1 u ∧ U.is f x.2 u' ∧ mm' = (mm.set a u).set b u' := by
  refine ⟨fun {M₀ f₀ h₀ own f h mm x v g d tk os Q} F t hq => ?_⟩
  obtain ⟨q, u, u', n, rfl, e, t1, t2⟩ := t
  refine wpAny_assign_Tuple (s := ⟨h, g, d, tk, os⟩) hh (items := #[u, u']) ⟨_, F.ext.fh _ _ e, rfl, _, rfl⟩ rfl rfl fun h₁ he₁ => ?_
  have F1 := F.grow (.grown F.ext.fh fun b o z => he₁ b o (Nat.ne_of_lt (Heap.lt_size z)) z)
  show wpAny _ _ (assignInOrder [assign (.Name a pa) env, assign (.Name b pb) env] [u, u']) _ _ _
  refine assignInOrder_cons (wpAny_assign_Name (F1.store W ha fun h2 tk2 F2 => ?_))
  refine assignInOrder_cons (wpAny_assign_Name (F2.store W hb fun h3 tk3 F3 => ?_))
  exact wpAny_pure (hq _ _ _ F3 ⟨u, u', t1, t2, rfl⟩)
theorem st_assign {x : Str} {e : Expr} {p pos : Pos} {a : α} (W : Frm env) (F : FS M₀ f₀ h₀ env own f h mm) (hk : Kind env x) (he : Es w A env e f h T a)
    (k : ∀ f' h' g' d' tk' v, f.StaysIn f' → Gx g g' → T.is f' a v → FS M₀ f₀ h₀ env own f' h' (mm.set x v) → wpAny (model PP w) A (execs rest env) Q NoE ⟨h', g', d', tk', os⟩)
    (hs : swapsWith e (some (.Name x p)) pos.line env = pure false := by rfl) : wpAny (model PP w) A (execs (.Assign [.Name x p] e pos :: rest) env) Q NoE ⟨h, g, d, tk, os⟩ := by
  refine wpAny_execs_cons (wpAny_Assign_Name ?_ hs)
  refine he _ _ (.refl F.ext.fh) g d tk os _ fun h1 f1 g1 d1 tk1 v e1 ge1 t1 => ?_
  exact (F.grow e1).store W hk fun h2 tk2 F2 => k _ _ _ _ _ v e1.fk ge1 t1 F2
theorem st_ret {e : Expr} {pos : Pos} {a : α} (F : FS M₀ f₀ h₀ env own f h mm) (he : Es w A env e f h T a)
    (k : ∀ f' h' g' d' tk' v, f.StaysIn f' → Gx g g' → T.is f' a v → FS M₀ f₀ h₀ env own f' h' mm → Q (.ret v) ⟨h', g', d', tk', os⟩) : wpAny (model PP w) A (execs (.Return (some e) pos :: rest) env) Q NoE ⟨h, g, d, tk, os⟩ :=
  wpAny_execs_cons (wpAny_Return_some (he _ _ (.refl F.ext.fh) g d tk os _ fun h1 f1 g1 d1 tk1 v e1 ge1 t1 => k _ _ _ _ _ v e1.fk ge1 t1 (F.grow e1)))
theorem st_if {t : Expr} {body orelse : List Stmt} {pos : Pos} {b : Bool} (F : FS M₀ f₀ h₀ env own f h mm) (ht : Ts w A env t f h b)
    (k : ∀ f' h' g' d' tk', f.StaysIn f' → Gx g g' → FS M₀ f₀ h₀ env own f' h' mm → wpAny (model PP w) A (execs (if b then body else orelse) env) (fun fl s' => match fl with | .next => wpAny (model PP w) A (execs rest env) Q NoE s' | f => Q f s') NoE ⟨h', g', d', tk', os⟩) :
    wpAny (model PP w) A (execs (.If t body orelse pos :: rest) env) Q NoE ⟨h, g, d, tk, os⟩ := by
  refine wpAny_execs_cons (wpAny_If (ht _ _ (.refl F.ext.fh) g d tk os _ fun h1 f1 g1 d1 tk1 v e1 ge1 t1 => ?_))
  have := k f1 h1 g1 d1 tk1 e1.fk ge1 (F.grow e1)
  subst t1
  cases v with
  | true => exact this
  | false => exact this
/-- how a turn of a loop may end -/
def TurnEnd (M₀ : Addr → Prop) (f₀ h₀ : Heap) (env : Env) (g : Array GenState) (os : OsState) (J Z : Heap → Vars → Own → Prop) (fl : Flow) (s : Shared) : Prop :=
  ∃ f' h' g' d' tk' mm' own', s = ⟨h', g', d', tk', os⟩ ∧ Gx g g' ∧ FS M₀ f₀ h₀ env own' f' h' mm' ∧ (match fl with | .next | .cont => J f' mm' own' | .brk => Z f' mm' own' | .ret _ => False)
theorem st_for {tgt iter : Expr} {body : List Stmt} {pos : Pos} {xs : List α} {old : Addr → Prop} {B : Heap → α → Vars → Vars → Prop} (F : FS M₀ f₀ h₀ env own f h mm)
    (hi : Itr w A env tgt iter f h old T xs) (ho : ∀ b, old b → ¬ mine env own b) (J : Nat → Heap → Vars → Own → Prop) (Z : Heap → Vars → Own → Prop)
    (jm : ∀ i f f' mm own, f.StaysIn f' → J i f mm own → J i f' mm own) (tk_ : TakesF w A tgt env T B) (h0 : J 0 f mm own)
    (turn : ∀ (i : Nat) x f h g d tk mm mm' own, xs[i]? = some x → J i f mm own → B f x mm mm' → FS (mine env own) f h env own f h mm' →
      wpAny (model PP w) A (execs body env) (TurnEnd (mine env own) f h env g os (J (i + 1)) Z) NoE ⟨h, g, d, tk, os⟩)
    (jz : ∀ f mm own, J xs.length f mm own → Z f mm own)
    (k : ∀ f' h' g' d' tk' mm' own', Gx g g' → FS M₀ f₀ h₀ env own' f' h' mm' → Z f' mm' own' → wpAny (model PP w) A (execs rest env) Q NoE ⟨h', g', d', tk', os⟩)
    (hs : ∀ x, foldedSetIterable iter env x = pure x := by intro _; rfl) :
    wpAny (model PP w) A (execs (.For tgt iter body [] pos :: rest) env) Q NoE ⟨h, g, d, tk, os⟩ := by
  refine wpAny_execs_cons (wpAny_For ?_ hs)
  refine hi _ _ (.refl F.ext.fh) g d tk os _ fun h1 f1 g1 d1 tk1 it I fp wr e1 st wrN fpN => ?_
  have F1 := F.grow e1
  have J1 := jm _ _ _ _ _ e1.fk h0
  have nfp : ∀ b, mine env own b → ¬ fp b := fun b m z => (fpN b z).elim (fun q => ho b q m) (F.live m)
  have wrF : ∀ b, wr b → M₀ b ∨ h₀.get? b = none := fun b z => by
    have := wrN b z
    exact (F.since' (.inl this)).symm
  refine forTurns (fun k s => ∃ f' h' g' d' tk' mm' own' i fp wr, s = ⟨h', g', d', tk', os⟩ ∧ k = xs.length + 1 - i ∧ i ≤ xs.length ∧ FS M₀ f₀ h₀ env own' f' h' mm' ∧ J i f' mm' own' ∧ I.St i fp wr f' h' g' ∧ (∀ b, mine env own' b → ¬ fp b) ∧ (∀ b, wr b → M₀ b ∨ h₀.get? b = none)) ?_ (xs.length + 1)
    ⟨f1, h1, g1, d1, tk1, mm, own, 0, fp, wr, rfl, rfl, Nat.zero_le _, F1, J1, st, nfp, wrF⟩
  clear J1 F1 nfp wrF wrN fpN st e1 h0 F ho
  rintro n s ⟨f, h, g', d, tk, mm, own, i, fp, wr, rfl, rfl, hi, F, hJ, st, nfp, wrF⟩
  have nwr : ∀ b, mine env own b → ¬ wr b := fun b m z => nfp b m (I.sub st b z)
  by_cases hlt : i < xs.length
  · obtain ⟨x, hx⟩ : ∃ x, xs[i]? = some x := ⟨_, List.getElem?_eq_getElem hlt⟩
    refine I.next' st F.ext.fh hx ?_
    intro v fp1 wr1 f1 h1 g1 d1 tk1 e1 hfp1 hwr1 st1 t1
    have F1 := F.move e1 nwr wrF
    have nfp1 : ∀ b, mine env own b → ¬ fp1 b := fun b m z => (hfp1 b z).elim (nfp b m) (F.live m)
    have wrF1 : ∀ b, wr1 b → M₀ b ∨ h₀.get? b = none := fun b z => (hwr1 b z).elim (wrF b) fun q => (F.since' (.inl q)).symm
    refine tk_.take F1.rebase t1 fun h2 tk2 mm2 F2 b2 => ?_
    have lv : ∀ b, fp1 b → h1.get? b ≠ none := I.live st1
    have F2' := F1.join F2
    refine wpAny_mono (turn i x f1 h2 g1 d1 tk2 mm mm2 own hx (jm _ _ _ _ _ e1.fk hJ) b2 F2'.rebase) (fun fl s3 r => ?_) fun _ _ z => z
    obtain ⟨f3, h3, g3, d3, tk3, mm3, own3, rfl, ge3, F3, r⟩ := r
    have F3' := F2'.join F3
    have st2 : I.St (i + 1) fp1 wr1 f1 h2 g1 := I.keep st1 (fun b o z e => F2.ext.hk b o (fun m => nfp1 b m z) e) (fun _ _ e => e) (fun _ _ e => e) (.refl _)
    have st3 : I.St (i + 1) fp1 wr1 f3 h3 g3 := I.keep st2 (fun b o z e => F3.ext.hk b o (fun m => nfp1 b m z) e) F3.ext.fk (fun b z q => F3.ext.new b (fun m => nfp1 b m z) (F2.ext.live (fun m => nfp1 b m z) (lv b z)) q) ge3
    have nfp3 : ∀ b, mine env own3 b → ¬ fp1 b := fun b m z => (F3.since m).elim (fun q => F2.ext.live (fun m => nfp1 b m z) (lv b z) q) fun q => nfp1 b q z
    have gx3 : Gx g g3 := by
      have := I.gx st3
      exact this
    cases fl with
    | next => exact ⟨_, by omega, f3, h3, g3, d3, tk3, mm3, own3, i + 1, fp1, wr1, rfl, rfl, hlt, F3', r, st3, nfp3, wrF1⟩
    | cont => exact ⟨_, by omega, f3, h3, g3, d3, tk3, mm3, own3, i + 1, fp1, wr1, rfl, rfl, hlt, F3', r, st3, nfp3, wrF1⟩
    | brk => exact k _ _ _ _ _ _ _ gx3 F3' r
    | ret v => exact r.elim
  · have hin : i = xs.length := by omega
    subst hin
    refine I.stop st F.ext.fh fun f1 h1 g1 d1 tk1 e1 ge1 => ?_
    exact k _ _ _ _ _ _ _ ge1 (F.move e1 nwr wrF) (jz _ _ _ (jm _ _ _ _ _ e1.fk hJ))
end
end Mine
end
section
open PySem PySem.W PyProof.Rows PySem.Calls
set_option Elab.async false
set_option linter.unusedVariables false
namespace Mine
theorem bindL_eq (kd : Str → Option NameKind) : ∀ (binds : List (Str × Value)) (m : Str → Option Value) (x : Str), kd x = some .local → bindL kd binds m x = (binds.reverse.lookup x).or (m x)
  | [], m, x, _ => rfl
  | (n, v) :: r, m, x, hx => by
    show bindL kd r _ x = _
    rw [bindL_eq kd r _ x hx, List.reverse_cons, List.lookup_append]
    cases r.reverse.lookup x with
    | some y => rfl
    | none =>
      simp only [Option.none_or, List.lookup]
      by_cases q : x = n
      · subst q; simp [hx]
      · have : (x == n) = false := by simpa using q
        rw [this]; split <;> simp [q]
theorem bindC_eq (kd : Str → Option NameKind) : ∀ (binds : List (Str × Value)) (m : Str → Option Value) (x : Str), kd x = some .cell → bindC kd binds m x = (binds.reverse.lookup x).or (m x)
  | [], m, x, _ => rfl
  | (n, v) :: r, m, x, hx => by
    show bindC kd r _ x = _
    rw [bindC_eq kd r _ x hx, List.reverse_cons, List.lookup_append]
    cases r.reverse.lookup x with
    | some y => rfl
    | none =>
      simp only [Option.none_or, List.lookup]
      by_cases q : x = n
      · subst q; simp [hx]
      · have : (x == n) = false := by simpa using q
        rw [this]; split <;> simp [q]
theorem lookup_mem {α : Type} : ∀ {l : List (Str × α)} {n : Str} {c : α}, l.lookup n = some c → (n, c) ∈ l
  | [], _, _, h => by cases h
  | (a, b) :: l, n, c, h => by
    rw [List.lookup_cons] at h
    by_cases q : n = a
    · subst q; simp at h; subst h; exact .head _
    · have : (n == a) = false := by simpa using q
      rw [this] at h; exact .tail _ (lookup_mem h)
theorem apart_eq : ∀ {l : List (Str × Addr)}, l.Pairwise (fun x y => x.2 ≠ y.2) → ∀ {n n' : Str} {c : Addr}, (n, c) ∈ l → (n', c) ∈ l → n = n'
  | [], _, _, _, _, h, _ => nomatch h
  | x :: l, hp, n, n', c, h, h' => by
    obtain ⟨a, b⟩ := List.pairwise_cons.mp hp
    rcases List.mem_cons.mp h with e | h1
    · rcases List.mem_cons.mp h' with e' | h1'
      · rw [← e] at e'; exact (congrArg Prod.fst e').symm
      · exact absurd (by rw [← e]) (a _ h1')
    · rcases List.mem_cons.mp h' with e' | h1'
      · exact absurd (by rw [← e']) (a _ h1)
      · exact apart_eq b h1 h1'
section
variable {w : World} {A : Around} {f h : Heap} {R : Heap → Value → Prop}
  {name qual : Str} {params : Arguments} {body : List Stmt} {scope : Scope} {dV kV doc pm cdv ct oc : Value} {an od : Option Addr} {osl : Array (Option Value)} {a : Addr} {args : PySem.Args} {binds : List (Str × Value)}
/-- how a call may end -/
def RetEnd (f h : Heap) (g : Array GenState) (os : OsState) (R : Heap → Value → Prop) (fl : Flow) (s : Shared) : Prop :=
  ∃ f' h' g' d' tk', s = ⟨h', g', d', tk', os⟩ ∧ Ext Nil f h f' h' ∧ Gx g g' ∧ R f' (match fl with | .ret v => v | _ => .none)
theorem RetEnd.of {env : Env} {own : Own} {f' h' : Heap} {mm : Vars} {g g' : Array GenState} {d' : Drawn} {tk' : Nat} {os : OsState} {v : Value} (F : FS Nil f h env own f' h' mm) (ge : Gx g g') (r : R f' v) : RetEnd f h g os R (.ret v) ⟨h', g', d', tk', os⟩ := ⟨f', h', g', d', tk', rfl, F.ext, ge, r⟩
theorem call_fs {s : Shared} {RR : Result → Shared → Prop} (K : Ok w f) (kf : f.StaysIn s.heap) (ho : (hd.heap_39 w.params).lookup a = some ⟨oc, od, .func (fnOf name qual params body scope dV kV doc pm an cdv ct), osl⟩) (hcd : codeIn (hd.heap_39 w.params) cdv qual = true) (hroom : A.depth < recursionLimit)
    (hbind : BindsTo s (fnOf name qual params body scope dV kV doc pm an cdv ct) args binds) (hkind : (binds.all fun y => scope.names.lookup y.1 == some .local || scope.names.lookup y.1 == some .cell) = true)
    (hcl : ((cellsFrom 0 scope.names []).map (·.1)).all (fun n => scope.names.lookup n == some .cell) = true) (hnd : ((cellsFrom 0 scope.names []).map (·.1)).Nodup)
    (body_ : ∀ L h₁ tk, Frm (envOfC qual scope L a cdv) → FS Nil f s.heap (envOfC qual scope L a cdv) [] f h₁ (fun y => binds.reverse.lookup y) →
      wpAny (model PP w) (A.deeper (envOfC qual scope L a cdv)) (execs body (envOfC qual scope L a cdv)) (fun fl s' => RR (.ok (.ret (match fl with | .ret v => v | _ => .none))) s') NoE ⟨h₁, s.gens, s.drawn, tk, s.os⟩)
    (hco : scope.isCoroutine = false) (hgen : scope.isGenerator = false) (hk : scope.kind = .function) : codeAny (model PP w) A (.call (.ref a) args) RR s := by
  obtain ⟨p, loose, mg, mb, T⟩ := K.T
  refine codeAny_call_function (fd := fnX name qual params body scope [] dV kV doc pm an cdv ct) hroom (kf _ _ (K.X _ _ ho)) rfl hco hgen rfl (codeRec_of (fun b o e => kf _ _ (K.X b o e)) hcd) (hbind _ _ _ _ ?_)
  refine wpAny_newFunctionEnv_cells hk (kindsX hkind _) fun env' he s' x => ?_
  subst he
  refine ⟨(T.nolimit.keeps kf).keeps x.toInCall.keep, codeAny_func ?_⟩
  obtain ⟨h₁, tk, rfl, _⟩ := x.done
  have hk₁ := x.toInCall.keep
  have hlk : ∀ n c, (envOfC qual scope s.heap.objs.size a cdv).cells.lookup n = some c → scope.names.lookup n = some .cell := fun n c q => by
    have hm := List.mem_map_of_mem (f := Prod.fst) (lookup_mem q)
    rw [show (envOfC qual scope s.heap.objs.size a cdv).cells.map (·.1) = (cellsFrom 0 scope.names []).map (·.1) from cellsFrom_names scope.names _ _ [] [] rfl] at hm
    have := List.all_eq_true.mp hcl _ hm
    simpa using this
  have W : Frm (envOfC qual scope s.heap.objs.size a cdv) := by
    refine ⟨hk, hlk, fun n n' c q q' => ?_⟩
    have m1 := lookup_mem q
    have m2 := lookup_mem q'
    exact apart_eq x.apart m1 m2
  have zL : s.heap.get? s.heap.objs.size = none := size_none _
  have fL : f.get? s.heap.objs.size = none := fsize_none kf
  have e1 : Ext Nil f s.heap f h₁ := .grown kf hk₁
  refine wpAny_mono (body_ s.heap.objs.size h₁ tk W ⟨e1, ⟨_, x.toInCall.ns, fun y hy => ?_⟩, fL, .inl zL, fun n c q => ?_, fun p hp => nomatch hp⟩) (fun _ _ x => x) fun _ _ x => x.elim
  · exact (bindL_eq _ binds _ y hy).trans (by cases binds.reverse.lookup y <;> rfl)
  · have ab : s.heap.objs.size < c := x.above n c (lookup_mem q)
    have zc : s.heap.get? c = none := by
      cases q : s.heap.get? c with
      | none => rfl
      | some o => exact absurd (Heap.lt_size q) (Nat.not_lt.mpr (Nat.le_of_lt ab))
    have fc : f.get? c = none := by
      cases q : f.get? c with
      | none => rfl
      | some o => rw [kf _ _ q] at zc; cases zc
    refine ⟨?_, Nat.ne_of_gt ab, fc, .inl zc⟩
    have := x.cell n c q
    rw [bindC_eq _ binds _ n (hlk n c q)] at this
    cases q' : binds.reverse.lookup n with
    | none => rw [q'] at this; exact this
    | some v => rw [q'] at this; exact this
theorem does_call {vals : List Value} (K : Ok w f) (kf : f.StaysIn h) (ho : (hd.heap_39 w.params).lookup a = some ⟨oc, od, .func (fnOf name qual params body scope dV kV doc pm an cdv ct), osl⟩) (hcd : codeIn (hd.heap_39 w.params) cdv qual = true) (hroom : A.depth ≤ 700)
    (hbind : ∀ g d tk os, BindsTo ⟨h, g, d, tk, os⟩ (fnOf name qual params body scope dV kV doc pm an cdv ct) ⟨vals, []⟩ binds) (hkind : (binds.all fun y => scope.names.lookup y.1 == some .local || scope.names.lookup y.1 == some .cell) = true)
    (hcl : ((cellsFrom 0 scope.names []).map (·.1)).all (fun n => scope.names.lookup n == some .cell) = true) (hnd : ((cellsFrom 0 scope.names []).map (·.1)).Nodup)
    (body_ : ∀ L h₁ g d tk os, Frm (envOfC qual scope L a cdv) → FS Nil f h (envOfC qual scope L a cdv) [] f h₁ (fun y => binds.reverse.lookup y) →
      wpAny (model PP w) (A.deeper (envOfC qual scope L a cdv)) (execs body (envOfC qual scope L a cdv)) (RetEnd f h g os R) NoE ⟨h₁, g, d, tk, os⟩)
    (hco : scope.isCoroutine = false) (hgen : scope.isGenerator = false) (hk : scope.kind = .function) : Does w A (call (.ref a) vals) f h R := fun g d tk os Q hq => by
  refine wpAny_call (call_fs (s := ⟨h, g, d, tk, os⟩) K kf ho hcd (by have : recursionLimit = 1000 := rfl; omega) (hbind _ _ _ _) hkind hcl hnd (fun L h₁ tk W F => wpAny_mono (body_ L h₁ g d tk os W F) (fun fl s' r => ?_) fun _ _ z => z) hco hgen hk)
  obtain ⟨f', h', g', d', tk', rfl, e, ge, r⟩ := r
  exact hq _ _ _ _ _ _ e ge r
end
end Mine
end
section
open PySem PySem.W PyProof.Rows PySem.Calls
set_option Elab.async false
set_option linter.unusedVariables false
namespace Mine
section
variable {α β : Type} {w : World} {A : Around} {env : Env} {f h : Heap} {T : Ty α} {U : Ty β} {M₀ : Addr → Prop} {f₀ h₀ : Heap} {own : Own} {mm : Vars} {Q : Flow → Shared → Prop} {rest : List Stmt} {g : Array GenState} {d : Drawn} {tk : Nat} {os : OsState}
theorem st_while {test : Expr} {body : List Stmt} {pos : Pos} (F : FS M₀ f₀ h₀ env own f h mm) (J : Nat → Heap → Vars → Own → Prop) (Z : Heap → Vars → Own → Prop) (n : Nat) (h0 : J n f mm own)
    (jm : ∀ n f f' mm own, f.StaysIn f' → J n f mm own → J n f' mm own) (zm : ∀ f f' mm own, f.StaysIn f' → Z f mm own → Z f' mm own)
    (turn : ∀ n f h mm own, J n f mm own → FS (mine env own) f h env own f h mm → ∃ b, Ts w A env test f h b ∧ (b = false → Z f mm own) ∧ (b = true → ∀ f' h' g d tk, f.StaysIn f' → FS (mine env own) f' h' env own f' h' mm →
      wpAny (model PP w) A (execs body env) (TurnEnd (mine env own) f' h' env g os (fun f mm own => ∃ m, m < n ∧ J m f mm own) Z) NoE ⟨h', g, d, tk, os⟩))
    (k : ∀ f' h' g' d' tk' mm' own', Gx g g' → FS M₀ f₀ h₀ env own' f' h' mm' → Z f' mm' own' → wpAny (model PP w) A (execs rest env) Q NoE ⟨h', g', d', tk', os⟩) :
    wpAny (model PP w) A (execs (.While test body [] pos :: rest) env) Q NoE ⟨h, g, d, tk, os⟩ := by
  refine wpAny_execs_cons (wpAny_While ?_)
  refine codeAny_whileLoop (fun n s => ∃ f' h' g' d' tk' mm' own', s = ⟨h', g', d', tk', os⟩ ∧ Gx g g' ∧ FS M₀ f₀ h₀ env own' f' h' mm' ∧ J n f' mm' own') ?_ n ⟨f, h, g, d, tk, mm, own, rfl, .refl g, F, h0⟩
  rintro n s ⟨f, h, g', d, tk, mm, own, rfl, gx, F, hJ⟩
  obtain ⟨b, ht, hz, hb⟩ := turn n f h mm own hJ F.rebase
  refine wpAny_mono (E := NoE) (ht _ _ (.refl F.ext.fh) g' d tk os _ fun h1 f1 g1 d1 tk1 v e1 ge1 r1 => ?_) (fun _ _ z => z) fun _ _ z => z.elim
  subst r1
  have F1 := F.grow e1
  cases v with
  | true =>
    rw [if_pos rfl]
    refine wpAny_mono (hb rfl f1 h1 g1 d1 tk1 e1.fk F1.rebase) (fun fl s3 r => ?_) fun _ _ z => z.elim
    obtain ⟨f3, h3, g3, d3, tk3, mm3, own3, rfl, ge3, F3, r⟩ := r
    have gx3 := (gx.trans ge1).trans ge3
    have F3' := F1.join F3
    cases fl with
    | next => obtain ⟨m, hm, r⟩ := r; exact ⟨m, hm, f3, h3, g3, d3, tk3, mm3, own3, rfl, gx3, F3', r⟩
    | cont => obtain ⟨m, hm, r⟩ := r; exact ⟨m, hm, f3, h3, g3, d3, tk3, mm3, own3, rfl, gx3, F3', r⟩
    | brk => exact k _ _ _ _ _ _ _ gx3 F3' r
    | ret v => exact r.elim
  | false =>
    rw [if_neg (by simp)]
    refine wpAny_execs_nil ?_
    exact k _ _ _ _ _ _ _ (gx.trans ge1) F1 (zm _ _ _ _ e1.fk (hz rfl))
/-- x in a list, x not in a list -/
theorem p_in [DecidableEq α] (D : Kd w α) {xs : List α} {k : α} {u l : Value} (kf : f.StaysIn h) (rm : Rm A 200) (tu : D.T.is f k u) (tl : (Ty.list D.T).is f xs l) : Does w A (compareOp .In u l) f h fun _ v => v = .bool (decide (k ∈ xs)) := by
  obtain ⟨a, vs, n, rfl, e, p⟩ := tl
  intro g d tk os Q hq
  exact listIn (K := D.K f) (s := ⟨h, g, d, tk, os⟩) (by have := D.lev f; have := rm.units; have : cLine = 9900 := rfl; omega) kf ((D.is f k u).mpr tu) (kf _ _ e) (p.mono fun k v => (D.is f k v).mpr) fun tk' => hq _ f g d tk' _ (.refl kf) (.refl g) rfl
theorem p_notin [DecidableEq α] (D : Kd w α) {xs : List α} {k : α} {u l : Value} (kf : f.StaysIn h) (rm : Rm A 200) (tu : D.T.is f k u) (tl : (Ty.list D.T).is f xs l) : Does w A (compareOp .NotIn u l) f h fun _ v => v = .bool (!decide (k ∈ xs)) := by
  obtain ⟨a, vs, n, rfl, e, p⟩ := tl
  intro g d tk os Q hq
  exact listNotIn (K := D.K f) (s := ⟨h, g, d, tk, os⟩) (by have := D.lev f; have := rm.units; have : cLine = 9900 := rfl; omega) kf ((D.is f k u).mpr tu) (kf _ _ e) (p.mono fun k v => (D.is f k v).mpr) fun tk' => hq _ f g d tk' _ (.refl kf) (.refl g) rfl
/-- one symbol is another -/
theorem p_eq [DecidableEq α] (D : Kd w α) {x y : α} {u v : Value} (kf : f.StaysIn h) (rm : Rm A 200) (tu : D.T.is f x u) (tv : D.T.is f y v) : Does w A (PySem.eqBool u v) f h fun _ b => b = decide (x = y) := fun g d tk os Q hq =>
  (D.K f).eqBool (s := ⟨h, g, d, tk, os⟩) (by have := D.lev f; have := rm.units; have : cLine = 9900 := rfl; omega) kf ((D.is f x u).mpr tu) ((D.is f y v).mpr tv) fun tk' => hq _ f g d tk' _ (.refl kf) (.refl g) rfl
end
end Mine
end
section
open PySem PySem.W PyProof.Rows PySem.Calls
set_option Elab.async false
set_option linter.unusedVariables false
namespace Mine
/-- data that can be compared -/
def Eqk {α : Type} [DecidableEq α] (w : World) (T : Ty α) (n : Nat) : Prop := ∀ {A : Around} {f h : Heap} {x y : α} {u v : Value}, A.units + 20 * n < 9900 → f.StaysIn h → T.is f x u → T.is f y v →
  ∀ g d tk os (Q : Bool → Shared → Prop) (E : Value → Shared → Prop), (∀ tk', Q (decide (x = y)) ⟨h, g, d, tk', os⟩) → wpAny (model PP w) A (PySem.eqBool u v) Q E ⟨h, g, d, tk, os⟩
section
variable {α β : Type} [DecidableEq α] [DecidableEq β] {w : World} {A : Around} {f h : Heap} {T : Ty α} {U : Ty β} {n : Nat} {R : Result → Shared → Prop}
theorem eqk_kd (D : Kd w α) : Eqk w D.T 2 := fun {A f h x y u v} hu kf tu tv g d tk os Q E hq =>
  (D.K f).eqBool (s := ⟨h, g, d, tk, os⟩) (by have := D.lev f; have : cLine = 9900 := rfl; omega) kf ((D.is _ _ _).mpr tu) ((D.is _ _ _).mpr tv) hq
theorem eq_walk (E : Eqk w T n) (ne : Bool) {a b : Addr} {vs vs' : Array Value} {k k' : Nat} {xs ys : List α} (hu : A.units + 1 + 20 * n < 9900) (kf : f.StaysIn h) (ea : f.get? a = some (listOf vs k)) (eb : f.get? b = some (listOf vs' k')) (p : Pw (T.is f) xs vs.toList) (p' : Pw (T.is f) ys vs'.toList) (hl : xs.length = ys.length) {g : Array GenState} {d : Drawn} {os : OsState} :
    ∀ (j i : Nat) (tk : Nat), xs.length - i = j → i ≤ xs.length → (∀ tk', R (.ok (.ret (.bool (if ne then !decide (xs.drop i = ys.drop i) else decide (xs.drop i = ys.drop i))))) ⟨h, g, d, tk', os⟩) →
      codeAny (model PP w) A (.builtin "list.__eq__.loop" ⟨[.ref a, .ref b, rawInt i, rawInt (if ne then 3 else 2 : Nat)], []⟩) R ⟨h, g, d, tk, os⟩ := by
  have l1 := p.length
  have l2 := p'.length
  intro j
  induction j with
  | zero =>
    intro i tk hj hi hR
    have he : i = xs.length := by omega
    refine codeAny_builtin PySem.MeetsSeq3.entry_eq_loop ?_
    rw [Around.under_plainId PySem.MeetsSeq3.plain_eq_loop]
    have d1 : xs.drop i = [] := List.drop_eq_nil_iff.mpr (by omega)
    have d2 : ys.drop i = [] := List.drop_eq_nil_iff.mpr (by omega)
    rw [d1, d2] at hR
    have n1 : vs[((i : Nat) : Int).toNat]? = none := by simp at l1 ⊢; omega
    cases ne
    all_goals
      unfold Builtin.«list.__eq__.loop»
      refine wpAny_bind (listItems_at (s := ⟨h, g, d, tk, os⟩) (kf _ _ ea) rfl (wpAny_bind (listItems_at (s := ⟨h, g, d, tk, os⟩) (kf _ _ eb) rfl ?_)))
      rw [n1]
      dsimp only
      refine wpAny_bind (listItems_at (s := ⟨h, g, d, tk, os⟩) (kf _ _ ea) rfl (wpAny_bind (listItems_at (s := ⟨h, g, d, tk, os⟩) (kf _ _ eb) rfl ?_)))
      have hs : vs.size = vs'.size := by simp at l1 l2; omega
      rw [hs]
      refine wpAny_pure ?_
      have := hR tk
      first
        | (have key : ∀ v, v = Value.bool true → R (.ok (.ret v)) ⟨h, g, d, tk, os⟩ := fun v e => e ▸ (by simpa using this)
           exact key _ (by show Value.bool (vs'.size == vs'.size) = Value.bool true; simp))
        | (have key : ∀ v, v = Value.bool false → R (.ok (.ret v)) ⟨h, g, d, tk, os⟩ := fun v e => e ▸ (by simpa using this)
           exact key _ (by show Value.bool (vs'.size != vs'.size) = Value.bool false; simp))
  | succ j ih =>
    intro i tk hj hi hR
    have hi1 : i < xs.length := by omega
    have hi2 : i < ys.length := by omega
    rcases p.of_get i with ⟨q, _⟩ | ⟨x, u, q1, q2, q3⟩
    · have := List.getElem?_eq_none_iff.mp q; omega
    rcases p'.of_get i with ⟨q, _⟩ | ⟨y, v, r1, r2, r3⟩
    · have := List.getElem?_eq_none_iff.mp q; omega
    have m1 : vs[((i : Nat) : Int).toNat]? = some u := by simpa using q2
    have m2 : vs'[((i : Nat) : Int).toNat]? = some v := by simpa using r2
    have d1 : xs.drop i = x :: xs.drop (i + 1) := by
      obtain ⟨hl, e⟩ := List.getElem?_eq_some_iff.mp q1
      rw [← e, List.getElem_cons_drop]
    have d2 : ys.drop i = y :: ys.drop (i + 1) := by
      obtain ⟨hl, e⟩ := List.getElem?_eq_some_iff.mp r1
      rw [← e, List.getElem_cons_drop]
    rw [d1, d2] at hR
    refine codeAny_builtin PySem.MeetsSeq3.entry_eq_loop ?_
    rw [Around.under_plainId PySem.MeetsSeq3.plain_eq_loop]
    cases ne
    all_goals
      unfold Builtin.«list.__eq__.loop»
      refine wpAny_bind (listItems_at (s := ⟨h, g, d, tk, os⟩) (kf _ _ ea) rfl (wpAny_bind (listItems_at (s := ⟨h, g, d, tk, os⟩) (kf _ _ eb) rfl ?_)))
      rw [m1, m2]
      dsimp only
      refine wpAny_bind (E (A := A.in1) (by show A.units + 1 + _ < _; exact hu) kf q3 r3 g d tk os _ _ fun tk' => ?_)
      by_cases e : x = y
      · rw [decide_eq_true e, if_pos rfl]
        have hc : rawInt ((i : Int) + 1) = rawInt ((i + 1 : Nat) : Int) := by congr 1
        rw [hc]
        refine wpAny_pure ⟨plainId_quiet PySem.MeetsSeq3.plain_eq_loop _, ih (i + 1) tk' (by omega) (by omega) fun tk2 => ?_⟩
        have := hR tk2
        simpa [e] using this
      · rw [decide_eq_false e, if_neg (by simp)]
        refine wpAny_bind (listItems_at (s := ⟨h, g, d, tk', os⟩) (kf _ _ ea) rfl (wpAny_bind (listItems_at (s := ⟨h, g, d, tk', os⟩) (kf _ _ eb) rfl ?_)))
        rw [m1, m2]
        dsimp only
        have := hR tk'
        exact wpAny_pure (by simpa [e] using this)
theorem rich_list (E : Eqk w T n) (ne : Bool) {xs ys : List α} {u v : Value} {Q : Value → Shared → Prop} {E' : Value → Shared → Prop} (hu : A.units + 20 * n + 10 < 9900) (kf : f.StaysIn h) (tu : (Ty.list T).is f xs u) (tv : (Ty.list T).is f ys v) {g : Array GenState} {d : Drawn} {tk : Nat} {os : OsState}
    (hq : ∀ tk', Q (.bool (if ne then !decide (xs = ys) else decide (xs = ys))) ⟨h, g, d, tk', os⟩) : wpAny (model PP w) A (richCompare (if ne then .NotEq else .Eq) u v) Q E' ⟨h, g, d, tk, os⟩ := by
  obtain ⟨a, vs, k, rfl, ea, p⟩ := tu
  obtain ⟨b, vs', k', rfl, eb, p'⟩ := tv
  have l1 := p.length
  have l2 := p'.length
  have hA : (⟨h, g, d, tk, os⟩ : Shared).TypeIs (.ref a) "list" := ⟨_, kf _ _ ea, rfl⟩
  have hB : (⟨h, g, d, tk, os⟩ : Shared).TypeIs (.ref b) "list" := ⟨_, kf _ _ eb, rfl⟩
  have isub : isSubtype (.type "list") (.type "list") = pure true := by rw [isSubtype_type]; kernel_rfl
  have body : ∀ (op : CmpOp) (R : Result → Shared → Prop), (op = if ne then .NotEq else .Eq) → (∀ tk', R (.ok (.ret (.bool (if ne then !decide (xs = ys) else decide (xs = ys))))) ⟨h, g, d, tk', os⟩) →
      wpAny (model PP w) A.in1 (do
        if !(← isInstance (Value.ref b) (.type "list")) then return ← ret .notImplemented
        if op == .Eq || op == .NotEq then
          if (← Builtin.List.listItems (.ref a)).size != (← Builtin.List.listItems (.ref b)).size then rule "list.compare.lengths-differ"; return ← ret (.bool (op == .NotEq))
        again (.builtin "list.__eq__.loop" ⟨[.ref a, .ref b, rawInt 0, rawInt (if ne then 3 else 2 : Nat)], []⟩))
        (fun fin s' => match fin with | .done f => R (.ok f) s' | .again c' => c'.quiet = true ∧ codeAny (model PP w) A c' R s') (fun e s' => R (.error e) s') ⟨h, g, d, tk, os⟩ := by
    intro op R hop hR
    refine wpAny_bind (wpAny_isInstance (b := true) hB isub ?_)
    simp only [Bool.not_true, Bool.false_eq_true, if_false]
    rw [if_pos (by rw [hop]; cases ne <;> rfl)]
    refine wpAny_bind (listItems_at (s := ⟨h, g, d, tk, os⟩) (kf _ _ ea) rfl (wpAny_bind (listItems_at (s := ⟨h, g, d, tk, os⟩) (kf _ _ eb) rfl ?_)))
    by_cases hs : vs.size = vs'.size
    · rw [if_neg (by simp [hs])]
      refine wpAny_pure ⟨plainId_quiet PySem.MeetsSeq3.plain_eq_loop _, ?_⟩
      exact eq_walk E ne (by omega) kf ea eb p p' (by simp at l1 l2; omega) xs.length 0 tk (by omega) (Nat.zero_le _) (by simpa using hR)
    · rw [if_pos (by simp [hs])]
      have ne' : xs ≠ ys := fun e => hs (by rw [e] at l1; simp at l1 l2; omega)
      have := hR tk
      refine wpAny_bind (wpAny_rule (wpAny_pure ?_))
      rw [hop]
      cases ne
      · have t := this
        simp [ne'] at t
        exact t
      · have t := this
        simp [ne'] at t
        exact t
  cases ne with
  | false =>
    refine wpAny_richCompare_same_room (op := .Eq) hA hB PySem.F.slot_list_eq ?_ (by have : cLine = 9900 := rfl; omega)
    refine wpAny_call (codeAny_call_builtin PySem.F.slot_list_eq.plain PySem.F.entry_list_eq (PySem.F.slot_list_eq.check _ _ _ _ _ _ _ _ hA (PySem.F.args_list_eq_2 _ _) ?_))
    exact body .Eq (fun r s' => match r with | .ok (.ret v) => v ≠ .notImplemented ∧ Q v s' | .ok _ => False | .error e => E' e s') rfl fun tk' => ⟨by simp, hq tk'⟩
  | true =>
    refine wpAny_richCompare_same_room (op := .NotEq) hA hB PySem.F.slot_list_ne ?_ (by have : cLine = 9900 := rfl; omega)
    refine wpAny_call (codeAny_call_builtin PySem.F.slot_list_ne.plain PySem.F.entry_list_ne (PySem.F.slot_list_ne.check _ _ _ _ _ _ _ _ hA (PySem.F.args_list_ne_2 _ _) ?_))
    exact body .NotEq (fun r s' => match r with | .ok (.ret v) => v ≠ .notImplemented ∧ Q v s' | .ok _ => False | .error e => E' e s') rfl fun tk' => ⟨by simp, hq tk'⟩
end
end Mine
end
section
open PySem PySem.W PyProof.Rows PySem.Calls
set_option Elab.async false
set_option linter.unusedVariables false
set_option linter.unusedSectionVars false
namespace Mine
def Inj {α : Type} (T : Ty α) : Prop := ∀ {f : Heap} {x y : α} {v : Value}, T.is f x v → T.is f y v → x = y
section
variable {α β γ : Type} [DecidableEq α] [DecidableEq β] [DecidableEq γ] {w : World} {A : Around} {f h : Heap} {T : Ty α} {U : Ty β} {V : Ty γ} {n m k : Nat} {R : Result → Shared → Prop}
theorem inj_kd (D : Kd w α) : Inj D.T := fun {f x y v} a b => (D.K f).inj ((D.is _ _ _).mpr a) ((D.is _ _ _).mpr b)
theorem inj_nat : Inj Ty.nat := fun {f x y v} ⟨t, a⟩ ⟨u, b⟩ => by rw [a] at b; injection b with b _; exact Int.ofNat.inj b
theorem inj_int : Inj Ty.int := fun {f x y v} ⟨t, a⟩ ⟨u, b⟩ => by rw [a] at b; injection b with b _
theorem inj_str : Inj Ty.str := fun {f x y v} ⟨t, a⟩ ⟨u, b⟩ => by rw [a] at b; injection b with b _
theorem inj_list (I : Inj T) : Inj T.list := fun {f x y v} ⟨a, vs, n, e, g, p⟩ ⟨a', vs', n', e', g', p'⟩ => by
  rw [e] at e'; injection e' with e'; subst e'
  rw [g] at g'; injection g' with g'; injection g' with _ _ g' _; injection g' with g' _; subst g'
  exact Pw.inj (P := T.is f) (fun x y v a b => I a b) p p'
def Ty.tri {α β γ : Type} (T : Ty α) (U : Ty β) (V : Ty γ) : Ty (α × β × γ) :=
  ⟨fun f x v => ∃ a u1 u2 u3 n, v = .ref a ∧ f.get? a = some (tupleOf #[u1, u2, u3] n) ∧ T.is f x.1 u1 ∧ U.is f x.2.1 u2 ∧ V.is f x.2.2 u3, fun k ⟨a, u1, u2, u3, n, e, g, p, q, r⟩ => ⟨a, u1, u2, u3, n, e, k _ _ g, T.mono k p, U.mono k q, V.mono k r⟩⟩
theorem inj_tri (I : Inj T) (J : Inj U) (K : Inj V) : Inj (T.tri U V) := fun {f x y v} ⟨a, u1, u2, u3, n, e, g, p, q, r⟩ ⟨a', u1', u2', u3', n', e', g', p', q', r'⟩ => by
  rw [e] at e'; injection e' with e'; subst e'
  rw [g] at g'; injection g' with g'; injection g' with _ _ g' _; injection g' with g' _
  simp only [Array.mk.injEq, List.cons.injEq, and_true] at g'
  obtain ⟨rfl, rfl, rfl⟩ := g'
  exact Prod.ext (I p p') (Prod.ext (J q q') (K r r'))
theorem eqk_int : Eqk w Ty.int 0 := fun {A f h x y u v} hu kf ⟨t, a⟩ ⟨t', b⟩ g d tk os Q E hq => by
  subst a; subst b
  refine wpAny_eqBool_int ?_
  have e2 : (x == y) = decide (x = y) := by by_cases e : x = y <;> simp [e]
  rw [e2]; exact hq tk
theorem eqk_nat : Eqk w Ty.nat 0 := fun {A f h x y u v} hu kf ⟨t, a⟩ ⟨t', b⟩ g d tk os Q E hq => by
  subst a; subst b
  refine wpAny_eqBool_int ?_
  have := hq tk
  have e2 : ((x : Int) == (y : Int)) = decide (x = y) := by
    by_cases e : x = y
    · simp [e]
    · rw [decide_eq_false e]; simpa using fun z => e (Int.ofNat.inj z)
  rw [e2]; exact this
theorem eqk_str : Eqk w Ty.str 0 := fun {A f h x y u v} hu kf ⟨t, a⟩ ⟨t', b⟩ g d tk os Q E hq => by
  subst a; subst b
  exact wpAny_eqBool_str (hq tk)
theorem Eqk.up (E : Eqk w T n) (k : n ≤ m) : Eqk w T m := fun {A f h x y u v} hu => E (by omega)
/-- one thing is itself, two are compared by the rich comparison -/
theorem eqBool_refs {a b : Addr} {x y : α} {g : Array GenState} {d : Drawn} {tk : Nat} {os : OsState} {Q : Bool → Shared → Prop} {E' : Value → Shared → Prop} (hi : a = b → x = y) (hq : ∀ tk', Q (decide (x = y)) ⟨h, g, d, tk', os⟩)
    (hc : ∀ (Q' : Value → Shared → Prop), (∀ tk', Q' (.bool (decide (x = y))) ⟨h, g, d, tk', os⟩) → wpAny (model PP w) A (richCompare .Eq (.ref a) (.ref b)) Q' E' ⟨h, g, d, tk, os⟩) : wpAny (model PP w) A (PySem.eqBool (.ref a) (.ref b)) Q E' ⟨h, g, d, tk, os⟩ := by
  unfold PySem.eqBool
  refine wpAny_holding ?_
  by_cases e : a = b
  · subst e
    rw [if_pos (by simp)]
    have := hq tk
    rw [hi rfl] at this
    exact wpAny_bind (wpAny_rule (wpAny_pure (by simpa using this)))
  · rw [if_neg (by simpa using e)]
    exact wpAny_bind (hc _ fun tk' => wpAny_truthy_bool (hq tk'))
theorem eqk_list (I : Inj T) (E : Eqk w T n) : Eqk w T.list (n + 1) := fun {A f h x y u v} hu kf tu tv g d tk os Q E' hq => by
  have tu' := tu
  have tv' := tv
  obtain ⟨a, vs, k, rfl, ea, p⟩ := tu
  obtain ⟨b, vs', k', rfl, eb, p'⟩ := tv
  refine eqBool_refs (x := x) (y := y) (fun e => by subst e; exact inj_list I tu' tv') hq fun Q' hq' => ?_
  exact rich_list E false (by omega) kf tu' tv' (by simpa using hq')
/-- the tree of ==  on two tuples of three -/
theorem tree_tri (E1 : Eqk w T n) (E2 : Eqk w U n) (E3 : Eqk w V n) {a b : Addr} {x y : α × β × γ} {u1 u2 u3 v1 v2 v3 : Value} {k k' : Nat} (hu : A.units + 20 * n < 9900) (kf : f.StaysIn h)
    (ea : f.get? a = some (tupleOf #[u1, u2, u3] k)) (eb : f.get? b = some (tupleOf #[v1, v2, v3] k')) (p1 : T.is f x.1 u1) (p2 : U.is f x.2.1 u2) (p3 : V.is f x.2.2 u3) (q1 : T.is f y.1 v1) (q2 : U.is f y.2.1 v2) (q3 : V.is f y.2.2 v3)
    {g : Array GenState} {d : Drawn} {tk : Nat} {os : OsState} {P : PySem.Fin → Shared → Prop} {E' : Value → Shared → Prop} (hq : ∀ tk', P (.done (.ret (.bool (decide (x = y))))) ⟨h, g, d, tk', os⟩) :
    wpAny (model PP w) A (Builtin.«tuple.__eq__» ⟨[.ref a, .ref b], []⟩) P E' ⟨h, g, d, tk, os⟩ := by
  have hB : (⟨h, g, d, tk, os⟩ : Shared).TypeIs (.ref b) "tuple" := ⟨_, kf _ _ eb, rfl⟩
  have isub : isSubtype (.type "tuple") (.type "tuple") = pure true := by rw [isSubtype_type]; kernel_rfl
  show wpAny _ _ (isInstance (.ref b) (.type "tuple") >>= _) _ _ _
  refine wpAny_bind (wpAny_isInstance (b := true) hB isub ?_)
  simp only [Bool.not_true, Bool.false_eq_true, if_false]
  refine wpAny_bind (wpAny_tupleItemsOf (s := ⟨h, g, d, tk, os⟩) (kf _ _ ea) rfl (wpAny_bind (wpAny_tupleItemsOf (s := ⟨h, g, d, tk, os⟩) (kf _ _ eb) rfl ?_)))
  refine wpAny_bind ?_
  obtain ⟨x1, x2, x3⟩ := x
  obtain ⟨y1, y2, y3⟩ := y
  show wpAny _ _ (forIn [(u1, v1), (u2, v2), (u3, v3)] _ _) _ _ _
  simp only [List.forIn_cons, List.forIn_nil]
  refine wpAny_bind (wpAny_bind (E1 hu kf p1 q1 g d tk os _ _ fun tk1 => ?_))
  by_cases e1 : x1 = y1
  · subst e1
    simp only [decide_true, Bool.not_true, Bool.false_eq_true, if_false]
    refine wpAny_pure (wpAny_bind (wpAny_bind (E2 hu kf p2 q2 g d tk1 os _ _ fun tk2 => ?_)))
    by_cases e2 : x2 = y2
    · subst e2
      simp only [decide_true, Bool.not_true, Bool.false_eq_true, if_false]
      refine wpAny_pure (wpAny_bind (wpAny_bind (E3 hu kf p3 q3 g d tk2 os _ _ fun tk3 => ?_)))
      by_cases e3 : x3 = y3
      · subst e3
        simp only [decide_true, Bool.not_true, Bool.false_eq_true, if_false]
        have := hq tk3
        rw [decide_eq_true rfl] at this
        refine wpAny_pure (wpAny_pure (wpAny_pure ?_))
        exact this
      · simp only [e3, decide_false, Bool.not_false, if_true]
        have := hq tk3
        refine wpAny_bind (wpAny_pure (wpAny_pure (wpAny_pure (wpAny_pure ?_))))
        simpa [e3] using this
    · simp only [e2, decide_false, Bool.not_false, if_true]
      have := hq tk2
      refine wpAny_bind (wpAny_pure (wpAny_pure (wpAny_pure (wpAny_pure ?_))))
      simpa [e2] using this
  · simp only [e1, decide_false, Bool.not_false, if_true]
    have := hq tk1
    refine wpAny_bind (wpAny_pure (wpAny_pure (wpAny_pure (wpAny_pure ?_))))
    simpa [e1] using this
theorem eqk_tri (I : Inj T) (J : Inj U) (K : Inj V) (E1 : Eqk w T n) (E2 : Eqk w U n) (E3 : Eqk w V n) : Eqk w (T.tri U V) (n + 1) := fun {A f h x y u v} hu kf tu tv g d tk os Q E' hq => by
  have tu' := tu
  have tv' := tv
  obtain ⟨a, u1, u2, u3, k, rfl, ea, p1, p2, p3⟩ := tu
  obtain ⟨b, v1, v2, v3, k', rfl, eb, q1, q2, q3⟩ := tv
  refine eqBool_refs (x := x) (y := y) (fun e => by subst e; exact inj_tri I J K tu' tv') hq fun Q' hq' => ?_
  have hA : (⟨h, g, d, tk, os⟩ : Shared).TypeIs (.ref a) "tuple" := ⟨_, kf _ _ ea, rfl⟩
  have hB : (⟨h, g, d, tk, os⟩ : Shared).TypeIs (.ref b) "tuple" := ⟨_, kf _ _ eb, rfl⟩
  refine wpAny_richCompare_same_room (op := .Eq) hA hB PySem.F.slot_tuple_eq ?_ (by have : cLine = 9900 := rfl; omega)
  refine wpAny_call_entry PySem.F.slot_tuple_eq hA PySem.F.entry_tuple_eq ?_ (PySem.F.args_tuple_eq_2 _ _)
  exact tree_tri E1 E2 E3 (by show A.units + 1 + _ < _; omega) kf ea eb p1 p2 p3 q1 q2 q3 fun tk' => ⟨_, rfl, by simp, hq' tk'⟩
theorem p_eq_list (E : Eqk w T n) (hn : n ≤ 50) {xs ys : List α} {u v : Value} (kf : f.StaysIn h) (rm : Rm A 200) (tu : (Ty.list T).is f xs u) (tv : (Ty.list T).is f ys v) : Does w A (compareOp .Eq u v) f h fun _ v => v = .bool (decide (xs = ys)) := fun g d tk os Q hq => by
  have := rm.units
  exact rich_list E false (by omega) kf tu tv fun tk' => hq _ f g d tk' _ (.refl kf) (.refl g) (by simp)
theorem p_ne_list (E : Eqk w T n) (hn : n ≤ 50) {xs ys : List α} {u v : Value} (kf : f.StaysIn h) (rm : Rm A 200) (tu : (Ty.list T).is f xs u) (tv : (Ty.list T).is f ys v) : Does w A (compareOp .NotEq u v) f h fun _ v => v = .bool (!decide (xs = ys)) := fun g d tk os Q hq => by
  have := rm.units
  exact rich_list E true (by omega) kf tu tv fun tk' => hq _ f g d tk' _ (.refl kf) (.refl g) (by simp)
end
end Mine
end
section
open PySem PySem.W PyProof.Rows PySem.Calls
set_option Elab.async false
set_option linter.unusedVariables false
set_option linter.unusedSectionVars false
namespace Mine
section
variable {prog : Program} {w : World} {A : Around} {E : Value → Shared → Prop} {s : Shared}
theorem slicePart_of {v : Value} {x : Option Int} {Q : Option Int → Shared → Prop} (p : IsPart v x) (h : Q x s) : wpAny (model prog w) A (Builtin.Slice.slicePartIndex v) Q E s := by
  cases p with
  | none => exact slicePart_none h
  | int i t => exact slicePart_int h
def upto (n : Nat) : Option Int → Nat
  | none => n
  | some i => i.toNat
def from0 : Option Int → Nat
  | none => 0
  | some i => i.toNat
/-- bounds within the size -/
structure Cutting (lo hi : Option Int) (n : Nat) : Prop where
  lo : ∀ i, lo = some i → 0 ≤ i ∧ i ≤ n
  hi : ∀ i, hi = some i → 0 ≤ i ∧ i ≤ n
theorem adjust_cut {lo hi : Option Int} {n : Nat} (c : Cutting lo hi n) : Builtin.Slice.sliceAdjust lo hi 1 (n : Int) = ((from0 lo : Int), (upto n hi : Int)) := by
  obtain ⟨c1, c2⟩ := c
  unfold Builtin.Slice.sliceAdjust
  have h1 : ¬ ((1 : Int) < 0) := by omega
  simp only [h1, if_false]
  congr 1
  · cases lo with
    | none => simp [from0]
    | some i =>
      obtain ⟨a, b⟩ := c1 i rfl
      simp only [from0]
      rw [if_neg (by omega)]
      omega
  · cases hi with
    | none => simp [upto]
    | some i =>
      obtain ⟨a, b⟩ := c2 i rfl
      simp only [upto]
      rw [if_neg (by omega)]
      omega
theorem places_cut (a b : Nat) : Builtin.Slice.slicePlaces (a : Int) (b : Int) 1 = b - a := by
  unfold Builtin.Slice.slicePlaces
  have h1 : (1 : Int) > 0 := by omega
  simp only [h1, if_true, Int.ediv_one]
  split <;> omega
theorem pick_cut (xs : Array Value) (a k : Nat) : ((List.range k).filterMap fun (j : Nat) => xs[((a : Int) + (j : Int) * 1).toNat]?).toArray = ((xs.toList.drop a).take k).toArray := by
  have e : (fun (j : Nat) => xs[((a : Int) + (j : Int) * 1).toNat]?) = (fun i => xs.toList[i]?) ∘ (a + ·) := by
    funext j
    have : ((a : Int) + (j : Int) * 1).toNat = a + j := by omega
    rw [this]; simp
  rw [e, ← List.filterMap_map, picks_cut]
theorem getItem_tuple_cut {t sl : Addr} {items : Array Value} {vl vu : Value} {lo hi : Option Int} {n : Nat} {Q : Value → Shared → Prop} (ht : s.heap.get? t = some (tupleOf items n)) (hs : s.heap.IsSliceOf sl vl vu .none) (pl : IsPart vl lo) (pu : IsPart vu hi) (c : Cutting lo hi items.size)
    (h0 : cut items.toList (from0 lo) (upto items.size hi) = items.toList → Q (.ref t) s)
    (h : Q (.ref s.heap.objs.size) { s with heap := s.heap.push { cls := .type "tuple", data := .seq (cut items.toList (from0 lo) (upto items.size hi)).toArray } })
    (hsz : items.size ≤ sizeLine) : wpAny (model prog w) A (getItem (.ref t) (.ref sl)) Q E s := by
  have ht' : IsTup s.heap t items := IsTup.of ht
  have hcut : sizeOk (.seq (cut items.toList (from0 lo) (upto items.size hi)).toArray) := by
    show (cut items.toList (from0 lo) (upto items.size hi)).toArray.size ≤ sizeLine
    rw [List.size_toArray]
    unfold cut
    rw [List.length_take, List.length_drop, Array.length_toList]
    omega
  obtain ⟨os, hos, hcs, hds⟩ := id hs
  have hTs : s.TypeIs (.ref sl) "slice" := ⟨os, hos, hcs⟩
  unfold getItem
  refine wpAny_holding ?_
  refine wpAny_bind (wpAny_sequenceKey ht'.typeIs (by decide) ?_)
  refine wpAny_bind (wpAny_callSpecial?_slot (name := Str.ofString "__getitem__") ht'.typeIs slot_tuple_getitem
    (wpAny_call_entry slot_tuple_getitem ht'.typeIs entry_tuple_getitem ?_ (args_tuple_getitem _ _)))
  show wpAny _ _ (Builtin.Tuple.tupleItemsOf (.ref t) >>= _) _ _ s
  refine wpAny_bind (tupleItemsOf_ ht' ?_)
  refine wpAny_bind (wpAny_typeOf hTs ?_)
  rw [if_pos (by decide)]
  refine wpAny_bind (?_ : wpAny (model prog w) A.in1 (Builtin.Slice.sliceApplied (.ref sl) (pure (items.size : Int))) _ _ s)
  unfold Builtin.Slice.sliceApplied Builtin.Slice.sliceFields
  refine wpAny_bind (wpAny_bind (wpAny_field hos hds (x := vl) rfl (wpAny_bind (wpAny_field hos hds (x := vu) rfl (wpAny_bind (wpAny_field hos hds (x := .none) rfl (wpAny_pure ?_)))))))
  refine wpAny_bind (slicePart_none ?_)
  show wpAny _ _ (if ((1 : Int) == 0) = true then _ else _) _ _ s
  rw [if_neg (by decide)]
  refine wpAny_bind (slicePart_of pl (wpAny_bind (slicePart_of pu (wpAny_bind (wpAny_pure ?_)))))
  show wpAny _ _ (match Builtin.Slice.sliceAdjust lo hi 1 (items.size : Int) with | (lo, hi) => pure (lo, (1 : Int), Builtin.Slice.slicePlaces lo hi 1)) _ _ s
  rw [adjust_cut c]
  show wpAny _ _ (pure ((from0 lo : Int), (1 : Int), Builtin.Slice.slicePlaces (from0 lo : Int) (upto items.size hi : Int) 1)) _ _ s
  rw [places_cut]
  refine wpAny_pure ?_
  show wpAny _ _ (if ((from0 lo : Int) == 0 && (1 : Int) == 1 && (upto items.size hi - from0 lo) == items.size) = true then _ else _) _ _ s
  by_cases hw : ((from0 lo : Int) == 0 && (1 : Int) == 1 && (upto items.size hi - from0 lo) == items.size) = true
  · rw [if_pos hw]
    simp only [Bool.and_eq_true, beq_iff_eq] at hw
    obtain ⟨⟨w1, _⟩, w2⟩ := hw
    have w1' : from0 lo = 0 := by omega
    have e : cut items.toList (from0 lo) (upto items.size hi) = items.toList := by
      unfold cut; rw [w1'] at w2 ⊢; rw [List.drop_zero, List.take_of_length_le (by simp; omega)]
    refine wpAny_bind (m := Builtin.Tuple.tupleIsExact _) (wpAny_bind (wpAny_typeOf ht'.typeIs (wpAny_pure ?_)))
    rw [if_pos (by decide)]
    exact wpAny_bind (wpAny_rule (wpAny_pure ⟨_, rfl, wpAny_pure (h0 e)⟩))
  · rw [if_neg hw, pick_cut]
    first
      | exact wpAny_bind (m := Builtin.Tuple.tupleExact _) (wpAny_newObj_type (wpAny_pure ⟨_, rfl, wpAny_pure h⟩) hcut)
      | exact wpAny_bind (m := Builtin.Tuple.tupleExact _) (wpAny_newObj_type (wpAny_bind (wpAny_pure (wpAny_pure ⟨_, rfl, wpAny_pure h⟩))) hcut)
      | exact wpAny_bind (wpAny_bind (m := Builtin.Tuple.tupleExact _) (wpAny_newObj_type (wpAny_pure (wpAny_pure ⟨_, rfl, wpAny_pure h⟩)) hcut))
      | exact wpAny_bind (wpAny_bind (m := Builtin.Tuple.tupleExact _) (wpAny_newObj_type (wpAny_pure ⟨_, rfl, wpAny_pure h⟩) hcut))
end
section
variable {α β : Type} {w : World} {A : Around} {env : Env} {f h : Heap} {T : Ty α} {U : Ty β}
theorem p_slice_tup {xs : List α} {s : Option Int × Option Int × Option Int} {u v : Value} (k : f.StaysIn h) (t : (Ty.tup T).is f xs u) (ts : Ty.slice.is f s v) (h0 : s.2.2 = none) (c : Cutting s.1 s.2.1 xs.length) (hz : xs.length ≤ 1000) :
    Does w A (getItem u v) f h fun f' v => (Ty.tup T).is f' (cut xs (from0 s.1) (upto xs.length s.2.1)) v := by
  have t' := t
  obtain ⟨a, vs, n, rfl, e, p⟩ := t
  obtain ⟨b, v1, v2, v3, rfl, e', p1, p2, p3⟩ := ts
  have hl := p.length
  rw [h0] at p3
  cases p3
  intro g d tk os Q hq
  have hl' : vs.size = xs.length := by simp at hl; omega
  refine getItem_tuple_cut (s := ⟨h, g, d, tk, os⟩) (lo := s.1) (hi := s.2.1) (k _ _ e) ⟨_, k _ _ e', rfl, rfl⟩ p1 p2 (hl' ▸ c) (fun eq => ?_) ?_ (by rw [sizeLine_eq]; omega)
  · refine hq _ f g d tk _ (.refl k) (.refl g) ?_
    have q : cut xs (from0 s.1) (upto xs.length s.2.1) = xs := by
      have l1 := congrArg List.length eq
      have : (cut xs (from0 s.1) (upto xs.length s.2.1)).length = xs.length := by
        unfold cut at l1 ⊢
        rw [List.length_take, List.length_drop] at l1 ⊢
        rw [Array.length_toList, hl'] at l1
        exact l1
      unfold cut at this ⊢
      rw [List.length_take, List.length_drop] at this
      by_cases z : xs.length = 0
      · rw [List.length_eq_zero_iff] at z; subst z; simp
      · have : from0 s.1 = 0 := by omega
        rw [this]; rw [List.drop_zero, List.take_of_length_le (by omega)]
    rw [q]; exact t'
  · refine push_new k rfl (fun f' kk gt => ⟨_, _, 0, rfl, gt, ?_⟩) hq
    rw [hl']
    simpa using (p.mono fun a v h => T.mono kk h).cut _ _
theorem es_list0 {pos : Pos} : Es w A env (.List [] pos) f h (.list T) [] := fun f₁ h₁ k g d tk os Q hq => by
  refine List_ (spliced_nil ?_)
  refine does_new (f := f₁) (R := fun f'' v => (Ty.list T).is f'' [] v) k.fh rfl (fun g d tk os Q hq => wpAny_newObj_type hq (by size_fits)) (fun f'' kk gt => ⟨_, #[], 0, rfl, gt, .nil⟩) g d tk os Q hq
theorem es_list1 {e : Expr} {pos : Pos} {a : α} (x : Es w A env e f h T a) (he : starEach [e] env = (false, eval e env) :: starEach [] env := by rfl) : Es w A env (.List [e] pos) f h (.list T) [a] := fun f₁ h₁ k g d tk os Q hq => by
  refine List_ (args1 x he _ _ k g d tk os _ (fun h' f' g' d' tk' vs e ge r => ?_) pos)
  obtain ⟨v, rfl, r1⟩ := r
  refine does_new (f := f') (R := fun f'' v => (Ty.list T).is f'' [a] v) e.fh rfl (fun g d tk os Q hq => wpAny_newObj_type hq (by size_fits)) (fun f'' kk gt => ⟨_, #[v], 0, rfl, gt, .cons (T.mono kk r1) .nil⟩) g' d' tk' os Q ?_
  exact fun h'' f'' g'' d'' tk'' v e' ge' r' => hq _ _ _ _ _ _ (e.trans e') (ge.trans ge') r'
/-- list(x) of a list -/
theorem p_list_list {xs : List α} {u : Value} (k : f.StaysIn h) (t : (Ty.list T).is f xs u) (hz : xs.length ≤ 1000) : Does w A (call (.type "list") [u]) f h fun f' v => (Ty.list T).is f' xs v := by
  obtain ⟨a, vs, n, rfl, e, p⟩ := t
  have hl := p.length
  refine .of k fun g d tk os Q hq => ?_
  refine call_list_seq (s := ⟨h, g, d, tk, os⟩) a (.inl rfl) (k _ _ e) rfl rfl (fun h' c' kk gt => hq h' tk _ kk ?_) (by rw [sizeLine_eq]; simp at hl; omega)
  refine ⟨_, vs, c', rfl, (Ext.all_new k kk ⟨gt, size_none h⟩), p.mono fun a v => T.mono (Ext.all k kk).fk⟩
/-- tuple(x) of a list -/
theorem p_tup_list {xs : List α} {u : Value} (k : f.StaysIn h) (t : (Ty.list T).is f xs u) (hz : xs.length ≤ 1000) : Does w A (call (.type "tuple") [u]) f h fun f' v => (Ty.tup T).is f' xs v := by
  obtain ⟨a, vs, n, rfl, e, p⟩ := t
  have hl := p.length
  refine .of k fun g d tk os Q hq => ?_
  refine call_tuple_list (s := ⟨h, g, d, tk, os⟩) (IsList.of (k _ _ e)) (fun h' kk => hq _ tk _ (fun b o e => Heap.get?_push_of_some _ (kk b o e)) ?_) (by rw [sizeLine_eq]; simp at hl; omega)
  have kk' : h.StaysIn (h'.push { cls := .type "tuple", data := .seq vs }) := fun b o e => Heap.get?_push_of_some _ (kk b o e)
  refine ⟨_, vs, 0, rfl, Ext.all_new k kk' ⟨Heap.get?_push_size _ rfl, ?_⟩, p.mono fun a v => T.mono (Ext.all k kk').fk⟩
  cases q : h.get? h'.objs.size with
  | none => rfl
  | some o => exact absurd (Heap.lt_size (kk _ _ q)) (Nat.lt_irrefl _)
end
end Mine
end
section
open PySem PySem.W PyProof.Rows PySem.Calls
set_option Elab.async false
set_option linter.unusedVariables false
set_option linter.unusedSectionVars false
namespace Mine
section
variable {α β γ : Type} {w : World} {A : Around} {env : Env} {f h : Heap} {T : Ty α} {U : Ty β} {M₀ : Addr → Prop} {f₀ h₀ : Heap} {own pre post : Own} {mm : Vars} {Q : Flow → Shared → Prop} {rest : List Stmt} {g : Array GenState} {d : Drawn} {tk : Nat} {os : OsState}
/-- an expression that makes one new object and nothing else -/
def New (w : World) (A : Around) (env : Env) (e : Expr) (o : Obj) : Prop := ∀ h g d tk os (Q : Value → Shared → Prop), Q (.ref h.objs.size) ⟨h.push o, g, d, tk, os⟩ → wpAny (model PP w) A (eval e env) Q NoE ⟨h, g, d, tk, os⟩
theorem new_list {pos : Pos} : New w A env (.List [] pos) (listOf #[] 0) := fun h g d tk os Q hq => List_ (spliced_nil (wpAny_newObj_type hq (by size_fits)))
theorem FS.push {o : Obj} (F : FS M₀ f₀ h₀ env own f h mm) (ho : o.isFreed = false) : FS M₀ f₀ h₀ env ((h.objs.size, o) :: own) f (h.push o) mm :=
  F.take (fun b o e => Heap.get?_push_of_some _ e) (size_none h) (Heap.get?_push_size _ ho)
theorem st_own {x : Str} {e : Expr} {p pos : Pos} {o : Obj} (W : Frm env) (F : FS M₀ f₀ h₀ env own f h mm) (hk : Kind env x) (he : New w A env e o) (ho : o.isFreed = false)
    (k : ∀ h' tk' a, h.get? a = none → FS M₀ f₀ h₀ env ((a, o) :: own) f h' (mm.set x (.ref a)) → wpAny (model PP w) A (execs rest env) Q NoE ⟨h', g, d, tk', os⟩)
    (hs : swapsWith e (some (.Name x p)) pos.line env = pure false := by rfl) : wpAny (model PP w) A (execs (.Assign [.Name x p] e pos :: rest) env) Q NoE ⟨h, g, d, tk, os⟩ := by
  refine wpAny_execs_cons (wpAny_Assign_Name ?_ hs)
  refine he h g d tk os _ ?_
  exact (F.push ho).store W hk fun h2 tk2 F2 => k _ _ _ (size_none h) F2
/-- x.append(e) -/
theorem st_append {x : Str} {e : Expr} {a : Addr} {vs : Array Value} {n : Nat} {y : α} {p1 apos cpos epos : Pos} (W : Frm env) (F : FS M₀ f₀ h₀ env (pre ++ (a, listOf vs n) :: post) f h mm) (X : Var w env h x (.ref a)) (he : Es w A env e f h T y) (hd : ∀ p ∈ pre ++ post, p.1 ≠ a) (hz : vs.size ≤ 1000)
    (k : ∀ f' h' g' d' tk' v n', f.StaysIn f' → Gx g g' → T.is f' y v → FS M₀ f₀ h₀ env (pre ++ (a, listOf (vs.push v) n') :: post) f' h' mm → wpAny (model PP w) A (execs rest env) Q NoE ⟨h', g', d', tk', os⟩)
    (hint : interactive env = false := by rfl)
    (hsw2 : swapsWith (.Call (.Attribute (.Name x p1) "append" apos) [e] [] cpos) none epos.line env = pure false := by rfl)
    (hbase : attributeBase (.Name x p1) "append" env (eval (.Name x p1) env) = eval (.Name x p1) env := by rfl)
    (hfew : ((backTo cpos (starEach [e] env)).all (fun x => !x.1) && (backToKw cpos (keywordEach [] env)).all (fun x => x.1.isSome)
      && decide (([e] : List Expr).length + ([] : List Keyword).length + (if ([] : List Keyword).isEmpty then 0 else 1) < 30)) = true := by rfl)
    (hline : (apos.endLine == cpos.line) = true := by rfl)
    (htrees : backTo cpos (starEach [e] env) = [(false, eval e env)] := by rfl) :
    wpAny (model PP w) A (execs (.Expr (.Call (.Attribute (.Name x p1) "append" apos) [e] [] cpos) epos :: rest) env) Q NoE ⟨h, g, d, tk, os⟩ := by
  have hm : (a, listOf vs n) ∈ pre ++ (a, listOf vs n) :: post := by simp
  refine wpAny_execs_cons (wpAny_Expr (wpAny_Call_append hbase hfew hline htrees ?_) hint hsw2)
  refine (X p1).here (s := ⟨h, g, d, tk, os⟩) ⟨a, vs, rfl, ⟨_, n, (F.own _ hm).1, rfl, rfl, rfl⟩, ?_⟩
  refine he _ _ (.refl F.ext.fh) g d tk os _ fun h1 f1 g1 d1 tk1 v e1 ge1 t1 => ?_
  have F1 := F.grow e1
  refine wpAny_list_append_plain (s := ⟨h1, g1, d1, tk1, os⟩) ⟨n, (F1.own _ hm).1⟩ (fun h2 ⟨n2, a2⟩ s2 => ?_) (by rw [sizeLine_eq]; omega)
  exact k f1 h2 g1 d1 tk1 v n2 e1.fk ge1 t1 (F1.write (fun b o n e => s2.extBut b o n e) a2 hd)
end
end Mine
end
section
open PySem PySem.W PyProof.Rows PySem.Calls
set_option Elab.async false
set_option linter.unusedVariables false
set_option linter.unusedSectionVars false
namespace Mine
section
variable {α β γ : Type} {w : World} {A : Around} {env : Env} {f h : Heap} {T : Ty α} {U : Ty β}
theorem p_add {a b : Int} {u v : Value} (k : f.StaysIn h) (t : Ty.int.is f a u) (t' : Ty.int.is f b v) : Does w A (binaryOp .Add u v) f h fun f' v => Ty.int.is f' (a + b) v := by
  obtain ⟨x, rfl⟩ := t; obtain ⟨y, rfl⟩ := t'
  exact fun g d tk os Q hq => wpAny_add_int (hq _ f g d _ _ (.refl k) (.refl g) ⟨_, rfl⟩)
theorem p_addn {a b : Nat} {u v : Value} (k : f.StaysIn h) (t : Ty.nat.is f a u) (t' : Ty.nat.is f b v) : Does w A (binaryOp .Add u v) f h fun f' v => Ty.nat.is f' (a + b) v := by
  obtain ⟨x, rfl⟩ := t; obtain ⟨y, rfl⟩ := t'
  exact fun g d tk os Q hq => wpAny_add_int (hq _ f g d _ _ (.refl k) (.refl g) ⟨_, rfl⟩)
theorem p_sub {a b : Int} {u v : Value} (k : f.StaysIn h) (t : Ty.int.is f a u) (t' : Ty.int.is f b v) : Does w A (binaryOp .Sub u v) f h fun f' v => Ty.int.is f' (a - b) v := by
  obtain ⟨x, rfl⟩ := t; obtain ⟨y, rfl⟩ := t'
  exact fun g d tk os Q hq => PySem.P.sub_int (hq _ f g d _ _ (.refl k) (.refl g) ⟨_, rfl⟩)
theorem p_mod {a b : Int} {u v : Value} (k : f.StaysIn h) (t : Ty.int.is f a u) (t' : Ty.int.is f b v) (hb : b ≠ 0) : Does w A (binaryOp .Mod u v) f h fun f' v => Ty.int.is f' (a.fmod b) v := by
  obtain ⟨x, rfl⟩ := t; obtain ⟨y, rfl⟩ := t'
  exact fun g d tk os Q hq => mod_int' hb (hq _ f g d _ _ (.refl k) (.refl g) ⟨_, rfl⟩)
theorem p_div {a b : Int} {u v : Value} (k : f.StaysIn h) (t : Ty.int.is f a u) (t' : Ty.int.is f b v) (hb : 0 < b) (hb' : b < 100) : Does w A (binaryOp .FloorDiv u v) f h fun f' v => Ty.int.is f' (a.fdiv b) v := by
  obtain ⟨x, rfl⟩ := t; obtain ⟨y, rfl⟩ := t'
  refine fun g d tk os Q hq => AutoIntOps.floordiv_1 (by simp; omega) ?_ (hq _ f g d _ _ (.refl k) (.refl g) ⟨_, rfl⟩)
  unfold Builtin.divisionGoesByPylong
  have h1 : b ≠ 0 := by omega
  have h2 : b.natAbs.log2 < 10 := (Nat.log2_lt (by omega)).mpr (by omega)
  have h3 : b.natAbs.log2 / 30 = 0 := by omega
  simp [h1, h3]
theorem p_lt {a b : Int} {u v : Value} (k : f.StaysIn h) (t : Ty.int.is f a u) (t' : Ty.int.is f b v) : Does w A (compareOp .Lt u v) f h fun _ v => v = .bool (decide (a < b)) := by
  obtain ⟨x, rfl⟩ := t; obtain ⟨y, rfl⟩ := t'
  exact fun g d tk os Q hq => wpAny_lt_int (hq _ f g d _ _ (.refl k) (.refl g) rfl)
theorem p_ltn {a b : Nat} {u v : Value} (k : f.StaysIn h) (t : Ty.nat.is f a u) (t' : Ty.nat.is f b v) : Does w A (compareOp .Lt u v) f h fun _ v => v = .bool (decide (a < b)) := by
  obtain ⟨x, rfl⟩ := t; obtain ⟨y, rfl⟩ := t'
  refine fun g d tk os Q hq => wpAny_lt_int (hq _ f g d _ _ (.refl k) (.refl g) ?_)
  congr 1; rw [decide_eq_decide]; omega
theorem p_eqi {a b : Int} {u v : Value} (k : f.StaysIn h) (t : Ty.int.is f a u) (t' : Ty.int.is f b v) : Does w A (compareOp .Eq u v) f h fun _ v => v = .bool (decide (a = b)) := by
  obtain ⟨x, rfl⟩ := t; obtain ⟨y, rfl⟩ := t'
  refine fun g d tk os Q hq => wpAny_eq_int (hq _ f g d _ _ (.refl k) (.refl g) ?_)
  congr 1
theorem p_eqn {a b : Nat} {u v : Value} (k : f.StaysIn h) (t : Ty.nat.is f a u) (t' : Ty.nat.is f b v) : Does w A (compareOp .Eq u v) f h fun _ v => v = .bool (decide (a = b)) := by
  obtain ⟨x, rfl⟩ := t; obtain ⟨y, rfl⟩ := t'
  refine fun g d tk os Q hq => wpAny_eq_int (hq _ f g d _ _ (.refl k) (.refl g) ?_)
  congr 1
  by_cases e : a = b
  · subst e; simp
  · rw [decide_eq_false e]; simpa using fun z => e (Int.ofNat.inj z)
theorem p_nen {a b : Nat} {u v : Value} (k : f.StaysIn h) (t : Ty.nat.is f a u) (t' : Ty.nat.is f b v) : Does w A (compareOp .NotEq u v) f h fun _ v => v = .bool (!decide (a = b)) := by
  obtain ⟨x, rfl⟩ := t; obtain ⟨y, rfl⟩ := t'
  refine fun g d tk os Q hq => PySem.P.ne_int (hq _ f g d _ _ (.refl k) (.refl g) ?_)
  congr 1
  by_cases e : a = b
  · subst e; simp
  · rw [decide_eq_false e]; simpa using fun z => e (Int.ofNat.inj z)
/-- what is looked at while more is frozen -/
theorem Does.more {α : Type} {t : Sem α} {P : Addr → Bool} {R : Heap → α → Prop} {R' : Heap → α → Prop} (k : f.StaysIn h) (x : Does w A t (addTo f h P) h R) (r : ∀ f' f'' v, R f' v → f.StaysIn f'' → R' f'' v) : Does w A t f h R' := fun g d tk os Q hq =>
  x g d tk os Q fun h' f' g' d' tk' v e ge z => hq h' (thaw f h h') g' d' tk' v (Ext.all k e.stays) ge (r _ _ _ z (Ext.all k e.stays).fk)
theorem addTo_stays {P : Addr → Bool} (k : f.StaysIn h) : (addTo f h P).StaysIn h := fun b o e => by
  rw [addTo_get k] at e; split at e
  · exact e
  · exact k b o e
theorem addTo_up {P : Addr → Bool} (k : f.StaysIn h) : f.StaysIn (addTo f h P) := fun b o e => by
  rw [addTo_get k]; split
  · exact k b o e
  · exact e
/-- growth seen from a heap with more frozen -/
theorem Ext.more {f' h' : Heap} {P : Addr → Bool} (k : f.StaysIn h) (hp : ∀ b, P b = true → h.get? b ≠ none) (e : Ext Nil f h f' h') : Ext Nil (addTo f h P) h (addTo f' h' P) h' := by
  refine ⟨e.hk, fun b o q => ?_, addTo_stays e.fh, fun b _ n z => ?_⟩
  · rw [addTo_get k] at q; rw [addTo_get e.fh]
    split
    · rename_i hb; rw [if_pos hb] at q; exact e.stays _ _ q
    · rename_i hb; rw [if_neg hb] at q; exact e.fk _ _ q
  · rw [addTo_get k] at z; rw [addTo_get e.fh]
    split
    · rename_i hb; rw [if_pos hb] at z; exact absurd z n
    · rename_i hb; rw [if_neg hb] at z; exact e.new b (fun z => z) n z
theorem Ts.more {x : Expr} {b : Bool} {P : Addr → Bool} (k : f.StaysIn h) (hp : ∀ b, P b = true → h.get? b ≠ none) (t : Ts w A env x (addTo f h P) h b) : Ts w A env x f h b := fun f' h' e =>
  (t _ _ (e.more k hp)).more e.fh fun _ _ _ z _ => z
theorem Es.more {x : Expr} {T : Ty α} {a : α} {P : Addr → Bool} (k : f.StaysIn h) (hp : ∀ b, P b = true → h.get? b ≠ none) (t : Es w A env x (addTo f h P) h T a) (r : ∀ f' f'' v, T.is f' a v → f.StaysIn f'' → T.is f'' a v) : Es w A env x f h T a := fun f' h' e =>
  (t _ _ (e.more k hp)).more e.fh fun _ _ _ z q => r _ _ _ z (fun b o y => q b o (e.fk b o y))
end
end Mine
end
section
open PySem PySem.W PyProof.Rows PySem.Calls
set_option Elab.async false
set_option linter.unusedVariables false
namespace Mine
theorem fillLa : PySem.Challenge.rw_fi0012_01 = PySem.Challenge.rw_fi0012_01 ∧ hd.heap_39 = hd.heap_39 := by
  k_fill
  exact ⟨rfl, rfl⟩
/-- lark's symbols -/
def Ty.sym : Ty Sy := ⟨fun f x v => ∃ a t, v = .ref a ∧ Named f a 228 #[.str x.1 t, .bool x.2], fun k ⟨a, t, e, n⟩ => ⟨a, t, e, n.keeps k⟩⟩
section
variable {w : World} {A : Around} {env : Env} {f h : Heap}
theorem p_symNew (K : Ok w f) (kf : f.StaysIn h) (rm : Rm A 100) {u v : Value} {n : Str} {b : Bool} (tu : Ty.str.is f n u) (tv : Ty.bool.is f b v) : Does w A (call (.ref 228) [u, v]) f h fun f' r => Ty.sym.is f' (n, b) r := by
  obtain ⟨t, rfl⟩ := tu
  obtain rfl := tv
  refine Does.of kf fun g d tk os Q hq => symNew (fun a o e => kf _ _ (K.X a o e)) rm.hh rm.depth (Nat.le_trans rm.units (by omega)) fun h' tk' a dd ks na nd => hq h' tk' _ ks ⟨a, t, rfl, dd, ?_, ?_⟩
  · exact Ext.all_new kf ks na
  · exact Ext.all_new kf ks nd
theorem v_glob {x : Str} {v : Value} (K : Ok w f) (kf : f.StaysIn h) (e : nsIn (hd.heap_39 w.params) mainGlobals x = some (some v)) (hk : env.scope.kind = .function := by rfl) (hl : env.kindOf x = some .globalImplicit := by rfl) (hg : env.globals = mainGlobals := by rfl) (hd : (x == ("__debug__" : Str)) = false := by decide) : Var w env h x v := .glob K kf e hg hk hl hd
theorem v_built {x : Str} {v : Value} (K : Ok w f) (kf : f.StaysIn h) (e : nsIn (hd.heap_39 w.params) mainGlobals x = some none) (hv : bootBuiltins x = some v) (hn : x ≠ "__name__" := by decide) (hk : env.scope.kind = .function := by rfl) (hl : env.kindOf x = some .globalImplicit := by rfl) (hg : env.globals = mainGlobals := by rfl) (hb : env.builtins = builtinsNs := by rfl) (hd : (x == ("__debug__" : Str)) = false := by decide) : Var w env h x v := .built K kf e hv hn hg hb hk hl hd
theorem kp_ref {a : Addr} (K : Ok w f) (kf : f.StaysIn h) (e : keepIn (hd.heap_39 w.params) (.ref a) = true) : Kp w h (.ref a) := .ref (fun a o e => kf _ _ (K.X a o e)) e
set_option maxRecDepth 100000 in
theorem p_terminal (K : Ok w f) (kf : f.StaysIn h) (rm : Rm A 95) {u : Value} {n : Str} (tu : Ty.str.is f n u) : Does w A (call (.ref 399) [u]) f h fun f' r => Ty.sym.is f' (n, true) r := by
  refine' does_call (binds := [(Str.ofString "name", u), (Str.ofString "filter_out", .bool false)]) K kf ?ho ?hcd ?hr ?hb ?hk ?hcl ?hnd ?body ?c1 ?c2 ?c3
  case ho => k_is
  case hcd => k_is
  case hr => have := rm.depth; omega
  case hb => exact fun g d tk os => binds_K (fun a o e => kf _ _ (K.X a o e)) rfl (by k_is) rfl rfl rfl
  case hk => rfl
  case hcl => rfl
  case hnd => decide
  case c1 => rfl
  case c2 => rfl
  case c3 => rfl
  case body =>
    intro L h₁ g d tk os W F
    refine st_ret F (es_call (v_glob K F.ext.fh (by k_is)) (kp_ref K F.ext.fh (by k_is)) (args2 (es_name (F.var W rfl rfl) tu) es_bool) fun f' h' vs k ⟨v, v2, e, t1, t2⟩ => ?_) fun f' h' g' d' tk' v k ge t F' => .of F' ge t
    subst e
    exact p_symNew (K.keeps k.fk) k.fh (rm.deeper.mono) t1 t2
set_option maxRecDepth 100000 in
theorem p_nonterminal (K : Ok w f) (kf : f.StaysIn h) (rm : Rm A 95) {u : Value} {n : Str} (tu : Ty.str.is f n u) : Does w A (call (.ref 406) [u]) f h fun f' r => Ty.sym.is f' (n, false) r := by
  refine' does_call (binds := [(Str.ofString "name", u)]) K kf ?ho ?hcd ?hr ?hb ?hk ?hcl ?hnd ?body ?c1 ?c2 ?c3
  case ho => k_is
  case hcd => k_is
  case hr => have := rm.depth; omega
  case hb => exact fun g d tk os => BindsTo.of_eq rfl
  case hk => rfl
  case hcl => rfl
  case hnd => decide
  case c1 => rfl
  case c2 => rfl
  case c3 => rfl
  case body =>
    intro L h₁ g d tk os W F
    refine st_ret F (es_call (v_glob K F.ext.fh (by k_is)) (kp_ref K F.ext.fh (by k_is)) (args2 (es_name (F.var W rfl rfl) tu) es_bool) fun f' h' vs k ⟨v, v2, e, t1, t2⟩ => ?_) fun f' h' g' d' tk' v k ge t F' => .of F' ge t
    subst e
    exact p_symNew (K.keeps k.fk) k.fh (rm.deeper.mono) t1 t2
theorem ty_list : typeLookup (.type "list") "__getitem__" = pure (some (.builtin "list.__getitem__")) := PySem.F.slot_list_getitem.lookup
theorem ty_tup : typeLookup (.type "tuple") "__getitem__" = pure (some (.builtin "tuple.__getitem__")) := PySem.F.slot_tuple_getitem.lookup
theorem isT_list {α : Type} {T : Ty α} {xs : List α} {u : Value} (k : f.StaysIn h) (t : (Ty.list T).is f xs u) (g d tk os) : (⟨h, g, d, tk, os⟩ : Shared).TypeIs u "list" := let ⟨a, vs, n, e, q, _⟩ := t; e ▸ ⟨_, k _ _ q, rfl⟩
theorem isT_tup {α : Type} {T : Ty α} {xs : List α} {u : Value} (k : f.StaysIn h) (t : (Ty.tup T).is f xs u) (g d tk os) : (⟨h, g, d, tk, os⟩ : Shared).TypeIs u "tuple" := let ⟨a, vs, n, e, q, _⟩ := t; e ▸ ⟨_, k _ _ q, rfl⟩
theorem isT_pair {α β : Type} {T : Ty α} {U : Ty β} {x : α × β} {u : Value} (k : f.StaysIn h) (t : (Ty.pair T U).is f x u) (g d tk os) : (⟨h, g, d, tk, os⟩ : Shared).TypeIs u "tuple" := let ⟨a, v1, v2, n, e, q, _⟩ := t; e ▸ ⟨_, k _ _ q, rfl⟩
theorem es_fst {α β : Type} {T : Ty α} {U : Ty β} {x : α × β} {e : Expr} {k' p pos} (he : Es w A env e f h (.pair T U) x) : Es w A env (.Subscript e (.Constant (.int 0) k' p) pos) f h T x.1 :=
  es_sub he es_int ty_tup (fun f' h' u k t => isT_pair k.fh t) (fun f' h' u v k t ti => p_fst k.fh t ti)
theorem es_snd {α β : Type} {T : Ty α} {U : Ty β} {x : α × β} {e : Expr} {k' p pos} (he : Es w A env e f h (.pair T U) x) : Es w A env (.Subscript e (.Constant (.int 1) k' p) pos) f h U x.2 :=
  es_sub he es_int ty_tup (fun f' h' u k t => isT_pair k.fh t) (fun f' h' u v k t ti => p_snd k.fh t ti)
set_option maxRecDepth 100000 in
theorem p_lark (K : Ok w f) (kf : f.StaysIn h) (rm : Rm A 90) {u : Value} {x : Sy} (tu : Ty.law.is f x u) : Does w A (call (.ref 454) [u]) f h fun f' r => Ty.sym.is f' x r := by
  refine' does_call (binds := [(Str.ofString "x", u)]) K kf ?ho ?hcd ?hr ?hb ?hk ?hcl ?hnd ?body ?c1 ?c2 ?c3
  case ho => k_is
  case hcd => k_is
  case hr => have := rm.depth; omega
  case hb => exact fun g d tk os => BindsTo.of_eq rfl
  case hk => rfl
  case hcl => rfl
  case hnd => decide
  case c1 => rfl
  case c2 => rfl
  case c3 => rfl
  case body =>
    intro L h₁ g d tk os W F
    refine st_ret F (es_ite (T := Ty.sym) (a := x) (es_snd (T := Ty.str) (U := Ty.bool) (es_name (F.var W rfl rfl) tu)).test ?_ ?_) fun f' h' g' d' tk' v k ge t F' => .of F' ge t
    · intro hb
      refine es_call (v_glob K F.ext.fh (by k_is)) (kp_ref K F.ext.fh (by k_is)) (args1 (es_fst (T := Ty.str) (U := Ty.bool) (es_name (F.var W rfl rfl) tu))) fun f' h' vs k ⟨v, e, t1⟩ => ?_
      subst e
      have : x = (x.1, true) := by rw [← hb]
      rw [this]
      exact p_terminal (K.keeps k.fk) k.fh (rm.deeper.mono) t1
    · intro hb
      refine es_call (v_glob K F.ext.fh (by k_is)) (kp_ref K F.ext.fh (by k_is)) (args1 (es_fst (T := Ty.str) (U := Ty.bool) (es_name (F.var W rfl rfl) tu))) fun f' h' vs k ⟨v, e, t1⟩ => ?_
      subst e
      have : x = (x.1, false) := by rw [← hb]
      rw [this]
      exact p_nonterminal (K.keeps k.fk) k.fh (rm.deeper.mono) t1
end
end Mine
end
section
open PySem PySem.W PyProof.Rows PySem.Calls
set_option Elab.async false
set_option linter.unusedVariables false
set_option linter.unusedSectionVars false
namespace Mine
theorem nodup_le {α : Type} [DecidableEq α] : ∀ {l m : List α}, l.Nodup → (∀ x ∈ l, x ∈ m) → l.length ≤ m.length
  | [], _, _, _ => Nat.zero_le _
  | x :: l, m, h, k => by
    obtain ⟨h1, h2⟩ := List.nodup_cons.mp h
    have hx := k x (.head _)
    have := nodup_le (l := l) (m := m.erase x) h2 fun y hy => by
      have ne : y ≠ x := fun e => h1 (e ▸ hy)
      exact (List.mem_erase_of_ne ne).mpr (k y (.tail _ hy))
    rw [List.length_erase_of_mem hx] at this
    have : 0 < m.length := List.length_pos_of_mem hx
    simp only [List.length_cons]; omega
theorem srt_nodup {α : Type} [DecidableEq α] {lt : α → α → Bool} (T : IsLt lt) (l : List α) : (srt lt l).Nodup := by
  refine (srt_sorted T l).imp fun {a b} h e => ?_
  subst e
  have := T.asym h
  rw [h] at this; cases this
theorem srt_len {α : Type} [DecidableEq α] {lt : α → α → Bool} (T : IsLt lt) (l : List α) : (srt lt l).length ≤ l.length := nodup_le (srt_nodup T l) fun x hx => srt_mem.mp hx
/-- is in the list, told one way -/
def has {α : Type} [DecidableEq α] (x : α) (l : List α) : Bool := decide (x ∈ l)
theorem has_iff {α : Type} [DecidableEq α] {x : α} {l : List α} : has x l = true ↔ x ∈ l := by simp [has]
theorem has_not {α : Type} [DecidableEq α] {x : α} {l : List α} : has x l = false ↔ x ∉ l := by simp [has]
inductive Reach {α : Type} (R : α → α → Prop) (x : α) : α → Prop
  | refl : Reach R x x
  | step {y z : α} : Reach R x y → R y z → Reach R x z
section
variable {α : Type} [DecidableEq α]
structure ComeInv (pairs : List (α × α)) (x : α) (found : List α) (place : Nat) : Prop where
  nodup : found.Nodup
  start : x ∈ found
  reach : ∀ z ∈ found, Reach (fun a b => (a, b) ∈ pairs) x z
  closed : ∀ i, i < place → ∀ y, found[i]? = some y → ∀ z, (y, z) ∈ pairs → z ∈ found
  le : place ≤ found.length
structure Come (pairs : List (α × α)) (x : α) (found : List α) : Prop where
  nodup : found.Nodup
  mem : ∀ z, z ∈ found ↔ Reach (fun a b => (a, b) ∈ pairs) x z
variable {pairs : List (α × α)} {x : α} {found : List α} {place : Nat}
theorem reach_sub {z : α} (h : Reach (fun a b => (a, b) ∈ pairs) x z) : z ∈ x :: pairs.map Prod.snd := by
  cases h with
  | refl => exact .head _
  | step _ h => exact .tail _ (List.mem_map.mpr ⟨_, h, rfl⟩)
theorem ComeInv.len (I : ComeInv pairs x found place) : found.length ≤ pairs.length + 1 := by
  have := nodup_le I.nodup fun z hz => reach_sub (I.reach z hz)
  simpa using this
theorem ComeInv.first : ComeInv pairs x [x] 0 :=
  ⟨by simp, by simp, fun z hz => by simp at hz; subst hz; exact .refl, fun i hi => by omega, by simp⟩
theorem ComeInv.next {lt : α → α → Bool} (T : IsLt lt) {y : α} (I : ComeInv pairs x found place) (hy : found[place]? = some y) :
    ComeInv pairs x (found ++ srt lt ((pairs.filter fun p => decide (p.1 = y) && !has p.2 found).map Prod.snd)) (place + 1) := by
  have key : ∀ z, z ∈ srt lt ((pairs.filter fun p => decide (p.1 = y) && !has p.2 found).map Prod.snd) ↔ (y, z) ∈ pairs ∧ z ∉ found := fun z => by
    rw [srt_mem, List.mem_map]
    constructor
    · rintro ⟨⟨a, b⟩, h, rfl⟩
      rw [List.mem_filter] at h
      simp [has] at h
      obtain ⟨h1, rfl, h3⟩ := h
      exact ⟨h1, h3⟩
    · rintro ⟨h1, h2⟩
      exact ⟨(y, z), by rw [List.mem_filter]; simp [has, h1, h2], rfl⟩
  have hp : place < found.length := (List.getElem?_eq_some_iff.mp hy).1
  refine ⟨?_, List.mem_append.mpr (.inl I.start), fun z hz => ?_, fun i hi y' hy' z hz => ?_, by rw [List.length_append]; omega⟩
  · refine List.nodup_append.mpr ⟨I.nodup, srt_nodup T _, fun a ha b hb e => ?_⟩
    subst e; exact ((key a).mp hb).2 ha
  · rcases List.mem_append.mp hz with h | h
    · exact I.reach z h
    · exact .step (I.reach y (List.mem_of_getElem? hy)) ((key z).mp h).1
  · rw [List.getElem?_append_left (by omega)] at hy'
    by_cases q : i = place
    · subst q
      rw [hy] at hy'; cases hy'
      by_cases m : z ∈ found
      · exact List.mem_append.mpr (.inl m)
      · exact List.mem_append.mpr (.inr ((key z).mpr ⟨hz, m⟩))
    · exact List.mem_append.mpr (.inl (I.closed i (by omega) y' hy' z hz))
theorem ComeInv.last (I : ComeInv pairs x found place) (h : ¬ place < found.length) : Come pairs x found := by
  refine ⟨I.nodup, fun z => ⟨I.reach z, fun hr => ?_⟩⟩
  induction hr with
  | refl => exact I.start
  | step _ hz ih =>
    obtain ⟨i, hi⟩ := List.getElem?_of_mem ih
    have := (List.getElem?_eq_some_iff.mp hi).1
    exact I.closed i (by omega) _ hi _ hz
end
end Mine
end
section
open PySem PySem.W PyProof.Rows PySem.Calls
set_option Elab.async false
set_option linter.unusedVariables false
set_option linter.unusedSectionVars false
namespace Mine
section
variable {α β γ : Type} {w : World} {A : Around} {env cenv : Env} {f h : Heap} {T : Ty α} {U : Ty β} {M₀ : Addr → Prop} {f₀ h₀ : Heap} {own : Own} {mm : Vars}
theorem p_eq_law {x y : Sy} {u v : Value} (kf : f.StaysIn h) (rm : Rm A 200) (tu : Ty.law.is f x u) (tv : Ty.law.is f y v) : Does w A (compareOp .Eq u v) f h fun _ v => v = .bool (decide (x = y)) := by
  obtain ⟨a, u1, u2, n, rfl, e, ⟨t, rfl⟩, q⟩ := tu
  cases q
  obtain ⟨b, v1, v2, n', rfl, e', ⟨t', rfl⟩, q'⟩ := tv
  cases q'
  intro g d tk os Q hq
  refine rich_tup (K := leafKind PP w f) (x := [Leaf.s x.1, Leaf.b x.2]) (y := [Leaf.s y.1, Leaf.b y.2]) (s := ⟨h, g, d, tk, os⟩) tupCls_tuple (by have := rm.units; have : cLine = 9900 := rfl; show A.units + 10 * (0 + 1) < _; omega) kf ⟨⟨_, n, e, rfl, rfl⟩⟩ ⟨⟨_, n', e', rfl, rfl⟩⟩ (.cons ⟨t, rfl⟩ (.cons rfl .nil)) (.cons ⟨t', rfl⟩ (.cons rfl .nil)) fun tk' => ?_
  have : decide ([Leaf.s x.1, Leaf.b x.2] = [Leaf.s y.1, Leaf.b y.2]) = decide (x = y) := by
    obtain ⟨a, b⟩ := x; obtain ⟨c, d⟩ := y
    rw [decide_eq_decide]; simp
  rw [this]
  exact hq _ f g d _ _ (.refl kf) (.refl g) rfl
/-- a captured name in a comprehension -/
theorem FS.fvar {x : Str} {v : Value} {c : Addr} (F : FS M₀ f₀ h₀ env own f h mm) (e : mm x = some v) (hc : env.cells.lookup x = some c) (hc' : cenv.cells.lookup x = some c := by rfl) (hk : cenv.scope.kind = .function := by rfl) (hl : cenv.kindOf x = some .cell := by rfl) (hd : (x == ("__debug__" : Str)) = false := by decide) : Var w cenv h x v :=
  .cell (e ▸ (F.cell x c hc).1) hc' hk hl hd
theorem FS.fvk {h' : Heap} {x : Str} {v : Value} {c : Addr} (F : FS M₀ f₀ h₀ env own f h mm) (k : h.StaysIn h') (e : mm x = some v) (hc : env.cells.lookup x = some c) (hc' : cenv.cells.lookup x = some c := by rfl) (hk : cenv.scope.kind = .function := by rfl) (hl : cenv.kindOf x = some .cell := by rfl) (hd : (x == ("__debug__" : Str)) = false := by decide) : Var w cenv h' x v :=
  (F.fvar e hc hc' hk hl hd).keeps k
theorem es_len_list {x : Str} {p pos : Pos} {e : Expr} {xs : List α} (X : Var w env h x (.builtin "len")) (y : Es w A env e f h (.list T) xs) (hz : xs.length ≤ 1000) (he : starEach [e] env = (false, eval e env) :: starEach [] env := by rfl)
    (hpl : (backTo pos (starEach [e] env)).any (·.1) = false := by rfl) (hn : [e] = [] ∨ ∃ x r, backTo pos (starEach [e] env) = (false, x) :: r := by first | exact .inl rfl | exact .inr ⟨_, _, rfl⟩) : Es w A env (.Call (.Name x p) [e] [] pos) f h .nat xs.length :=
  es_call X Kp.builtin (args1 y he) (fun f' h' vs k ⟨v, e, t⟩ => by subst e; exact p_len_list k.fh t hz) hpl hn
theorem es_len_tup {x : Str} {p pos : Pos} {e : Expr} {xs : List α} (X : Var w env h x (.builtin "len")) (y : Es w A env e f h (.tup T) xs) (hz : xs.length ≤ 1000) (he : starEach [e] env = (false, eval e env) :: starEach [] env := by rfl)
    (hpl : (backTo pos (starEach [e] env)).any (·.1) = false := by rfl) (hn : [e] = [] ∨ ∃ x r, backTo pos (starEach [e] env) = (false, x) :: r := by first | exact .inl rfl | exact .inr ⟨_, _, rfl⟩) : Es w A env (.Call (.Name x p) [e] [] pos) f h .nat xs.length :=
  es_call X Kp.builtin (args1 y he) (fun f' h' vs k ⟨v, e, t⟩ => by subst e; exact p_len_tup k.fh t hz) hpl hn
theorem es_set [DecidableEq α] (D : Kd w α) {x : Str} {p pos : Pos} {e : Expr} {xs : List α} (rm : Rm A 200) (X : Var w env h x (.type "set")) (y : Es w A env e f h (.list D.T) xs) (hz : xs.length < 64) (he : starEach [e] env = (false, eval e env) :: starEach [] env := by rfl)
    (hpl : (backTo pos (starEach [e] env)).any (·.1) = false := by rfl) (hn : [e] = [] ∨ ∃ x r, backTo pos (starEach [e] env) = (false, x) :: r := by first | exact .inl rfl | exact .inr ⟨_, _, rfl⟩) : Es w A env (.Call (.Name x p) [e] [] pos) f h D.set xs :=
  es_call X Kp.type (args1 y he) (fun f' h' vs k ⟨v, e, t⟩ => by subst e; exact p_set D k.fh rm t hz) hpl hn
theorem es_sorted_set [DecidableEq α] (D : Kd w α) {x : Str} {p pos : Pos} {e : Expr} {xs : List α} (rm : Rm A 200) (X : Var w env h x (.builtin "sorted")) (y : Es w A env e f h D.set xs) (hz : xs.length < 64) (he : starEach [e] env = (false, eval e env) :: starEach [] env := by rfl)
    (hpl : (backTo pos (starEach [e] env)).any (·.1) = false := by rfl) (hn : [e] = [] ∨ ∃ x r, backTo pos (starEach [e] env) = (false, x) :: r := by first | exact .inl rfl | exact .inr ⟨_, _, rfl⟩) : Es w A env (.Call (.Name x p) [e] [] pos) f h (.list D.T) (srt D.lt xs) :=
  es_call X Kp.builtin (args1 y he) (fun f' h' vs k ⟨v, e, t⟩ => by subst e; exact p_sorted_set D k.fh rm t hz) hpl hn
theorem es_sorted_list [DecidableEq α] (D : Kd w α) {x : Str} {p pos : Pos} {e : Expr} {xs : List α} (rm : Rm A 200) (X : Var w env h x (.builtin "sorted")) (y : Es w A env e f h (.list D.T) xs) (hd : xs.Nodup) (hz : xs.length < 64) (he : starEach [e] env = (false, eval e env) :: starEach [] env := by rfl)
    (hpl : (backTo pos (starEach [e] env)).any (·.1) = false := by rfl) (hn : [e] = [] ∨ ∃ x r, backTo pos (starEach [e] env) = (false, x) :: r := by first | exact .inl rfl | exact .inr ⟨_, _, rfl⟩) : Es w A env (.Call (.Name x p) [e] [] pos) f h (.list D.T) (srt D.lt xs) :=
  es_call X Kp.builtin (args1 y he) (fun f' h' vs k ⟨v, e, t⟩ => by subst e; exact p_sorted_list D k.fh rm t hd hz) hpl hn
theorem es_item_list {e i : Expr} {pos : Pos} {xs : List α} {n : Nat} {a : α} (he : Es w A env e f h (.list T) xs) (hi : Es w A env i f h .nat n) (hn : n < 1000) (hx : xs[n]? = some a)
    (hs : ∀ o v, subscripted i false o v = operate [o, v] (getItem o v) ∨ subscripted i false o v = operate [v, o] (getItem o v) := by intro _ _; first | exact .inl rfl | exact .inr rfl) : Es w A env (.Subscript e i pos) f h T a :=
  es_sub he hi ty_list (fun f' h' u k t => isT_list k.fh t) (fun f' h' u v k t ti => p_item_list k.fh t ti (by omega) hx) hs
theorem es_item_tup {e i : Expr} {pos : Pos} {xs : List α} {n : Nat} {a : α} (he : Es w A env e f h (.tup T) xs) (hi : Es w A env i f h .nat n) (hz : xs.length ≤ 1000) (hx : xs[n]? = some a)
    (hs : ∀ o v, subscripted i false o v = operate [o, v] (getItem o v) ∨ subscripted i false o v = operate [v, o] (getItem o v) := by intro _ _; first | exact .inl rfl | exact .inr rfl) : Es w A env (.Subscript e i pos) f h T a :=
  es_sub he hi ty_tup (fun f' h' u k t => isT_tup k.fh t) (fun f' h' u v k t ti => p_item_tup k.fh t ti hz hx) hs
theorem ts_in [DecidableEq α] (D : Kd w α) {l e : Expr} {pos : Pos} {x : α} {xs : List α} (rm : Rm A 200) (hx : Es w A env l f h D.T x) (hl : Es w A env e f h (.list D.T) xs) (hm : behindInMarks .In e = false := by with_unfolding_all rfl) : Ts w A env (.Compare l [.In] [e] pos) f h (has x xs) :=
  ts_cmp hx hl (fun f' h' u v k t t' => p_in D k.fh rm t t') hm
theorem ts_notin [DecidableEq α] (D : Kd w α) {l e : Expr} {pos : Pos} {x : α} {xs : List α} (rm : Rm A 200) (hx : Es w A env l f h D.T x) (hl : Es w A env e f h (.list D.T) xs) (hm : behindInMarks .NotIn e = false := by with_unfolding_all rfl) : Ts w A env (.Compare l [.NotIn] [e] pos) f h (!has x xs) :=
  ts_cmp hx hl (fun f' h' u v k t t' => p_notin D k.fh rm t t') hm
end
end Mine
end
section
open PySem PySem.W PyProof.Rows PySem.Calls
set_option Elab.async false
set_option linter.unusedVariables false
set_option linter.unusedSectionVars false
namespace Mine
section
variable {α β γ : Type} {w : World} {A : Around} {env : Env} {f h : Heap} {T : Ty α} {U : Ty β} {M₀ : Addr → Prop} {f₀ h₀ : Heap} {own : Own} {mm : Vars} {Q : Flow → Shared → Prop} {rest : List Stmt} {g : Array GenState} {d : Drawn} {tk : Nat} {os : OsState}
/-- a comprehension handed to a name -/
theorem st_comp {old : Addr → Prop} {y : Str} {py spos : Pos} {elt tgt iter : Expr} {ifs : List Expr} {scope : Scope} {cl : List (Str × Addr)} {pos : Pos} {xs : List α} (p : α → Bool) (fn : α → β) (B : Heap → α → (Str → Option Value) → Prop)
    (W : Frm env) (F : FS M₀ f₀ h₀ env own f h mm) (hk : env.kindOf y = some .local) (hclos : closureFor scope env = pure cl) (hi : Itr w A env tgt iter f h old T xs) (tk_ : ∀ C, Takes w A tgt (compEnvC scope cl C env) T B) (hz : xs.length ≤ 1000)
    (tests : ∀ C f' h' m x, x ∈ xs → Ext Nil f h f' h' → h'.Ns C m → B f' x m → Does w A (testsOf ifs (compEnvC scope cl C env)) f' h' fun _ b => b = p x)
    (helt : ∀ C f' h' m x, x ∈ xs → p x = true → Ext Nil f h f' h' → h'.Ns C m → B f' x m → Does w A (eval elt (compEnvC scope cl C env)) f' h' fun f'' v => U.is f'' (fn x) v)
    (k : ∀ f' h' g' d' tk' v, f.StaysIn f' → Gx g g' → (Ty.list U).is f' ((xs.filter p).map fn) v → FS M₀ f₀ h₀ env own f' h' (mm.set y v) → wpAny (model PP w) A (execs rest env) Q NoE ⟨h', g', d', tk', os⟩)
    (hcell : ∀ x ∈ scope.names, x.2 ≠ .cell := by decide) (hkind : scope.kind = .function := by rfl) (hnames : ∀ x ∈ scope.names, x.2 = .local → scope.names.lookup x.1 = some .local := by decide)
    (hs : ∀ x, foldedSetIterable iter env x = pure x := by intro _; rfl) (hsw : swapsWith (.ListComp elt [⟨tgt, iter, ifs, 0⟩] scope pos) (some (.Name y py)) spos.line env = pure true := by rfl) :
    wpAny (model PP w) A (execs (.Assign [.Name y py] (.ListComp elt [⟨tgt, iter, ifs, 0⟩] scope pos) spos :: rest) env) Q NoE ⟨h, g, d, tk, os⟩ := by
  refine wpAny_execs_cons ?_
  rw [exec_Assign_Name_used _ _ _ _ hsw]
  refine wpAny_bind (wpAny_standAt (wpAny_bind ?_))
  show wpAny _ A (do let _ ← comprehension (.ListComp elt [⟨tgt, iter, ifs, 0⟩] scope pos) scope env _ (newList []) false (eval iter env) (some (assign (.Name y py) env))) _ _ _
  refine wpAny_bind (wpAny_mono (wpAny_comprehension_free (use := some (assign (.Name y py) env)) (Q := fun _ s' => wpAny (model PP w) A (execs rest env) Q NoE s') rfl hs hclos hkind hnames
    (compCore (RR := fun acc C => compPost (model PP w) A NoE (some (assign (.Name y py) env)) (fun _ s' => wpAny (model PP w) A (execs rest env) Q NoE s') acc C) p fn B hcell hkind hi tk_ hz tests helt (.refl F.ext.fh) ?_)) (fun _ s' hq => wpAny_pure (wpAny_pure hq)) fun _ _ e => e)
  intro C D h' f' g' d' tk' m' e ge n fC zC t
  have F' := F.grow e
  have nC : ¬ mine env own C := fun m => F.live m zC
  show wpAny _ A (assign (.Name y py) env (.ref D)) _ _ _
  refine wpAny_assign_Name (F'.rebase.store W (.inl hk) fun h2 tk2 G => ?_)
  refine ⟨m', Keep.ns G.ext.hk nC n, fun h3 s3 => ?_⟩
  have F2 := F'.join G
  have F3 := F2.move (M := (· = C)) (.heap F2.ext.fh (fun b o n e => s3.extBut b o n e) fun b z => z ▸ fC) (fun b m z => nC (z ▸ m)) (fun b z => by
    subst z; exact (F.since' (.inl zC)).symm)
  exact k _ _ _ _ _ _ e.fk ge t F3
end
end Mine
end
section
open PySem PySem.W PyProof.Rows PySem.Calls
set_option Elab.async false
set_option linter.unusedVariables false
set_option linter.unusedSectionVars false
namespace Mine
theorem fillUj : PySem.Challenge.rw_fi0012_01 = PySem.Challenge.rw_fi0012_01 ∧ hd.heap_39 = hd.heap_39 := by
  k_fill
  exact ⟨rfl, rfl⟩
theorem pick_nn {α : Type} (l : List α) (lo hi : Option Int) (h1 : ∀ i, lo = some i → 0 ≤ i) (h2 : ∀ i, hi = some i → 0 ≤ i) : pick l lo hi none = cut l (from0 lo) (upto l.length hi) := by
  have key : ∀ a b : Nat, (sliceRange (min a l.length : Nat) (min b l.length : Nat) 1).filterMap (l[·]?) = (l.drop a).take (b - a) := fun a b => by
    unfold sliceRange
    have e1 : (1 : Int) > 0 := by omega
    simp only [e1, if_true, Int.ediv_one]
    generalize hc : (if ((min a l.length : Nat) : Int) < ((min b l.length : Nat) : Int) then ((min b l.length : Nat) : Int) - ((min a l.length : Nat) : Int) + 1 - 1 else 0) = c
    have ec : c.toNat = min b l.length - min a l.length := by subst hc; split <;> omega
    have ef : (fun (k : Nat) => (((min a l.length : Nat) : Int) + 1 * (k : Int)).toNat) = (min a l.length + ·) := by funext k; omega
    rw [ec, ef, picks_cut]
    by_cases q : a ≤ l.length
    · rw [Nat.min_eq_left q]
      by_cases q2 : b ≤ l.length
      · rw [Nat.min_eq_left q2]
      · rw [Nat.min_eq_right (by omega), List.take_of_length_le (by rw [List.length_drop]; omega), List.take_of_length_le (by rw [List.length_drop]; omega)]
    · rw [show min a l.length = l.length by omega, List.drop_length, List.drop_of_length_le (show l.length ≤ a by omega)]; simp
  unfold pick sliceBounds cut
  have e1 : (1 : Int) > 0 := by omega
  simp only [Option.getD_none, e1, if_true]
  have main : ∀ (x y : Int) (a b : Nat), x = ((min a l.length : Nat) : Int) → y = ((min b l.length : Nat) : Int) → (sliceRange x y 1).filterMap (l[·]?) = (l.drop a).take (b - a) := fun x y a b ex ey => by rw [ex, ey]; exact key a b
  refine main _ _ _ _ ?_ ?_
  · cases lo with
    | none => simp [from0]
    | some i => have := h1 i rfl; simp only [from0]; rw [if_neg (by omega)]; omega
  · cases hi with
    | none => simp [upto]
    | some i => have := h2 i rfl; simp only [upto]; rw [if_neg (by omega)]; omega
theorem cut_len {α : Type} (l : List α) (a b : Nat) : (cut l a b).length ≤ b - a := by unfold cut; rw [List.length_take]; omega
theorem cut_le {α : Type} (l : List α) (a b : Nat) : (cut l a b).length ≤ l.length := by unfold cut; rw [List.length_take, List.length_drop]; omega
theorem cut_sub {α : Type} {l : List α} {a b : Nat} {x : α} (h : x ∈ cut l a b) : x ∈ l := List.mem_of_mem_drop (List.mem_of_mem_take h)
def lawSyms : List Sy := [(Str.ofString "s", false), (Str.ofString "a", false), (Str.ofString "b", false), (Str.ofString "c", false), (Str.ofString "s", true), (Str.ofString "a", true), (Str.ofString "b", true), (Str.ofString "c", true)]
section
variable {α β γ : Type} {w : World} {A : Around} {env : Env} {f h : Heap} {T : Ty α} {U : Ty β} {M₀ : Addr → Prop} {f₀ h₀ : Heap} {own pre post : Own} {mm : Vars}
set_option maxRecDepth 100000 in
theorem is_syms (K : Ok w f) : (Ty.list Ty.law).is f lawSyms (.ref 432) := by
  have l : ∀ n, (hd.heap_39 w.params).lookup 432 = some (listOf #[.ref 424, .ref 425, .ref 426, .ref 427, .ref 428, .ref 429, .ref 430, .ref 431] n) → f.get? 432 = some (listOf #[.ref 424, .ref 425, .ref 426, .ref 427, .ref 428, .ref 429, .ref 430, .ref 431] n) := fun n e => K.X _ _ e
  have it : ∀ a n s t b, (hd.heap_39 w.params).lookup a = some (tupleOf #[.str s t, .bool b] n) → Ty.law.is f (s, b) (.ref a) := fun a n s t b e => ⟨a, _, _, n, rfl, K.X _ _ e, ⟨t, rfl⟩, rfl⟩
  refine ⟨432, _, _, rfl, l _ (by k_is), ?_⟩
  refine .cons (it _ _ _ _ _ (by k_is)) (.cons (it _ _ _ _ _ (by k_is)) (.cons (it _ _ _ _ _ (by k_is)) (.cons (it _ _ _ _ _ (by k_is)) (.cons (it _ _ _ _ _ (by k_is)) (.cons (it _ _ _ _ _ (by k_is)) (.cons (it _ _ _ _ _ (by k_is)) (.cons (it _ _ _ _ _ (by k_is)) .nil)))))))
/-- a list that the frame owns, seen as if it were frozen -/
theorem owned_list {a : Addr} {vs : Array Value} {n : Nat} {xs : List α} (F : FS M₀ f₀ h₀ env (pre ++ (a, listOf vs n) :: post) f h mm) (p : Pw (T.is f) xs vs.toList) : (Ty.list T).is (addTo f h (· == a)) xs (.ref a) := by
  refine ⟨a, vs, n, rfl, ?_, p.mono fun x v => T.mono (addTo_up F.ext.fh)⟩
  rw [addTo_get F.ext.fh, if_pos (by simp)]
  exact (F.own (a, listOf vs n) (by simp)).1
theorem es_mod {e : Expr} {k' : Nat} {p pos : Pos} {a : Int} {b : Nat} (x : Es w A env e f h .int a) (hb : 0 < b) : Es w A env (.BinOp e .Mod (.Constant (.int b) k' p) pos) f h .nat (a.fmod b).toNat :=
  (es_bin (V := .int) x es_int (fun f' h' u v k t t' => p_mod k.fh t t' (by omega))).conv fun f' v k ⟨t, e⟩ => ⟨t, by
    have := Int.fmod_nonneg_of_pos a (b := (b : Int)) (by omega)
    rw [e, Int.toNat_of_nonneg this]⟩
theorem es_slice_list {e : Expr} {sl : Expr} {pos : Pos} {xs : List α} {a b c : Option Int} (he : Es w A env e f h (.list T) xs) (hsl : Es w A env sl f h .slice (a, b, c)) (h0 : c ≠ some 0) (hz : xs.length ≤ 1000)
    (hs : ∀ o v, subscripted sl false o v = operate [o, v] (getItem o v) ∨ subscripted sl false o v = operate [v, o] (getItem o v) := by intro _ _; first | exact .inl rfl | exact .inr rfl) :
    Es w A env (.Subscript e sl pos) f h (.list T) (pick xs a b c) :=
  es_sub he hsl ty_list (fun f' h' u k t => isT_list k.fh t) (fun f' h' u v k t ts => p_slice_list k.fh t ts h0 hz) hs
end
end Mine
end
section
open PySem PySem.W PyProof.Rows PySem.Calls
set_option Elab.async false
set_option linter.unusedVariables false
set_option linter.unusedSectionVars false
namespace Mine
theorem fillOa : PySem.Challenge.rw_fi0012_01 = PySem.Challenge.rw_fi0012_01 ∧ hd.heap_39 = hd.heap_39 := by
  k_fill
  exact ⟨rfl, rfl⟩
set_option maxRecDepth 100000 in
theorem symCls {w : World} {f : Heap} (K : Ok w f) : TupCls PP w f (.ref 228) := tupCls_K K.X (by k_is) (by k_is) (by k_is)
def symKind {w : World} {f : Heap} (K : Ok w f) : ItemKind PP w f Sy := ItemKind.of (tupKind (leafKind PP w f) (symCls K)) (fun x => [Leaf.s x.1, Leaf.b x.2]) (fun x y e => by
    obtain ⟨a, b⟩ := x; obtain ⟨c, d⟩ := y; simp at e; exact Prod.ext e.1 e.2) (Ty.sym.is f) fun k v h => by
  obtain ⟨a, t, rfl, n⟩ := h
  obtain ⟨dd, e, e'⟩ := n.at_
  exact ⟨a, _, rfl, ⟨⟨_, 0, e, rfl, rfl⟩⟩, .cons ⟨t, rfl⟩ (.cons rfl .nil)⟩
def symHash (w : World) (x : Sy) : Int := tupHash (leafKind PP w ({} : Heap)) [Leaf.s x.1, Leaf.b x.2]
/-- a dict by symbols -/
abbrev symDic (w : World) (xs : List (Row Sy)) (ep : Nat) : Obj := ⟨.type "dict", none, .dict (xs.map fun x => (⟨symHash w x.1, x.2.1, x.2.2⟩ : DictEntry)).toArray ep, #[]⟩
theorem symDic_eq {w : World} {f : Heap} (K : Ok w f) (xs : List (Row Sy)) (ep : Nat) : symDic w xs ep = dicO (symKind K) xs ep := rfl
/-- the rows of a dict by symbols -/
structure SymRows (f : Heap) (P : Heap → Sy → Value → Prop) (xs : List (Row Sy)) (ks : List Sy) : Prop where
  key : ∀ x ∈ xs, Ty.sym.is f x.1 x.2.1
  val : ∀ x ∈ xs, P f x.1 x.2.2
  keys : xs.map (·.1) = ks
  nodup : ks.Nodup
section
variable {α β γ : Type} {w : World} {A : Around} {env : Env} {f f' h : Heap} {T : Ty α} {U : Ty β} {M₀ : Addr → Prop} {f₀ h₀ : Heap} {own pre post : Own} {mm : Vars} {P : Heap → Sy → Value → Prop} {xs : List (Row Sy)} {ks : List Sy}
theorem SymRows.mono (R : SymRows f P xs ks) (k : f.StaysIn f') (p : ∀ x v, P f x v → P f' x v) : SymRows f' P xs ks := ⟨fun x hx => Ty.mono _ k (R.key x hx), fun x hx => p _ _ (R.val x hx), R.keys, R.nodup⟩
theorem SymRows.len (R : SymRows f P xs ks) : xs.length = ks.length := by rw [← R.keys, List.length_map]
theorem SymRows.keysIn (K : Ok w f) (R : SymRows f P xs ks) : KeysIn (symKind K) xs := ⟨R.key, fun x hx => let ⟨a, t, e, _⟩ := R.key x hx; ⟨a, e⟩, by rw [R.keys]; exact R.nodup⟩
/-- the keys when one is put -/
def addKey {α : Type} [DecidableEq α] (ks : List α) (x : α) : List α := if has x ks then ks else ks ++ [x]
theorem SymRows.put {x : Sy} {a : Addr} {v : Value} (R : SymRows f P xs ks) (hx : Ty.sym.is f x (.ref a)) (hv : P f x v) : SymRows f P (putRow xs x (.ref a) v) (addKey ks x) := by
  unfold putRow addKey
  cases q : placeOf xs x with
  | none =>
    have hn : x ∉ xs.map (·.1) := placeOf_none_iff.mp q
    rw [R.keys] at hn
    rw [if_neg (by rw [has_not.mpr hn]; simp)]
    refine ⟨fun y hy => ?_, fun y hy => ?_, by rw [List.map_append, R.keys]; rfl, ?_⟩
    · rcases List.mem_append.mp hy with h | h
      · exact R.key y h
      · simp at h; subst h; exact hx
    · rcases List.mem_append.mp hy with h | h
      · exact R.val y h
      · simp at h; subst h; exact hv
    · exact List.nodup_append.mpr ⟨R.nodup, by simp, fun b hb c hc e => by simp at hc; subst hc; subst e; exact hn hb⟩
  | some j =>
    have hn : x ∈ ks := by
      refine Classical.byContradiction fun z => ?_
      rw [← R.keys, ← placeOf_none_iff, q] at z; cases z
    rw [if_pos (has_iff.mpr hn)]
    refine ⟨fun y hy => ?_, fun y hy => ?_, by rw [keys_setRow, R.keys], R.nodup⟩
    · obtain ⟨z, hz, rfl⟩ := List.mem_map.mp hy
      rw [(setRow_key x v z).1, (setRow_key x v z).2]
      exact R.key z hz
    · obtain ⟨z, hz, rfl⟩ := List.mem_map.mp hy
      unfold setRow
      split
      · rename_i e; subst e; exact hv
      · exact R.val z hz
/-- an OrderedSet that stands; its dict D may be written -/
def OsAt (f : Heap) (a D : Addr) : Prop := (D == sysModules) = false ∧ ∃ dd hs t n, f.get? a = some (instObj 101 dd) ∧ f.get? dd = some (dictOf [⟨hs, .str (Str.ofString "d") t, .ref D⟩] n)
theorem OsAt.mono {a D : Addr} (k : f.StaysIn f') (x : OsAt f a D) : OsAt f' a D := let ⟨lo, dd, hs, t, n, e, e'⟩ := x; ⟨lo, dd, hs, t, n, k _ _ e, k _ _ e'⟩
def Ty.os : Ty Addr := ⟨fun f D v => ∃ a, v = .ref a ∧ OsAt f a D, fun k ⟨a, e, x⟩ => ⟨a, e, x.mono k⟩⟩
def Ty.osv : Ty (Addr × Addr) := ⟨fun f x v => v = .ref x.1 ∧ OsAt f x.1 x.2, fun k ⟨e, x⟩ => ⟨e, x.mono k⟩⟩
set_option maxRecDepth 100000 in
/-- self.d -/
theorem p_d {D : Addr} {u : Value} (K : Ok w f) (kf : f.StaysIn h) (t : Ty.os.is f D u) : Does w A (getAttr u "d" true) f h fun f'' v => v = .ref D := fun g d tk os Q hq => by
  obtain ⟨a, rfl, lo, dd, hs, tt, n, e, e'⟩ := t
  have X : (hd.heap_39 w.params).In h := fun a o e => kf _ _ (K.X a o e)
  have I : InstAt h a (instObj 101 dd) 101 (some (dictOf [⟨hs, .str (Str.ofString "d") tt, .ref D⟩] n)) := ⟨kf _ _ e, rfl, rfl, kf _ _ e'⟩
  have hg : plainGet (hd.heap_39 w.params) 101 "d" = true := by k_is
  refine get_value (s := ⟨h, g, d, tk, os⟩) X I (plainGet_of hg).1 (findObj_own (show hasDictIn (hd.heap_39 w.params) 101 = true by k_is) (show findIn (hd.heap_39 w.params) (.ref 101) "d" = some none by k_is) rfl rfl) rfl ?_
  exact hq _ f g _ _ _ (.refl kf) (.refl g) rfl
theorem es_d {e : Expr} {pos : Pos} {D : Addr} (K : Ok w f) (he : Es w A env e f h Ty.os D)
    (hee : eval (.Attribute e "d" pos) env = (do
      let o ← eval e env
      standAt pos.atName
      let r ← holding [o] (getAttr o "d" true)
      letTemporaryGo e o r
      pure r) := by with_unfolding_all rfl) : Es w A env (.Attribute e "d" pos) f h Ty.val (.ref D) :=
  es_attr he (fun f' h' u k t => p_d (K.keeps k.fk) k.fh t) hee
/-- a frame that is lent what it may write -/
theorem FS.lend {own : Own} (F : FS Nil f h env [] f h₀ mm) (ho : ∀ p ∈ own, h.get? p.1 = some p.2 ∧ f.get? p.1 = none) : FS (fun b => ∃ o, (b, o) ∈ own) f h env own f h₀ mm := by
  refine ⟨F.ext.up, F.ns, F.Lf, .inl (F.L0.elim id fun z => z.elim), fun n c q => ?_, fun p hp => ?_⟩
  · obtain ⟨a1, a2, a3, a4⟩ := F.cell n c q
    exact ⟨a1, a2, a3, .inl (a4.elim id fun z => z.elim)⟩
  · obtain ⟨b1, b2⟩ := ho p hp
    refine ⟨F.ext.hk _ _ (fun z => z) b1, fun z => ?_, b2, .inr ⟨p.2, hp⟩, fun n q => ?_⟩
    · have := F.L0.elim id fun z => z.elim
      rw [z, this] at b1; cases b1
    · obtain ⟨a1, a2, a3, a4⟩ := F.cell n p.1 q
      have := a4.elim id fun z => z.elim
      rw [this] at b1; cases b1
end
end Mine
end
section
open PySem PySem.W PyProof.Rows PySem.Calls
set_option Elab.async false
set_option linter.unusedVariables false
set_option linter.unusedSectionVars false
namespace Mine
theorem fillOb : PySem.Challenge.rw_fi0012_01 = PySem.Challenge.rw_fi0012_01 ∧ hd.heap_39 = hd.heap_39 := by
  k_fill
  exact ⟨rfl, rfl⟩
theorem valAtRow_has {xs : List (Row Sy)} {ks : List Sy} {x : Sy} (h : xs.map (·.1) = ks) : (valAtRow xs x).isSome = has x ks := by
  unfold valAtRow
  cases q : placeOf xs x with
  | none =>
    have hn := placeOf_none_iff.mp q
    rw [h] at hn
    rw [has_not.mpr hn]; rfl
  | some j =>
    have hn : x ∈ ks := by
      refine Classical.byContradiction fun z => ?_
      rw [← h, ← placeOf_none_iff, q] at z; cases z
    obtain ⟨y, e, _⟩ := placeOf_get q
    rw [has_iff.mpr hn, Option.bind_some, e]; rfl
section
variable {α β γ : Type} {w : World} {A : Around} {env : Env} {f f' h : Heap} {T : Ty α} {U : Ty β} {V : Ty γ} {c : γ} {M₀ : Addr → Prop} {f₀ h₀ : Heap} {own pre post : Own} {mm : Vars} {P : Heap → Sy → Value → Prop} {xs : List (Row Sy)} {ks : List Sy} {ep : Nat} {D : Addr}
  {g : Array GenState} {d : Drawn} {tk : Nat} {os : OsState}
theorem p_in_dic {x : Sy} {u : Value} (K : Ok w f) (kf : f.StaysIn h) (rm : Rm A 200) (lo : (D == sysModules) = false) (e : f.get? D = some (symDic w xs ep)) (R : SymRows f P xs ks) (tx : Ty.sym.is f x u) :
    Does w A (compareOp .In u (.ref D)) f h fun _ v => v = .bool (has x ks) := fun g d tk os Q hq => by
  obtain ⟨a, t, rfl, n⟩ := tx
  refine dicIn (K := symKind K) (xs := xs) (ep := ep) (s := ⟨h, g, d, tk, os⟩) (by show 0 + 1 ≤ 8; omega) (by have := rm.units; have : cLine = 9900 := rfl; show A.units + 1 + 10 * (0 + 1) < _; omega) kf ⟨a, t, rfl, n⟩ lo (kf _ _ e) (R.keysIn K) fun tk' => ?_
  rw [valAtRow_has R.keys]
  exact hq _ f g _ _ _ (.refl kf) (.refl g) rfl
theorem p_len_dic (kf : f.StaysIn h) (lo : (D == sysModules) = false) (e : f.get? D = some (symDic w xs ep)) (hz : xs.length ≤ 1000) : Does w A (call (.builtin "len") [.ref D]) f h fun _ v => ∃ t, v = .int xs.length t := fun g d tk os Q hq => by
  have ht : (⟨h, g, d, tk, os⟩ : Shared).TypeIs (.ref D) "dict" := ⟨_, kf _ _ e, rfl⟩
  refine Calls.call_function_entry kind_len plain_len entry_len (args_len1 _) ?_
  unfold Builtin.«len»
  refine wpAny_bind (m := oneArg "len" _) (wpAny_pure ?_)
  refine wpAny_bind (m := callSpecial? (.ref D) (Str.ofString "__len__")) (wpAny_callSpecial?_slot (name := Str.ofString "__len__") ht PySem.F.slot_dict_len (wpAny_call_entry PySem.F.slot_dict_len ht PySem.F.entry_dict_len ?_ (PySem.F.args_dict_len_1 _)))
  show wpAny _ _ (dictSize D >>= _) _ _ _
  unfold dictSize
  refine wpAny_bind (wpAny_bind (wpAny_dictEntries (s := ⟨h, g, d, tk, os⟩) (kf _ _ e) rfl (wpAny_pure ?_)))
  show wpAny _ _ (Builtin.Dict.pendingCount D >>= _) _ _ _
  refine wpAny_bind (wpAny_pendingCount_other lo ?_)
  refine wpAny_bind (wpAny_mkInt (wpAny_pure ⟨_, rfl, ?_⟩))
  refine wpAny_bind (wpAny_holding (wpAny_pure ?_))
  refine wpAny_bind (wpAny_letGo ?_)
  rw [Nat.add_zero, List.size_toArray, List.length_map]
  show wpAny _ _ (if ((xs.length : Nat) : Int) < 0 then _ else _) _ _ _
  rw [if_neg (by omega)]
  show wpAny _ _ (if ((xs.length : Nat) : Int) ≥ 2 ^ 63 then _ else _) _ _ _
  rw [if_neg (by omega)]
  exact wpAny_bind (wpAny_mkInt (wpAny_pure ⟨_, rfl, hq _ f g _ _ _ (.refl kf) (.refl g) ⟨_, rfl⟩⟩))
theorem bools_of {bs : List Bool} {vs : List Value} (p : Pw (Ty.bool.is f) bs vs) : PyProof.Rows.LSm.BoolsAre vs bs := by
  induction p with
  | nil => exact .nil
  | cons h _ ih => cases h; exact .cons _ ih
/-- all of a list of truths -/
theorem p_all {bs : List Bool} {u : Value} (hh : A.handled = none) (kf : f.StaysIn h) (t : (Ty.list Ty.bool).is f bs u) : Does w A (call (.builtin "all") [u]) f h fun _ v => v = .bool (bs.all id) := by
  obtain ⟨l, vs, n, rfl, e, p⟩ := t
  have hb := bools_of p
  refine .of kf fun g d tk os Q hq => ?_
  have hlt : l < h.objs.size := Heap.lt_size (kf _ _ e)
  have hl : h.IsList l vs := IsList.of (kf _ _ e)
  refine call_all_walk (s := ⟨h, g, d, tk, os⟩) (wpAny_pyIter_list (s := ⟨h, g, d, tk, os⟩) hl ?_)
  refine ⟨h.objs.size, [h.objs.size, l], [h.objs.size], vs.size, _, _, fun i => (bs[i]?).getD true, rfl, Walks.list (A := A.in1) hh _ l (Nat.ne_of_lt hlt) vs,
    ⟨⟨_, Heap.get?_push_size _ rfl, rfl, rfl⟩, hl.push _⟩, fun i v s' Q' E' hP hQ => ?_, fun h' tk hk => ?_⟩
  · obtain ⟨b, e, rfl⟩ := hb.get i v (by simpa using hP)
    simp only [e, Option.getD_some] at hQ
    exact wpAny_truthy_bool hQ
  · have e : ((List.range vs.size).all fun i => (bs[i]?).getD true) = bs.all id := by
      have := hb.length
      rw [Array.length_toList] at this
      rw [this]; exact PyProof.Rows.LSm.range_all bs
    rw [e]
    exact hq h' tk _ (PyProof.Rows.LSm.kept_iter (s := ⟨h, g, d, tk, os⟩) hk) rfl
/-- calls, whatever comes -/
theorem callWith_any {fv : Value} {first : List Value} {es : List Expr} {PA : Heap → List Value → Prop} {pos : Pos} {Q : Value → Shared → Prop} {f₁ h₁ : Heap} (kp : Kp w h fv) (y : Args w A env es f h PA) (k : Ext Nil f h f₁ h₁)
    (hc : ∀ h' f' g' d' tk' vs, Ext Nil f₁ h₁ f' h' → Gx g g' → PA f' vs → wpAny (model PP w) A (call fv (first ++ vs)) Q NoE ⟨h', g', d', tk', os⟩)
    (hpl : (backTo pos (starEach es env)).any (·.1) = false := by rfl) (hn : es = [] ∨ ∃ x r, backTo pos (starEach es env) = (false, x) :: r := by first | exact .inl rfl | exact .inr ⟨_, _, rfl⟩) :
    wpAny (model PP w) A (callWith pos fv first (backTo pos (starEach es env)) []) Q NoE ⟨h₁, g, d, tk, os⟩ := by
  refine callWith_of (P := fun h' => h.StaysIn h') (by rw [hpl]; rfl) (fun h' k => (kp.keeps k)) ?_
  have fin := y _ _ k g d tk os (fun vs s₁ => h.StaysIn s₁.heap ∧ wpAny (model PP w) A (call fv (first ++ vs)) Q NoE s₁) (fun h' f' g' d' tk' vs e ge r => ⟨(k.trans e).stays, hc _ _ _ _ _ _ e ge r⟩) pos
  rcases hn with rfl | ⟨x, r, hb⟩
  · unfold evalArgs
    show wpAny _ _ (spliced [] >>= _) _ _ _
    refine wpAny_bind (wpAny_mono fin (fun vs s h1 => ?_) fun _ _ x => x)
    exact wpAny_bind (wpAny_pure (wpAny_holding (wpAny_bind (wpAny_pure (wpAny_bind (wpAny_pure (wpAny_pure h1)))))))
  · rw [hb] at fin ⊢
    exact evalArgs_plain fin
theorem call_any {x : Str} {p pos : Pos} {fv : Value} {es : List Expr} {PA : Heap → List Value → Prop} {Q : Value → Shared → Prop} (X : Var w env h x fv) (kp : Kp w h fv) (y : Args w A env es f h PA) (kf : f.StaysIn h)
    (hc : ∀ h' f' g' d' tk' vs, Ext Nil f h f' h' → Gx g g' → PA f' vs → wpAny (model PP w) A (call fv vs) Q NoE ⟨h', g', d', tk', os⟩)
    (hpl : (backTo pos (starEach es env)).any (·.1) = false := by rfl) (hn : es = [] ∨ ∃ x r, backTo pos (starEach es env) = (false, x) :: r := by first | exact .inl rfl | exact .inr ⟨_, _, rfl⟩) :
    wpAny (model PP w) A (eval (.Call (.Name x p) es [] pos) env) Q NoE ⟨h, g, d, tk, os⟩ := by
  refine Call_Name rfl ?_
  exact (X p).here (s := ⟨h, g, d, tk, os⟩) (callWith_any (first := []) kp y (.refl kf) hc hpl hn)
theorem looksFn {w : World} {f : Heap} (K : Ok w f) (kf : f.StaysIn h) {a : Addr} (e : keepIn (hd.heap_39 w.params) (.ref a) = true) : Kp w h (.ref a) := .ref (fun a o e => kf _ _ (K.X a o e)) e
set_option maxRecDepth 100000 in
/-- a method of an OrderedSet is called -/
theorem meth_any {a : Addr} {o : Expr} {name : Str} {apos pos : Pos} {fn : Addr} {es : List Expr} {PA : Heap → List Value → Prop} {Q : Value → Shared → Prop} (K : Ok w f) (kf : f.StaysIn h) (ho : Es w A env o f h Ty.osv (a, D)) (y : Args w A env es f h PA)
    (hf : findIn (hd.heap_39 w.params) (.ref 101) name = some (some (.ref fn))) (ht : typeIn (hd.heap_39 w.params) (.ref fn) = some (.type "function")) (hkp : keepIn (hd.heap_39 w.params) (.ref fn) = true) (hnd : ((Str.ofString "d") == name) = false)
    (hc : ∀ h' f' g' d' tk' vs, Ext Nil f h f' h' → Gx g g' → OsAt f' a D → PA f' vs → wpAny (model PP w) A (call (.ref fn) (.ref a :: vs)) Q NoE ⟨h', g', d', tk', os⟩)
    (hbase : attributeBase o name env (eval o env) = eval o env := by rfl) (hfew : methodCallForm (es.length + ([] : List Keyword).length) (backTo pos (starEach es env)) (backToKw pos (keywordEach [] env)) = true := by rfl) (hline : (apos.endLine == pos.line) = true := by rfl)
    (hpl : (backTo pos (starEach es env)).any (·.1) = false := by rfl) (hn : es = [] ∨ ∃ x r, backTo pos (starEach es env) = (false, x) :: r := by first | exact .inl rfl | exact .inr ⟨_, _, rfl⟩) :
    wpAny (model PP w) A (eval (.Call (.Attribute o name apos) es [] pos) env) Q NoE ⟨h, g, d, tk, os⟩ := by
  rw [arm_eval_Call, hbase]
  refine wpAny_bind (ho _ _ (.refl kf) g d tk os _ fun h1 f1 g1 d1 tk1 v e1 ge1 t1 => ?_)
  obtain ⟨rfl, oa⟩ := t1
  dsimp only at oa
  refine wpAny_bind (wpAny_standAt ?_)
  have hpos : methodCallPos true o env apos pos = pure pos := by unfold methodCallPos; simp [hline]
  unfold methodCall
  rw [hfew]
  have oa' := oa
  obtain ⟨lo, dd, hs, t, n, e, e'⟩ := oa
  have K1 := K.keeps e1.fk
  have X : (hd.heap_39 w.params).In h1 := fun a o e => e1.fh _ _ (K1.X a o e)
  have I : InstAt h1 a (instObj 101 dd) 101 (some (dictOf [⟨hs, .str (Str.ofString "d") t, .ref D⟩] n)) := ⟨e1.fh _ _ e, rfl, rfl, e1.fh _ _ e'⟩
  have hg : plainGet (hd.heap_39 w.params) 101 "d" = true := by k_is
  have hl : shadowIn (some (dictOf [⟨hs, .str (Str.ofString "d") t, .ref D⟩] n)) name = some false := by
    show (lookIn name (dictOf _ n)).map _ = _
    rw [lookIn_dict]
    unfold getL
    simp only [List.find?_cons, List.find?_nil, Value.isStr, hnd]
    rfl
  refine wpAny_bind (wpAny_holding (method_fn (s := ⟨h1, g1, d1, tk1, os⟩) X I (plainGet_of hg).1 (plainGet_of hg).2 hf ht hl ?_))
  refine wpAny_bind (wpAny_of_eq hpos ?_)
  have kp := looksFn K kf hkp
  refine callWith_any (first := [.ref a]) kp y e1 (fun h' f' g' d' tk' vs e ge r => ?_) hpl hn
  exact hc h' f' g' d' tk' vs (e1.trans e) (ge1.trans ge) (oa'.mono e.fk) r
end
end Mine
end
section
open PySem PySem.W PyProof.Rows PySem.Calls
set_option Elab.async false
set_option linter.unusedVariables false
set_option linter.unusedSectionVars false
namespace Mine
theorem fillOc : PySem.Challenge.rw_fi0012_01 = PySem.Challenge.rw_fi0012_01 ∧ hd.heap_39 = hd.heap_39 := by
  k_fill
  exact ⟨rfl, rfl⟩
abbrev AnyV : Heap → Sy → Value → Prop := fun _ _ _ => True
section
variable {α β γ : Type} {w : World} {A : Around} {env : Env} {f f' h : Heap} {T : Ty α} {U : Ty β} {V : Ty γ} {c : γ} {M₀ : Addr → Prop} {f₀ h₀ : Heap} {own pre post : Own} {mm : Vars} {P : Heap → Sy → Value → Prop} {xs : List (Row Sy)} {ks : List Sy} {ep : Nat} {D : Addr}
  {g : Array GenState} {d : Drawn} {tk : Nat} {os : OsState}
theorem SymRows.any (R : SymRows f P xs ks) (k : f.StaysIn f') : SymRows f' AnyV xs ks := ⟨fun x hx => Ty.mono _ k (R.key x hx), fun _ _ => trivial, R.keys, R.nodup⟩
set_option maxRecDepth 100000 in
/-- OrderedSet.__len__ -/
theorem p_len98 {a : Addr} (K : Ok w f) (kf : f.StaysIn h) (rm : Rm A 110) (oa : OsAt f a D) (e : f.get? D = some (symDic w xs ep)) (hz : xs.length ≤ 1000) : Does w A (call (.ref 98) [.ref a]) f h fun _ v => ∃ t, v = .int xs.length t := by
  refine' does_call (binds := [(Str.ofString "self", .ref a)]) K kf ?ho ?hcd ?hr ?hb ?hk ?hcl ?hnd ?body ?c1 ?c2 ?c3
  case ho => k_is
  case hcd => k_is
  case hr => have := rm.depth; omega
  case hb => exact fun g d tk os => BindsTo.of_eq rfl
  case hk => rfl
  case hcl => rfl
  case hnd => decide
  case c1 => rfl
  case c2 => rfl
  case c3 => rfl
  case body =>
    intro L h₁ g d tk os W F
    refine st_ret (T := Ty.nat) (a := xs.length) F (es_call (v_built K F.ext.fh (by k_is) rfl) Kp.builtin (args1 (es_d K (es_name (F.var W rfl rfl) ⟨a, rfl, oa⟩))) ?_) fun f' h' g' d' tk' v k ge t F' => .of F' ge t
    rintro f' h' vs k ⟨v, rfl, rfl⟩
    exact p_len_dic k.fh oa.1 (k.fk _ _ e) hz
set_option maxRecDepth 100000 in
/-- len of an OrderedSet -/
theorem p_len_os {u : Value} (K : Ok w f) (kf : f.StaysIn h) (rm : Rm A 105) (t : Ty.os.is f D u) (e : f.get? D = some (symDic w xs ep)) (hz : xs.length ≤ 1000) : Does w A (call (.builtin "len") [u]) f h fun _ v => ∃ t, v = .int xs.length t := fun g d tk os Q hq => by
  obtain ⟨a, rfl, oa⟩ := t
  have oa' := oa
  obtain ⟨lo, dd, hs, t, n, e1, e2⟩ := oa
  have X : (hd.heap_39 w.params).In h := fun a o e => kf _ _ (K.X a o e)
  have I : InstAt h a (instObj 101 dd) 101 (some (dictOf [⟨hs, .str (Str.ofString "d") t, .ref D⟩] n)) := ⟨kf _ _ e1, rfl, rfl, kf _ _ e2⟩
  refine Calls.call_function_entry kind_len plain_len entry_len (args_len1 _) ?_
  unfold Builtin.«len»
  refine wpAny_bind (m := oneArg "len" _) (wpAny_pure ?_)
  refine wpAny_bind (m := callSpecial? (.ref a) (Str.ofString "__len__")) (special_fn (s := ⟨h, g, d, tk, os⟩) X I (show findIn (hd.heap_39 w.params) (.ref 101) (Str.ofString "__len__") = some (some (.ref 98)) by k_is) (show typeIn (hd.heap_39 w.params) (.ref 98) = some (.type "function") by k_is) ?_)
  have rm1 : Rm A.in1 110 := ⟨rm.hh, by show A.depth ≤ 510; have := rm.depth; omega, by show A.units + 1 ≤ 110; have := rm.units; omega⟩
  refine noE (p_len98 (A := A.in1) K kf rm1 oa' e hz g d tk os _ fun h1 f1 g1 d1 tk1 v e1 ge1 r1 => ?_)
  obtain ⟨t, rfl⟩ := r1
  refine wpAny_bind (wpAny_holding (wpAny_pure ?_))
  refine wpAny_bind (wpAny_letGo ?_)
  show wpAny _ _ (if ((xs.length : Nat) : Int) < 0 then _ else _) _ _ _
  rw [if_neg (by omega)]
  show wpAny _ _ (if ((xs.length : Nat) : Int) ≥ 2 ^ 63 then _ else _) _ _ _
  rw [if_neg (by omega)]
  exact wpAny_bind (wpAny_mkInt (wpAny_pure ⟨_, rfl, hq _ f1 _ _ _ _ e1 ge1 ⟨_, rfl⟩⟩))
set_option maxRecDepth 100000 in
/-- OrderedSet.holds -/
theorem p_holds {a : Addr} {u : Value} {items : List Sy} (K : Ok w f) (kf : f.StaysIn h) (rm : Rm A 110) (oa : OsAt f a D) (e : f.get? D = some (symDic w xs ep)) (R : SymRows f P xs ks) (tu : (Ty.tup Ty.sym).is f items u) (hz : items.length ≤ 1000) :
    Does w A (call (.ref 84) [.ref a, u]) f h fun _ v => v = .bool (items.all fun x => has x ks) := by
  refine' does_call (binds := [(Str.ofString "self", .ref a), (Str.ofString "items", u)]) K kf ?ho ?hcd ?hr ?hb ?hk ?hcl ?hnd ?body ?c1 ?c2 ?c3
  case ho => k_is
  case hcd => k_is
  case hr => have := rm.depth; omega
  case hb => exact fun g d tk os => BindsTo.of_eq rfl
  case hk => rfl
  case hcl => rfl
  case hnd => decide
  case c1 => rfl
  case c2 => rfl
  case c3 => rfl
  case body =>
    intro L h₁ g d tk os W F
    generalize hA : A.deeper _ = A'
    have rm' : Rm A' 113 := hA ▸ rm.deeper
    refine st_ret (T := Ty.bool) (a := items.all fun x => has x ks) F (es_call (v_built K F.ext.fh (by k_is) rfl) Kp.builtin (args1 (es_comp (T := Ty.sym) (U := Ty.bool) (xs := items) (fun _ => true) (fun x => has x ks) _ rfl (itr_tup rm'.hh (es_name (F.var W rfl rfl) tu)) (fun C => takes_name rfl rfl) hz ?_ ?_)) ?_) fun f' h' g' d' tk' v k ge t F' => .of F' ge t
    · rintro C f' h' m p hp k n -
      exact tests_nil k.fh
    · rintro C f' h' m p hp _ k n ⟨v, e1, t1⟩
      have K' := K.keeps k.fk
      refine (es_cmp (V := Ty.bool) (es_name (.local n e1 rfl rfl) t1) (es_d (D := D) K' (es_name ?v1 ⟨a, rfl, oa.mono k.fk⟩)) ?_).here k.fh
      case v1 => exact F.fvk k.stays rfl rfl
      rintro f2 h2 u v k2 t2 rfl
      exact p_in_dic (K'.keeps k2.fk) k2.fh rm'.mono oa.1 (k2.fk _ _ (k.fk _ _ e)) (R.any fun b o q => k2.fk _ _ (k.fk b o q)) t2
    · rintro f' h' vs k ⟨v, rfl, t⟩
      refine (p_all rm'.hh k.fh t).mono fun f2 h2 v e2 q => ?_
      show v = _
      rw [q, List.filter_eq_self.mpr (fun _ _ => rfl), List.all_map]
      rfl
/-- x[k] = v, with v at hand -/
theorem setTail {o i : Expr} {x : Sy} {v : Value} {Q : Unit → Shared → Prop} (K : Ok w f) (rm : Rm A 200) (F : FS M₀ f₀ h₀ env (pre ++ (D, symDic w xs ep) :: post) f h mm) (hd : ∀ p ∈ pre ++ post, p.1 ≠ D) (R : SymRows f P xs ks) (pm : ∀ f f' x v, f.StaysIn f' → P f x v → P f' x v) (hz : xs.length ≤ 1000)
    (ho : Es w A env o f h Ty.val (.ref D)) (hi : Es w A env i f h Ty.sym x)
    (k : ∀ f' h' g' d' tk' a ep', f.StaysIn f' → Gx g g' → Ty.sym.is f' x (.ref a) → FS M₀ f₀ h₀ env (pre ++ (D, symDic w (putRow xs x (.ref a) v) ep') :: post) f' h' mm → Q () ⟨h', g', d', tk', os⟩) :
    wpAny (model PP w) A (eval o env) (fun ov s₂ => wpAny (model PP w) A (eval i env) (fun iv s₃ => wpAny (model PP w) A (setItem ov iv v) Q NoE s₃) NoE s₂) NoE ⟨h, g, d, tk, os⟩ := by
  refine ho _ _ (.refl F.ext.fh) g d tk os _ fun h1 f1 g1 d1 tk1 u1 e1 ge1 t1 => ?_
  cases t1
  refine hi _ _ e1 g1 d1 tk1 os _ fun h2 f2 g2 d2 tk2 u2 e2 ge2 t2 => ?_
  obtain ⟨a, t, rfl, n⟩ := t2
  have e12 := e1.trans e2
  have K2 := K.keeps e12.fk
  have F2 := F.grow e12
  have t2 : Ty.sym.is f2 x (.ref a) := ⟨a, t, rfl, n⟩
  refine dicStore (K := symKind K2) (xs := xs) (ep := ep) (s := ⟨h2, g2, d2, tk2, os⟩) (by show 0 + 1 ≤ 8; omega) (by have := rm.units; have : cLine = 9900 := rfl; show A.units + 1 + 10 * (0 + 1) < _; omega) F2.ext.fh t2 (F2.own (D, symDic w xs ep) (by simp)).1 ((R.mono e12.fk fun x v p => pm _ _ x v e12.fk p).keysIn K2) hz fun h3 tk3 ep3 e3 s3 => ?_
  exact k f2 h3 g2 d2 tk3 a ep3 e12.fk (ge1.trans ge2) t2 (F2.write (fun b o n e => s3.extBut b o n e) e3 hd)
/-- x[k] = e for a plain e -/
theorem st_setitem {o i e : Expr} {pos' pos : Pos} {x : Sy} {y : α} {Q : Flow → Shared → Prop} {rest : List Stmt} (K : Ok w f) (rm : Rm A 200) (F : FS M₀ f₀ h₀ env (pre ++ (D, symDic w xs ep) :: post) f h mm) (hd : ∀ p ∈ pre ++ post, p.1 ≠ D) (R : SymRows f P xs ks) (pm : ∀ f f' x v, f.StaysIn f' → P f x v → P f' x v) (hz : xs.length ≤ 1000)
    (he : Es w A env e f h T y) (ho : Es w A env o f h Ty.val (.ref D)) (hi : Es w A env i f h Ty.sym x)
    (k : ∀ f' h' g' d' tk' a v ep', f.StaysIn f' → Gx g g' → T.is f' y v → Ty.sym.is f' x (.ref a) → FS M₀ f₀ h₀ env (pre ++ (D, symDic w (putRow xs x (.ref a) v) ep') :: post) f' h' mm → wpAny (model PP w) A (execs rest env) Q NoE ⟨h', g', d', tk', os⟩)
    (hs : swapsWith e (some (.Subscript o i pos')) pos.line env = pure false := by rfl) : wpAny (model PP w) A (execs (.Assign [.Subscript o i pos'] e pos :: rest) env) Q NoE ⟨h, g, d, tk, os⟩ := by
  refine wpAny_execs_cons (wpAny_Assign_Subscript ?_ hs)
  refine he _ _ (.refl F.ext.fh) g d tk os _ fun h1 f1 g1 d1 tk1 v e1 ge1 t1 => ?_
  refine setTail (Q := fun _ s => wpAny (model PP w) A (execs rest env) Q NoE s) (K.keeps e1.fk) rm (F.grow e1) hd (R.mono e1.fk fun x v p => pm _ _ x v e1.fk p) pm hz (ho.keeps e1) (hi.keeps e1) fun f2 h2 g2 d2 tk2 a ep2 k2 ge2 t2 F2 => ?_
  exact k _ _ _ _ _ a v ep2 (fun b o q => k2 _ _ (e1.fk b o q)) (ge1.trans ge2) (T.mono k2 t1) t2 F2
end
end Mine
end
section
open PySem PySem.W PyProof.Rows PySem.Calls
set_option Elab.async false
set_option linter.unusedVariables false
set_option linter.unusedSectionVars false
namespace Mine
theorem fillOd : PySem.Challenge.rw_fi0012_01 = PySem.Challenge.rw_fi0012_01 ∧ hd.heap_39 = hd.heap_39 := by
  k_fill
  exact ⟨rfl, rfl⟩
theorem addKey_len {α : Type} [DecidableEq α] (ks : List α) (x : α) : (addKey ks x).length ≤ ks.length + 1 := by unfold addKey; split <;> simp
theorem addAll_len {α : Type} [DecidableEq α] : ∀ (ys ks : List α), (ys.foldl addKey ks).length ≤ ks.length + ys.length
  | [], ks => by simp
  | y :: ys, ks => by
    have := addAll_len ys (addKey ks y)
    have := addKey_len ks y
    simp only [List.foldl_cons, List.length_cons]; omega
theorem addAll_step {α : Type} [DecidableEq α] {ys ks : List α} {i : Nat} {y : α} (h : ys[i]? = some y) : (ys.take (i + 1)).foldl addKey ks = addKey ((ys.take i).foldl addKey ks) y := by
  rw [List.take_add_one, h, List.foldl_append]; rfl
/-- what may be gone through under a name, as long as only M is written -/
def Src (w : World) (n : Nat) (u : Value) (f h : Heap) (M old : Addr → Prop) (ys : List Sy) : Prop :=
  ∀ (A : Around) (env : Env) (f₁ h₁ : Heap) (x y : Str) (p px : Pos), Rm A n → Ext M f h f₁ h₁ → Var w env h₁ x u → Itr w A env (.Name y px) (.Name x p) f₁ h₁ old Ty.sym ys
section
variable {α β γ : Type} {w : World} {A : Around} {env : Env} {f f' h : Heap} {T : Ty α} {U : Ty β} {V : Ty γ} {c : γ} {M M₀ : Addr → Prop} {f₀ h₀ : Heap} {own pre post : Own} {mm : Vars} {P : Heap → Sy → Value → Prop} {xs : List (Row Sy)} {ks ys : List Sy} {ep : Nat} {D : Addr}
  {g : Array GenState} {d : Drawn} {tk : Nat} {os : OsState}
theorem src_list {n : Nat} {u : Value} (t : (Ty.list Ty.sym).is f ys u) : Src w n u f h M Nil ys := fun A env f₁ h₁ x y p px rm e X => itr_list rm.hh (es_name X (Ty.mono _ e.fk t))
/-- a call of a def that may write what it is lent -/
theorem any_call {name qual : Str} {params : Arguments} {body : List Stmt} {scope : Scope} {dV kV doc pm cdv ct oc : Value} {an od : Option Addr} {osl : Array (Option Value)} {a : Addr} {vals : List Value} {binds : List (Str × Value)} {Q : Value → Shared → Prop} {own : Own}
    (K : Ok w f) (kf : f.StaysIn h) (hown : ∀ p ∈ own, h.get? p.1 = some p.2 ∧ f.get? p.1 = none) (ho : (hd.heap_39 w.params).lookup a = some ⟨oc, od, .func (fnOf name qual params body scope dV kV doc pm an cdv ct), osl⟩) (hcd : codeIn (hd.heap_39 w.params) cdv qual = true) (hroom : A.depth ≤ 700)
    (hbind : BindsTo ⟨h, g, d, tk, os⟩ (fnOf name qual params body scope dV kV doc pm an cdv ct) ⟨vals, []⟩ binds) (hkind : (binds.all fun y => scope.names.lookup y.1 == some .local || scope.names.lookup y.1 == some .cell) = true)
    (hcl : ((cellsFrom 0 scope.names []).map (·.1)).all (fun n => scope.names.lookup n == some .cell) = true) (hnd : ((cellsFrom 0 scope.names []).map (·.1)).Nodup)
    (body_ : ∀ L h₁ tk, Frm (envOfC qual scope L a cdv) → FS (fun b => ∃ o, (b, o) ∈ own) f h (envOfC qual scope L a cdv) own f h₁ (fun y => binds.reverse.lookup y) →
      wpAny (model PP w) (A.deeper (envOfC qual scope L a cdv)) (execs body (envOfC qual scope L a cdv)) (fun fl s' => Q (match fl with | .ret v => v | _ => .none) s') NoE ⟨h₁, g, d, tk, os⟩)
    (hco : scope.isCoroutine = false) (hgen : scope.isGenerator = false) (hk : scope.kind = .function) : wpAny (model PP w) A (call (.ref a) vals) Q NoE ⟨h, g, d, tk, os⟩ := by
  refine wpAny_call (call_fs (s := ⟨h, g, d, tk, os⟩) K kf ho hcd (by have : recursionLimit = 1000 := rfl; omega) hbind hkind hcl hnd (fun L h₁ tk W F => wpAny_mono (body_ L h₁ tk W (F.lend hown)) (fun fl s' r => ?_) fun _ _ z => z) hco hgen hk)
  exact r
theorem only1 {o : Obj} {f h f' h' : Heap} (e : Ext (fun b => ∃ o', (b, o') ∈ [(D, o)]) f h f' h') : Ext (Only D) f h f' h' := e.mono fun b _ ⟨o', hm⟩ => by
  obtain h := List.mem_singleton.mp hm
  cases h; rfl
theorem only1' {o : Obj} {f h f' h' : Heap} (e : Ext (Only D) f h f' h') : Ext (fun b => ∃ o', (b, o') ∈ [(D, o)]) f h f' h' := e.mono fun b _ hb => by cases hb; exact ⟨o, .head _⟩
set_option maxRecDepth 100000 in
/-- OrderedSet.update, of other items -/
theorem p_update {a b : Addr} {ob : Obj} {old : Addr → Prop} {Q : Value → Shared → Prop} (K : Ok w f) (kf : f.StaysIn h) (rm : Rm A 110) (oa : OsAt f a D) (e : h.get? D = some (symDic w xs ep)) (nf : f.get? D = none) (R : SymRows f AnyV xs ks)
    (hb : f.get? b = some ob) (hbt : ob.cls ≠ .type "tuple") (hab : b ≠ a) (src : Src w 113 (.ref b) f h (Only D) old ys) (ho : ∀ c, old c → c ≠ D ∧ h.get? c ≠ none) (hz : ys.length ≤ 100) (hk : ks.length ≤ 100)
    (hq : ∀ f' h' g' d' tk' xs' ep', Ext (Only D) f h f' h' → Gx g g' → h'.get? D = some (symDic w xs' ep') → f'.get? D = none → SymRows f' AnyV xs' (ys.foldl addKey ks) → Q .none ⟨h', g', d', tk', os⟩) :
    wpAny (model PP w) A (call (.ref 79) [.ref a, .ref b]) Q NoE ⟨h, g, d, tk, os⟩ := by
  refine' any_call (own := [(D, symDic w xs ep)]) (binds := [(Str.ofString "self", .ref a), (Str.ofString "items", .ref b)]) K kf ?hown ?ho ?hcd ?hr ?hb ?hk ?hcl ?hnd ?body ?c1 ?c2 ?c3
  case hown => intro p hp; cases List.mem_singleton.mp hp; exact ⟨e, nf⟩
  case ho => k_is
  case hcd => k_is
  case hr => have := rm.depth; omega
  case hb => exact BindsTo.of_eq rfl
  case hk => rfl
  case hcl => rfl
  case hnd => decide
  case c1 => rfl
  case c2 => rfl
  case c3 => rfl
  case body =>
    intro L h₁ tk W F
    generalize hA : A.deeper _ = A'
    have rm' : Rm A' 113 := hA ▸ rm.deeper
    obtain ⟨lo, dd, hs, t, n, o1, o2⟩ := id oa
    refine st_if (b := true) F (ts_cmp (T := Ty.val) (U := Ty.val) (a := .ref b) (b := .ref a) (es_name (F.var W rfl rfl) rfl) (es_name (F.var W rfl rfl) rfl) ?_) ?_
    · rintro f' h' u v k rfl rfl g d tk os Q hq
      exact wpAny_isNot_ref_other (s := ⟨h', g, d, tk, os⟩) hab (k.fh _ _ (k.fk _ _ hb)) (k.fh _ _ (k.fk _ _ o1)) hbt (hq _ f' g _ _ _ (.refl k.fh) (.refl g) rfl)
    intro f1 h1 g1 d1 tk1 k1 ge1 F1
    rw [if_pos rfl]
    refine st_for (T := Ty.sym) (xs := ys) F1 (src A' _ f1 h1 _ _ _ _ rm' (only1 F1.ext) (F1.var W rfl rfl)) ?ho (fun i f' mm' own' => f.StaysIn f' ∧ ∃ xs' ep', own' = [(D, symDic w xs' ep')] ∧ SymRows f' AnyV xs' ((ys.take i).foldl addKey ks) ∧ mm' (Str.ofString "self") = some (.ref a))
      (fun f' mm' own' => f.StaysIn f' ∧ ∃ xs' ep', own' = [(D, symDic w xs' ep')] ∧ SymRows f' AnyV xs' (ys.foldl addKey ks)) ?jm (takesF_name W (.inl rfl)) ⟨k1, xs, ep, rfl, R.any k1, rfl⟩ ?turn ?jz ?k
    case ho =>
      rintro c hc m
      obtain ⟨h2, h3⟩ := ho c hc
      rcases m with rfl | ⟨n, q⟩ | ⟨o, q⟩
      · have := F.L0
        rcases this with z | ⟨o, z⟩
        · exact h3 z
        · cases List.mem_singleton.mp z; exact h2 rfl
      · cases q
      · cases List.mem_singleton.mp q; exact h2 rfl
    case jm => rintro i f1 f2 mm own k ⟨b, xs', ep', c1, c2, c3⟩; exact ⟨fun b' o e => k _ _ (b b' o e), xs', ep', c1, c2.any k, c3⟩
    case jz => rintro f mm own ⟨b, xs', ep', c1, c2, c3⟩; rw [List.take_length] at c2; exact ⟨b, xs', ep', c1, c2⟩
    case k =>
      rintro f2 h2 g2 d2 tk2 mm2 own2 ge2 F2 ⟨k2, xs', ep', rfl, c2⟩
      refine wpAny_execs_nil ?_
      refine wpAny_execs_nil ?_
      exact hq f2 h2 g2 d2 tk2 xs' ep' (only1 F2.ext) (ge1.trans ge2) (F2.own (D, symDic w xs' ep') (.head _)).1 (F2.own (D, symDic w xs' ep') (.head _)).2.2.1 c2
    case turn =>
      rintro i y f2 h2 g2 d2 tk2 mm mm2 own2 hy ⟨k2, xs', ep', rfl, c2, c3⟩ ⟨v, t2, rfl⟩ F2
      have K2 := K.keeps k2
      have len : xs'.length ≤ 1000 := by
        have := c2.len
        have := addAll_len (ys.take i) ks
        have := List.length_take_le i ys
        have := List.length_take_le' i ys
        omega
      refine st_setitem (pre := []) (post := []) (T := Ty.val) (y := .none) (x := y) K2 rm'.mono F2 (fun _ h => nomatch h) c2 (fun _ _ _ _ _ _ => trivial) len es_none (es_d K2 (es_name (F2.var W (v := .ref a) c3 rfl) ⟨a, rfl, oa.mono k2⟩)) (es_name (F2.var W (v := v) rfl rfl) t2) ?_
      intro f3 h3 g3 d3 tk3 a3 v3 ep3 k3 ge3 t3 t3' F3
      refine wpAny_execs_nil ⟨f3, h3, g3, d3, tk3, _, _, rfl, ge3, F3, fun b' o e => k3 _ _ (k2 b' o e), _, ep3, rfl, ?_, c3⟩
      rw [addAll_step hy]
      exact (c2.any k3).put t3' trivial
end
end Mine
end
section
open PySem PySem.W PyProof.Rows PySem.Calls
set_option Elab.async false
set_option linter.unusedVariables false
set_option linter.unusedSectionVars false
namespace Mine
theorem fillOe : PySem.Challenge.rw_fi0012_01 = PySem.Challenge.rw_fi0012_01 ∧ hd.heap_39 = hd.heap_39 := by
  k_fill
  exact ⟨rfl, rfl⟩
section
variable {α β γ : Type} {w : World} {A : Around} {env : Env} {f f' h : Heap} {T : Ty α} {U : Ty β} {V : Ty γ} {c : γ} {M M₀ : Addr → Prop} {f₀ h₀ : Heap} {own pre post : Own} {mm : Vars} {P : Heap → Sy → Value → Prop} {xs : List (Row Sy)} {ks ys : List Sy} {ep : Nat} {D : Addr}
  {g : Array GenState} {d : Drawn} {tk : Nat} {os : OsState}
set_option maxRecDepth 100000 in
theorem osa_new {x dx : Addr} {v : Value} {tk : Tok} {s : Shared} {R : Result → Shared → Prop} (X : (hd.heap_39 w.params).In s.heap) (hx : s.heap.get? x = some (instObj 101 dx)) (hdx : s.heap.get? dx = some emptyDict)
    (h : ∀ h', h'.get? dx = some (PySem.W.dictOf [⟨PyData.keyHash w.params (Str.ofString "d"), .str (Str.ofString "d") s.toks, v⟩] 1) → Heap.SameBut dx s.heap h' → R (.ok (.ret .none)) { s with heap := h', toks := s.toks + 1 }) :
    codeAny (model PP w) A (.call (.builtin "object.__setattr__") ⟨[.ref x, .str (Str.ofString "d") tk, v], []⟩) R s := by
  have I : InstAt s.heap x (instObj 101 dx) 101 (some emptyDict) := ⟨hx, rfl, rfl, hdx⟩
  refine osa_open X I (show plainOver (hd.heap_39 w.params) 101 = true by k_is) (show takerIn (hd.heap_39 w.params) 101 (Str.ofString "d") = some none by k_is) fun b => ?_
  obtain ⟨cd, hc, hd'⟩ := any_some (show (clsIn (hd.heap_39 w.params) 101).any (·.hasDict) = true from (show hasDictIn (hd.heap_39 w.params) 101 = true by k_is))
  refine wpAny_bind (wpAny_pure (wpAny_bind (wpAny_bind (wpAny_loadPart hx (wpAny_bind ((looks_clsIn X hc).here ?_))))))
  rw [hd']
  refine wpAny_pure (a := some dx) (wpAny_bind (wpAny_pure (wpAny_bind ?_)))
  unfold nsSet
  refine wpAny_bind (wpAny_bind (wpAny_askSetting (wpAny_pure (wpAny_bind (wpAny_mkText (wpAny_bind (wpAny_loadPart hdx ?_)))))))
  have c : aRefKeyMayBeTheName (Str.ofString "d") (#[] : Array DictEntry) = false := by rw [aRefKeyMayBeTheName_at]; simp
  show wpAny _ _ (if aRefKeyMayBeTheName (Str.ofString "d") (#[] : Array DictEntry) = true then _ else _) _ _ _
  rw [c]
  refine wpAny_updatePart hdx ?_
  have key : (s.heap.update dx (Obj.putName (Str.ofString "d") (PyData.keyHash w.params (Str.ofString "d")) (.str (Str.ofString "d") s.toks) v)).get? dx = some (PySem.W.dictOf [⟨PyData.keyHash w.params (Str.ofString "d"), .str (Str.ofString "d") s.toks, v⟩] 1) := Heap.get?_update_self _ hdx rfl
  refine wpAny_bind (wpAny_lookBehind key (pastItsLine_dict (by rw [List.size_toArray, sizeLine_eq]; simp)) ?_)
  exact wpAny_pure (h _ key (Heap.SameBut.update ..))
/-- items that stand -/
def SrcF (w : World) (n : Nat) (u : Value) (f : Heap) (ys : List Sy) : Prop :=
  ∀ (A : Around) (env : Env) (f₁ h₁ : Heap) (x y : Str) (p px : Pos), Rm A n → f.StaysIn f₁ → Var w env h₁ x u → Itr w A env (.Name y px) (.Name x p) f₁ h₁ Nil Ty.sym ys
theorem srcf_list {n : Nat} {u : Value} (t : (Ty.list Ty.sym).is f ys u) : SrcF w n u f ys := fun A env f₁ h₁ x y p px rm k X => itr_list rm.hh (es_name X (Ty.mono _ k t))
theorem srcf_tup {n : Nat} {u : Value} (t : (Ty.tup Ty.sym).is f ys u) : SrcF w n u f ys := fun A env f₁ h₁ x y p px rm k X => itr_tup rm.hh (es_name X (Ty.mono _ k t))
set_option maxRecDepth 100000 in
/-- an OrderedSet is made -/
theorem p_make {vals : List Value} {u : Value} {Q : Value → Shared → Prop} (K : Ok w f) (kf : f.StaysIn h) (rm : Rm A 110) (hv : vals = [u] ∨ (vals = [] ∧ u = .ref 36)) (src : SrcF w 120 u f ys) (hz : ys.length ≤ 100)
    (hq : ∀ f' h' g' d' tk' a D xs ep, Ext Nil f h f' h' → Gx g g' → OsAt f' a D → h'.get? D = some (symDic w xs ep) → f'.get? D = none → h.get? D = none → SymRows f' AnyV xs (ys.foldl addKey []) → Q (.ref a) ⟨h', g', d', tk', os⟩) :
    wpAny (model PP w) A (call (.ref 101) vals) Q NoE ⟨h, g, d, tk, os⟩ := by
  have X : (hd.heap_39 w.params).In h := fun a o e => kf _ _ (K.X a o e)
  refine wpAny_call (make_core (kw := []) (makes_of X (by k_is)) (looks_findIn X (show findIn (hd.heap_39 w.params) (.ref 101) "__init__" = some (some (.ref 44)) by k_is)) (fun self => bind_fn X self (by k_is)) (.inl rfl) ?_)
  have kH : h.StaysIn ((h.push emptyDict).push (instObj 101 h.objs.size)) := fun b o e => Heap.get?_push_of_some _ (Heap.get?_push_of_some _ e)
  have gx : ((h.push emptyDict).push (instObj 101 h.objs.size)).get? (h.objs.size + 1) = some (instObj 101 h.objs.size) := by
    have := Heap.get?_push_size (h.push emptyDict) (o := instObj 101 h.objs.size) rfl
    rwa [Heap.size_push] at this
  have gd : ((h.push emptyDict).push (instObj 101 h.objs.size)).get? h.objs.size = some emptyDict := Heap.get?_push_of_some _ (Heap.get?_push_size _ rfl)
  have zd : h.get? h.objs.size = none := size_none h
  have zx : h.get? (h.objs.size + 1) = none := by
    cases q : h.get? (h.objs.size + 1) with
    | none => rfl
    | some o => exact absurd (Heap.lt_size q) (Nat.not_lt.mpr (Nat.le_succ _))
  generalize hH : (h.push emptyDict).push (instObj 101 h.objs.size) = H at kH gx gd
  have nxd : h.objs.size + 1 ≠ h.objs.size := Nat.succ_ne_self _
  generalize hx : h.objs.size + 1 = x at gx zx nxd
  generalize hdx : h.objs.size = dx at gx gd zd nxd
  have fz : ∀ {b}, h.get? b = none → f.get? b = none := fun {b} z => by
    cases q : f.get? b with
    | none => rfl
    | some o => rw [kf _ _ q] at z; cases z
  have rm1 : Rm (A.under (.builtin "type.__call__" ⟨.ref 101 :: vals, []⟩)) 111 := ⟨rm.hh, by rw [depth_under_make]; have := rm.depth; omega, by rw [units_under_make]; have := rm.units; omega⟩
  generalize A.under (.builtin "type.__call__" ⟨.ref 101 :: vals, []⟩) = A1 at rm1
  have kfH : f.StaysIn H := fun b o e => kH _ _ (kf b o e)
  refine' call_fs (s := ⟨H, g, d, tk, os⟩) (binds := [(Str.ofString "self", .ref x), (Str.ofString "items", u)]) K kfH ?ho ?hcd ?hr ?hb ?hk ?hcl ?hnd ?body ?c1 ?c2 ?c3
  case ho => k_is
  case hcd => k_is
  case hr => have := rm1.depth; have : recursionLimit = 1000 := rfl; omega
  case hb =>
    rcases hv with rfl | ⟨rfl, rfl⟩
    · exact binds_K (fun a o e => kfH _ _ (K.X a o e)) rfl (by k_is) rfl rfl rfl
    · exact binds_K (fun a o e => kfH _ _ (K.X a o e)) rfl (by k_is) rfl rfl rfl
  case hk => rfl
  case hcl => rfl
  case hnd => decide
  case c1 => rfl
  case c2 => rfl
  case c3 => rfl
  case body =>
    intro L h₁ tk W F
    generalize hA : A1.deeper _ = A'
    have rm' : Rm A' 114 := hA ▸ rm1.deeper
    have F := F.lend (own := [(dx, emptyDict), (x, instObj 101 dx)]) (by
      rintro p hp
      rcases List.mem_cons.mp hp with rfl | hp
      · exact ⟨gd, fz zd⟩
      · cases List.mem_singleton.mp hp; exact ⟨gx, fz zx⟩)
    refine wpAny_execs_cons (plainObj_wpAny_Assign_Attribute (wpAny_Dict_empty ?_))
    have F1 := F.push (o := emptyDict) rfl
    have zD := size_none h₁
    dsimp only
    generalize hD : h₁.objs.size = D at F1 zD
    generalize h₁.push emptyDict = h2 at F1
    refine (es_name (T := Ty.val) (F1.var W (v := .ref x) rfl rfl) rfl) _ _ (.refl F1.ext.fh) g d _ os _ fun h3 f3 g3 d3 tk3 v3 e3 ge3 t3 => ?_
    cases t3
    have F3 := F1.grow e3
    have K3 := K.keeps e3.fk
    have ox := (F3.own (x, instObj 101 dx) (by simp)).1
    have od := (F3.own (dx, emptyDict) (by simp)).1
    have nDd : D ≠ dx := fun q => by have := (F.own (dx, emptyDict) (by simp)).1; rw [← q, zD] at this; cases this
    have nDx : D ≠ x := fun q => by have := (F.own (x, instObj 101 dx) (by simp)).1; rw [← q, zD] at this; cases this
    have X3 : (hd.heap_39 w.params).In h3 := fun a o e => F3.ext.fh _ _ (K3.X a o e)
    refine set_plain (s := ⟨h3, g3, d3, tk3, os⟩) X3 (⟨ox, rfl, rfl, od⟩ : InstAt h3 x (instObj 101 dx) 101 (some emptyDict)) (show findIn (hd.heap_39 w.params) (.ref 101) "__setattr__" = some (some (.builtin "object.__setattr__")) by k_is) ?_
    refine osa_new X3 ox od fun h4 e4 s4 => ?_
    have F4 := F3.write (pre := [(D, emptyDict)]) (post := [(x, instObj 101 dx)]) (a := dx) (fun b o n e => s4.extBut b o n e) e4 (by
      rintro p hp
      rcases List.mem_cons.mp hp with rfl | hp
      · exact nDd
      · cases List.mem_singleton.mp hp; exact nxd)
    obtain ⟨F5, g5, k5⟩ := F4.freeze (pre := [(D, emptyDict)]) (post := [(x, instObj 101 dx)]) (by
      rintro p hp
      rcases List.mem_cons.mp hp with rfl | hp
      · exact nDd
      · cases List.mem_singleton.mp hp; exact nxd) (F4.own _ (List.mem_append_right _ (List.mem_cons_self ..))).2.2.2.1
    obtain ⟨F6, g6, k6⟩ := F5.freeze (pre := [(D, emptyDict)]) (post := []) (a := x) (by
      rintro p hp
      cases List.mem_singleton.mp hp; exact nDx) (F5.own _ (List.mem_append_right _ (List.mem_cons_self ..))).2.2.2.1
    have lo : (D == sysModules) = false := by
      have : f.get? sysModules ≠ none := by
        have := K.X sysModules _ (show (hd.heap_39 w.params).lookup sysModules = some _ by k_is)
        exact get_ne this
      by_cases q : D = sysModules
      · have kz := F.ext.fh
        exfalso
        refine this ?_
        cases z : f.get? sysModules with
        | none => rfl
        | some o => have := kz _ _ z; rw [← q, zD] at this; cases this
      · simpa using q
    have oa : OsAt _ x D := ⟨lo, dx, _, _, _, g6, k6 _ _ g5⟩
    have oa6 := oa
    generalize addTo (addTo f3 h4 (· == dx)) h4 (· == x) = f6 at F6 oa oa6 g6 k6
    have K6 : Ok w f6 := K3.keeps fun b o e => k6 _ _ (k5 b o e)
    have k36 : f3.StaysIn f6 := fun b o e => k6 _ _ (k5 b o e)
    have ff6 : f.StaysIn f6 := fun b o e => k36 _ _ (e3.fk b o e)
    show wpAny _ _ (execs _ _) _ _ _
    refine st_for (T := Ty.sym) (xs := ys) F6 (src A' _ f6 h4 _ _ _ _ rm'.mono ff6 (F6.var W rfl rfl)) (fun _ z => z.elim) (fun i f' mm' own' => f6.StaysIn f' ∧ ∃ xs' ep', own' = [(D, symDic w xs' ep')] ∧ SymRows f' AnyV xs' ((ys.take i).foldl addKey []) ∧ mm' (Str.ofString "self") = some (.ref x))
      (fun f' mm' own' => f6.StaysIn f' ∧ ∃ xs' ep', own' = [(D, symDic w xs' ep')] ∧ SymRows f' AnyV xs' (ys.foldl addKey [])) ?jm (takesF_name W (.inl rfl)) ⟨fun _ _ e => e, [], 0, rfl, ⟨by simp, by simp, rfl, by simp⟩, rfl⟩ ?turn ?jz ?k
    case jm => rintro i f1 f2 mm own k ⟨b, xs', ep', c1, c2, c3⟩; exact ⟨fun b' o e => k _ _ (b b' o e), xs', ep', c1, c2.any k, c3⟩
    case jz => rintro f mm own ⟨b, xs', ep', c1, c2, c3⟩; rw [List.take_length] at c2; exact ⟨b, xs', ep', c1, c2⟩
    case k =>
      rintro f7 h7 g7 d7 tk7 mm7 own7 ge7 F7 ⟨k7, xs', ep', rfl, c2⟩
      refine wpAny_execs_nil ?_
      refine ⟨rfl, hq f7 h7 g7 d7 tk7 x D xs' ep' ?_ (ge3.trans ge7) (oa6.mono k7) (F7.own _ (.head _)).1 (F7.own _ (.head _)).2.2.1 ?_ c2⟩
      · have e7 : Ext _ f h f7 h7 := ((Ext.grown kf kH).up (M := fun b => ∃ o, (b, o) ∈ [(dx, emptyDict), (x, instObj 101 dx)])).trans F7.ext
        refine e7.mono fun b hb ⟨o, hm⟩ => ?_
        rcases List.mem_cons.mp hm with q | q
        · cases q; exact hb zd
        · cases List.mem_singleton.mp q; exact hb zx
      · cases q : h.get? D with
        | none => rfl
        | some o =>
          have := F.ext.hk D o (by
            rintro ⟨o, hm⟩
            rcases List.mem_cons.mp hm with q | q
            · cases q; exact nDd rfl
            · cases List.mem_singleton.mp q; exact nDx rfl) (kH _ _ q)
          rw [zD] at this; cases this
    case turn =>
      rintro i y f2 h2 g2 d2 tk2 mm mm2 own2 hy ⟨k2, xs', ep', rfl, c2, c3⟩ ⟨v, t2, rfl⟩ F2
      have K2 := K6.keeps k2
      have len : xs'.length ≤ 1000 := by
        have := c2.len
        have := addAll_len (ys.take i) []
        have := List.length_take_le' i ys
        simp only [List.length_nil] at *
        omega
      refine st_setitem (pre := []) (post := []) (T := Ty.val) (y := .none) (x := y) K2 rm'.mono F2 (fun _ h => nomatch h) c2 (fun _ _ _ _ _ _ => trivial) len es_none (es_d K2 (es_name (F2.var W (v := .ref x) c3 rfl) ⟨x, rfl, oa.mono k2⟩)) (es_name (F2.var W (v := v) rfl rfl) t2) ?_
      intro f3 h3 g3 d3 tk3 a3 v3 ep3 k3 ge3 t3 t3' F3
      refine wpAny_execs_nil ⟨f3, h3, g3, d3, tk3, _, _, rfl, ge3, F3, fun b' o e => k3 _ _ (k2 b' o e), _, ep3, rfl, ?_, c3⟩
      rw [addAll_step hy]
      exact (c2.any k3).put t3' trivial
end
end Mine
end
section
open PySem PySem.W PyProof.Rows PySem.Calls
set_option Elab.async false
set_option linter.unusedVariables false
set_option linter.unusedSectionVars false
namespace Mine
section
variable {prog : Program} {w : World} {A : Around} {E : Value → Shared → Prop} {s : Shared}
abbrev rawDict (es : Array DictEntry) (ep : Nat) : Obj := ⟨.type "dict", none, .dict es ep, #[]⟩
/-- the keys of any dict are gone through -/
theorem iter_dic {d : Addr} {es : Array DictEntry} {ep : Nat} {Q : Value → Shared → Prop} (lo : (d == sysModules) = false) (ho : s.heap.get? d = some (rawDict es ep))
    (hq : ∀ h', h'.IsKeyIter s.heap.objs.size d 0 es.size ep → s.heap.StaysIn h' → Q (.ref s.heap.objs.size) { s with heap := h' }) : wpAny (model prog w) A (pyIter (.ref d)) Q E s := by
  have hT : s.TypeIs (.ref d) "dict" := ⟨_, ho, rfl⟩
  refine wpAny_pyIter_slot hT PySem.F.slot_dict_iter (wpAny_call_entry PySem.F.slot_dict_iter hT PySem.F.entry_dict_iter ?_ (PySem.F.args_dict_iter_1 _))
  unfold Builtin.«dict.__iter__» Builtin.Dict.dictSlotNone
  refine wpAny_bind (wpAny_bind (wpAny_notOrdered_dict hT (wpAny_pure (a := Value.ref d) ?_)))
  show wpAny _ _ (Builtin.Dict.showsAll d >>= _) _ _ s
  unfold Builtin.Dict.showsAll
  rw [if_neg (by rw [lo]; exact Bool.false_ne_true)]
  refine wpAny_bind (wpAny_pure (wpAny_bind (wpAny_dictEntries ho rfl (wpAny_bind (wpAny_dictEpoch ho rfl ?_)))))
  refine wpAny_bind (wpAny_newObj_type (wpAny_pure ⟨_, rfl, "dict_keyiterator", _, ⟨_, Heap.get?_push_size _ rfl, rfl⟩, PySem.F.slot_dict_keyiterator_next.lookup, ?_⟩))
  exact hq _ ⟨_, Heap.get?_push_size _ rfl, rfl, by simp [rawInt]⟩ fun b o e => Heap.get?_push_of_some _ e
theorem next_dic {it d : Addr} {i ep : Nat} {es : Array DictEntry} {e : DictEntry} {Q : Option Value → Shared → Prop} (hit : s.heap.IsKeyIter it d i es.size ep) (ho : s.heap.get? d = some (rawDict es ep)) (hx : es[i]? = some e)
    (hq : ∀ h', h'.IsKeyIter it d (i + 1) es.size ep → Heap.SameBut it s.heap h' → Q (some e.key) { s with heap := h' }) : wpAny (model prog w) A (pyNext (.ref it)) Q E s := by
  obtain ⟨oi, hoi, hc, hd⟩ := id hit
  have hlt : i < es.size := by
    rcases Nat.lt_or_ge i es.size with h | h
    · exact h
    · rw [Array.getElem?_eq_none h] at hx; cases hx
  have hown : Builtin.Dict_items.ownsTuple "dict_keyiterator" = false := by decide
  unfold pyNext
  refine wpAny_bind (wpAny_attempt (wpAny_callSpecial?_slot (name := Str.ofString "__next__") hit.typeIs PySem.F.slot_dict_keyiterator_next
    (wpAny_call_entry PySem.F.slot_dict_keyiterator_next hit.typeIs PySem.F.entry_dict_keyiterator_next ?_ (PySem.F.args_dict_keyiterator_next_1 _))))
  refine wpAny_bind (wpAny_pure (wpAny_bind (wpAny_bind ?_)))
  first | refine wpAny_bind (wpAny_typeNameOfWhole_keyiter hit.typeIs (wpAny_pure ?_)) | refine wpAny_bind (wpAny_typeNameOf_keyiter hit.typeIs (wpAny_pure ?_))
  refine wpAny_bind (wpAny_fieldsOf hoi hd ?_)
  simp only [hown, Bool.false_eq_true, if_false]
  show wpAny _ _ (if (Value.ref d == Value.none) = true then _ else _) _ _ s
  rw [if_neg (show ¬ ((Value.ref d == Value.none) = true) from Bool.false_ne_true)]
  refine wpAny_bind (wpAny_pure (wpAny_bind (wpAny_dictEntries ho rfl ?_)))
  rw [if_neg (by simp)]
  refine wpAny_bind (wpAny_pure (wpAny_bind (wpAny_dictEpoch ho rfl ?_)))
  rw [if_neg (by simp)]
  refine wpAny_pure ?_
  simp only [show ¬ ((i : Int) < 0) from by omega, if_false, Int.toNat_natCast, hx]
  refine wpAny_bind ?_
  first | refine wpAny_bind (wpAny_typeNameOfWhole_keyiter hit.typeIs (wpAny_pure ?_)) | refine wpAny_bind (wpAny_typeNameOf_keyiter hit.typeIs (wpAny_pure ?_))
  refine wpAny_bind (wpAny_isOneOf_keyiter hit.typeIs ?_)
  show wpAny _ _ (setField (.ref it) 1 (rawInt ((i : Int) + 1)) >>= _) _ _ s
  refine wpAny_bind (wpAny_setField hoi hd (by simp) ?_)
  have hit' : (s.heap.update it (Obj.mapFields (·.setIfInBounds 1 (rawInt ((i : Int) + 1))))).IsKeyIter it d (i + 1) es.size ep :=
    ⟨_, Heap.get?_update_self _ hoi (Obj.isFreed_of_fields (Obj.data_mapFields hd _)), (Obj.cls_mapFields ..).trans hc, by rw [Obj.data_mapFields hd]; simp [rawInt]⟩
  refine wpAny_bind (wpAny_holding (wpAny_bind (wpAny_isOneOf_keyiter (s := { s with heap := s.heap.update it (Obj.mapFields (·.setIfInBounds 1 (rawInt ((i : Int) + 1)))) }) hit'.typeIs ?_)))
  show wpAny _ _ (pure e.key) _ _ _
  exact wpAny_pure (wpAny_pure ⟨_, rfl, wpAny_pure (hq _ hit' (Heap.SameBut.update ..))⟩)
theorem end_dic {it d : Addr} {i ep : Nat} {es : Array DictEntry} {Q : Option Value → Shared → Prop} (hh : A.handled = none) (hit : s.heap.IsKeyIter it d i es.size ep) (ho : s.heap.get? d = some (rawDict es ep)) (hx : es.size ≤ i)
    (hq : ∀ h', Heap.ExtBut it s.heap h' → Q none { s with heap := h' }) : wpAny (model prog w) A (pyNext (.ref it)) Q E s := by
  obtain ⟨oi, hoi, hc, hd⟩ := id hit
  have hown : Builtin.Dict_items.ownsTuple "dict_keyiterator" = false := by decide
  unfold pyNext
  refine wpAny_bind (wpAny_attempt (wpAny_callSpecial?_slot (name := Str.ofString "__next__") hit.typeIs PySem.F.slot_dict_keyiterator_next
    (wpAny_call_entry PySem.F.slot_dict_keyiterator_next hit.typeIs PySem.F.entry_dict_keyiterator_next ?_ (PySem.F.args_dict_keyiterator_next_1 _))))
  refine wpAny_bind (wpAny_pure (wpAny_bind (wpAny_bind ?_)))
  first | refine wpAny_bind (wpAny_typeNameOfWhole_keyiter hit.typeIs (wpAny_pure ?_)) | refine wpAny_bind (wpAny_typeNameOf_keyiter hit.typeIs (wpAny_pure ?_))
  refine wpAny_bind (wpAny_fieldsOf hoi hd ?_)
  simp only [hown, Bool.false_eq_true, if_false]
  show wpAny _ _ (if (Value.ref d == Value.none) = true then _ else _) _ _ s
  rw [if_neg (show ¬ ((Value.ref d == Value.none) = true) from Bool.false_ne_true)]
  refine wpAny_bind (wpAny_pure (wpAny_bind (wpAny_dictEntries ho rfl ?_)))
  rw [if_neg (by simp)]
  refine wpAny_bind (wpAny_pure (wpAny_bind (wpAny_dictEpoch ho rfl ?_)))
  rw [if_neg (by simp)]
  refine wpAny_pure ?_
  simp only [show ¬ ((i : Int) < 0) from by omega, if_false, Int.toNat_natCast, Array.getElem?_eq_none hx]
  refine wpAny_bind ?_
  first | refine wpAny_bind (wpAny_typeNameOfWhole_keyiter hit.typeIs (wpAny_pure ?_)) | refine wpAny_bind (wpAny_typeNameOf_keyiter hit.typeIs (wpAny_pure ?_))
  show wpAny _ _ (setField (.ref it) 0 .none >>= _) _ _ s
  refine wpAny_bind (wpAny_setField hoi hd (by simp) ?_)
  show wpAny _ _ (newExc (.type "StopIteration") [] >>= _) _ _ _
  refine wpAny_bind ?_
  simp only [newExc, newTuple]
  refine wpAny_bind (wpAny_newObj_type ?_ (by size_fits))
  refine wpAny_bind (m := firstArgMember _ _) (wpAny_of_eq (a := Value.none) (by first | rfl | (simp only [firstArgMember]; rfl)) ?_)
  refine wpAny_newObj_type ?_ (by size_fits)
  simp only [raiseNew]
  refine wpAny_bind (wpAny_handled ?_)
  rw [show A.in1.handled = none from hh]
  refine wpAny_bind (wpAny_pure (wpAny_throw ?_))
  refine wpAny_bind (wpAny_isInstance (T := "StopIteration") (b := true) ⟨_, Heap.get?_push_size _ rfl, rfl⟩ isSubtype_stop ?_)
  exact wpAny_pure (hq _ (((Heap.SameBut.update ..).extBut.push _).push _))
end
end Mine
end
section
open PySem PySem.W PyProof.Rows PySem.Calls PySem.W.X
set_option Elab.async false
set_option linter.unusedVariables false
set_option linter.unusedSectionVars false
namespace Mine
section
variable {prog : Program} {w : World} {A : Around} {c : Code} {fs : List Frame} {s : Shared} {P : End → Shared → Prop} {env : Env}
theorem sx_wrap {α : Type} {m : Sem α} {K : α → Sem PySem.Fin} {H : Value → Sem PySem.Fin} {gd lv} (h : wpAny (model prog w) (A.over c fs) m (fun a s' => SegX (model prog w) A c (K a) fs s' P) NoE s) :
    SegX (model prog w) A c (m.wrap K H gd lv) fs s P := by
  rintro Γ p rfl hΓ
  obtain ⟨e, s', hr, hq⟩ := runs_wrap_of_wp (Φ := fun e s' => e.quiet = true ∧ P e s') K H gd lv m (h (Γ.over fs) p (hΓ.over fs)) (fun a p' s' h' => h' Γ p' rfl hΓ) (fun x p' s' h' => h'.elim)
  exact ⟨e, s', hr, hq⟩
theorem sx_bind_wrap {α β : Type} {m : Sem α} {K : α → Sem β} {K' : β → Sem PySem.Fin} {H' : Value → Sem PySem.Fin} {gd lv} (h : wpAny (model prog w) (A.over c fs) m (fun a s' => SegX (model prog w) A c ((K a).wrap K' H' gd lv) fs s' P) NoE s) :
    SegX (model prog w) A c ((m >>= K).wrap K' H' gd lv) fs s P := by
  rw [Sem.bind_eq_wrap', Sem.wrap_wrap]; exact sx_wrap h
theorem sx_at {p' : Pos} {k : Unit → Sem PySem.Fin} (h : SegX (model prog w) A c (k ()) fs s P) : SegX (model prog w) A c (.at p' k) fs s P :=
  sx_wrap (m := standAt p') (K := k) (H := .raise) (gd := id) (lv := id) (wpAny_standAt h)
theorem sx_point {l : List Value} {k : Unit → Sem PySem.Fin} (h : SegX (model prog w) A c (k ()) fs s P) : SegX (model prog w) A c (.point l k) fs s P :=
  sx_wrap (m := point) (K := k) (H := .raise) (gd := id) (lv := fun _ => l) (wpAny_point h)
/-- a statement that yields -/
theorem sx_Expr_Yield {e : Expr} {ypos pos : Pos} {K : Flow → Sem PySem.Fin} {H : Value → Sem PySem.Fin} {gd : Bool → Bool} {lv : List Value → List Value} (hfs : splitAtGen fs = none) (hgd : gd false = false) (hfg : fs.any Frame.guarded = false)
    (h : wpAny (model prog w) (A.over c fs) (eval e env) (fun v s' => ∀ k l p, (∀ s'' P', SegX (model prog w) A c (K .next) fs s'' P' → SegX (model prog w) A c (k (.send .none)) fs s'' P') → P (.susp v false l k c p fs) s') NoE s)
    (hco : env.scope.isCoroutine = false := by rfl) (hi : interactive env = false := by rfl) :
    SegX (model prog w) A c ((exec (.Expr (.Yield (some e) ypos) pos) env).wrap K H gd lv) fs s P := by
  rw [exec_Expr env _ pos hi rfl]
  show SegX _ A c (.at pos fun _ => ((eval e env >>= fun v => (standAt ypos >>= fun _ => yieldOut env v)) >>= fun x => dropValue (.Yield (some e) ypos) pos x).wrap K H gd lv) fs s P
  have hy : ∀ v, yieldOut env v = yieldValue v := fun v => by simp only [yieldOut, hco, Bool.false_eq_true, if_false]
  simp only [hy]
  refine sx_at ?_
  rw [Sem.bind_eq_wrap', Sem.bind_eq_wrap', Sem.wrap_wrap, Sem.wrap_wrap]
  refine sx_wrap (wpAny_mono h (fun v s' h' => ?_) fun _ _ x => x)
  refine sx_at ?_
  have key := fun k l p => h' k l p
  show SegX _ A c (.yield v (gd false) _ _) fs s' P
  rw [hgd]
  rintro Γ p rfl _
  refine ⟨_, s', Runs.yield' fs hfs, by simp [End.quiet, hfg], key _ _ _ fun s'' P' hx => ?_⟩
  exact hx
/-- how a generator goes on -/
def GoesX (M : Model) (A : Around) (gs : GenState) (s : Shared) (P : End → Shared → Prop) : Prop := match gs with
  | .fresh c => SegX M A c (M.den c) [] s P
  | .suspended k _ c _ fs _ => SegX M A c (k (.send .none)) fs s P
  | _ => False
theorem wp_resume {α : Type} {Q : α → Shared → Prop} {E : Value → Shared → Prop} {g : Nat} {gs : GenState} {l : List Value} {k : GenResult → Sem α} (hg : s.gens[g]? = some gs)
    (hgo : GoesX (model prog w) A gs (s.setGen g .running) fun e s₁ => wpAny (model prog w) A (k e.result) Q E (s₁.setGen g e.genState)) : wpAny (model prog w) A (.resume g (.send .none) l k) Q E s := by
  cases gs with
  | running => exact hgo.elim
  | finished => exact hgo.elim
  | fresh c₀ => exact wake_any _ prog w hg (.inl ⟨rfl, rfl, rfl, rfl⟩) (fun Γ => Γ.In A) (fun _ h => h) (SegX.mono hgo fun e s₁ h Γ p hΓ => h Γ p hΓ)
  | suspended k₀ l₀ c₀ p₀ fs₀ cl => exact wake_any _ prog w hg (.inr ⟨k₀, l₀, p₀, cl, rfl, rfl⟩) (fun Γ => Γ.In A) (fun _ h => h) (SegX.mono hgo fun e s₁ h Γ p hΓ => h Γ p hΓ)
/-- the next of a generator -/
theorem next_gen {a : Addr} {g : Nat} {gs : GenState} {Q : Option Value → Shared → Prop} {E : Value → Shared → Prop} (hh : A.handled = none) (hl : s.heap.NoLimit) (hroom : A.depth < recursionLimit) (hg : s.heap.IsGen a g) (hgs : s.gens[g]? = some gs)
    (hgo : GoesX (model prog w) A.in1 gs (s.setGen g .running) fun e s₁ => match e with
      | .ret r => r = .ok (.ret .none) ∧ ∀ h', s₁.heap.StaysIn h' → Q none { s₁.setGen g .finished with heap := h' }
      | .susp v _ _ _ _ _ _ => Q (some v) (s₁.setGen g e.genState)) : wpAny (model prog w) A (pyNext (.ref a)) Q E s := by
  unfold pyNext
  refine wpAny_bind (wpAny_attempt (wpAny_callSpecial?_slot (name := Str.ofString "__next__") hg.typeIs slot_gen_next
    (wpAny_call_entry slot_gen_next hg.typeIs entry_gen_next ?_ (args_gen_next _))))
  show wpAny _ _ (Builtin.Generator.genWake (.ref a) (.send .none)) _ _ s
  unfold Builtin.Generator.genWake
  refine wpAny_bind (wpAny_holding (wpAny_genNumber hg (wpAny_bind (wpAny_genState hgs ?_))))
  cases gs with
  | running => exact hgo.elim
  | finished => exact hgo.elim
  | _ =>
    refine wpAny_bind (wpAny_roomToWake hl hroom ?_)
    show wpAny _ _ (.resume g (.send .none) [] _) _ _ s
    refine wp_resume hgs (SegX.mono hgo fun e s₁ h => ?_)
    cases e with
    | ret r =>
      obtain ⟨rfl, h⟩ := h
      show wpAny _ _ (newExc (.type "StopIteration") [] >>= _) _ _ _
      refine wpAny_bind ?_
      simp only [newExc, newTuple]
      refine wpAny_bind (wpAny_newObj_type ?_ (by size_fits))
      refine wpAny_bind (m := firstArgMember _ _) (wpAny_of_eq (a := Value.none) (by first | rfl | (simp only [firstArgMember]; rfl)) ?_)
      refine wpAny_newObj_type ?_ (by size_fits)
      simp only [raiseNew]
      refine wpAny_bind (wpAny_bind (wpAny_handled ?_))
      rw [show A.in1.handled = none from hh]
      refine wpAny_throw ?_
      refine wpAny_bind (wpAny_isInstance (T := "StopIteration") (b := true) ⟨_, Heap.get?_push_size _ rfl, rfl⟩ isSubtype_stop ?_)
      exact wpAny_pure (h _ fun b o hb => Heap.get?_push_of_some _ (Heap.get?_push_of_some _ hb))
    | susp v g₀ l₀ k₀ c₀ p₀ fs₀ => exact wpAny_pure ⟨v, rfl, wpAny_pure h⟩
end
end Mine
end
section
open PySem PySem.W PyProof.Rows PySem.Calls PySem.W.X
set_option Elab.async false
set_option linter.unusedVariables false
set_option linter.unusedSectionVars false
namespace Mine
section
variable {w : World}
/-- what stands while the generator of a dict's keys sleeps -/
structure HF (f₀ : Heap) (L D : Addr) (es : Array DictEntry) (ep : Nat) (b : Addr) (Io : Option Addr) (i : Nat) (h : Heap) : Prop where
  fr : f₀.StaysIn h
  dict : h.get? D = some (rawDict es ep)
  ns : ∃ m, h.Ns L m ∧ m (Str.ofString "self") = some (.ref b)
  it : ∀ I, Io = some I → h.IsKeyIter I D i es.size ep ∧ I ≠ L ∧ I ≠ D ∧ f₀.get? I = none
structure SinceG (L I' : Addr) (s s' : Shared) : Prop where
  os : s'.os = s.os
  gx : Gx s.gens s'.gens
  keep : Keep (fun b => b = L ∨ b = I') s.heap s'.heap
abbrev Which (Io : Option Addr) (I' : Addr) (h : Heap) : Prop := Io = some I' ∨ (Io = none ∧ h.get? I' = none)
def PostG (f₀ : Heap) (L D : Addr) (es : Array DictEntry) (ep : Nat) (b : Addr) (Good : Option Addr → GenState → Prop) (Io : Option Addr) (i : Nat) (s : Shared) (e : End) (s' : Shared) : Prop :=
  ∃ I', Which Io I' s.heap ∧ SinceG L I' s s' ∧ f₀.StaysIn s'.heap ∧ match es[i]? with
    | none => e = .ret (.ok (.ret .none))
    | some en => ∃ l k c p fs, e = .susp en.key false l k c p fs ∧ fs.any Frame.guarded = false ∧ HF f₀ L D es ep b (some I') (i + 1) s'.heap ∧ Good (some I') e.genState
def GoodG (w : World) (A : Around) (f₀ : Heap) (L D : Addr) (es : Array DictEntry) (ep : Nat) (b : Addr) : Nat → Option Addr → GenState → Prop
  | 0, Io, gs => ∀ s, HF f₀ L D es ep b Io es.size s.heap → GoesX (model PP w) A gs s (PostG f₀ L D es ep b (fun _ _ => True) Io es.size s)
  | rem + 1, Io, gs => ∀ s, HF f₀ L D es ep b Io (es.size - (rem + 1)) s.heap → GoesX (model PP w) A gs s (PostG f₀ L D es ep b (GoodG w A f₀ L D es ep b rem) Io (es.size - (rem + 1)) s)
def NextG (w : World) (A : Around) (f₀ : Heap) (L D : Addr) (es : Array DictEntry) (ep : Nat) (b : Addr) : Nat → Option Addr → GenState → Prop
  | 0 => fun _ _ => True
  | r + 1 => GoodG w A f₀ L D es ep b r
variable {A : Around} {f₀ : Heap} {L D b : Addr} {es : Array DictEntry} {ep : Nat} {env : Env}
structure GEnv (env : Env) (L : Addr) : Prop where
  loc : env.locals = L
  kind : env.scope.kind = .function
  self : env.kindOf (Str.ofString "self") = some .local
  item : env.kindOf (Str.ofString "item") = some .local
  co : env.scope.isCoroutine = false
  int : interactive env = false
set_option maxRecDepth 100000 in
theorem loopG {p1 p4 p5 p6 : Pos} {fs : List Frame} (G : GEnv env L) (hh : ∀ c, (A.over c fs).handled = none) (hfs : splitAtGen fs = none) (hfg : fs.any Frame.guarded = false) (nDL : D ≠ L) (fL : f₀.get? L = none)
    (tail : ∀ s P', P' (.ret (.ok (.ret .none))) s → SegX (model PP w) A (.block [] env) (.pure (.done .next)) fs s P') :
    ∀ (rem : Nat) (I : Addr) (s : Shared), rem ≤ es.size → HF f₀ L D es ep b (some I) (es.size - rem) s.heap →
      SegX (model PP w) A (.forLoop (.Name (Str.ofString "item") p1) (.ref I) [.Expr (.Yield (some (.Name (Str.ofString "item") p4)) p5) p6] [] env) ((model PP w).den (.forLoop (.Name (Str.ofString "item") p1) (.ref I) [.Expr (.Yield (some (.Name (Str.ofString "item") p4)) p5) p6] [] env)) fs s
        (PostG f₀ L D es ep b (NextG w A f₀ L D es ep b rem) (some I) (es.size - rem) s) := by
  have hp : (env.scope.kind == .class || (env.scope.kind == .module && env.locals != env.globals)) = false := by rw [G.kind]; rfl
  intro rem
  induction rem with
  | zero =>
    intro I s hr H
    obtain ⟨hit, nIL, nID, fI⟩ := H.it I rfl
    show SegX _ A _ ((forTurn (.Name (Str.ofString "item") p1) (.ref I) [.Expr (.Yield (some (.Name (Str.ofString "item") p4)) p5) p6] [] env).onRaise _) fs s _
    rw [Sem.onRaise_eq_wrap]
    unfold forTurn
    refine sx_bind_wrap (wpAny_standAt ?_)
    refine sx_bind_wrap (wpAny_onRaise (wpAny_mono (E := NoE) (end_dic (hh _) hit H.dict (by omega) fun h' he => ?_) (fun _ _ x => x) fun _ _ z => z.elim))
    refine s_again PP w A _ fs _ _ _ rfl ?_
    show SegX _ A _ (((execs [] env).onRaise _) >>= fun f => pure (PySem.Fin.done f)) fs _ _
    rw [Sem.bind_eq_wrap']
    refine sx_wrap (wpAny_onRaise (wpAny_execs_nil ?_))
    refine tail _ _ ⟨I, .inl rfl, ⟨rfl, .refl _, fun b o n e => he b o (fun q => n (.inr q)) e⟩, fun b o e => he b o (fun q => by rw [q, fI] at e; cases e) (H.fr b o e), ?_⟩
    rw [show es[es.size - 0]? = none by simp]
  | succ rem ih =>
    intro I s hr H
    obtain ⟨hit, nIL, nID, fI⟩ := H.it I rfl
    have hlt : es.size - (rem + 1) < es.size := by omega
    have hx : es[es.size - (rem + 1)]? = some es[es.size - (rem + 1)] := Array.getElem?_eq_getElem hlt
    generalize es[es.size - (rem + 1)] = en at hx
    show SegX _ A _ ((forTurn (.Name (Str.ofString "item") p1) (.ref I) [.Expr (.Yield (some (.Name (Str.ofString "item") p4)) p5) p6] [] env).onRaise _) fs s _
    rw [Sem.onRaise_eq_wrap]
    unfold forTurn
    refine sx_bind_wrap (wpAny_standAt ?_)
    refine sx_bind_wrap (wpAny_onRaise (wpAny_mono (E := NoE) (next_dic hit H.dict hx fun h1 hit1 s1 => ?_) (fun _ _ x => x) fun _ _ z => z.elim))
    refine sx_bind_wrap (wpAny_of_eq (rfl : letOwnedTupleGo (.Name (Str.ofString "item") p1) (.ref I) en.key = pure ()) ?_)
    obtain ⟨m, hn, hm⟩ := H.ns
    have hn1 : h1.Ns env.locals m := G.loc ▸ hn.sameBut s1 (Ne.symm nIL)
    refine sx_bind_wrap (wpAny_assign_Name (wpAny_storeName_local G.item hn1 (fun h2 hn2 s2 => ?_) hp))
    rw [G.loc] at hn2 s2
    rw [Sem.bind_eq_wrap', Sem.wrap_wrap, execs_cons_wrap]
    refine sx_Expr_Yield hfs rfl hfg ?_ G.co G.int
    have X2 : Var w env h2 (Str.ofString "item") en.key := .local (G.loc.symm ▸ hn2) (by simp) G.kind G.item
    refine (X2 _).here ?_
    intro k l p hk
    have up : Keep (fun b => b = L ∨ b = I) s.heap h2 := fun b o n e => s2.extBut b o (fun q => n (.inl q)) (s1.extBut b o (fun q => n (.inr q)) e)
    have fr2 : f₀.StaysIn h2 := fun b o e => up b o (fun q => q.elim (fun q => by rw [q, fL] at e; cases e) fun q => by rw [q, fI] at e; cases e) (H.fr b o e)
    refine ⟨I, .inl rfl, ⟨rfl, .refl _, up⟩, fr2, ?_⟩
    rw [hx]
    refine ⟨l, k, _, p, fs, rfl, hfg, ⟨fr2, up _ _ (fun q => q.elim nDL fun q => nID q.symm) H.dict, ⟨_, hn2, ?_⟩, fun I' hI' => ?_⟩, ?_⟩
    · have : ¬ (Str.ofString "self" = Str.ofString "item") := by decide
      simpa [this] using hm
    · cases hI'
      refine ⟨?_, nIL, nID, fI⟩
      have : es.size - (rem + 1) + 1 = es.size - rem := by omega
      exact hit1.extBut s2.extBut nIL
    · have go : ∀ s'' P', SegX (model PP w) A (.forLoop (.Name (Str.ofString "item") p1) (.ref I) [.Expr (.Yield (some (.Name (Str.ofString "item") p4)) p5) p6] [] env) ((model PP w).den (.forLoop (.Name (Str.ofString "item") p1) (.ref I) [.Expr (.Yield (some (.Name (Str.ofString "item") p4)) p5) p6] [] env)) fs s'' P' →
          SegX (model PP w) A (.forLoop (.Name (Str.ofString "item") p1) (.ref I) [.Expr (.Yield (some (.Name (Str.ofString "item") p4)) p5) p6] [] env) (k (.send .none)) fs s'' P' := fun s'' P' z => hk s'' P' (s_again PP w A _ fs _ _ _ rfl z)
      have e1 : ∀ r, es.size - (r + 1) + 1 = es.size - r ∨ es.size < r + 1 := fun r => by omega
      cases rem with
      | zero =>
        intro s'' H''
        exact go _ _ (ih I s'' (by omega) H'')
      | succ r =>
        intro s'' H''
        exact go _ _ (ih I s'' (by omega) H'')
end
end Mine
end
section
open PySem PySem.W PyProof.Rows PySem.Calls PySem.W.X
set_option Elab.async false
set_option linter.unusedVariables false
set_option linter.unusedSectionVars false
namespace Mine
theorem fillOi : PySem.Challenge.rw_fi0012_01 = PySem.Challenge.rw_fi0012_01 ∧ hd.heap_39 = hd.heap_39 := by
  k_fill
  exact ⟨rfl, rfl⟩
section
variable {w : World} {A : Around} {f₀ : Heap} {L D b : Addr} {es : Array DictEntry} {ep : Nat} {env : Env}
theorem sx_func {body : List Stmt} {fs : List Frame} {s : Shared} {P : End → Shared → Prop}
    (h : SegX (model PP w) A (.func body env) ((execs body env).wrap (fun f => .pure (.done (.ret (match f with | .ret v => v | _ => .none))))
      (fun e => (leaving env e).wrap (fun _ => .raise e) .raise id id) id id) fs s P) :
    SegX (model PP w) A (.func body env) ((model PP w).den (.func body env)) fs s P := by
  show SegX _ A _ (.point [] fun _ => ((execs body env).onRaise (leaving env)) >>= _) fs s P
  refine sx_point ?_
  rw [Sem.onRaise_eq_wrap, Sem.bind_eq_wrap', Sem.wrap_wrap]
  rw [Sem.wrap_congr (execs body env) _ _ (K' := fun f => .pure (.done (.ret (match f with | .ret v => v | _ => .none))))
    (H' := fun e => (leaving env e).wrap (fun _ => .raise e) .raise id id) (fun f => by cases f <;> rfl)
    (fun e => by rw [Sem.bind_eq_wrap, Sem.wrap_wrap]; rfl)]
  exact h
set_option maxRecDepth 100000 in
theorem freshG {p1 p2 p3 p4 p5 p6 p7 : Pos} (K : Ok w f₀) (hh : A.handled = none) (G : GEnv env L) (oa : OsAt f₀ b D) (nDL : D ≠ L) (fL : f₀.get? L = none) (rem : Nat) (hr : rem = es.size) :
    GoodG w A f₀ L D es ep b rem none (.fresh (.func [.For (.Name (Str.ofString "item") p1) (.Attribute (.Name (Str.ofString "self") p2) (Str.ofString "d") p3) [.Expr (.Yield (some (.Name (Str.ofString "item") p4)) p5) p6] [] p7] env)) := by
  have main : ∀ s, HF f₀ L D es ep b none (es.size - rem) s.heap → SegX (model PP w) A (.func [.For (.Name (Str.ofString "item") p1) (.Attribute (.Name (Str.ofString "self") p2) (Str.ofString "d") p3) [.Expr (.Yield (some (.Name (Str.ofString "item") p4)) p5) p6] [] p7] env) ((model PP w).den (.func [.For (.Name (Str.ofString "item") p1) (.Attribute (.Name (Str.ofString "self") p2) (Str.ofString "d") p3) [.Expr (.Yield (some (.Name (Str.ofString "item") p4)) p5) p6] [] p7] env)) [] s
      (PostG f₀ L D es ep b (NextG w A f₀ L D es ep b rem) none (es.size - rem) s) := by
    rintro ⟨h, g, d, tk, os⟩ H
    refine sx_func ?_
    rw [execs_cons_wrap, exec_For]
    refine sx_bind_wrap (wpAny_standAt ?_)
    obtain ⟨m, hn, hm⟩ := H.ns
    have Xs : Var w env h (Str.ofString "self") (.ref b) := .local (G.loc.symm ▸ hn) hm G.kind G.self
    refine sx_bind_wrap ((es_d K (es_name Xs ⟨b, rfl, oa⟩)) _ _ (.refl H.fr) g d tk os _ fun h1 f1 g1 d1 tk1 v1 e1 ge1 t1 => ?_)
    cases t1
    refine sx_bind_wrap (wpAny_of_eq (rfl : foldedSetIterable (.Attribute (.Name (Str.ofString "self") p2) (Str.ofString "d") p3) env (.ref D) = pure (.ref D)) ?_)
    refine sx_bind_wrap (wpAny_standAt ?_)
    refine sx_bind_wrap (wpAny_holding (iter_dic (s := ⟨h1, g1, d1, tk1, os⟩) oa.1 (e1.stays _ _ H.dict) fun h2 hit k2 => ?_))
    dsimp only at hit k2 ⊢
    have zI : h.get? h1.objs.size = none := fresh_up e1.stays
    have fI : f₀.get? h1.objs.size = none := by
      cases q : f₀.get? h1.objs.size with
      | none => rfl
      | some o => rw [H.fr _ _ q] at zI; cases zI
    generalize h1.objs.size = I at hit zI fI
    have up : h.StaysIn h2 := fun b o e => k2 _ _ (e1.stays b o e)
    have live : ∀ {c}, h.get? c ≠ none → I ≠ c := fun {c} z q => z (q ▸ zI)
    have nIL : I ≠ L := live (Ns.ne hn)
    have nID : I ≠ D := live (get_ne H.dict)
    have H2 : HF f₀ L D es ep b (some I) (es.size - rem) h2 := ⟨fun c o e => up _ _ (H.fr c o e), up _ _ H.dict, ⟨m, hn.keeps up, hm⟩, fun I' e => by
      cases e; refine ⟨?_, nIL, nID, fI⟩
      have : es.size - rem = 0 := by omega
      rw [this]; exact hit⟩
    refine s_call PP w A _ [] _ _ _ _ _ _ _ fun p => ?_
    refine SegX.mono (loopG (A := A) (es := es) (ep := ep) (b := b) (f₀ := f₀) G (fun c => ?_) rfl rfl nDL fL (fun s P' hP => ?_) rem I ⟨h2, g1, d1, tk1, os⟩ (by omega) H2) fun e s' z => ?_
    · show (marksOver _ (A.handled, A.handled)).1 = none
      rw [hh]; rfl
    · refine s_pop PP w A _ [] _ s (.ok .next) _ rfl _ _ _ _ _ _ _ ?_
      refine s_end PP w A _ _ s (.ok (.ret .none)) _ rfl hP
    · obtain ⟨I', hw, sn, fr, r⟩ := z
      have : I' = I := by
        rcases hw with q | ⟨q, _⟩
        · cases q; rfl
        · cases q
      subst this
      exact ⟨I', .inr ⟨rfl, zI⟩, ⟨sn.os, ge1.trans sn.gx, fun c o n e => sn.keep c o n (up _ _ e)⟩, fr, r⟩
  cases rem with
  | zero =>
    intro s H
    have := main s (by rw [← hr] at H ⊢; exact H)
    rw [Nat.sub_zero] at this
    exact this
  | succ r => intro s H; exact main s H
end
end Mine
end
section
open PySem PySem.W PyProof.Rows PySem.Calls PySem.W.X
set_option Elab.async false
set_option linter.unusedVariables false
set_option linter.unusedSectionVars false
namespace Mine
theorem Gx.set {base g : Array GenState} {gi : Nat} {st : GenState} (x : Gx base g) (hg : base.size ≤ gi) (hb : st.bare = true) : Gx base (g.setIfInBounds gi st) := by
  refine ⟨by rw [Array.size_setIfInBounds]; exact x.size, fun i hi => ?_, fun i s hi hs => ?_⟩
  · rw [Array.getElem?_setIfInBounds_ne (by omega)]; exact x.old i hi
  · by_cases q : gi = i
    · subst q
      by_cases z : gi < g.size
      · rw [Array.getElem?_setIfInBounds_self_of_lt z] at hs; cases hs; exact hb
      · rw [Array.getElem?_eq_none (by rw [Array.size_setIfInBounds]; omega)] at hs; cases hs
    · rw [Array.getElem?_setIfInBounds_ne q] at hs; exact x.bare i s hi hs
section
variable {w : World} {A : Around} {f₀ : Heap} {L D b : Addr} {es : Array DictEntry} {ep : Nat} {env : Env}
structure HP (L D : Addr) (es : Array DictEntry) (ep : Nat) (b : Addr) (Io : Option Addr) (i : Nat) (h : Heap) : Prop where
  dict : h.get? D = some (rawDict es ep)
  ns : ∃ m, h.Ns L m ∧ m (Str.ofString "self") = some (.ref b)
  it : ∀ I, Io = some I → h.IsKeyIter I D i es.size ep ∧ I ≠ L ∧ I ≠ D
theorem GoodG.go {rem i : Nat} {Io : Option Addr} {gs : GenState} (G : GoodG w A f₀ L D es ep b rem Io gs) (hr : i + rem = es.size) {s : Shared} (H : HF f₀ L D es ep b Io i s.heap) :
    GoesX (model PP w) A gs s (PostG f₀ L D es ep b (NextG w A f₀ L D es ep b rem) Io i s) := by
  cases rem with
  | zero =>
    have : i = es.size := by omega
    subst this; exact G s H
  | succ r =>
    have : i = es.size - (r + 1) := by omega
    subst this; exact G s H
theorem GoesX.mono {M : Model} {gs : GenState} {s : Shared} {P P' : End → Shared → Prop} (x : GoesX M A gs s P) (h : ∀ e s', P e s' → P' e s') : GoesX M A gs s P' := by
  cases gs with
  | fresh c => exact SegX.mono x h
  | suspended k l c p fs cl => exact SegX.mono x h
  | running => exact x
  | finished => exact x
structure OsSt (w : World) (A : Around) (f₀ : Heap) (L D : Addr) (es : Array DictEntry) (ep : Nat) (b : Addr) (base : Array GenState) (a : Addr) (gi : Nat) (i : Nat) (fp wr : Addr → Prop) (f h : Heap) (g : Array GenState) (Io : Option Addr) : Prop where
  gx : Gx base g
  gle : base.size ≤ gi
  good : ∃ gs, g[gi]? = some gs ∧ GoodG w A f₀ L D es ep b (es.size - i) Io gs
  le : i ≤ es.size
  gen : h.IsGen a gi
  hp : HP L D es ep b Io i h
  ff : f₀.StaysIn f
  fL : f.get? L = none
  fI : ∀ I, Io = some I → f.get? I = none
  aL : a ≠ L
  fp_ : fp = fun c => c = a ∨ c = L ∨ c = D ∨ Io = some c
  wr_ : wr = fun c => c = L ∨ Io = some c
theorem key_ne_gen {h : Heap} {a I : Addr} {gi i n ep : Nat} (x : h.IsGen a gi) (y : h.IsKeyIter I D i n ep) : a ≠ I := by
  rintro rfl
  obtain ⟨o, _, _, e, c, _⟩ := x
  obtain ⟨o', e', c', _⟩ := y
  rw [e] at e'; cases e'
  rw [c] at c'
  injection c' with c'
  exact absurd c' (by decide)
theorem OsSt.hf {base : Array GenState} {a : Addr} {gi i : Nat} {fp wr : Addr → Prop} {f h : Heap} {g : Array GenState} {Io : Option Addr} (S : OsSt w A f₀ L D es ep b base a gi i fp wr f h g Io) (k : f.StaysIn h) : HF f₀ L D es ep b Io i h :=
  ⟨fun b o e => k _ _ (S.ff b o e), S.hp.dict, S.hp.ns, fun I e => ⟨(S.hp.it I e).1, (S.hp.it I e).2.1, (S.hp.it I e).2.2, by
    cases q : f₀.get? I with
    | none => rfl
    | some o => have := S.ff _ _ q; rw [S.fI I e] at this; cases this⟩⟩
theorem set_at {g : Array GenState} {gi : Nat} {gs st : GenState} (h : g[gi]? = some gs) : (g.setIfInBounds gi st)[gi]? = some st := by
  have : gi < g.size := by
    rcases Nat.lt_or_ge gi g.size with q | q
    · exact q
    · rw [Array.getElem?_eq_none q] at h; cases h
  exact Array.getElem?_setIfInBounds_self_of_lt this
/-- an OrderedSet's generator, as something that is gone through -/
def itOs {ys : List Sy} {xs : List (Row Sy)} {ep : Nat} (K : Ok w f₀) (rm : Rm A 300) (R : SymRows f₀ AnyV xs ys) (nDL : D ≠ L) (tgt : Expr) (base : Array GenState) (a : Addr) (gi : Nat) :
    It w A Ty.sym ys tgt base (.ref a) where
  St i fp wr f h g := ∃ Io, OsSt w A.in1 f₀ L D (xs.map fun x => (⟨symHash w x.1, x.2.1, x.2.2⟩ : DictEntry)).toArray ep b base a gi i fp wr f h g Io
  gx := fun ⟨Io, S⟩ => S.gx
  live := by
    rintro i fp wr f h g ⟨Io, S⟩ c hc
    rw [S.fp_] at hc
    rcases hc with rfl | rfl | rfl | hc
    · obtain ⟨o, _, _, e, _⟩ := S.gen; exact get_ne e
    · obtain ⟨m, n, _⟩ := S.hp.ns; exact Ns.ne n
    · exact get_ne S.hp.dict
    · obtain ⟨⟨o, e, _⟩, _⟩ := S.hp.it c hc; exact get_ne e
  sub := by
    rintro i fp wr f h g ⟨Io, S⟩ c hc
    rw [S.wr_] at hc; rw [S.fp_]
    rcases hc with hc | hc
    · exact .inr (.inl hc)
    · exact .inr (.inr (.inr hc))
  keep := by
    rintro i fp wr f h g f' h' g' ⟨Io, S⟩ k kf kn kg
    rw [S.fp_] at k kn
    refine ⟨Io, ⟨S.gx.trans kg, S.gle, ?_, S.le, ?_, ⟨k _ _ (.inr (.inr (.inl rfl))) S.hp.dict, ?_, fun I e => ?_⟩, fun b o e => kf _ _ (S.ff b o e), kn _ (.inr (.inl rfl)) S.fL, fun I e => kn _ (.inr (.inr (.inr e))) (S.fI I e), S.aL, S.fp_, S.wr_⟩⟩
    · obtain ⟨gs, e, G⟩ := S.good
      refine ⟨gs, ?_, G⟩
      have : gi < g.size := by
        rcases Nat.lt_or_ge gi g.size with q | q
        · exact q
        · rw [Array.getElem?_eq_none q] at e; cases e
      rw [kg.old gi this]; exact e
    · obtain ⟨o, nm, qn, e, r⟩ := S.gen; exact ⟨o, nm, qn, k _ _ (.inl rfl) e, r⟩
    · obtain ⟨m, n, e⟩ := S.hp.ns; exact ⟨m, n.at' fun o e => k _ _ (.inr (.inl rfl)) e, e⟩
    · obtain ⟨⟨o, e1, r⟩, r2⟩ := S.hp.it I e; exact ⟨⟨o, k _ _ (.inr (.inr (.inr e))) e1, r⟩, r2⟩
  self := fun ⟨Io, S⟩ q => wpAny_pyIter_gen S.gen q
  next := by
    rintro i fp wr f h g d tk os x Q ⟨Io, S⟩ k hx hq
    obtain ⟨p, lo1, mg1, mb1, T⟩ := (K.keeps fun b o e => k _ _ (S.ff b o e)).T
    obtain ⟨gs, hgs, G⟩ := S.good
    have hroom : A.depth < recursionLimit := by have : recursionLimit = 1000 := rfl; have := rm.depth; omega
    have hlt : i < ys.length := (List.getElem?_eq_some_iff.mp hx).1
    have hsz : xs.length = ys.length := R.len
    obtain ⟨row, hrow⟩ : ∃ r, xs[i]? = some r := ⟨_, List.getElem?_eq_getElem (by omega)⟩
    have hrx : row.1 = x := by
      have : (xs.map (·.1))[i]? = some x := by rw [R.keys]; exact hx
      rw [List.getElem?_map, hrow] at this; simpa using this
    have hes : (xs.map fun x => (⟨symHash w x.1, x.2.1, x.2.2⟩ : DictEntry)).toArray[i]? = some ⟨symHash w row.1, row.2.1, row.2.2⟩ := by simp [hrow]
    have hness : (xs.map fun x => (⟨symHash w x.1, x.2.1, x.2.2⟩ : DictEntry)).toArray.size = ys.length := by simp [hsz]
    have hkey : Ty.sym.is f₀ x row.2.1 := hrx ▸ R.key row (List.mem_of_getElem? hrow)
    refine next_gen (s := ⟨h, g, d, tk, os⟩) rm.hh T.nolimit hroom S.gen hgs (GoesX.mono (G.go (by have := S.le; omega) (s := (⟨h, g, d, tk, os⟩ : Shared).setGen gi .running) (S.hf k)) ?_)
    rintro e s₁ ⟨I', hw, sn, fr, r⟩
    rw [hes] at r
    obtain ⟨l, k', c, p', fs, rfl, hfg, H, G'⟩ := r
    obtain ⟨h1, g1, d1, tk1, os1⟩ := s₁
    obtain rfl : os1 = os := sn.os
    have hw : Which Io I' h := hw
    have gxr : Gx base (g.setIfInBounds gi .running) := S.gx.set S.gle rfl
    have gx1 : Gx base g1 := gxr.trans sn.gx
    have hgr : (g.setIfInBounds gi .running)[gi]? = some .running := set_at hgs
    have hg1 : g1[gi]? = some .running := by
      have : gi < (g.setIfInBounds gi GenState.running).size := by
        rcases Nat.lt_or_ge gi (g.setIfInBounds gi GenState.running).size with q | q
        · exact q
        · rw [Array.getElem?_eq_none q] at hgr; cases hgr
      rw [sn.gx.old gi this]; exact hgr
    refine ⟨_, rfl, ?_⟩
    obtain ⟨og, nm, qn, eg, cg, rg⟩ := S.gen
    have naI : a ≠ I' := by
      rcases hw with q | ⟨_, q⟩
      · exact key_ne_gen S.gen (S.hp.it I' q).1
      · rintro rfl; rw [q] at eg; cases eg
    have eg1 : h1.get? a = some og := sn.keep _ _ (fun q => q.elim S.aL naI) eg
    have fI1 : f.get? I' = none := by
      rcases hw with q | ⟨_, q⟩
      · exact S.fI I' q
      · cases z : f.get? I' with
        | none => rfl
        | some o => rw [k _ _ z] at q; cases q
    have kw : Keep wr h h1 := fun c o n e => sn.keep c o (by
      rw [S.wr_] at n
      rintro (q | rfl)
      · exact n (.inl q)
      · rcases hw with q | ⟨_, q⟩
        · exact n (.inr q)
        · rw [q] at e; cases e) e
    have e1 : Ext wr f h f h1 := .heap k kw fun c hc => by
      rw [S.wr_] at hc
      rcases hc with rfl | hc
      · exact S.fL
      · exact S.fI c hc
    refine noGo (s := ⟨h1, _, d1, tk1, os1⟩) eg1 cg (by decide) (hq _ (fun c => c = a ∨ c = L ∨ c = D ∨ some I' = some c) (fun c => c = L ∨ some I' = some c) f h1 _ d1 tk1 e1 (fun c hc => ?_) (fun c hc => ?_) ⟨some I', ⟨?_, S.gle, ⟨_, set_at hg1, ?_⟩, ?_, ⟨og, nm, qn, eg1, cg, rg⟩, ⟨H.dict, H.ns, fun I e => ⟨(H.it I e).1, (H.it I e).2.1, (H.it I e).2.2.1⟩⟩, S.ff, S.fL, fun I e => by cases e; exact fI1, S.aL, rfl, rfl⟩⟩ (Ty.mono _ S.ff hkey))
    · rw [S.fp_]
      rcases hc with q | q | q | q
      · exact .inl (.inl q)
      · exact .inl (.inr (.inl q))
      · exact .inl (.inr (.inr (.inl q)))
      · cases q
        rcases hw with q | ⟨_, q⟩
        · exact .inl (.inr (.inr (.inr q)))
        · exact .inr q
    · rw [S.wr_]
      rcases hc with q | q
      · exact .inl (.inl q)
      · cases q
        rcases hw with q | ⟨_, q⟩
        · exact .inl (.inr q)
        · exact .inr q
    · exact gx1.set S.gle (by show (!(false || fs.any Frame.guarded)) = true; rw [hfg]; rfl)
    · rw [hness]
      obtain ⟨r, hr⟩ : ∃ r, ys.length - i = r + 1 := ⟨ys.length - i - 1, by omega⟩
      rw [hness, hr] at G'
      have : ys.length - (i + 1) = r := by omega
      rw [this]; exact G'
    · rw [hness]; omega
  stop := by
    rintro fp wr f h g d tk os Q ⟨Io, S⟩ k hq
    obtain ⟨p, lo1, mg1, mb1, T⟩ := (K.keeps fun b o e => k _ _ (S.ff b o e)).T
    obtain ⟨gs, hgs, G⟩ := S.good
    have hroom : A.depth < recursionLimit := by have : recursionLimit = 1000 := rfl; have := rm.depth; omega
    have hsz : xs.length = ys.length := R.len
    have hes : (xs.map fun x => (⟨symHash w x.1, x.2.1, x.2.2⟩ : DictEntry)).toArray[ys.length]? = none := by simp [hsz]
    refine next_gen (s := ⟨h, g, d, tk, os⟩) rm.hh T.nolimit hroom S.gen hgs (GoesX.mono (G.go (by have := S.le; omega) (s := (⟨h, g, d, tk, os⟩ : Shared).setGen gi .running) (S.hf k)) ?_)
    rintro e s₁ ⟨I', hw, sn, fr, r⟩
    rw [hes] at r
    subst r
    obtain ⟨h1, g1, d1, tk1, os1⟩ := s₁
    obtain rfl : os1 = os := sn.os
    have hw : Which Io I' h := hw
    refine ⟨rfl, fun h2 k2 => ?_⟩
    have gxr : Gx base (g.setIfInBounds gi .running) := S.gx.set S.gle rfl
    have gx1 : Gx base g1 := gxr.trans sn.gx
    have kw : Keep wr h h1 := fun c o n e => sn.keep c o (by
      rw [S.wr_] at n
      rintro (q | rfl)
      · exact n (.inl q)
      · rcases hw with q | ⟨_, q⟩
        · exact n (.inr q)
        · rw [q] at e; cases e) e
    exact hq f h2 _ d1 tk1 (.heap k (fun c o n e => k2 _ _ (kw c o n e)) fun c hc => by
      rw [S.wr_] at hc
      rcases hc with rfl | hc
      · exact S.fL
      · exact S.fI c hc) (gx1.set S.gle rfl)
end
end Mine
end
section
open PySem PySem.W PyProof.Rows PySem.Calls PySem.W.X
set_option Elab.async false
set_option linter.unusedVariables false
set_option linter.unusedSectionVars false
namespace Mine
theorem fillOk : PySem.Challenge.rw_fi0012_01 = PySem.Challenge.rw_fi0012_01 ∧ hd.heap_39 = hd.heap_39 := by
  k_fill
  exact ⟨rfl, rfl⟩
theorem Gx.push {base g : Array GenState} {st : GenState} (x : Gx base g) (hb : st.bare = true) : Gx base (g.push st) := by
  refine ⟨Nat.le_trans x.size (by rw [Array.size_push]; omega), fun i hi => ?_, fun i s hi hs => ?_⟩
  · have := x.size
    rw [Array.getElem?_push, if_neg (by omega)]; exact x.old i hi
  · rw [Array.getElem?_push] at hs
    split at hs
    · cases hs; exact hb
    · exact x.bare i s hi hs
section
variable {w : World} {A : Around} {f h : Heap} {D b : Addr} {xs : List (Row Sy)} {ys : List Sy} {ep : Nat} {g base : Array GenState} {d : Drawn} {tk : Nat} {os : OsState} {tgt : Expr}
theorem interactive_fn {env : Env} (hk : env.scope.kind = .function) : interactive env = false := by
  unfold interactive; simp [hk]
set_option maxRecDepth 100000 in
/-- an OrderedSet is gone through -/
theorem iter_os {Q : Value → Shared → Prop} (K : Ok w f) (kf : f.StaysIn h) (rm : Rm A 200) (oa : OsAt f b D) (e : h.get? D = some (symDic w xs ep)) (R : SymRows f AnyV xs ys) (gb : Gx base g)
    (hq : ∀ h' f' g' d' tk' it (I : It w A Ty.sym ys tgt base it) fp wr, Ext Nil f h f' h' → I.St 0 fp wr f' h' g' → (∀ c, wr c → h.get? c = none) → (∀ c, fp c → c = D ∨ h.get? c = none) → Q it ⟨h', g', d', tk', os⟩) :
    wpAny (model PP w) A (pyIter (.ref b)) Q NoE ⟨h, g, d, tk, os⟩ := by
  obtain ⟨lo, dd, hs, t, n, e1, e2⟩ := id oa
  have X : (hd.heap_39 w.params).In h := fun a o e => kf _ _ (K.X a o e)
  have I0 : InstAt h b (instObj 101 dd) 101 (some (PySem.W.dictOf [⟨hs, .str (Str.ofString "d") t, .ref D⟩] n)) := ⟨kf _ _ e1, rfl, rfl, kf _ _ e2⟩
  have L1 : Looks (model PP w) h (specialOf (.ref b) "__iter__") (some (.ref 65)) := I0.type.andThen (looks_findIn X (show findIn (hd.heap_39 w.params) (.ref 101) "__iter__" = some (some (.ref 65)) by k_is))
  have L2 : Looks (model PP w) h (bindSpecial (.ref 65) (.ref b)) (.ref 65, [.ref b]) := bind_fn X _ (show typeIn (hd.heap_39 w.params) (.ref 65) = some (.type "function") by k_is)
  unfold pyIter
  refine wpAny_bind (L1.here ?_)
  dsimp only
  have key : ∀ (Q' : Option Value → Shared → Prop), wpAny (model PP w) A (call (.ref 65) [.ref b]) (fun v => Q' (some v)) NoE ⟨h, g, d, tk, os⟩ → ∀ refuse, wpAny (model PP w) A (callSpecialIfBoundUnlessNone? (.ref b) "__iter__" refuse) Q' NoE ⟨h, g, d, tk, os⟩ := by
    intro Q' hc refuse
    simp only [callSpecialIfBoundUnlessNone?, bindSpecialIfBound?]
    refine wpAny_holding (wpAny_bind (wpAny_bind (L1.here ?_)))
    have fin : wpAny (model PP w) A (if (Value.ref 65 == Value.none) = true then (refuse >>= fun v => pure (some v)) else (call (.ref 65) [.ref b] >>= fun v => pure (some v))) Q' NoE ⟨h, g, d, tk, os⟩ := by
      rw [if_neg (by simp)]
      exact wpAny_bind (wpAny_mono hc (fun v s' h' => wpAny_pure h') fun _ _ h' => h')
    refine wpAny_bind (wpAny_askSetting (wpAny_ite ?_))
    split
    · exact wpAny_bind (L2.here (wpAny_pure fin))
    · exact wpAny_tryCatch (wpAny_bind (L2.here (wpAny_pure fin)))
  refine wpAny_bind (key _ ?_ _)
  refine wpAny_call ?_
  obtain ⟨p, loose, mg, mb, T⟩ := K.T
  have ho := show (hd.heap_39 w.params).lookup 65 = some _ by k_is
  refine codeAny_call_generator (by show A.depth < recursionLimit; have : recursionLimit = 1000 := rfl; have := rm.depth; omega) (kf _ _ (K.X _ _ ho)) rfl rfl rfl rfl (codeRec_of (fun a o e => kf _ _ (K.X a o e)) (by k_is)) ?_
  refine (show BindsTo ⟨h, g, d, tk, os⟩ _ ⟨[.ref b], []⟩ [(Str.ofString "self", Value.ref b)] from BindsTo.of_eq rfl) _ _ _ _ ?_
  refine wpAny_newFunctionEnv_cells rfl (kindsX (by rfl) _) fun env' he s' x => ?_
  subst he
  refine ⟨(T.nolimit.keeps kf).keeps x.toInCall.keep, ?_⟩
  obtain ⟨h₁, tk₁, rfl, _⟩ := x.done
  have hk₁ : h.StaysIn h₁ := x.toInCall.keep
  have ns := x.toInCall.ns
  have zL : h.get? h.objs.size = none := size_none _
  have fL : f.get? h.objs.size = none := fsize_none kf
  dsimp only at ns ⊢
  obtain ⟨m, hm, hself⟩ : ∃ m, h₁.Ns h.objs.size m ∧ m (Str.ofString "self") = some (.ref b) := ⟨_, ns, (bindL_eq _ _ _ _ rfl).trans rfl⟩
  clear ns
  generalize h.objs.size = L at hm zL fL ⊢
  have nDL : D ≠ L := fun q => by rw [q, zL] at e; cases e
  have aL : h₁.objs.size ≠ L := fun q => by
    obtain ⟨_, _, _, eL, _⟩ := hm
    exact absurd (Heap.lt_size eL) (by rw [q]; exact Nat.lt_irrefl _)
  have kfp : ∀ (o : Obj) c o', h.get? c = some o' → (h₁.push o).get? c = some o' := fun o c o' q => Heap.get?_push_of_some _ (hk₁ _ _ q)
  refine wpAny_bind (wpAny_specialOf (s := ⟨h₁.push _, _, _, _, _⟩) (⟨_, Heap.get?_push_size _ rfl, rfl⟩ : Shared.TypeIs _ (.ref h₁.objs.size) "generator") slot_gen_next.lookup (wpAny_pure ?_))
  refine hq (h₁.push _) f _ d _ _ (itOs (b := b) (L := L) (ep := ep) K rm.mono R nDL tgt base h₁.objs.size g.size) (fun c => c = h₁.objs.size ∨ c = L ∨ c = D ∨ none = some c) (fun c => c = L ∨ none = some c) (.grown kf (kfp _)) ⟨none, ⟨gb.push rfl, gb.size, ⟨_, Array.getElem?_push_size, ?_⟩, Nat.zero_le _, ⟨_, _, _, Heap.get?_push_size _ rfl, rfl, rfl, rfl⟩, ⟨kfp _ _ _ e, ⟨m, hm.keeps fun c o q => Heap.get?_push_of_some _ q, hself⟩, fun I z => nomatch z⟩, fun c o q => q, fL, (fun I z => nomatch z), aL, rfl, rfl⟩⟩ ?_ ?_
  · refine freshG (A := A.in1) (L := L) K rm.hh ?_ oa nDL fL _ (Nat.sub_zero _)
    exact ⟨rfl, rfl, rfl, rfl, rfl, rfl⟩
  · rintro c (rfl | z)
    · exact zL
    · cases z
  · rintro c (rfl | rfl | rfl | z)
    · refine .inr ?_
      cases q : h.get? h₁.objs.size with
      | none => rfl
      | some o => exact absurd (Heap.lt_size (hk₁ _ _ q)) (Nat.lt_irrefl _)
    · exact .inr zL
    · exact .inl rfl
    · cases z
end
end Mine
end
section
open PySem PySem.W PyProof.Rows PySem.Calls
set_option Elab.async false
set_option linter.unusedVariables false
set_option linter.unusedSectionVars false
namespace Mine
abbrev emit2 (elt tgt iter tgt2 iter2 : Expr) (scope : Scope) (pos : Pos) (acc : Value) (env : Env) : Sem Unit := do
  let x ← eval iter2 env
  standAt iter2.pos
  let x ← foldedSetIterable iter2 env x
  let _ ← runOwn (.compStart (.ListComp elt [⟨tgt, iter, [], 0⟩, ⟨tgt2, iter2, [], 0⟩] scope pos) 1 (← holding [x] (pyIter x)) acc env) env
theorem turn_list2 {elt tgt iter tgt2 iter2 : Expr} {scope : Scope} {pos : Pos} {it acc : Value} {env : Env} :
    compTurn (.ListComp elt [⟨tgt, iter, [], 0⟩, ⟨tgt2, iter2, [], 0⟩] scope pos) 0 it acc env = turnOf iter.pos tgt [] (emit2 elt tgt iter tgt2 iter2 scope pos acc env) (.compLoop (.ListComp elt [⟨tgt, iter, [], 0⟩, ⟨tgt2, iter2, [], 0⟩] scope pos) 0 it acc env) it env := by
  unfold compTurn turnOf emit2
  simp only [bind_assoc, pure_bind]
  rfl
theorem turn_list2' {elt tgt iter tgt2 iter2 : Expr} {scope : Scope} {pos : Pos} {it acc : Value} {env : Env} :
    compTurn (.ListComp elt [⟨tgt, iter, [], 0⟩, ⟨tgt2, iter2, [], 0⟩] scope pos) 1 it acc env = turnOf iter2.pos tgt2 [] (do let _ ← call (.builtin "list.append") [acc, ← eval elt env]) (.compLoop (.ListComp elt [⟨tgt, iter, [], 0⟩, ⟨tgt2, iter2, [], 0⟩] scope pos) 1 it acc env) it env := rfl
section
variable {α β γ : Type} {w : World} {A : Around} {env : Env} {f h : Heap} {T : Ty α} {U : Ty β} {V : Ty γ}
theorem emits_two {C D : Addr} {elt tgt iter tgt2 iter2 : Expr} {scope : Scope} {pos : Pos} {out : List γ} {ys : List β} {m : Str → Option Value} {B : Heap → β → (Str → Option Value) → Prop} (fn : β → γ) (hC : env.locals = C) (DC : D ≠ C) (hn : h.Ns C m) (fC : f.get? C = none) (fD : f.get? D = none) (kf : f.StaysIn h) (hg : Grow V D out f h) (hz : out.length + ys.length ≤ 1000)
    (hi : Itr w A env tgt2 iter2 f h Nil U ys) (tk_ : Takes w A tgt2 env U B)
    (x : ∀ f' h' m y, y ∈ ys → Ext (CD C D) f h f' h' → h'.Ns C m → B f' y m → Does w A (eval elt env) f' h' fun f'' v => V.is f'' (fn y) v)
    (hs : ∀ x, foldedSetIterable iter2 env x = pure x := by intro _; rfl) :
    Emits w A C D (emit2 elt tgt iter tgt2 iter2 scope pos (.ref D) env) f h fun f' h' => h'.get? D ≠ none ∧ Grow V D (out ++ ys.map fn) f' h' := fun g d tk os Q hq => by
  subst hC
  unfold emit2
  have gD : h.get? D ≠ none := let ⟨_, _, a, _⟩ := hg; get_ne a
  refine wpAny_bind (wpAny_mono (hi f h (.refl kf) g d tk os (fun it s => codeAny (model PP w) A (.compStart (.ListComp elt [⟨tgt, iter, [], 0⟩, ⟨tgt2, iter2, [], 0⟩] scope pos) 1 it (.ref D) env) (fun r s' => r = .ok .next ∧ Q () s') s) ?_) (fun v s hv => ?_) fun _ _ z => z)
  · intro h1 f1 g1 d1 tk1 it I fp wr e1 st wrN fpN
    have C1 := e1.new _ (fun z => z) (Ns.ne hn) fC
    have D1 := e1.new _ (fun z => z) gD fD
    have n1 : h1.Ns env.locals m := Keep.ns e1.hk (fun z => z) hn
    have lD1 := e1.live (fun z => z) gD
    have hg1 := hg.keep (fun o e => e1.hk D o (fun z => z) e) e1.fk
    have hfpC : ¬ fp env.locals := fun z => (fpN _ z).elim (fun z => z) (Ns.ne hn)
    have hfpD : ¬ fp D := fun z => (fpN _ z).elim (fun z => z) gD
    refine compStarts rfl rfl rfl rfl rfl (fun _ => rfl) (I.self st ⟨rfl, rfl⟩) ?_
    refine compRun I (fun _ => true) (fun i f' h' => Grow V D (out ++ (ys.take i).map fn) f' h') B rfl rfl rfl turn_list2' e1.up st DC wrN hfpC hfpD n1 C1 D1 lD1 (by simpa using hg1) (fun i f h f' h' x k k' => x.keep k k') tk_ (fun i f' h' m' y hy e n b => tests_nil e.fh) (fun i f h y hy hp => by simp at hp) ?_ ?_
    · intro i f' h' m' y hy _ e n b fC' fD' lD' hP
      have e3 : (ys.take i).length ≤ ys.length := List.length_take_le' i ys
      have := emits_elt (U := V) (y := fn y) DC n fC' fD' hP (by rw [List.length_append, List.length_map]; omega) (x f' h' m' y (List.mem_of_getElem? hy) e n b)
      rw [List.append_assoc] at this
      have e4 : (ys.take (i + 1)).map fn = (ys.take i).map fn ++ [fn y] := by rw [List.take_add_one, hy]; simp
      rw [e4]; exact this
    · intro h' f' g' d' tk' m' e ge n fC' fD' lD' hP
      rw [List.take_length] at hP
      exact ⟨rfl, hq h' f' g' d' tk' m' e ge n fC' fD' ⟨lD', hP⟩⟩
  · refine wpAny_bind (wpAny_standAt (wpAny_bind (wpAny_of_eq (hs v) ?_)))
    refine wpAny_bind (wpAny_holding (wpAny_mono hv (fun it s' hc => ?_) fun _ _ z => z))
    refine wpAny_bind (wpAny_runOwn (codeAny_mono hc fun r s'' hr => ?_))
    obtain ⟨rfl, hr⟩ := hr
    exact wpAny_pure hr
theorem es_comp2 {old : Addr → Prop} {elt tgt iter tgt2 iter2 : Expr} {scope : Scope} {cl : List (Str × Addr)} {pos : Pos} {xs : List α} (ys : α → List β) (fn : α → β → γ) (B : Heap → α → (Str → Option Value) → Prop) (B2 : Heap → β → (Str → Option Value) → Prop)
    (hclos : closureFor scope env = pure cl) (hi : Itr w A env tgt iter f h old T xs) (tk_ : ∀ C, Takes w A tgt (compEnvC scope cl C env) T B) (tk2 : ∀ C, Takes w A tgt2 (compEnvC scope cl C env) U B2) (hz : xs.length ≤ 1000) (hz' : (xs.flatMap fun x => (ys x).map (fn x)).length ≤ 1000)
    (hi2 : ∀ C f' h' m x, x ∈ xs → Ext Nil f h f' h' → h'.Ns C m → B f' x m → Itr w A (compEnvC scope cl C env) tgt2 iter2 f' h' Nil U (ys x))
    (helt : ∀ C f' h' m x y, x ∈ xs → y ∈ ys x → Ext Nil f h f' h' → h'.Ns C m → B2 f' y m → Does w A (eval elt (compEnvC scope cl C env)) f' h' fun f'' v => V.is f'' (fn x y) v)
    (hcell : ∀ x ∈ scope.names, x.2 ≠ .cell := by decide) (hkind : scope.kind = .function := by rfl) (hnames : ∀ x ∈ scope.names, x.2 = .local → scope.names.lookup x.1 = some .local := by decide)
    (hs : ∀ x, foldedSetIterable iter env x = pure x := by intro _; rfl) (hs2 : ∀ C x, foldedSetIterable iter2 (compEnvC scope cl C env) x = pure x := by intro _ _; rfl) :
    Es w A env (.ListComp elt [⟨tgt, iter, [], 0⟩, ⟨tgt2, iter2, [], 0⟩] scope pos) f h (.list V) (xs.flatMap fun x => (ys x).map (fn x)) := fun f₁ h₁ k g d tk os Q hq => by
  rw [eval_ListComp]
  refine wpAny_comprehension_free (use := none) rfl hs hclos hkind hnames ?_
  refine hi f₁ h₁ k g d tk os _ fun h2 f2 g2 d2 tk2_ it I fp wr e2 st wrN fpN => ?_
  refine wpAny_newObj_type ?_ (by size_fits)
  have zD : h₁.get? h2.objs.size = none := fresh_up e2.stays
  generalize hH : h2.push { cls := .type "list", dict := none, data := .seq ([] : List Value).toArray } = H
  have hHs : H.objs.size = h2.objs.size + 1 := by rw [← hH, Heap.size_push]
  have up : h2.StaysIn H := fun b o e => hH ▸ Heap.get?_push_of_some _ e
  have gD : H.get? h2.objs.size = some (listOf #[] 0) := hH ▸ Heap.get?_push_size _ rfl
  have zC : h₁.get? H.objs.size = none := fresh_up fun b o e => up _ _ (e2.stays _ _ e)
  refine comp_frame (Q := fun cenv s₄ => codeAny (model PP w) A (.compStart (.ListComp elt [⟨tgt, iter, [], 0⟩, ⟨tgt2, iter2, [], 0⟩] scope pos) 0 it (.ref h2.objs.size) cenv) (compPost (model PP w) A NoE none Q (.ref h2.objs.size) cenv.locals) s₄) hcell hkind fun h3 tk3 n3 k3 => ?_
  dsimp only at n3 k3 ⊢
  generalize hC : H.objs.size = C at n3 zC
  generalize hD : h2.objs.size = D at gD zD
  have DC : D ≠ C := by rw [← hC, ← hD, hHs]; exact Nat.ne_of_lt (Nat.lt_succ_self _)
  have hD2 : h2.get? D = none := hD ▸ size_none h2
  have hC2 : h2.get? C = none := by
    cases q : h2.get? C with
    | none => rfl
    | some o => have := up _ _ q; rw [← hC, size_none] at this; cases this
  have dn : ∀ {b}, h2.get? b = none → f2.get? b = none := fun {b} z => by
    cases q : f2.get? b with
    | none => rfl
    | some o => rw [e2.fh _ _ q] at z; cases z
  have gD3 := k3 _ _ gD
  have st3 : I.St 0 fp wr f2 h3 g2 := I.keep st (fun b o z e => k3 _ _ (up _ _ e)) (fun _ _ e => e) (fun _ _ e => e) (.refl _)
  have e3 : Ext Nil f₁ h₁ f2 h3 := e2.trans (.grown e2.fh fun b o e => k3 _ _ (up _ _ e))
  have cdn : ∀ b, CD C D b → h₁.get? b = none := fun b z => z.elim (fun q => q ▸ zC) fun q => q ▸ zD
  have loop : codeAny (model PP w) A (.compLoop (.ListComp elt [⟨tgt, iter, [], 0⟩, ⟨tgt2, iter2, [], 0⟩] scope pos) 0 it (.ref D) (compEnvC scope cl C env)) (compPost (model PP w) A NoE none Q (.ref D) C) ⟨h3, g2, d2, tk3, os⟩ := by
    refine compRun (env := compEnvC scope cl C env) I (fun _ => true) (fun i f' h' => Grow V D ((xs.take i).flatMap fun x => (ys x).map (fn x)) f' h') B rfl rfl rfl turn_list2 e3.up st3 DC wrN (fun z => I.live st _ z hC2) (fun z => I.live st _ z hD2) n3 (dn hC2) (dn hD2) (get_ne gD3)
      ⟨#[], 0, gD3, .nil⟩ (fun i f h f' h' x k k' => x.keep k k') (tk_ C) (fun i f' h' m x hx e n b => tests_nil e.fh) (fun i f h y hy hp => by simp at hp) ?_ ?_
    · intro i f' h' m x hx _ e n b fC fD lD hP
      have ex : (xs.take (i + 1)).flatMap (fun x => (ys x).map (fn x)) = (xs.take i).flatMap (fun x => (ys x).map (fn x)) ++ (ys x).map (fn x) := by rw [List.take_add_one, hx, List.flatMap_append]; simp
      have hmem := List.mem_of_getElem? hx
      have len : ((xs.take i).flatMap fun x => (ys x).map (fn x)).length + (ys x).length ≤ 1000 := by
        have e1 : xs = xs.take (i + 1) ++ xs.drop (i + 1) := (List.take_append_drop _ _).symm
        have e2 := hz'
        rw [e1, List.flatMap_append, ex] at e2
        simp only [List.length_append, List.length_map] at e2
        omega
      rw [ex]
      refine emits_two (fn x) rfl DC n fC fD e.fh hP len (hi2 C f' h' m x hmem (k.trans (e.drop cdn)) n b) (tk2 C) (fun f'' h'' m'' y hy e' n' b' => ?_) (hs2 C)
      exact helt C f'' h'' m'' x y hmem hy (k.trans ((e.trans e').drop cdn)) n' b'
    · intro h' f' g' d' tk' m' e ge n fC fD lD hP
      obtain ⟨zs, nn, a, b⟩ := hP
      rw [List.take_length] at b
      obtain ⟨q1, q2, q3, q4⟩ := (e.drop cdn).freeze1 a zD
      exact ⟨m', n, fun h'' s'' => hq h'' _ g' d' tk' _ (q1.step (Ext.heap (M := (· = C)) q1.fh (fun b o n e => s''.extBut b o n e) (fun b z => by subst z; exact (q4 _ DC.symm).trans fC)) fun b z => z ▸ zC) ge ⟨D, zs, nn, rfl, q2, b.mono fun _ _ => V.mono q3⟩⟩
  subst hD hC
  exact compStarts rfl rfl rfl rfl rfl (fun _ => rfl) (I.self st3 ⟨rfl, rfl⟩) loop
end
end Mine
end
section
open PySem PySem.W PyProof.Rows PySem.Calls
set_option Elab.async false
set_option linter.unusedVariables false
set_option linter.unusedSectionVars false
namespace Mine
theorem fillOl : PySem.Challenge.rw_fi0012_01 = PySem.Challenge.rw_fi0012_01 ∧ hd.heap_39 = hd.heap_39 := by
  k_fill
  exact ⟨rfl, rfl⟩
section
variable {α β γ : Type} {w : World} {A : Around} {env : Env} {f f' h h' : Heap} {T : Ty α} {U : Ty β} {V : Ty γ} {c : γ} {M M₀ old : Addr → Prop} {f₀ h₀ : Heap} {own pre post : Own} {mm : Vars} {P : Heap → Sy → Value → Prop} {xs : List (Row Sy)} {ks ys : List Sy} {ep n : Nat} {D : Addr} {tgt e : Expr}
  {g : Array GenState} {d : Drawn} {tk : Nat} {os : OsState}
/-- an expression that is an OrderedSet -/
theorem itr_os (K : Ok w f) (rm : Rm A 200) (he : Es w A env e f h Ty.os D) (hd : h.get? D = some (symDic w xs ep)) (R : SymRows f AnyV xs ys) : Itr w A env tgt e f h (Only D) Ty.sym ys := fun f₁ h₁ k g d tk os Q hq => by
  refine he _ _ k g d tk os _ fun h2 f2 g2 d2 tk2 v e2 ge2 t2 => ?_
  obtain ⟨b, rfl, oa⟩ := t2
  have kk := k.trans e2
  refine iter_os (tgt := tgt) (base := g) (K.keeps kk.fk) e2.fh rm oa (kk.stays _ _ hd) (R.any kk.fk) ge2 fun h3 f3 g3 d3 tk3 it I fp wr e3 st wN fN => ?_
  refine hq h3 f3 g3 d3 tk3 it I fp wr (e2.trans e3) st (fun c z => ?_) fun c z => ?_
  · have := wN c z
    cases q : h₁.get? c with
    | none => rfl
    | some o => rw [e2.stays _ _ q] at this; cases this
  · rcases fN c z with q | q
    · exact .inl q
    · refine .inr ?_
      cases q' : h₁.get? c with
      | none => rfl
      | some o => rw [e2.stays _ _ q'] at q; cases q
theorem src_os {b : Addr} (K : Ok w f) (hn : n ≤ 200) (oa : OsAt f b D) (hd : h.get? D = some (symDic w xs ep)) (R : SymRows f AnyV xs ys) (hM : ¬ M D) : Src w n (.ref b) f h M (Only D) ys := fun A env f₁ h₁ x y p px rm e X =>
  itr_os (K.keeps e.fk) (rm.mono hn) (es_name X ⟨b, rfl, oa.mono e.fk⟩) (e.hk _ _ hM hd) (R.any e.fk)
theorem Src.keeps {u : Value} (s : Src w n u f h M old ys) (e : Ext M f h f' h') : Src w n u f' h' M old ys := fun A env f₁ h₁ x y p px rm e' X => s A env f₁ h₁ x y p px rm (e.trans e') X
/-- something owned was written, the rest grew -/
theorem FS.rewrote {a : Addr} {o o' : Obj} (F : FS M₀ f₀ h₀ env (pre ++ (a, o) :: post) f h mm) (e : Ext (Only a) f h f' h') (g : h'.get? a = some o') (fa : f'.get? a = none) (d : ∀ p ∈ pre ++ post, p.1 ≠ a) : FS M₀ f₀ h₀ env (pre ++ (a, o') :: post) f' h' mm := by
  have hm : (a, o) ∈ pre ++ (a, o) :: post := by simp
  obtain ⟨a1, a2, a3, a4, a5⟩ := F.own _ hm
  have nl : ¬ Only a env.locals := fun z => a2 z.symm
  refine ⟨F.ext.step' e fun b z => z ▸ a4.symm, ?_, e.new _ nl (F.live (.inl rfl)) F.Lf, F.L0, fun n c q => ?_, fun p hp => ?_⟩
  · obtain ⟨m, x, y⟩ := F.ns
    exact ⟨m, x.at' fun o q => e.hk _ o nl q, y⟩
  · obtain ⟨⟨o, b1, b2⟩, b3, b4, b5⟩ := F.cell n c q
    have nc : ¬ Only a c := fun z => a5 n (by rw [← z]; exact q)
    exact ⟨⟨o, e.hk _ _ nc b1, b2⟩, b3, e.new _ nc (get_ne b1) b4, b5⟩
  · have other : ∀ p ∈ pre ++ post, h'.get? p.1 = some p.2 ∧ p.1 ≠ env.locals ∧ f'.get? p.1 = none ∧ (h₀.get? p.1 = none ∨ M₀ p.1) ∧ ∀ n, env.cells.lookup n ≠ some p.1 := fun p hp => by
      obtain ⟨b1, b2, b3, b4, b5⟩ := F.own p (by rcases List.mem_append.mp hp with q | q <;> simp [q])
      exact ⟨e.hk _ _ (d p hp) b1, b2, e.new _ (d p hp) (get_ne b1) b3, b4, b5⟩
    rcases List.mem_append.mp hp with hp | hp
    · exact other p (List.mem_append.mpr (.inl hp))
    · rcases List.mem_cons.mp hp with rfl | hp
      · exact ⟨g, a2, fa, a4, a5⟩
      · exact other p (List.mem_append.mpr (.inr hp))
theorem addKey_has {x : Sy} (h : x ∈ ks) : addKey ks x = ks := by unfold addKey; rw [if_pos (has_iff.mpr h)]
theorem addAll_self : ∀ (ys ks : List Sy), (∀ x ∈ ys, x ∈ ks) → ys.foldl addKey ks = ks
  | [], _, _ => rfl
  | y :: ys, ks, h => by
    rw [List.foldl_cons, addKey_has (h y (.head _))]
    exact addAll_self ys ks fun x hx => h x (.tail _ hx)
set_option maxRecDepth 100000 in
/-- OrderedSet.update, of itself -/
theorem p_update_self {a : Addr} {Q : Value → Shared → Prop} (K : Ok w f) (kf : f.StaysIn h) (rm : Rm A 110)
    (hq : ∀ f' h' g' d' tk', Ext Nil f h f' h' → Gx g g' → Q .none ⟨h', g', d', tk', os⟩) :
    wpAny (model PP w) A (call (.ref 79) [.ref a, .ref a]) Q NoE ⟨h, g, d, tk, os⟩ := by
  refine' any_call (own := []) (binds := [(Str.ofString "self", .ref a), (Str.ofString "items", .ref a)]) K kf ?hown ?ho ?hcd ?hr ?hb ?hk ?hcl ?hnd ?body ?c1 ?c2 ?c3
  case hown => intro p hp; cases hp
  case ho => k_is
  case hcd => k_is
  case hr => have := rm.depth; omega
  case hb => exact BindsTo.of_eq rfl
  case hk => rfl
  case hcl => rfl
  case hnd => decide
  case c1 => rfl
  case c2 => rfl
  case c3 => rfl
  case body =>
    intro L h₁ tk W F
    refine st_if (b := false) F (ts_cmp (T := Ty.val) (U := Ty.val) (a := .ref a) (b := .ref a) (es_name (F.var W rfl rfl) rfl) (es_name (F.var W rfl rfl) rfl) ?_) ?_
    · rintro f' h' u v k rfl rfl g d tk os Q hq
      exact wpAny_isNot_ref_self (s := ⟨h', g, d, tk, os⟩) (hq _ f' g _ _ _ (.refl k.fh) (.refl g) rfl)
    intro f1 h1 g1 d1 tk1 k1 ge1 F1
    rw [if_neg (by simp)]
    refine wpAny_execs_nil (wpAny_execs_nil ?_)
    exact hq f1 h1 g1 d1 tk1 (F1.ext.mono fun b _ ⟨o, z⟩ => nomatch z) ge1
/-- OrderedSet.update -/
theorem p_upd {a b : Addr} {ob : Obj} {Q : Value → Shared → Prop} (K : Ok w f) (kf : f.StaysIn h) (rm : Rm A 110) (oa : OsAt f a D) (e : h.get? D = some (symDic w xs ep)) (nf : f.get? D = none) (R : SymRows f AnyV xs ks)
    (hb : f.get? b = some ob) (hbt : ob.cls ≠ .type "tuple") (alt : (b ≠ a ∧ Src w 113 (.ref b) f h (Only D) old ys ∧ ∀ c, old c → c ≠ D ∧ h.get? c ≠ none) ∨ (b = a ∧ ys = ks)) (hz : ys.length ≤ 100) (hk : ks.length ≤ 100)
    (hq : ∀ f' h' g' d' tk' xs' ep', Ext (Only D) f h f' h' → Gx g g' → h'.get? D = some (symDic w xs' ep') → f'.get? D = none → SymRows f' AnyV xs' (ys.foldl addKey ks) → Q .none ⟨h', g', d', tk', os⟩) :
    wpAny (model PP w) A (call (.ref 79) [.ref a, .ref b]) Q NoE ⟨h, g, d, tk, os⟩ := by
  rcases alt with ⟨h1, h2, h3⟩ | ⟨rfl, rfl⟩
  · exact p_update K kf rm oa e nf R hb hbt h1 h2 h3 hz hk hq
  · refine p_update_self K kf rm fun f' h' g' d' tk' e' ge => ?_
    refine hq f' h' g' d' tk' xs ep e'.up ge (e'.hk _ _ (fun z => z) e) (e'.new _ (fun z => z) (get_ne e) nf) ?_
    rw [addAll_self _ _ fun x hx => hx]
    exact R.any e'.fk
set_option maxRecDepth 100000 in
/-- update_set -/
theorem p_update_set {a b : Addr} {ob : Obj} {Q : Value → Shared → Prop} (K : Ok w f) (kf : f.StaysIn h) (rm : Rm A 100) (oa : OsAt f a D) (e : h.get? D = some (symDic w xs ep)) (nf : f.get? D = none) (R : SymRows f AnyV xs ks)
    (hb : f.get? b = some ob) (hbt : ob.cls ≠ .type "tuple") (alt : (b ≠ a ∧ Src w 113 (.ref b) f h (Only D) old ys ∧ ∀ c, old c → c ≠ D ∧ h.get? c ≠ none) ∨ (b = a ∧ ys = ks)) (hz : ys.length ≤ 100) (hk : ks.length ≤ 100)
    (hq : ∀ f' h' g' d' tk' xs' ep', Ext (Only D) f h f' h' → Gx g g' → h'.get? D = some (symDic w xs' ep') → f'.get? D = none → SymRows f' AnyV xs' (ys.foldl addKey ks) → Q (.bool (!decide ((ys.foldl addKey ks).length = ks.length))) ⟨h', g', d', tk', os⟩) :
    wpAny (model PP w) A (call (.ref 112) [.ref a, .ref b]) Q NoE ⟨h, g, d, tk, os⟩ := by
  refine' any_call (own := [(D, symDic w xs ep)]) (binds := [(Str.ofString "set1", .ref a), (Str.ofString "set2", .ref b)]) K kf ?hown ?ho ?hcd ?hr ?hb ?hk ?hcl ?hnd ?body ?c1 ?c2 ?c3
  case hown => intro p hp; cases List.mem_singleton.mp hp; exact ⟨e, nf⟩
  case ho => k_is
  case hcd => k_is
  case hr => have := rm.depth; omega
  case hb => exact BindsTo.of_eq rfl
  case hk => rfl
  case hcl => rfl
  case hnd => decide
  case c1 => rfl
  case c2 => rfl
  case c3 => rfl
  case body =>
    intro L h₁ tk W F
    generalize hA : A.deeper _ = A'
    have rm' : Rm A' 103 := hA ▸ rm.deeper
    have hP : ∀ {f h : Heap} {o : Obj} {M₀ : Addr → Prop} {f₀ h₀ : Heap} {mm : Vars} {env : Env}, FS M₀ f₀ h₀ env [(D, o)] f h mm → ∀ b, (b == D) = true → h.get? b ≠ none := fun F b hb => by
      have : b = D := by simpa using hb
      subst this; exact get_ne (F.own _ (.head _)).1
    have gD : ∀ {f h : Heap} {o : Obj} {M₀ : Addr → Prop} {f₀ h₀ : Heap} {mm : Vars} {env : Env}, FS M₀ f₀ h₀ env [(D, o)] f h mm → (addTo f h (· == D)).get? D = some o := fun F => by
      rw [addTo_get F.ext.fh, if_pos (by simp)]; exact (F.own _ (.head _)).1
    have K1 : Ok w (addTo f h₁ (· == D)) := K.keeps (addTo_up F.ext.fh)
    have hl := R.len
    refine st_assign (T := Ty.nat) (a := xs.length) W F (.inl rfl) (Es.more (P := (· == D)) F.ext.fh (hP F) (es_call (v_built K1 (addTo_stays F.ext.fh) (by k_is) rfl) Kp.builtin (args1 (es_name (T := Ty.os) (a := D) (F.var W (v := .ref a) rfl rfl) ⟨a, rfl, oa.mono (addTo_up F.ext.fh)⟩)) ?_) fun _ _ _ t _ => t) ?_
    · rintro f' h' vs k ⟨v, rfl, t⟩
      exact p_len_os (K1.keeps k.fk) k.fh rm'.mono t (k.fk _ _ (gD F)) (by omega)
    intro f1 h1 g1 d1 tk1 v1 k1 ge1 t1 F1
    have K1' := K.keeps k1
    refine wpAny_execs_cons (wpAny_Expr (meth_any K1' F1.ext.fh (es_name (T := Ty.osv) (a := (a, D)) (F1.var W (v := .ref a) rfl rfl) ⟨rfl, oa.mono k1⟩) (args1 (es_name (T := Ty.val) (a := .ref b) (F1.var W (v := .ref b) rfl rfl) rfl)) (show findIn (hd.heap_39 w.params) (.ref 101) (Str.ofString "update") = some (some (.ref 79)) by k_is) (by k_is) (by k_is) rfl ?_) rfl rfl)
    rintro h2 f2 g2 d2 tk2 vs e2 ge2 oa2 ⟨v, rfl, rfl⟩
    have F2 := F1.grow e2
    have K2 := K1'.keeps e2.fk
    have E2 := only1 F2.ext
    have k02 : f.StaysIn f2 := F2.ext.fk
    refine p_upd (old := old) (ys := ys) (ks := ks) K2 F2.ext.fh rm'.mono oa2 (F2.own (D, symDic w xs ep) (.head _)).1 (F2.own (D, symDic w xs ep) (.head _)).2.2.1 (R.any k02) (k02 _ _ hb) hbt ?_ hz hk ?_
    · rcases alt with ⟨h1, h2, h3⟩ | h
      · exact .inl ⟨h1, h2.keeps E2, fun c hc => ⟨(h3 c hc).1, E2.live (h3 c hc).1 (h3 c hc).2⟩⟩
      · exact .inr h
    intro f3 h3 g3 d3 tk3 xs3 ep3 e3 ge3 gd3 nf3 R3
    have F3 := F2.rewrote (pre := []) (post := []) e3 gd3 nf3 (fun _ h => nomatch h)
    have K3 : Ok w f3 := K2.keeps e3.fk
    have K3' : Ok w (addTo f3 h3 (· == D)) := K3.keeps (addTo_up F3.ext.fh)
    have k13 : f1.StaysIn f3 := fun b o q => e3.fk _ _ (e2.fk b o q)
    have l3 := R3.len
    have l3' := addAll_len ys ks
    refine st_ret (T := Ty.bool) (a := !decide (xs3.length = xs.length)) F3 (es_cmp (V := Ty.bool) (T := Ty.nat) (U := Ty.nat) (Es.more (P := (· == D)) F3.ext.fh (hP F3) (es_call (v_built K3' (addTo_stays F3.ext.fh) (by k_is) rfl) Kp.builtin (args1 (es_name (T := Ty.os) (a := D) (F3.var W (v := .ref a) rfl rfl) ⟨a, rfl, (oa.mono fun b o q => k13 _ _ (k1 b o q)).mono (addTo_up F3.ext.fh)⟩)) ?_) fun _ _ _ t _ => t) (es_name (F3.var W (v := v1) rfl rfl) (Ty.mono _ k13 t1)) fun f' h' u v k t t' => p_nen k.fh t t') ?_
    · rintro f' h' vs k ⟨v, rfl, t⟩
      exact p_len_os (K3'.keeps k.fk) k.fh rm'.mono t (k.fk _ _ (gD F3)) (by omega)
    intro f4 h4 g4 d4 tk4 v4 k4 ge4 t4 F4
    cases t4
    rw [l3, hl]
    exact hq f4 h4 g4 d4 tk4 xs3 ep3 (only1 F4.ext) (ge1.trans (ge2.trans (ge3.trans ge4))) (F4.own (D, _) (.head _)).1 (F4.own (D, symDic w xs3 ep3) (.head _)).2.2.1 (R3.any k4)
end
end Mine
end
section
open PySem PySem.W PyProof.Rows PySem.Calls
set_option Elab.async false
set_option linter.unusedVariables false
set_option linter.unusedSectionVars false
namespace Mine
theorem fillOm : PySem.Challenge.rw_fi0012_01 = PySem.Challenge.rw_fi0012_01 ∧ hd.heap_39 = hd.heap_39 := by
  k_fill
  exact ⟨rfl, rfl⟩
structure Ru where
  origin : Sy
  expansion : List Sy
  order : Nat
def Ty.rule : Ty Ru := ⟨fun f x v => ∃ a u1 u2 u5 t, v = .ref a ∧ Named f a 388 #[u1, u2, .int x.order t, .none, u5] ∧ Ty.sym.is f x.origin u1 ∧ (Ty.tup Ty.sym).is f x.expansion u2,
  fun k ⟨a, u1, u2, u5, t, e, n, p, q⟩ => ⟨a, u1, u2, u5, t, e, n.keeps k, Ty.mono _ k p, Ty.mono _ k q⟩⟩
section
variable {α β γ : Type} {w : World} {A : Around} {env : Env} {f f' h h' : Heap} {e : Expr} {pos : Pos}
abbrev AttrArm (e : Expr) (attr : Str) (pos : Pos) (env : Env) : Prop := eval (.Attribute e attr pos) env = (do
      let o ← eval e env
      standAt pos.atName
      let r ← holding [o] (getAttr o attr true)
      letTemporaryGo e o r
      pure r)
theorem handed_ref {a : Addr} : handedIn (.ref a) = true := rfl
theorem p_attr_sym {a : Addr} {attr : Str} {y : Value} {R : Heap → Value → Prop} (K : Ok w f) (kf : f.StaysIn h) (rm : Rm A 95)
    (hx : ∀ (p : Program) (loose : List Str) (mg mb : Str → Option Value) (g : Array GenState) (d : Drawn) (tk : Nat) (os : OsState) (Q : Value → Shared → Prop), (hd.heap_39 w.params).In h → TopRead p loose mg mb h → (∀ h' tk', h.StaysIn h' → Q y ⟨h', g, d, tk', os⟩) → wpAny (model PP w) A (getAttr (.ref a) attr true) Q NoE ⟨h, g, d, tk, os⟩)
    (r : ∀ f', f.StaysIn f' → R f' y) : Does w A (getAttr (.ref a) attr true) f h R := by
  refine .of kf fun g d tk os Q hq => ?_
  obtain ⟨p, loose, mg, mb, T⟩ := (K.keeps kf).T
  exact hx p loose mg mb g d tk os Q (fun a o e => kf _ _ (K.X a o e)) T fun h' tk' k => hq h' tk' y k (r _ (Ext.all kf k).fk)
theorem es_name_of {x : Sy} (K : Ok w f) (rm : Rm A 95) (he : Es w A env e f h Ty.sym x) (ha : AttrArm e (Str.ofString "name") pos env := by with_unfolding_all rfl) : Es w A env (.Attribute e (Str.ofString "name") pos) f h Ty.str x.1 :=
  es_attr he (fun f' h' u k t => by
    obtain ⟨a, t, rfl, n⟩ := t
    refine p_attr_sym (K.keeps k.fk) k.fh rm (fun p loose mg mb g d tk os Q X T hq => ?_) fun f'' k' => ⟨t, rfl⟩
    exact get_name X T (n.keeps k.fh) rfl rm.hh (by have := rm.depth; omega) (by have := rm.units; omega) hq) ha
theorem es_term_of {x : Sy} (K : Ok w f) (rm : Rm A 95) (he : Es w A env e f h Ty.sym x) (ha : AttrArm e (Str.ofString "is_term") pos env := by with_unfolding_all rfl) : Es w A env (.Attribute e (Str.ofString "is_term") pos) f h Ty.bool x.2 :=
  es_attr he (fun f' h' u k t => by
    obtain ⟨a, t, rfl, n⟩ := t
    refine p_attr_sym (K.keeps k.fk) k.fh rm (fun p loose mg mb g d tk os Q X T hq => ?_) fun f'' k' => rfl
    exact get_term X T (n.keeps k.fh) rfl rm.hh (by have := rm.depth; omega) (by have := rm.units; omega) hq) ha
theorem handed_sym {x : Sy} {v : Value} (t : Ty.sym.is f x v) : handedIn v = true := by obtain ⟨a, _, rfl, _⟩ := t; rfl
theorem handed_tup {α : Type} {T : Ty α} {x : List α} {v : Value} (t : (Ty.tup T).is f x v) : handedIn v = true := by obtain ⟨a, _, _, rfl, _⟩ := t; rfl
theorem es_origin_of {x : Ru} (K : Ok w f) (rm : Rm A 95) (he : Es w A env e f h Ty.rule x) (ha : AttrArm e (Str.ofString "origin") pos env := by with_unfolding_all rfl) : Es w A env (.Attribute e (Str.ofString "origin") pos) f h Ty.sym x.origin :=
  es_attr he (fun f' h' u k t => by
    obtain ⟨a, u1, u2, u5, t, rfl, n, p1, p2⟩ := t
    refine p_attr_sym (K.keeps k.fk) k.fh rm (fun p loose mg mb g d tk os Q X T hq => ?_) fun f'' k' => Ty.mono _ k' p1
    exact get_origin X T (n.keeps k.fh) (handed_sym p1) rm.hh (by have := rm.depth; omega) (by have := rm.units; omega) hq) ha
theorem es_expansion_of {x : Ru} (K : Ok w f) (rm : Rm A 95) (he : Es w A env e f h Ty.rule x) (ha : AttrArm e (Str.ofString "expansion") pos env := by with_unfolding_all rfl) : Es w A env (.Attribute e (Str.ofString "expansion") pos) f h (Ty.tup Ty.sym) x.expansion :=
  es_attr he (fun f' h' u k t => by
    obtain ⟨a, u1, u2, u5, t, rfl, n, p1, p2⟩ := t
    refine p_attr_sym (K.keeps k.fk) k.fh rm (fun p loose mg mb g d tk os Q X T hq => ?_) fun f'' k' => Ty.mono _ k' p2
    exact get_expansion X T (n.keeps k.fh) (handed_tup p2) rm.hh (by have := rm.depth; omega) (by have := rm.units; omega) hq) ha
theorem es_order_of {x : Ru} (K : Ok w f) (rm : Rm A 95) (he : Es w A env e f h Ty.rule x) (ha : AttrArm e (Str.ofString "order") pos env := by with_unfolding_all rfl) : Es w A env (.Attribute e (Str.ofString "order") pos) f h Ty.nat x.order :=
  es_attr he (fun f' h' u k t => by
    obtain ⟨a, u1, u2, u5, t, rfl, n, p1, p2⟩ := t
    refine p_attr_sym (K.keeps k.fk) k.fh rm (fun p loose mg mb g d tk os Q X T hq => ?_) fun f'' k' => ⟨t, rfl⟩
    exact get_order X T (n.keeps k.fh) rfl rm.hh (by have := rm.depth; omega) (by have := rm.units; omega) hq) ha
theorem addKey_new {ks : List Sy} {x : Sy} (h : x ∉ ks) : addKey ks x = ks ++ [x] := by unfold addKey; rw [has_not.mpr h]; rfl
theorem p_notin_sym {x : Sy} {xs : List Sy} {u l : Value} (K : Ok w f) (kf : f.StaysIn h) (rm : Rm A 200) (tu : Ty.sym.is f x u) (tl : (Ty.list Ty.sym).is f xs l) : Does w A (compareOp .NotIn u l) f h fun _ v => v = .bool (!has x xs) := by
  obtain ⟨a, vs, n, rfl, e, p⟩ := tl
  intro g d tk os Q hq
  exact listNotIn (K := symKind K) (s := ⟨h, g, d, tk, os⟩) (by have := rm.units; have : cLine = 9900 := rfl; show A.units + 2 + 10 * (0 + 1) < _; omega) kf tu (kf _ _ e) p fun tk' => hq _ f g d tk' _ (.refl kf) (.refl g) rfl
set_option maxRecDepth 100000 in
/-- dedup_list -/
theorem p_dedup {u : Value} {xs : List Sy} (K : Ok w f) (kf : f.StaysIn h) (rm : Rm A 110) (tu : (Ty.list Ty.sym).is f xs u) (hz : xs.length ≤ 500) : Does w A (call (.ref 28) [u]) f h fun f' r => (Ty.list Ty.sym).is f' (xs.foldl addKey []) r := by
  refine' does_call (binds := [(Str.ofString "l", u)]) K kf ?ho ?hcd ?hr ?hb ?hk ?hcl ?hnd ?body ?c1 ?c2 ?c3
  case ho => k_is
  case hcd => k_is
  case hr => have := rm.depth; omega
  case hb => exact fun g d tk os => BindsTo.of_eq rfl
  case hk => rfl
  case hcl => rfl
  case hnd => decide
  case c1 => rfl
  case c2 => rfl
  case c3 => rfl
  case body =>
    intro L h₁ g d tk os W F
    generalize hA : A.deeper _ = A'
    have rm' : Rm A' 113 := hA ▸ rm.deeper
    refine wpAny_execs_cons (wpAny_Expr (Constant_str ?_) rfl rfl)
    refine st_own W F (.inl rfl) new_list rfl fun h1 tk1 a za F1 => ?_
    have own_a : h.get? a = none := by
      have := F1.own (a, listOf #[] 0) (by simp)
      exact this.2.2.2.1.elim id fun z => z.elim
    refine st_for (T := Ty.sym) (xs := xs) F1 (itr_list rm'.hh (es_name (F1.var W (v := u) rfl rfl) tu)) (fun _ z => z.elim) (fun i f' mm' own' => f.StaysIn f' ∧ ∃ vs e, own' = [(a, listOf vs e)] ∧ Pw (Ty.sym.is f') ((xs.take i).foldl addKey []) vs.toList ∧ mm' (Str.ofString "found") = some (.ref a))
      (fun f' mm' own' => f.StaysIn f' ∧ ∃ vs e, own' = [(a, listOf vs e)] ∧ Pw (Ty.sym.is f') (xs.foldl addKey []) vs.toList ∧ mm' (Str.ofString "found") = some (.ref a)) ?jm (takesF_name W (.inl rfl)) ⟨fun _ _ e => e, #[], 0, rfl, .nil, rfl⟩ ?turn ?jz ?k
    case jm => rintro i f1 f2 mm own k ⟨b, vs, e, c1, c2, c3⟩; exact ⟨fun b' o e => k _ _ (b b' o e), vs, e, c1, c2.mono fun _ _ => Ty.mono _ k, c3⟩
    case jz => rintro f mm own ⟨b, vs, e, c1, c2, c3⟩; rw [List.take_length] at c2; exact ⟨b, vs, e, c1, c2, c3⟩
    case k =>
      rintro f3 h3 g3 d3 tk3 mm3 own3 ge3 F3 ⟨k3, vs, e, rfl, c2, c3⟩
      obtain ⟨F4, g4, k4⟩ := F3.freeze (pre := []) (post := []) (fun _ hp => nomatch hp) (.inl own_a)
      exact st_ret (T := Ty.list Ty.sym) (a := xs.foldl addKey []) F4 (es_name (F4.var W c3 rfl) ⟨a, vs, e, rfl, g4, c2.mono fun _ _ => Ty.mono _ k4⟩) fun f' h' g' d' tk' v k ge t F' => .of F' (ge3.trans ge) t
    case turn =>
      rintro i y f2 h2 g2 d2 tk2 mm mm2 own2 hy ⟨k2, vs, e, rfl, c2, c3⟩ ⟨v, t2, rfl⟩ F2
      have K2 := K.keeps k2
      have K2' : Ok w (addTo f2 h2 (· == a)) := K2.keeps (addTo_up F2.ext.fh)
      have hP : ∀ b, (b == a) = true → h2.get? b ≠ none := fun b hb => by
        have : b = a := by simpa using hb
        subst this; exact get_ne (F2.own _ (.head _)).1
      have ol := owned_list (pre := []) F2 c2
      have vl : vs.size ≤ 1000 := by
        have l1 := c2.length
        have l2 : vs.toList.length = vs.size := Array.length_toList
        have l3 := addAll_len (xs.take i) []
        have l4 : (xs.take i).length ≤ xs.length := List.length_take_le' i xs
        simp only [List.length_nil] at l3
        omega
      refine st_if F2 (Ts.more (P := (· == a)) F2.ext.fh hP (ts_cmp (T := Ty.sym) (U := Ty.list Ty.sym) (es_name (F2.var W (v := v) rfl rfl) (Ty.mono _ (addTo_up F2.ext.fh) t2)) (es_name (F2.var W (v := .ref a) c3 rfl) ol) fun f' h' u v k t t' => p_notin_sym (K2'.keeps k.fk) k.fh rm'.mono t t')) ?_
      intro f3 h3 g3 d3 tk3 k3 ge3 F3
      have c2' := c2.mono (Q := Ty.sym.is f3) fun _ _ => Ty.mono _ k3
      have stp := addAll_step (ks := []) hy
      cases hb : has y ((xs.take i).foldl addKey []) with
      | true =>
        have : addKey ((xs.take i).foldl addKey []) y = (xs.take i).foldl addKey [] := addKey_has (has_iff.mp hb)
        rw [this] at stp
        refine wpAny_execs_nil (wpAny_execs_nil ⟨f3, h3, g3, d3, tk3, _, _, rfl, ge3, F3, fun b' o e => k3 _ _ (k2 b' o e), vs, e, rfl, ?_, c3⟩)
        rw [stp]; exact c2'
      | false =>
        have : addKey ((xs.take i).foldl addKey []) y = (xs.take i).foldl addKey [] ++ [y] := addKey_new (has_not.mp hb)
        rw [this] at stp
        refine st_append (T := Ty.sym) (y := y) (pre := []) (post := []) W F3 (F3.var W (v := .ref a) c3 rfl) (es_name (F3.var W (v := v) rfl rfl) (Ty.mono _ k3 t2)) (fun _ h => nomatch h) vl ?_
        intro f4 h4 g4 d4 tk4 v4 n4 k4 ge4 t4 F4
        refine wpAny_execs_nil (wpAny_execs_nil ⟨f4, h4, g4, d4, tk4, _, _, rfl, ge3.trans ge4, F4, fun b' o e => k4 _ _ (k3 _ _ (k2 b' o e)), vs.push v4, n4, rfl, ?_, c3⟩)
        rw [stp, Array.toList_push]
        exact Pw.append (c2'.mono fun _ _ => Ty.mono _ k4) (.cons t4 .nil)
end
end Mine
end
section
open PySem PySem.W PyProof.Rows PySem.Calls
set_option Elab.async false
set_option linter.unusedVariables false
set_option linter.unusedSectionVars false
namespace Mine
inductive Nul {α : Type} (rules : List (α × List α)) : α → Prop
  | mk {o : α} {e : List α} : (o, e) ∈ rules → (∀ x, x ∈ e → Nul rules x) → Nul rules o
section
variable {α : Type} [DecidableEq α]
def leftOf (rules : List (α × List α)) (found : List α) : List (α × List α) := rules.map fun r => (r.1, r.2.filter fun x => !has x found)
def newOf (lt : α → α → Bool) (rules : List (α × List α)) (found : List α) : List α := srt lt (((leftOf rules found).filter fun r => decide (r.2 = []) && !has r.1 found).map Prod.fst)
structure NulInv (rules : List (α × List α)) (found : List α) : Prop where
  nodup : found.Nodup
  nul : ∀ z ∈ found, Nul rules z
variable {rules : List (α × List α)} {found : List α} {lt : α → α → Bool}
theorem gone_iff {e : List α} {z : α} : (decide ((e.filter fun x => !has x found) = []) && !has z found) = true ↔ (∀ x ∈ e, x ∈ found) ∧ z ∉ found := by
  rw [Bool.and_eq_true, decide_eq_true_eq, List.filter_eq_nil_iff]
  constructor
  · rintro ⟨a, b⟩
    refine ⟨fun x hx => ?_, has_not.mp (by simpa using b)⟩
    have := a x hx
    exact has_iff.mp (by simpa using this)
  · rintro ⟨a, b⟩
    refine ⟨fun x hx => ?_, by rw [has_not.mpr b]; rfl⟩
    rw [has_iff.mpr (a x hx)]; simp
theorem newOf_mem {z : α} : z ∈ newOf lt rules found ↔ (∃ e, (z, e) ∈ rules ∧ ∀ x ∈ e, x ∈ found) ∧ z ∉ found := by
  unfold newOf leftOf
  rw [srt_mem, List.mem_map]
  constructor
  · rintro ⟨⟨a, b⟩, h, rfl⟩
    rw [List.mem_filter, List.mem_map] at h
    obtain ⟨⟨⟨o, e⟩, h1, h2⟩, h3⟩ := h
    cases h2
    have h3 := gone_iff.mp h3
    exact ⟨⟨e, h1, h3.1⟩, h3.2⟩
  · rintro ⟨⟨e, h1, h2⟩, h3⟩
    refine ⟨(z, e.filter fun x => !has x found), ?_, rfl⟩
    rw [List.mem_filter, List.mem_map]
    exact ⟨⟨(z, e), h1, rfl⟩, gone_iff.mpr ⟨h2, h3⟩⟩
theorem left_nil : leftOf rules ([] : List α) = rules := by
  unfold leftOf
  conv => rhs; rw [← List.map_id rules]
  refine List.map_congr_left fun r _ => ?_
  have : r.2.filter (fun x => !has x []) = r.2 := List.filter_eq_self.mpr (by simp [has])
  rw [this]; rfl
theorem left_step (l : List α) : (leftOf rules found).map (fun r => (r.1, r.2.filter fun x => !has x (found ++ l))) = leftOf rules (found ++ l) := by
  unfold leftOf
  rw [List.map_map]
  refine List.map_congr_left fun r _ => ?_
  simp only [Function.comp, Prod.mk.injEq, true_and]
  rw [List.filter_filter]
  refine List.filter_congr fun x _ => ?_
  by_cases h1 : x ∈ found <;> by_cases h2 : x ∈ l <;> simp [has, h1, h2]
theorem NulInv.first : NulInv rules ([] : List α) := ⟨by simp, by simp⟩
theorem NulInv.next (T : IsLt lt) (I : NulInv rules found) : NulInv rules (found ++ newOf lt rules found) := by
  refine ⟨List.nodup_append.mpr ⟨I.nodup, srt_nodup T _, fun a ha b hb e => ?_⟩, fun z hz => ?_⟩
  · subst e; exact (newOf_mem.mp hb).2 ha
  · rcases List.mem_append.mp hz with h | h
    · exact I.nul z h
    · obtain ⟨⟨e, h1, h2⟩, _⟩ := newOf_mem.mp h
      exact .mk h1 fun x hx => I.nul x (h2 x hx)
theorem NulInv.last (I : NulInv rules found) (h : newOf lt rules found = []) : ∀ z, z ∈ found ↔ Nul rules z := by
  refine fun z => ⟨I.nul z, fun hz => ?_⟩
  induction hz with
  | @mk o e h1 _ ih =>
    refine Classical.byContradiction fun n => ?_
    have : o ∈ newOf lt rules found := newOf_mem.mpr ⟨⟨e, h1, ih⟩, n⟩
    rw [h] at this; cases this
theorem NulInv.len (I : NulInv rules found) : found.length ≤ rules.length := by
  have := nodup_le (m := rules.map Prod.fst) I.nodup fun z hz => by
    cases I.nul z hz with
    | mk h _ => exact List.mem_map.mpr ⟨_, h, rfl⟩
  simpa using this
theorem newOf_len (T : IsLt lt) : (newOf lt rules found).length ≤ rules.length := by
  refine Nat.le_trans (srt_len T _) ?_
  rw [List.length_map]
  refine Nat.le_trans (List.length_filter_le _ _) ?_
  simp [leftOf]
end
end Mine
end
section
open PySem PySem.W PyProof.Rows PySem.Calls
set_option Elab.async false
set_option linter.unusedVariables false
set_option linter.unusedSectionVars false
namespace Mine
section
variable {α : Type} [DecidableEq α]
theorem addKey_mem {ks : List α} {x z : α} : z ∈ addKey ks x ↔ z ∈ ks ∨ z = x := by
  unfold addKey
  split
  · rename_i h; constructor
    · exact .inl
    · rintro (h' | rfl)
      · exact h'
      · exact has_iff.mp h
  · simp
theorem addAll_mem {z : α} : ∀ {ys ks : List α}, z ∈ ys.foldl addKey ks ↔ z ∈ ks ∨ z ∈ ys
  | [], ks => by simp
  | y :: ys, ks => by
    rw [List.foldl_cons, addAll_mem, addKey_mem, List.mem_cons, or_assoc]
theorem addKey_nodup {ks : List α} {x : α} (h : ks.Nodup) : (addKey ks x).Nodup := by
  unfold addKey
  split
  · exact h
  · rename_i q
    exact List.nodup_append.mpr ⟨h, by simp, fun a ha b hb e => by simp at hb; subst hb; subst e; exact q (has_iff.mpr ha)⟩
theorem addAll_nodup : ∀ {ys ks : List α}, ks.Nodup → (ys.foldl addKey ks).Nodup
  | [], _, h => h
  | y :: ys, ks, h => addAll_nodup (ys := ys) (addKey_nodup h)
theorem addAll_ge : ∀ {ys ks : List α}, ks.length ≤ (ys.foldl addKey ks).length
  | [], _ => Nat.le_refl _
  | y :: ys, ks => by
    refine Nat.le_trans ?_ (addAll_ge (ys := ys) (ks := addKey ks y))
    unfold addKey; split <;> simp
theorem addAll_same : ∀ {ys ks : List α}, (ys.foldl addKey ks).length = ks.length → ys.foldl addKey ks = ks ∧ ∀ y ∈ ys, y ∈ ks
  | [], _, _ => ⟨rfl, fun _ h => nomatch h⟩
  | y :: ys, ks, h => by
    rw [List.foldl_cons] at h ⊢
    have h1 := addAll_ge (ys := ys) (ks := addKey ks y)
    by_cases q : y ∈ ks
    · have e : addKey ks y = ks := by unfold addKey; rw [if_pos (has_iff.mpr q)]
      rw [e] at h ⊢
      obtain ⟨a, b⟩ := addAll_same h
      exact ⟨a, fun z hz => (List.mem_cons.mp hz).elim (fun e => e ▸ q) (b z)⟩
    · have e : addKey ks y = ks ++ [y] := by unfold addKey; rw [has_not.mpr q]; rfl
      rw [e] at h h1
      rw [List.length_append] at h1
      simp at h1; omega
/-- what is given back by the sets -/
structure Gram (rs : List (α × List α)) : Prop where
  dummy : True
variable (term : α → Bool) (rs : List (α × List α))
def NullStr (l : List α) : Prop := ∀ x ∈ l, Nul rs x
def R1 (a b : α) : Prop := ∃ e, (a, e) ∈ rs ∧ ∃ i, e[i]? = some b ∧ NullStr rs (e.take i)
def R2 (a b : α) : Prop := ∃ e, (a, e) ∈ rs ∧ ∃ i, e[i]? = some b ∧ NullStr rs (e.drop (i + 1))
def Bes (a b : α) : Prop := ∃ o e, (o, e) ∈ rs ∧ ∃ i j, i < j ∧ e[i]? = some a ∧ e[j]? = some b ∧ NullStr rs (cut e (i + 1) j)
def Fi (x z : α) : Prop := term z = true ∧ Reach (R1 rs) x z
def Fo (x z : α) : Prop := ∃ one two, Bes rs one two ∧ Reach (R2 rs) one x ∧ Fi term rs two z
/-- the symbols of the rules -/
structure SymsOk (syms : List α) : Prop where
  nodup : syms.Nodup
  org : ∀ r ∈ rs, r.1 ∈ syms
  exp : ∀ r ∈ rs, ∀ x ∈ r.2, x ∈ syms
variable {term rs} {syms : List α}
theorem Reach.head {β : Type} {R : β → β → Prop} {x y z : β} (h : R x y) (r : Reach R y z) : Reach R x z := by
  induction r with
  | refl => exact .step .refl h
  | step _ h' ih => exact .step ih h'
theorem Nul.sym (S : SymsOk rs syms) {z : α} (h : Nul rs z) : z ∈ syms := by cases h with | mk h _ => exact S.org _ h
theorem R1.sym (S : SymsOk rs syms) {a b : α} (h : R1 rs a b) : b ∈ syms := by
  obtain ⟨e, h1, i, h2, _⟩ := h
  exact S.exp _ h1 _ (List.mem_of_getElem? h2)
theorem Fi.sym (S : SymsOk rs syms) {x z : α} (hx : x ∈ syms) (h : Fi term rs x z) : z ∈ syms := by
  obtain ⟨_, r⟩ := h
  cases r with
  | refl => exact hx
  | step _ h => exact h.sym S
theorem Fo.sym (S : SymsOk rs syms) {x z : α} (h : Fo term rs x z) : z ∈ syms := by
  obtain ⟨one, two, ⟨o, e, h1, i, j, _, _, h2, _⟩, _, f⟩ := h
  exact f.sym S (S.exp _ h1 _ (List.mem_of_getElem? h2))
/-- steps of soundness -/
theorem Fi.step {o b z : α} (h : R1 rs o b) (f : Fi term rs b z) : Fi term rs o z := ⟨f.1, f.2.head h⟩
theorem Fo.step {o b z : α} (h : R2 rs o b) (f : Fo term rs o z) : Fo term rs b z := by
  obtain ⟨one, two, b1, r, f⟩ := f
  exact ⟨one, two, b1, .step r h, f⟩
theorem Fo.of {a b z : α} (h : Bes rs a b) (f : Fi term rs b z) : Fo term rs a z := ⟨a, b, h, .refl, f⟩
variable (term rs)
/-- the sets so far: N, first, follow -/
structure Snd (syms N : List α) (first follow : α → List α) : Prop where
  nul : ∀ z ∈ N, Nul rs z
  fi : ∀ x ∈ syms, ∀ z ∈ first x, Fi term rs x z
  fo : ∀ x ∈ syms, ∀ z ∈ follow x, Fo term rs x z
  ter : ∀ x ∈ syms, term x = true → x ∈ first x
/-- no rule gives more of N, of first -/
structure Closed1 (r : α × List α) (N : List α) (first : α → List α) : Prop where
  nul : (∀ x ∈ r.2, x ∈ N) → r.1 ∈ N
  fi : ∀ i b, r.2[i]? = some b → (∀ x ∈ r.2.take i, x ∈ N) → ∀ z ∈ first b, z ∈ first r.1
structure Closed2 (r : α × List α) (N : List α) (first follow : α → List α) : Prop where
  up : ∀ i b, r.2[i]? = some b → (∀ x ∈ r.2.drop (i + 1), x ∈ N) → ∀ z ∈ follow r.1, z ∈ follow b
  be : ∀ i j a b, i < j → r.2[i]? = some a → r.2[j]? = some b → (∀ x ∈ cut r.2 (i + 1) j, x ∈ N) → ∀ z ∈ first b, z ∈ follow a
variable {term rs} {N : List α} {first follow : α → List α}
theorem closed_nul (C : ∀ r ∈ rs, Closed1 r N first) {z : α} (h : Nul rs z) : z ∈ N := by
  induction h with
  | @mk o e h1 _ ih => exact (C _ h1).nul ih
theorem closed_first (S : SymsOk rs syms) (I : Snd term rs syms N first follow) (C : ∀ r ∈ rs, Closed1 r N first) {x z : α} (hx : x ∈ syms) (h : Fi term rs x z) : z ∈ first x := by
  have key : ∀ y, Reach (R1 rs) x y → y ∈ syms ∧ ∀ t ∈ first y, t ∈ first x := fun y r => by
    induction r with
    | refl => exact ⟨hx, fun t h => h⟩
    | step _ h ih =>
      refine ⟨h.sym S, fun t ht => ih.2 t ?_⟩
      obtain ⟨e, h1, i, h2, h3⟩ := h
      exact (C _ h1).fi i _ h2 (fun x hx => closed_nul C (h3 x hx)) t ht
  obtain ⟨a, b⟩ := key z h.2
  exact b z (I.ter z a h.1)
theorem closed_follow (S : SymsOk rs syms) (I : Snd term rs syms N first follow) (C : ∀ r ∈ rs, Closed1 r N first) (C2 : ∀ r ∈ rs, Closed2 r N first follow) {x z : α} (h : Fo term rs x z) : z ∈ follow x := by
  obtain ⟨one, two, ⟨o, e, h1, i, j, hij, h2, h3, h4⟩, r, f⟩ := h
  have f' := closed_first S I C (S.exp _ h1 _ (List.mem_of_getElem? h3)) f
  have base : z ∈ follow one := (C2 _ h1).be i j one two hij h2 h3 (fun x hx => closed_nul C (h4 x hx)) z f'
  clear h2 h4
  induction r with
  | refl => exact base
  | step _ h ih =>
    obtain ⟨e', h1', i', h2', h3'⟩ := h
    exact (C2 _ h1').up i' _ h2' (fun x hx => closed_nul C (h3' x hx)) z ih
end
end Mine
end
section
open PySem PySem.W PyProof.Rows PySem.Calls
set_option Elab.async false
set_option linter.unusedVariables false
set_option linter.unusedSectionVars false
namespace Mine
theorem fillOn : PySem.Challenge.rw_fi0012_01 = PySem.Challenge.rw_fi0012_01 ∧ hd.heap_39 = hd.heap_39 := by
  k_fill
  exact ⟨rfl, rfl⟩
abbrev Kys := Addr → List Sy
def upd (m : Kys) (D : Addr) (ks : List Sy) : Kys := fun a => if a = D then ks else m a
/-- the dicts of the sets, as the frame owns them -/
structure OwnOk (w : World) (f : Heap) (Ds : List Addr) (m : Kys) (own : Own) : Prop where
  addrs : own.map (·.1) = Ds
  rows : ∀ p ∈ own, ∃ xs ep, p.2 = symDic w xs ep ∧ SymRows f AnyV xs (m p.1)
section
variable {α β γ σ : Type} {w : World} {A : Around} {env : Env} {f f' h h' : Heap} {T : Ty α} {U : Ty σ} {V : Ty γ} {c : γ} {M M₀ old : Addr → Prop} {f₀ h₀ : Heap} {own own' pre post ex : Own} {mm : Vars} {P : Heap → Sy → Value → Prop} {xs : List (Row Sy)} {ks ys : List Sy} {ep n : Nat} {D a : Addr} {tgt e : Expr}
  {g : Array GenState} {d : Drawn} {tk : Nat} {os : OsState} {Ds : List Addr} {m : Kys} {Q : Flow → Shared → Prop} {rest : List Stmt}
theorem OwnOk.mono (O : OwnOk w f Ds m own) (k : f.StaysIn f') : OwnOk w f' Ds m own := ⟨O.addrs, fun p hp => let ⟨xs, ep, e, R⟩ := O.rows p hp; ⟨xs, ep, e, R.any k⟩⟩
theorem OwnOk.at (O : OwnOk w f Ds m own) (nd : Ds.Nodup) (hD : D ∈ Ds) : ∃ xs ep pre post, own = pre ++ (D, symDic w xs ep) :: post ∧ SymRows f AnyV xs (m D) ∧ ∀ p ∈ pre ++ post, p.1 ≠ D := by
  rw [← O.addrs] at hD nd
  obtain ⟨⟨D', o⟩, hp, rfl⟩ := List.mem_map.mp hD
  obtain ⟨xs, ep, e, R⟩ := O.rows _ hp
  dsimp only at e; subst e
  obtain ⟨pre, post, rfl⟩ := List.append_of_mem hp
  refine ⟨xs, ep, pre, post, rfl, R, fun p hp e => ?_⟩
  rw [List.map_append, List.map_cons] at nd
  obtain ⟨_, n2, n3⟩ := List.nodup_append.mp nd
  rcases List.mem_append.mp hp with h | h
  · exact n3 p.1 (List.mem_map_of_mem h) D' List.mem_cons_self e
  · exact (List.nodup_cons.mp n2).1 (e ▸ List.mem_map_of_mem h)
theorem OwnOk.put {o : Obj} (O : OwnOk w f Ds m (pre ++ (D, o) :: post)) (k : f.StaysIn f') (R : SymRows f' AnyV xs ks) (hd : ∀ p ∈ pre ++ post, p.1 ≠ D) : OwnOk w f' Ds (upd m D ks) (pre ++ (D, symDic w xs ep) :: post) := by
  refine ⟨by rw [← O.addrs]; simp, fun p hp => ?_⟩
  have other : ∀ p ∈ pre ++ post, ∃ xs ep, p.2 = symDic w xs ep ∧ SymRows f' AnyV xs (upd m D ks p.1) := fun p hp => by
    obtain ⟨xs, ep, e, R⟩ := O.rows p (by rcases List.mem_append.mp hp with q | q <;> simp [q])
    refine ⟨xs, ep, e, ?_⟩
    unfold upd; rw [if_neg (hd p hp)]; exact R.any k
  rcases List.mem_append.mp hp with h | h
  · exact other p (List.mem_append.mpr (.inl h))
  · rcases List.mem_cons.mp h with rfl | h
    · exact ⟨xs, ep, rfl, by unfold upd; rw [if_pos rfl]; exact R⟩
    · exact other p (List.mem_append.mpr (.inr h))
/-- fewer, or in another order -/
theorem FS.sub (F : FS M₀ f₀ h₀ env own f h mm) (k : ∀ p ∈ own', p ∈ own) : FS M₀ f₀ h₀ env own' f h mm := ⟨F.ext, F.ns, F.Lf, F.L0, F.cell, fun p hp => F.own p (k p hp)⟩
/-- what was made is owned -/
theorem FS.adopt {o : Obj} (F : FS M₀ f₀ h₀ env own f h mm) (e : Ext Nil f h f' h') (g : h'.get? D = some o) (n : h.get? D = none) (fz : f'.get? D = none) : FS M₀ f₀ h₀ env ((D, o) :: own) f' h' mm := by
  have G := F.grow e
  refine ⟨G.ext, G.ns, G.Lf, G.L0, G.cell, fun p hp => ?_⟩
  rcases List.mem_cons.mp hp with rfl | hp
  · exact ⟨g, fun z => F.live (.inl z) n, fz, F.since' (.inl n), fun m q => F.live (.inr (.inl ⟨m, q⟩)) n⟩
  · exact G.own p hp
theorem Args.keeps {es : List Expr} {P : Heap → List Value → Prop} (y : Args w A env es f h P) (k : Ext Nil f h f' h') : Args w A env es f' h' P := fun f1 h1 k1 => y f1 h1 (k.trans k1)
set_option maxRecDepth 100000 in
/-- NULLABLE.holds(e) -/
theorem ts_holds {x : Str} {p1 apos pos : Pos} {items : List Sy} (K : Ok w f) (rm : Rm A 105) (F : FS M₀ f₀ h₀ env (ex ++ own) f h mm) (nd : Ds.Nodup) (O : OwnOk w f Ds m own) (hD : D ∈ Ds) (X : Var w env h x (.ref a)) (oa : OsAt f a D)
    (he : ∀ f', f.StaysIn f' → f'.StaysIn h → Es w A env e f' h (Ty.tup Ty.sym) items) (hz : items.length ≤ 1000)
    (hse : starEach [e] env = (false, eval e env) :: starEach [] env := by rfl)
    (hit : isTrue (.Call (.Attribute (.Name x p1) (Str.ofString "holds") apos) [e] [] pos) env (eval (.Call (.Attribute (.Name x p1) (Str.ofString "holds") apos) [e] [] pos) env) = (do let v ← eval (.Call (.Attribute (.Name x p1) (Str.ofString "holds") apos) [e] [] pos) env; standAt pos; holding [v] (truthy v)) := by rfl)
    (hbase : attributeBase (.Name x p1) (Str.ofString "holds") env (eval (.Name x p1) env) = eval (.Name x p1) env := by rfl) (hfew : methodCallForm ([e].length + ([] : List Keyword).length) (backTo pos (starEach [e] env)) (backToKw pos (keywordEach [] env)) = true := by rfl) (hline : (apos.endLine == pos.line) = true := by rfl)
    (hpl : (backTo pos (starEach [e] env)).any (·.1) = false := by rfl) (hn : [e] = [] ∨ ∃ x r, backTo pos (starEach [e] env) = (false, x) :: r := by first | exact .inl rfl | exact .inr ⟨_, _, rfl⟩) :
    Ts w A env (.Call (.Attribute (.Name x p1) (Str.ofString "holds") apos) [e] [] pos) f h (items.all fun x => has x (m D)) := by
  obtain ⟨xs, ep, pre, post, rfl, R, hdd⟩ := O.at nd hD
  have hown := F.own (D, symDic w xs ep) (by simp)
  have hP : ∀ b, (b == D) = true → h.get? b ≠ none := fun b hb => by
    have : b = D := by simpa using hb
    subst this; exact get_ne hown.1
  have gD : (addTo f h (· == D)).get? D = some (symDic w xs ep) := by rw [addTo_get F.ext.fh, if_pos (by simp)]; exact hown.1
  have up : f.StaysIn (addTo f h (· == D)) := addTo_up F.ext.fh
  have dn : (addTo f h (· == D)).StaysIn h := addTo_stays F.ext.fh
  have K' := K.keeps up
  refine Ts.more (P := (· == D)) F.ext.fh hP (Es.test (fun f1 h1 k g d tk os Q hq => ?_) hit)
  refine meth_any (K'.keeps k.fk) k.fh ((es_name (T := Ty.osv) (a := (a, D)) X ⟨rfl, oa.mono up⟩).keeps k) ((args1 (he _ up dn) hse).keeps k) (show findIn (hd.heap_39 w.params) (.ref 101) (Str.ofString "holds") = some (some (.ref 84)) by k_is) (by k_is) (by k_is) rfl ?_ hbase hfew hline hpl hn
  rintro h2 f2 g2 d2 tk2 vs e2 ge2 oa2 ⟨v, rfl, t⟩
  have k2 := k.trans e2
  refine p_holds (K'.keeps k2.fk) e2.fh rm.mono oa2 (k2.fk _ _ gD) ((R.any up).any k2.fk) t hz g2 d2 tk2 os _ fun h3 f3 g3 d3 tk3 v3 e3 ge3 r3 => ?_
  exact hq _ _ _ _ _ _ (e2.trans e3) (ge2.trans ge3) r3
end
end Mine
end
section
open PySem PySem.W PyProof.Rows PySem.Calls
set_option Elab.async false
set_option linter.unusedVariables false
set_option linter.unusedSectionVars false
namespace Mine
theorem fillOo : PySem.Challenge.rw_fi0012_01 = PySem.Challenge.rw_fi0012_01 ∧ hd.heap_39 = hd.heap_39 := by
  k_fill
  exact ⟨rfl, rfl⟩
/-- a dict of OrderedSets that stands -/
structure Tab (w : World) (f : Heap) (dd : Addr) (syms : List Sy) (AF DF : Sy → Addr) : Prop where
  lo : (dd == sysModules) = false
  at_ : ∃ xs ep, f.get? dd = some (symDic w xs ep) ∧ SymRows f (fun f x v => v = .ref (AF x) ∧ OsAt f (AF x) (DF x)) xs syms
section
variable {α β γ σ : Type} {w : World} {A : Around} {env : Env} {f f' h h' : Heap} {T : Ty α} {U : Ty σ} {V : Ty γ} {c : γ} {M M₀ old : Addr → Prop} {f₀ h₀ : Heap} {own own' pre post ex : Own} {mm : Vars} {P : Heap → Sy → Value → Prop} {xs : List (Row Sy)} {ks ys syms : List Sy} {ep n : Nat} {D a dd : Addr} {tgt e : Expr}
  {g : Array GenState} {d : Drawn} {tk : Nat} {os : OsState} {Ds : List Addr} {m : Kys} {Q : Flow → Shared → Prop} {rest : List Stmt} {AF DF : Sy → Addr}
theorem Tab.mono (t : Tab w f dd syms AF DF) (k : f.StaysIn f') : Tab w f' dd syms AF DF := ⟨t.lo, let ⟨xs, ep, e, R⟩ := t.at_; ⟨xs, ep, k _ _ e, R.mono k fun x v ⟨a, b⟩ => ⟨a, b.mono k⟩⟩⟩
theorem Tab.oset (t : Tab w f dd syms AF DF) {x : Sy} (hx : x ∈ syms) : OsAt f (AF x) (DF x) := by
  obtain ⟨xs, ep, e, R⟩ := t.at_
  rw [← R.keys] at hx
  obtain ⟨r, hr, rfl⟩ := List.mem_map.mp hx
  exact (R.val r hr).2
theorem valAtRow_of {x : Sy} (R : SymRows f P xs ks) (hx : x ∈ ks) : ∃ v, valAtRow xs x = some v ∧ P f x v := by
  have h := valAtRow_has (x := x) R.keys
  rw [has_iff.mpr hx] at h
  obtain ⟨v, hv⟩ := Option.isSome_iff_exists.mp h
  refine ⟨v, hv, ?_⟩
  unfold valAtRow at hv
  obtain ⟨j, e1, e2⟩ := Option.bind_eq_some_iff.mp hv
  obtain ⟨y, e3, e4⟩ := placeOf_get e1
  rw [e3] at e2
  cases e2
  rw [← e4]
  exact R.val y (List.mem_of_getElem? e3)
theorem ty_dict : typeLookup (.type "dict") "__getitem__" = pure (some (.builtin "dict.__getitem__")) := PySem.F.slot_dict_getitem.lookup
/-- FIRST[k] -/
theorem es_tab {k' : Expr} {p1 pos : Pos} {X : Str} {x : Sy} (K : Ok w f) (rm : Rm A 200) (hX : Var w env h X (.ref dd)) (t : Tab w f dd syms AF DF) (hk : Es w A env k' f h Ty.sym x) (hx : x ∈ syms)
    (hs : ∀ o v, subscripted k' false o v = operate [o, v] (getItem o v) ∨ subscripted k' false o v = operate [v, o] (getItem o v) := by intro _ _; first | exact .inl rfl | exact .inr rfl) :
    Es w A env (.Subscript (.Name X p1) k' pos) f h Ty.osv (AF x, DF x) :=
  es_sub (T := Ty.val) (a := .ref dd) (es_name hX rfl) hk ty_dict (fun f' h' u k t' g d tk os => by
    cases t'
    obtain ⟨xs, ep, e, R⟩ := t.at_
    exact ⟨_, k.fh _ _ (k.fk _ _ e), rfl⟩) (fun f' h' u v k t' ti g d tk os Q hq => by
    cases t'
    obtain ⟨xs, ep, e, R⟩ := (t.mono k.fk).at_
    obtain ⟨b, tt, rfl, n⟩ := ti
    obtain ⟨v, hv, rfl, oa⟩ := valAtRow_of R hx
    have K' := K.keeps k.fk
    refine dicItem (K := symKind K') (xs := xs) (ep := ep) (s := ⟨h', g, d, tk, os⟩) (by show 0 + 1 ≤ 8; omega) (by have := rm.units; have : cLine = 9900 := rfl; show A.units + 1 + 10 * (0 + 1) < _; omega) k.fh ⟨b, tt, rfl, n⟩ (k.fh _ _ e) (R.keysIn K') hv fun tk' => ?_
    exact hq _ f' g _ _ _ (.refl k.fh) (.refl g) ⟨rfl, oa⟩) hs
theorem addAll_nil : ([] : List Sy).foldl addKey ks = ks := rfl
set_option maxRecDepth 100000 in
/-- if update_set(e1, e2): changed = True -/
theorem st_update {X : Str} {p1 p2 p3 p4 p5 p6 : Pos} {k1 : Nat} {e1 e2 : Expr} {b : σ} (K : Ok w f) (rm : Rm A 95) (W : Frm env) (F : FS M₀ f₀ h₀ env (ex ++ own) f h mm) (nd : Ds.Nodup) (O : OwnOk w f Ds m own) (hD : D ∈ Ds) (hex : ∀ p ∈ ex, p.1 ∉ Ds) (hck : Kind env (Str.ofString "changed"))
    (Xv : Var w env h X (.ref 112)) (he1 : Es w A env e1 f h Ty.osv (a, D)) (he2 : Es w A env e2 f h U b)
    (hG : ∀ f' h' v2, f.StaysIn f' → FS M₀ f₀ h₀ env (ex ++ own) f' h' mm → OwnOk w f' Ds m own → U.is f' b v2 → ∃ (bb : Addr) (ob : Obj) (old : Addr → Prop), v2 = .ref bb ∧ f'.get? bb = some ob ∧ ob.cls ≠ .type "tuple" ∧ ((bb ≠ a ∧ Src w 113 (.ref bb) f' h' (Only D) old ys ∧ ∀ c, old c → c ≠ D ∧ h'.get? c ≠ none) ∨ (bb = a ∧ ys = m D)))
    (hz : ys.length ≤ 100) (hk : (m D).length ≤ 100)
    (k : ∀ f' h' g' d' tk' own' mm' (c : Bool), f.StaysIn f' → Gx g g' → FS M₀ f₀ h₀ env (ex ++ own') f' h' mm' → OwnOk w f' Ds (upd m D (ys.foldl addKey (m D))) own' → c = !decide ((ys.foldl addKey (m D)).length = (m D).length) → mm' = (if c then mm.set (Str.ofString "changed") (.bool true) else mm) → wpAny (model PP w) A (execs rest env) Q NoE ⟨h', g', d', tk', os⟩)
    (hit : isTrue (.Call (.Name X p1) [e1, e2] [] p2) env (eval (.Call (.Name X p1) [e1, e2] [] p2) env) = (do let v ← eval (.Call (.Name X p1) [e1, e2] [] p2) env; standAt p2; holding [v] (truthy v)) := by rfl)
    (hse : starEach [e1, e2] env = (false, eval e1 env) :: starEach [e2] env := by rfl) (hse2 : starEach [e2] env = (false, eval e2 env) :: starEach [] env := by rfl)
    (hpl : (backTo p2 (starEach [e1, e2] env)).any (·.1) = false := by rfl) (hn : [e1, e2] = [] ∨ ∃ x r, backTo p2 (starEach [e1, e2] env) = (false, x) :: r := by first | exact .inl rfl | exact .inr ⟨_, _, rfl⟩)
    (hsw : swapsWith (.Constant (.bool true) k1 p4) (some (.Name (Str.ofString "changed") p3)) p5.line env = pure false := by rfl) :
    wpAny (model PP w) A (execs (.If (.Call (.Name X p1) [e1, e2] [] p2) [.Assign [.Name (Str.ofString "changed") p3] (.Constant (.bool true) k1 p4) p5] [] p6 :: rest) env) Q NoE ⟨h, g, d, tk, os⟩ := by
  obtain ⟨xs, ep, pre, post, rfl, R, hdd⟩ := O.at nd hD
  refine wpAny_execs_cons (wpAny_If ?_)
  rw [hit]
  have X' : (hd.heap_39 w.params).In h := fun a o e => F.ext.fh _ _ (K.X a o e)
  refine wpAny_bind (call_any Xv (Kp.ref X' (by k_is)) (args2 he1 he2 hse hse2) F.ext.fh ?_ hpl hn)
  rintro h1 f1 g1 d1 tk1 vs e1' ge1 ⟨v, v2, rfl, ⟨rfl, oa⟩, t2⟩
  dsimp only at oa
  have F1 := F.grow e1'
  have O1 := O.mono e1'.fk
  obtain ⟨bb, ob, old, rfl, hb, hbt, alt⟩ := hG f1 h1 v2 e1'.fk F1 O1 t2
  have own1 := F1.own (D, symDic w xs ep) (by simp)
  refine p_update_set (old := old) (ys := ys) (ks := m D) (K.keeps e1'.fk) F1.ext.fh rm.mono oa own1.1 own1.2.2.1 (R.any e1'.fk) hb hbt alt hz hk fun f2 h2 g2 d2 tk2 xs2 ep2 e2' ge2 gd2 nf2 R2 => ?_
  have hde : ∀ p ∈ (ex ++ pre) ++ post, p.1 ≠ D := fun p hp => by
    rcases List.mem_append.mp hp with hp | hp
    · rcases List.mem_append.mp hp with hp | hp
      · exact fun e => hex p hp (e ▸ hD)
      · exact hdd p (List.mem_append.mpr (.inl hp))
    · exact hdd p (List.mem_append.mpr (.inr hp))
  have F1' : FS M₀ f₀ h₀ env ((ex ++ pre) ++ (D, symDic w xs ep) :: post) f1 h1 mm := by rw [List.append_assoc]; exact F1
  have F2 := F1'.rewrote e2' gd2 nf2 hde
  rw [List.append_assoc] at F2
  have O2 : OwnOk w f2 Ds (upd m D (ys.foldl addKey (m D))) (pre ++ (D, symDic w xs2 ep2) :: post) := O1.put e2'.fk R2 hdd
  refine wpAny_bind (wpAny_standAt (wpAny_holding (wpAny_truthy_bool ?_)))
  generalize hc : (!decide ((ys.foldl addKey (m D)).length = (m D).length)) = c
  cases c with
  | false => exact wpAny_execs_nil (k f2 h2 g2 d2 tk2 _ mm false (fun b o q => e2'.fk _ _ (e1'.fk b o q)) (ge1.trans ge2) F2 O2 hc.symm rfl)
  | true =>
    refine st_assign (T := Ty.bool) (a := true) W F2 hck es_bool (fun f3 h3 g3 d3 tk3 v3 k3 ge3 t3 F3 => ?_) hsw
    cases t3
    exact wpAny_execs_nil (k f3 h3 g3 d3 tk3 _ _ true (fun b o q => k3 _ _ (e2'.fk _ _ (e1'.fk b o q))) (ge1.trans (ge2.trans ge3)) F3 (O2.mono k3) hc.symm rfl)
end
end Mine
end
section
open PySem PySem.W PyProof.Rows PySem.Calls
set_option Elab.async false
set_option linter.unusedVariables false
set_option linter.unusedSectionVars false
namespace Mine
theorem fillOp : PySem.Challenge.rw_fi0012_01 = PySem.Challenge.rw_fi0012_01 ∧ hd.heap_39 = hd.heap_39 := by
  k_fill
  exact ⟨rfl, rfl⟩
/-- where the sets' dicts lie -/
structure Lay (Ds : List Addr) (l : List Sy) (DN : Addr) (DF DL : Sy → Addr) : Prop where
  nd : Ds.Nodup
  n : DN ∈ Ds
  f : ∀ x ∈ l, DF x ∈ Ds
  o : ∀ x ∈ l, DL x ∈ Ds
  nf : ∀ x ∈ l, DN ≠ DF x
  nl : ∀ x ∈ l, DN ≠ DL x
  fl : ∀ x ∈ l, ∀ y ∈ l, DF x ≠ DL y
  ff : ∀ x ∈ l, ∀ y ∈ l, DF x = DF y → x = y
  ll : ∀ x ∈ l, ∀ y ∈ l, DL x = DL y → x = y
  all : ∀ D ∈ Ds, D = DN ∨ (∃ x ∈ l, D = DF x) ∨ ∃ x ∈ l, D = DL x
def setF {α : Type} (F : Sy → α) (x : Sy) (a : α) : Sy → α := fun y => if y = x then a else F y
theorem setF_same {α : Type} {F : Sy → α} {x : Sy} {a : α} : setF F x a x = a := by unfold setF; rw [if_pos rfl]
theorem setF_ne {α : Type} {F : Sy → α} {x y : Sy} {a : α} (h : y ≠ x) : setF F x a y = F y := by unfold setF; rw [if_neg h]
theorem Lay.push {Ds : List Addr} {l : List Sy} {DN D1 D2 : Addr} {DF DL : Sy → Addr} {x : Sy} (L : Lay Ds l DN DF DL) (hx : x ∉ l) (h1 : D1 ∉ Ds) (h2 : D2 ∉ Ds) (h12 : D2 ≠ D1) : Lay (D2 :: D1 :: Ds) (l ++ [x]) DN (setF DF x D1) (setF DL x D2) := by
  have old : ∀ y ∈ l, y ≠ x := fun y hy e => hx (e ▸ hy)
  have cs : ∀ y ∈ l ++ [x], (y ∈ l ∧ y ≠ x) ∨ y = x := fun y hy => by
    rcases List.mem_append.mp hy with h | h
    · exact .inl ⟨h, old y h⟩
    · exact .inr (by simpa using h)
  have up : ∀ {D}, D ∈ Ds → D ∈ D2 :: D1 :: Ds := fun h => .tail _ (.tail _ h)
  have n1 : ∀ {D}, D ∈ Ds → D ≠ D1 := fun h e => h1 (e ▸ h)
  have n2 : ∀ {D}, D ∈ Ds → D ≠ D2 := fun h e => h2 (e ▸ h)
  refine ⟨List.nodup_cons.mpr ⟨fun h => (List.mem_cons.mp h).elim h12 h2, List.nodup_cons.mpr ⟨h1, L.nd⟩⟩, up L.n, fun y hy => ?_, fun y hy => ?_, fun y hy => ?_, fun y hy => ?_, fun y hy z hz => ?_, fun y hy z hz e => ?_, fun y hy z hz e => ?_, fun D hD => ?_⟩
  · rcases cs y hy with ⟨a, b⟩ | rfl
    · rw [setF_ne b]; exact up (L.f y a)
    · rw [setF_same]; exact .tail _ (.head _)
  · rcases cs y hy with ⟨a, b⟩ | rfl
    · rw [setF_ne b]; exact up (L.o y a)
    · rw [setF_same]; exact .head _
  · rcases cs y hy with ⟨a, b⟩ | rfl
    · rw [setF_ne b]; exact L.nf y a
    · rw [setF_same]; exact n1 L.n
  · rcases cs y hy with ⟨a, b⟩ | rfl
    · rw [setF_ne b]; exact L.nl y a
    · rw [setF_same]; exact n2 L.n
  · rcases cs y hy with ⟨a, b⟩ | rfl <;> rcases cs z hz with ⟨c, d⟩ | rfl
    · rw [setF_ne b, setF_ne d]; exact L.fl y a z c
    · rw [setF_ne b, setF_same]; exact n2 (L.f y a)
    · rw [setF_ne d, setF_same]; exact (n1 (L.o z c)).symm
    · rw [setF_same, setF_same]; exact h12.symm
  · rcases cs y hy with ⟨a, b⟩ | rfl <;> rcases cs z hz with ⟨c, d⟩ | rfl
    · rw [setF_ne b, setF_ne d] at e; exact L.ff y a z c e
    · rw [setF_ne b, setF_same] at e; exact absurd e (n1 (L.f y a))
    · rw [setF_ne d, setF_same] at e; exact absurd e.symm (n1 (L.f z c))
    · rfl
  · rcases cs y hy with ⟨a, b⟩ | rfl <;> rcases cs z hz with ⟨c, d⟩ | rfl
    · rw [setF_ne b, setF_ne d] at e; exact L.ll y a z c e
    · rw [setF_ne b, setF_same] at e; exact absurd e (n2 (L.o y a))
    · rw [setF_ne d, setF_same] at e; exact absurd e.symm (n2 (L.o z c))
    · rfl
  · rcases List.mem_cons.mp hD with rfl | hD
    · exact .inr (.inr ⟨x, by simp, setF_same.symm⟩)
    · rcases List.mem_cons.mp hD with rfl | hD
      · exact .inr (.inl ⟨x, by simp, setF_same.symm⟩)
      · rcases L.all D hD with h | ⟨y, a, b⟩ | ⟨y, a, b⟩
        · exact .inl h
        · exact .inr (.inl ⟨y, by simp [a], by rw [setF_ne (old y a)]; exact b⟩)
        · exact .inr (.inr ⟨y, by simp [a], by rw [setF_ne (old y a)]; exact b⟩)
section
variable {α β γ σ : Type} {w : World} {A : Around} {env : Env} {f f' h h' : Heap} {T : Ty α} {U : Ty σ} {M M₀ old : Addr → Prop} {f₀ h₀ : Heap} {own own' pre post ex : Own} {mm : Vars} {P : Heap → Sy → Value → Prop} {xs : List (Row Sy)} {ks ks' ys syms : List Sy} {ep n : Nat} {D a dd : Addr} {e e' t : Expr}
  {g : Array GenState} {d : Drawn} {tk : Nat} {os : OsState} {Ds : List Addr} {m : Kys} {Q : Flow → Shared → Prop} {rest : List Stmt} {AF DF : Sy → Addr}
/-- an expression that makes an OrderedSet -/
def MakesOs (w : World) (A : Around) (env : Env) (e : Expr) (f h : Heap) (ks : List Sy) : Prop := ∀ f₁ h₁, Ext Nil f h f₁ h₁ → ∀ g d tk os (Q : Value → Shared → Prop),
  (∀ h' f' g' d' tk' a D xs ep, Ext Nil f₁ h₁ f' h' → Gx g g' → OsAt f' a D → h'.get? D = some (symDic w xs ep) → f'.get? D = none → h₁.get? D = none → SymRows f' AnyV xs ks → Q (.ref a) ⟨h', g', d', tk', os⟩) →
  wpAny (model PP w) A (eval e env) Q NoE ⟨h₁, g, d, tk, os⟩
set_option maxRecDepth 100000 in
theorem makes0 {X : Str} {p pos : Pos} (K : Ok w f) (rm : Rm A 110) (hX : Var w env h X (.ref 101)) : MakesOs w A env (.Call (.Name X p) [] [] pos) f h [] := fun f₁ h₁ k g d tk os Q hq => by
  have K1 := K.keeps k.fk
  refine call_any (hX.keeps k.stays) (.ref (fun a o e => k.fh _ _ (K1.X a o e)) (by k_is)) args0 k.fh ?_
  rintro h2 f2 g2 d2 tk2 vs e2 ge2 rfl
  have K2 := K1.keeps e2.fk
  refine p_make (ys := []) (u := .ref 36) K2 e2.fh rm (.inr ⟨rfl, rfl⟩) (srcf_tup ⟨36, #[], 0, rfl, K2.X _ _ (show (hd.heap_39 w.params).lookup 36 = some (tupleOf #[] 0) by k_is), .nil⟩) (by simp) fun f3 h3 g3 d3 tk3 a D xs ep e3 ge3 oa gd nf z R => ?_
  refine hq h3 f3 g3 d3 tk3 a D xs ep (e2.trans e3) (ge2.trans ge3) oa gd nf ?_ R
  cases q : h₁.get? D with
  | none => rfl
  | some o => rw [e2.stays _ _ q] at z; cases z
set_option maxRecDepth 100000 in
theorem makes1 {X : Str} {p pos lp : Pos} {x : Sy} (K : Ok w f) (rm : Rm A 110) (hX : Var w env h X (.ref 101)) (he : Es w A env e f h Ty.sym x) (hse : starEach [e] env = (false, eval e env) :: starEach [] env := by rfl)
    (hse2 : starEach [.List [e] lp] env = (false, eval (.List [e] lp) env) :: starEach [] env := by rfl) (hpl : (backTo pos (starEach [.List [e] lp] env)).any (·.1) = false := by rfl) (hn : [Expr.List [e] lp] = [] ∨ ∃ x r, backTo pos (starEach [.List [e] lp] env) = (false, x) :: r := by first | exact .inl rfl | exact .inr ⟨_, _, rfl⟩) :
    MakesOs w A env (.Call (.Name X p) [.List [e] lp] [] pos) f h [x] := fun f₁ h₁ k g d tk os Q hq => by
  have K1 := K.keeps k.fk
  refine call_any (hX.keeps k.stays) (.ref (fun a o e => k.fh _ _ (K1.X a o e)) (by k_is)) (args1 ((es_list1 he hse).keeps k) hse2) k.fh ?_ hpl hn
  rintro h2 f2 g2 d2 tk2 vs e2 ge2 ⟨v, rfl, t⟩
  have K2 := K1.keeps e2.fk
  refine p_make (ys := [x]) (u := v) K2 e2.fh rm (.inl rfl) (srcf_list t) (by simp) fun f3 h3 g3 d3 tk3 a D xs ep e3 ge3 oa gd nf z R => ?_
  refine hq h3 f3 g3 d3 tk3 a D xs ep (e2.trans e3) (ge2.trans ge3) oa gd nf ?_ R
  cases q : h₁.get? D with
  | none => rfl
  | some o => rw [e2.stays _ _ q] at z; cases z
theorem makes_ite {pos : Pos} {b : Bool} (ht : Ts w A env t f h b) (h1 : MakesOs w A env e f h ks) (h2 : MakesOs w A env e' f h ks') : MakesOs w A env (.IfExp t e e' pos) f h (if b then ks else ks') := fun f₁ h₁ k g d tk os Q hq => by
  rw [eval_IfExp]
  refine wpAny_bind (ht _ _ k g d tk os _ fun h2' f2 g2 d2 tk2 v e2 ge2 r2 => ?_)
  subst r2
  have back : ∀ {D}, h2'.get? D = none → h₁.get? D = none := fun {D} z => by
    cases q : h₁.get? D with
    | none => rfl
    | some o => rw [e2.stays _ _ q] at z; cases z
  cases v with
  | true => exact h1 _ _ (k.trans e2) g2 d2 tk2 os Q fun h' f' g' d' tk' a D xs ep e3 ge3 oa gd nf z R => hq h' f' g' d' tk' a D xs ep (e2.trans e3) (ge2.trans ge3) oa gd nf (back z) R
  | false => exact h2 _ _ (k.trans e2) g2 d2 tk2 os Q fun h' f' g' d' tk' a D xs ep e3 ge3 oa gd nf z R => hq h' f' g' d' tk' a D xs ep (e2.trans e3) (ge2.trans ge3) oa gd nf (back z) R
/-- x = OrderedSet(..) -/
theorem st_make {x : Str} {p pos : Pos} (W : Frm env) (F : FS M₀ f₀ h₀ env own f h mm) (hk : Kind env x) (he : MakesOs w A env e f h ks)
    (k : ∀ f' h' g' d' tk' a D xs ep, f.StaysIn f' → Gx g g' → OsAt f' a D → h.get? D = none → SymRows f' AnyV xs ks → FS M₀ f₀ h₀ env ((D, symDic w xs ep) :: own) f' h' (mm.set x (.ref a)) → wpAny (model PP w) A (execs rest env) Q NoE ⟨h', g', d', tk', os⟩)
    (hs : swapsWith e (some (.Name x p)) pos.line env = pure false := by rfl) : wpAny (model PP w) A (execs (.Assign [.Name x p] e pos :: rest) env) Q NoE ⟨h, g, d, tk, os⟩ := by
  refine wpAny_execs_cons (wpAny_Assign_Name ?_ hs)
  refine he f h (.refl F.ext.fh) g d tk os _ fun h1 f1 g1 d1 tk1 a D xs ep e1 ge1 oa gd nf z R => ?_
  exact (F.adopt e1 gd z nf).store W hk fun h2 tk2 F2 => k _ _ _ _ _ a D xs ep e1.fk ge1 oa z R F2
/-- x[k] = OrderedSet(..) -/
theorem st_maketab {o i : Expr} {pos' pos : Pos} {x : Sy} {xr : List (Row Sy)} {kr : List Sy} {er : Nat} (K : Ok w f) (rm : Rm A 200) (F : FS M₀ f₀ h₀ env (pre ++ (dd, symDic w xr er) :: post) f h mm) (hd : ∀ p ∈ pre ++ post, p.1 ≠ dd) (R : SymRows f P xr kr) (pm : ∀ f f' x v, f.StaysIn f' → P f x v → P f' x v) (hz : xr.length ≤ 1000)
    (he : MakesOs w A env e f h ks) (ho : Es w A env o f h Ty.val (.ref dd)) (hi : Es w A env i f h Ty.sym x)
    (k : ∀ f' h' g' d' tk' a D xs ep b er', f.StaysIn f' → Gx g g' → OsAt f' a D → h.get? D = none → SymRows f' AnyV xs ks → Ty.sym.is f' x (.ref b) → FS M₀ f₀ h₀ env ((D, symDic w xs ep) :: (pre ++ (dd, symDic w (putRow xr x (.ref b) (.ref a)) er') :: post)) f' h' mm → wpAny (model PP w) A (execs rest env) Q NoE ⟨h', g', d', tk', os⟩)
    (hs : swapsWith e (some (.Subscript o i pos')) pos.line env = pure false := by rfl) : wpAny (model PP w) A (execs (.Assign [.Subscript o i pos'] e pos :: rest) env) Q NoE ⟨h, g, d, tk, os⟩ := by
  refine wpAny_execs_cons (wpAny_Assign_Subscript ?_ hs)
  refine he f h (.refl F.ext.fh) g d tk os _ fun h1 f1 g1 d1 tk1 a D xs ep e1 ge1 oa gd nf z R1 => ?_
  have F1 := F.adopt e1 gd z nf
  have nD : D ≠ dd := fun q => by
    have := (F.own (dd, symDic w xr er) (by simp)).1
    rw [← q, z] at this; cases this
  refine setTail (pre := (D, symDic w xs ep) :: pre) (Q := fun _ s => wpAny (model PP w) A (execs rest env) Q NoE s) (K.keeps e1.fk) rm F1 (fun p hp => ?_) (R.mono e1.fk fun x v p => pm _ _ x v e1.fk p) pm hz (ho.keeps e1) (hi.keeps e1) fun f2 h2 g2 d2 tk2 b er2 k2 ge2 t2 F2 => ?_
  · rcases List.mem_cons.mp hp with rfl | hp
    · exact nD
    · exact hd p hp
  · exact k _ _ _ _ _ a D xs ep b er2 (fun c o q => k2 _ _ (e1.fk c o q)) (ge1.trans ge2) (oa.mono k2) z (R1.any k2) t2 F2
end
end Mine
end
section
open PySem PySem.W PyProof.Rows PySem.Calls
set_option Elab.async false
set_option linter.unusedVariables false
set_option linter.unusedSectionVars false
namespace Mine
def tot (Ds : List Addr) (m : Kys) : Nat := (Ds.map fun D => (m D).length).sum
theorem upd_self {m : Kys} {D : Addr} : upd m D (m D) = m := by funext a; unfold upd; split <;> simp_all
theorem upd_at {m : Kys} {D : Addr} {ks : List Sy} : upd m D ks D = ks := by unfold upd; rw [if_pos rfl]
theorem upd_ne {m : Kys} {D a : Addr} {ks : List Sy} (h : a ≠ D) : upd m D ks a = m a := by unfold upd; rw [if_neg h]
theorem tot_out {m : Kys} {D : Addr} {ks : List Sy} : ∀ {Ds : List Addr}, D ∉ Ds → tot Ds (upd m D ks) = tot Ds m
  | [], _ => rfl
  | a :: Ds, h => by
    have h1 : a ≠ D := fun e => h (e ▸ .head _)
    have h2 : D ∉ Ds := fun e => h (.tail _ e)
    show (upd m D ks a).length + tot Ds (upd m D ks) = (m a).length + tot Ds m
    rw [upd_ne h1, tot_out h2]
theorem tot_upd {m : Kys} {D : Addr} {ks : List Sy} : ∀ {Ds : List Addr}, Ds.Nodup → D ∈ Ds → tot Ds (upd m D ks) + (m D).length = tot Ds m + ks.length
  | [], _, h => nomatch h
  | a :: Ds, nd, h => by
    obtain ⟨n1, n2⟩ := List.nodup_cons.mp nd
    show (upd m D ks a).length + tot Ds (upd m D ks) + _ = (m a).length + tot Ds m + _
    by_cases q : a = D
    · subst q
      rw [upd_at, tot_out n1]; omega
    · rw [upd_ne q]
      have h' : D ∈ Ds := (List.mem_cons.mp h).resolve_left fun e => q e.symm
      have := tot_upd (m := m) (ks := ks) n2 h'
      omega
theorem tot_le {m : Kys} {B : Nat} : ∀ {Ds : List Addr}, (∀ D ∈ Ds, (m D).length ≤ B) → tot Ds m ≤ Ds.length * B
  | [], _ => by simp [tot]
  | a :: Ds, h => by
    have h1 := h a (.head _)
    have h2 := tot_le (m := m) (Ds := Ds) fun D hD => h D (.tail _ hD)
    show (m a).length + tot Ds m ≤ _
    rw [List.length_cons, Nat.add_mul]; omega
theorem upd_facts {Ds : List Addr} {m : Kys} {D : Addr} {ys : List Sy} {c cc : Bool} {t₀ : Nat} (nd : Ds.Nodup) (hD : D ∈ Ds) (h1 : t₀ ≤ tot Ds m) (h2 : c = true → t₀ < tot Ds m) (hc : cc = !decide ((ys.foldl addKey (m D)).length = (m D).length)) :
    t₀ ≤ tot Ds (upd m D (ys.foldl addKey (m D))) ∧ ((cc || c) = true → t₀ < tot Ds (upd m D (ys.foldl addKey (m D)))) ∧ ((cc || c) = false → c = false ∧ upd m D (ys.foldl addKey (m D)) = m ∧ ∀ y ∈ ys, y ∈ m D) := by
  have ht := tot_upd (m := m) (ks := ys.foldl addKey (m D)) nd hD
  have hg := addAll_ge (ys := ys) (ks := m D)
  refine ⟨by omega, fun h => ?_, fun h => ?_⟩
  · cases c with
    | true => have := h2 rfl; omega
    | false =>
      rw [Bool.or_false] at h
      rw [h] at hc
      have : ¬ (ys.foldl addKey (m D)).length = (m D).length := by simpa using hc.symm
      omega
  · obtain ⟨rfl, rfl⟩ := Bool.or_eq_false_iff.mp h
    have : (ys.foldl addKey (m D)).length = (m D).length := by simpa using hc.symm
    obtain ⟨e1, e2⟩ := addAll_same this
    exact ⟨rfl, by rw [e1, upd_self], e2⟩
section
variable {rs : List (Sy × List Sy)} {syms : List Sy} {Ds : List Addr} {DN : Addr} {DF DL : Sy → Addr} {m : Kys}
abbrev term (x : Sy) : Bool := x.2
abbrev SndM (rs : List (Sy × List Sy)) (syms : List Sy) (DN : Addr) (DF DL : Sy → Addr) (m : Kys) : Prop := Snd term rs syms (m DN) (fun x => m (DF x)) (fun x => m (DL x))
theorem SndM.size (S : SymsOk rs syms) (L : Lay Ds syms DN DF DL) (I : SndM rs syms DN DF DL m) (nd : ∀ D ∈ Ds, (m D).Nodup) : ∀ D ∈ Ds, (m D).length ≤ syms.length := fun D hD => by
  refine nodup_le (nd D hD) fun z hz => ?_
  rcases L.all D hD with rfl | ⟨x, hx, rfl⟩ | ⟨x, hx, rfl⟩
  · exact (I.nul z hz).sym S
  · exact (I.fi x hx z hz).sym S hx
  · exact (I.fo x hx z hz).sym S
theorem SndM.addN (L : Lay Ds syms DN DF DL) (I : SndM rs syms DN DF DL m) {o : Sy} {e : List Sy} (hr : (o, e) ∈ rs) (he : ∀ x ∈ e, x ∈ m DN) : SndM rs syms DN DF DL (upd m DN ([o].foldl addKey (m DN))) := by
  refine ⟨fun z hz => ?_, fun x hx z hz => ?_, fun x hx z hz => ?_, fun x hx ht => ?_⟩
  · rw [upd_at, addAll_mem] at hz
    rcases hz with h | h
    · exact I.nul z h
    · simp at h; subst h; exact .mk hr fun x hx => I.nul x (he x hx)
  · rw [upd_ne (L.nf x hx).symm] at hz; exact I.fi x hx z hz
  · rw [upd_ne (L.nl x hx).symm] at hz; exact I.fo x hx z hz
  · rw [upd_ne (L.nf x hx).symm]; exact I.ter x hx ht
theorem SndM.addF (L : Lay Ds syms DN DF DL) (I : SndM rs syms DN DF DL m) {o : Sy} {ys : List Sy} (ho : o ∈ syms) (hy : ∀ z ∈ ys, Fi term rs o z) : SndM rs syms DN DF DL (upd m (DF o) (ys.foldl addKey (m (DF o)))) := by
  refine ⟨fun z hz => ?_, fun x hx z hz => ?_, fun x hx z hz => ?_, fun x hx ht => ?_⟩
  · rw [upd_ne (L.nf o ho)] at hz; exact I.nul z hz
  · by_cases q : x = o
    · subst q
      rw [upd_at, addAll_mem] at hz
      exact hz.elim (I.fi x hx z) (hy z)
    · rw [upd_ne fun e => q (L.ff x hx o ho e)] at hz; exact I.fi x hx z hz
  · rw [upd_ne (L.fl o ho x hx).symm] at hz; exact I.fo x hx z hz
  · by_cases q : x = o
    · subst q
      rw [upd_at, addAll_mem]
      exact .inl (I.ter x hx ht)
    · rw [upd_ne fun e => q (L.ff x hx o ho e)]; exact I.ter x hx ht
theorem SndM.addL (L : Lay Ds syms DN DF DL) (I : SndM rs syms DN DF DL m) {o : Sy} {ys : List Sy} (ho : o ∈ syms) (hy : ∀ z ∈ ys, Fo term rs o z) : SndM rs syms DN DF DL (upd m (DL o) (ys.foldl addKey (m (DL o)))) := by
  refine ⟨fun z hz => ?_, fun x hx z hz => ?_, fun x hx z hz => ?_, fun x hx ht => ?_⟩
  · rw [upd_ne (L.nl o ho)] at hz; exact I.nul z hz
  · rw [upd_ne (L.fl x hx o ho)] at hz; exact I.fi x hx z hz
  · by_cases q : x = o
    · subst q
      rw [upd_at, addAll_mem] at hz
      exact hz.elim (I.fo x hx z) (hy z)
    · rw [upd_ne fun e => q (L.ll x hx o ho e)] at hz; exact I.fo x hx z hz
  · rw [upd_ne (L.fl x hx o ho)]; exact I.ter x hx ht
theorem all_has {l N : List Sy} : (l.all fun x => has x N) = true ↔ ∀ x ∈ l, x ∈ N := by
  rw [List.all_eq_true]
  exact ⟨fun h x hx => has_iff.mp (h x hx), fun h x hx => has_iff.mpr (h x hx)⟩
theorem all_hasnt {l N : List Sy} : (l.all fun x => has x N) = false ↔ ¬ ∀ x ∈ l, x ∈ N := by
  rw [← all_has, Bool.not_eq_true]
end
section
variable {α β : Type} {w : World} {A : Around} {env : Env} {f h : Heap} {M₀ : Addr → Prop} {f₀ h₀ : Heap} {own : Own} {mm : Vars} {Q : Flow → Shared → Prop} {rest : List Stmt} {g : Array GenState} {d : Drawn} {tk : Nat} {os : OsState}
def MidEnd (M₀ : Addr → Prop) (f₀ h₀ : Heap) (env : Env) (g : Array GenState) (os : OsState) (Mid : Heap → Vars → Own → Prop) (fl : Flow) (s : Shared) : Prop :=
  fl = .next ∧ ∃ f' h' g' d' tk' mm' own', s = ⟨h', g', d', tk', os⟩ ∧ Gx g g' ∧ FS M₀ f₀ h₀ env own' f' h' mm' ∧ Mid f' mm' own'
/-- an if whose ways meet again -/
theorem st_if_join {t : Expr} {body orelse : List Stmt} {pos : Pos} {b : Bool} (F : FS M₀ f₀ h₀ env own f h mm) (ht : Ts w A env t f h b) (Mid : Heap → Vars → Own → Prop)
    (hb : ∀ f' h' g' d' tk', f.StaysIn f' → FS M₀ f₀ h₀ env own f' h' mm → wpAny (model PP w) A (execs (if b then body else orelse) env) (MidEnd M₀ f₀ h₀ env g' os Mid) NoE ⟨h', g', d', tk', os⟩)
    (k : ∀ f' h' g' d' tk' mm' own', Gx g g' → FS M₀ f₀ h₀ env own' f' h' mm' → Mid f' mm' own' → wpAny (model PP w) A (execs rest env) Q NoE ⟨h', g', d', tk', os⟩) :
    wpAny (model PP w) A (execs (.If t body orelse pos :: rest) env) Q NoE ⟨h, g, d, tk, os⟩ :=
  st_if F ht fun f1 h1 g1 d1 tk1 k1 ge1 F1 => wpAny_mono (hb f1 h1 g1 d1 tk1 k1 F1) (fun fl s ⟨e, f2, h2, g2, d2, tk2, mm2, own2, e2, ge2, F2, hm⟩ => by
    subst e e2; exact k f2 h2 g2 d2 tk2 mm2 own2 (ge1.trans ge2) F2 hm) fun _ _ z => z
/-- all that is owned is frozen -/
theorem FS.freezeAll (F : FS M₀ f₀ h₀ env own f h mm) : FS M₀ f₀ h₀ env [] (addTo f h (fun b => own.any fun p => p.1 == b)) h mm ∧ (∀ p ∈ own, (addTo f h (fun b => own.any fun p => p.1 == b)).get? p.1 = some p.2) ∧ f.StaysIn (addTo f h (fun b => own.any fun p => p.1 == b)) := by
  have key := fun b => addTo_get (P := fun b => own.any fun p => p.1 == b) F.ext.fh b
  have mem : ∀ b, (own.any fun p => p.1 == b) = true ↔ ∃ p ∈ own, p.1 = b := fun b => by simp
  have up : f.StaysIn (addTo f h (fun b => own.any fun p => p.1 == b)) := addTo_up F.ext.fh
  have nn : ∀ b, (∀ p ∈ own, p.1 ≠ b) → (addTo f h (fun b => own.any fun p => p.1 == b)).get? b = f.get? b := fun b q => by
    rw [key, if_neg]
    intro e
    obtain ⟨p, hp, e⟩ := (mem b).mp e
    exact q p hp e
  refine ⟨⟨⟨F.ext.hk, fun b o' q => up _ _ (F.ext.fk b o' q), addTo_stays F.ext.fh, fun b n q q' => ?_⟩, F.ns, (nn _ fun p hp e => (F.own p hp).2.1 e).trans F.Lf, F.L0, fun n c q => ?_, fun p hp => nomatch hp⟩, fun p hp => ?_, up⟩
  · rw [nn b]
    · exact F.ext.new b n q q'
    · rintro p hp rfl
      exact (F.own p hp).2.2.2.1.elim (fun z => q z) n
  · obtain ⟨b1, b2, b3, b4⟩ := F.cell n c q
    exact ⟨b1, b2, (nn _ fun p hp e => (F.own p hp).2.2.2.2 n (e ▸ q)).trans b3, b4⟩
  · rw [key, if_pos ((mem _).mpr ⟨p, hp, rfl⟩)]; exact (F.own p hp).1
end
end Mine
end
section
open PySem PySem.W PyProof.Rows PySem.Calls
set_option Elab.async false
set_option linter.unusedVariables false
set_option linter.unusedSectionVars false
namespace Mine
theorem fillOq : PySem.Challenge.rw_fi0012_01 = PySem.Challenge.rw_fi0012_01 ∧ hd.heap_39 = hd.heap_39 := by
  k_fill
  exact ⟨rfl, rfl⟩
def Ty.oset (w : World) : Ty (List Sy) := ⟨fun f ks v => ∃ a D xs ep, v = .ref a ∧ OsAt f a D ∧ f.get? D = some (symDic w xs ep) ∧ SymRows f AnyV xs ks, fun k ⟨a, D, xs, ep, e, o, g, R⟩ => ⟨a, D, xs, ep, e, o.mono k, k _ _ g, R.any k⟩⟩
def Ty.tab (w : World) (syms : List Sy) : Ty (Sy → List Sy) := ⟨fun f F v => ∃ d xs ep, v = .ref d ∧ (d == sysModules) = false ∧ f.get? d = some (symDic w xs ep) ∧ SymRows f (fun f x v => (Ty.oset w).is f (F x) v) xs syms,
  fun k ⟨d, xs, ep, e, lo, g, R⟩ => ⟨d, xs, ep, e, lo, k _ _ g, R.mono k fun x v t => Ty.mono _ k t⟩⟩
abbrev PF (AF DF : Sy → Addr) : Heap → Sy → Value → Prop := fun f x v => v = .ref (AF x) ∧ OsAt f (AF x) (DF x)
theorem PF.mono {AF DF : Sy → Addr} {f f' : Heap} {x : Sy} {v : Value} (k : f.StaysIn f') (p : PF AF DF f x v) : PF AF DF f' x v := ⟨p.1, p.2.mono k⟩
theorem SymRows.set {f : Heap} {AF DF : Sy → Addr} {xs : List (Row Sy)} {l : List Sy} {x : Sy} {a D : Addr} (R : SymRows f (PF AF DF) xs l) (hx : x ∉ l) : SymRows f (PF (setF AF x a) (setF DF x D)) xs l := by
  refine ⟨R.key, fun r hr => ?_, R.keys, R.nodup⟩
  have : r.1 ≠ x := fun e => hx (by rw [← e, ← R.keys]; exact List.mem_map_of_mem hr)
  show r.2.2 = .ref (setF AF x a r.1) ∧ OsAt f (setF AF x a r.1) (setF DF x D r.1)
  rw [setF_ne this, setF_ne this]; exact R.val r hr
theorem take_out {l : List Sy} (nd : l.Nodup) {i : Nat} {x : Sy} (h : l[i]? = some x) : x ∉ l.take i := fun hm => by
  obtain ⟨j, hj, e⟩ := List.mem_take_iff_getElem.mp hm
  obtain ⟨hi, e'⟩ := List.getElem?_eq_some_iff.mp h
  have := (List.getElem_inj nd).mp (e.trans e'.symm)
  omega
theorem take_step {l : List Sy} {i : Nat} {x : Sy} (h : l[i]? = some x) : l.take (i + 1) = l.take i ++ [x] := by rw [List.take_add_one, h]; rfl
section
variable {α β γ : Type} {w : World} {A : Around} {env : Env} {f h : Heap} {T : Ty α} {U : Ty β} {V : Ty γ} {a : α} {b : β} {c : γ}
theorem new_dict {pos : Pos} : New w A env (.Dict [] [] pos) emptyDict := fun h g d tk os Q hq => wpAny_Dict_empty hq
theorem es_tup3 {e e2 e3 : Expr} {n : Nat} {pos : Pos} (x : Es w A env e f h T a) (y : Es w A env e2 f h U b) (z : Es w A env e3 f h V c) (he : starEach [e, e2, e3] env = (false, eval e env) :: starEach [e2, e3] env := by rfl) (he2 : starEach [e2, e3] env = (false, eval e2 env) :: starEach [e3] env := by rfl) (he3 : starEach [e3] env = (false, eval e3 env) :: starEach [] env := by rfl) :
    Es w A env (.Tuple [e, e2, e3] n pos) f h (.tri T U V) (a, b, c) := fun f₁ h₁ k g d tk os Q hq => by
  refine Tuple_ (args3 x y z he he2 he3 _ _ k g d tk os _ (fun h' f' g' d' tk' vs e ge r => ?_) pos)
  obtain ⟨v, v2, v3, rfl, r1, r2, r3⟩ := r
  refine does_new (f := f') (R := fun f'' v => (Ty.tri T U V).is f'' (a, b, c) v) e.fh rfl (fun g d tk os Q hq => wpAny_newObj_type hq (by size_fits)) (fun f'' kk gt => ⟨_, v, v2, v3, 0, rfl, gt, T.mono kk r1, U.mono kk r2, V.mono kk r3⟩) g' d' tk' os Q ?_
  exact fun h'' f'' g'' d'' tk'' v e' ge' r' => hq _ _ _ _ _ _ (e.trans e') (ge.trans ge') r'
def symsOf (rules : List Ru) : List Sy := ((rules.flatMap fun r => r.expansion.map fun s => s) ++ rules.map (·.origin)).foldl addKey []
def pureOf' (rules : List Ru) : List (Sy × List Sy) := rules.map fun r => (r.origin, r.expansion)
theorem symsOf_ok (rules : List Ru) : SymsOk (pureOf' rules) (symsOf rules) := by
  refine ⟨addAll_nodup (by simp), fun r hr => ?_, fun r hr x hx => ?_⟩
  · obtain ⟨q, hq, rfl⟩ := List.mem_map.mp hr
    exact addAll_mem.mpr (.inr (List.mem_append.mpr (.inr (List.mem_map_of_mem hq))))
  · obtain ⟨q, hq, rfl⟩ := List.mem_map.mp hr
    exact addAll_mem.mpr (.inr (List.mem_append.mpr (.inl (List.mem_flatMap.mpr ⟨q, hq, List.mem_map.mpr ⟨x, hx, rfl⟩⟩))))
theorem flat_len : ∀ (rules : List Ru), (∀ r ∈ rules, r.expansion.length ≤ 5) → (rules.flatMap fun r => r.expansion.map fun s => s).length ≤ 5 * rules.length
  | [], _ => by simp
  | r :: rules, h => by
    have h1 := h r (.head _)
    have h2 := flat_len rules fun q hq => h q (.tail _ hq)
    rw [List.flatMap_cons, List.length_append, List.length_map, List.length_cons]; omega
end
end Mine
end
section
open PySem PySem.W PyProof.Rows PySem.Calls
set_option Elab.async false
set_option linter.unusedVariables false
set_option linter.unusedSectionVars false
namespace Mine
/-- what stands through the loops of calculate_sets -/
structure CP where
  w : World
  f9 : Heap
  dF : Addr
  dL : Addr
  aN : Addr
  u : Value
  Ds : List Addr
  rs : List (Sy × List Sy)
  syms : List Sy
  DN : Addr
  DF : Sy → Addr
  DL : Sy → Addr
structure CS (p : CP) (f : Heap) (mm : Vars) (own : Own) (m : Kys) (c : Bool) : Prop where
  kf : p.f9.StaysIn f
  vF : mm (Str.ofString "FIRST") = some (.ref p.dF)
  vL : mm (Str.ofString "FOLLOW") = some (.ref p.dL)
  vN : mm (Str.ofString "NULLABLE") = some (.ref p.aN)
  vR : mm (Str.ofString "rules") = some p.u
  vc : mm (Str.ofString "changed") = some (.bool c)
  O : OwnOk p.w f p.Ds m own
  I : SndM p.rs p.syms p.DN p.DF p.DL m
def PI (p : CP) (t₀ : Nat) (E C : Kys → Prop) (f : Heap) (mm : Vars) (own : Own) : Prop := ∃ m c, CS p f mm own m c ∧ E m ∧ t₀ ≤ tot p.Ds m ∧ (c = true → t₀ < tot p.Ds m) ∧ (c = false → C m)
section
variable {α σ : Type} {w : World} {A : Around} {env : Env} {f f' h h' : Heap} {T : Ty α} {U : Ty σ} {M M₀ old : Addr → Prop} {f₀ h₀ : Heap} {own own' pre post ex : Own} {mm mm' : Vars} {xs : List (Row Sy)} {ks ys syms : List Sy} {ep n t₀ : Nat} {D D2 a b : Addr}
  {Ds : List Addr} {m : Kys} {p : CP} {c cc : Bool} {E C C' : Kys → Prop}
theorem CS.mono (S : CS p f mm own m c) (k : f.StaysIn f') : CS p f' mm own m c := ⟨fun b o e => k _ _ (S.kf b o e), S.vF, S.vL, S.vN, S.vR, S.vc, S.O.mono k, S.I⟩
theorem CS.re (S : CS p f mm own m c) (h1 : mm' (Str.ofString "FIRST") = mm (Str.ofString "FIRST") := by rfl) (h2 : mm' (Str.ofString "FOLLOW") = mm (Str.ofString "FOLLOW") := by rfl) (h3 : mm' (Str.ofString "NULLABLE") = mm (Str.ofString "NULLABLE") := by rfl) (h4 : mm' (Str.ofString "rules") = mm (Str.ofString "rules") := by rfl) (h5 : mm' (Str.ofString "changed") = mm (Str.ofString "changed") := by rfl) : CS p f mm' own m c :=
  ⟨S.kf, h1.trans S.vF, h2.trans S.vL, h3.trans S.vN, h4.trans S.vR, h5.trans S.vc, S.O, S.I⟩
theorem PI.mono (S : PI p t₀ E C f mm own) (k : f.StaysIn f') : PI p t₀ E C f' mm own := let ⟨m, c, s, r⟩ := S; ⟨m, c, s.mono k, r⟩
theorem PI.imp (S : PI p t₀ E C f mm own) (k : ∀ m, C m → C' m) : PI p t₀ E C' f mm own := let ⟨m, c, s, e, r1, r2, r3⟩ := S; ⟨m, c, s, e, r1, r2, fun h => k m (r3 h)⟩
theorem PI.re (S : PI p t₀ E C f mm own) (h1 : mm' (Str.ofString "FIRST") = mm (Str.ofString "FIRST") := by rfl) (h2 : mm' (Str.ofString "FOLLOW") = mm (Str.ofString "FOLLOW") := by rfl) (h3 : mm' (Str.ofString "NULLABLE") = mm (Str.ofString "NULLABLE") := by rfl) (h4 : mm' (Str.ofString "rules") = mm (Str.ofString "rules") := by rfl) (h5 : mm' (Str.ofString "changed") = mm (Str.ofString "changed") := by rfl) : PI p t₀ E C f mm' own :=
  let ⟨m, c, s, r⟩ := S; ⟨m, c, s.re h1 h2 h3 h4 h5, r⟩
theorem OwnOk.nodup (O : OwnOk w f Ds m own) (hD : D ∈ Ds) : (m D).Nodup := by
  rw [← O.addrs] at hD
  obtain ⟨q, hq, rfl⟩ := List.mem_map.mp hD
  obtain ⟨xs, ep, _, R⟩ := O.rows q hq
  exact R.nodup
theorem CS.size (S : CS p f mm own m c) (Y : SymsOk p.rs p.syms) (L : Lay p.Ds p.syms p.DN p.DF p.DL) (hD : D ∈ p.Ds) : (m D).length ≤ p.syms.length := SndM.size Y L S.I (fun D hD => S.O.nodup hD) D hD
theorem mm_ne {x : Str} {v : Value} (h : mm' = if cc then mm.set (Str.ofString "changed") v else mm) (hx : x ≠ Str.ofString "changed") : mm' x = mm x := by
  rw [h]; cases cc with
  | true => show (if x = Str.ofString "changed" then _ else _) = _; rw [if_neg hx]
  | false => rfl
/-- a set was told to take more -/
theorem PI.upd (L : Lay p.Ds p.syms p.DN p.DF p.DL) (S : CS p f mm own m c) (t1 : t₀ ≤ tot p.Ds m) (t2 : c = true → t₀ < tot p.Ds m) (hC : c = false → C m) (hD : D ∈ p.Ds) (k : f.StaysIn f') (O' : OwnOk p.w f' p.Ds (upd m D (ys.foldl addKey (m D))) own') (I' : SndM p.rs p.syms p.DN p.DF p.DL (upd m D (ys.foldl addKey (m D))))
    (hcc : cc = !decide ((ys.foldl addKey (m D)).length = (m D).length)) (hmm : mm' = if cc then mm.set (Str.ofString "changed") (.bool true) else mm) (hE : E (upd m D (ys.foldl addKey (m D)))) (hC' : C m → (∀ y ∈ ys, y ∈ m D) → C' m) : PI p t₀ E C' f' mm' own' := by
  obtain ⟨f1, f2, f3⟩ := upd_facts (ys := ys) (c := c) (cc := cc) L.nd hD t1 t2 hcc
  refine ⟨_, cc || c, ⟨fun b o e => k _ _ (S.kf b o e), (mm_ne hmm (by decide)).trans S.vF, (mm_ne hmm (by decide)).trans S.vL, (mm_ne hmm (by decide)).trans S.vN, (mm_ne hmm (by decide)).trans S.vR, ?_, O', I'⟩, hE, f1, f2, fun h => ?_⟩
  · rw [hmm]
    cases cc with
    | true => rfl
    | false => exact S.vc
  · obtain ⟨a, b, d⟩ := f3 h
    rw [b]; exact hC' (hC a) d
theorem OsAt.fun (x : OsAt f a D) (y : OsAt f a D2) : D = D2 := by
  obtain ⟨_, dd, hs, t, n, e1, e2⟩ := x
  obtain ⟨_, dd', hs', t', n', e1', e2'⟩ := y
  rw [e1] at e1'
  have : dd = dd' := by injection e1' with e1'; injection e1' with _ e; injection e
  subst this
  rw [e2] at e2'
  simp [PySem.W.dictOf] at e2'
  exact e2'.1.2.2
theorem hG_os (nd : Ds.Nodup) (hD : D ∈ Ds) (hD2 : D2 ∈ Ds) (oa : OsAt f a D) (K : Ok w f) (hab : D2 = D → b = a) : ∀ f' h' v2, f.StaysIn f' → FS M₀ f₀ h₀ env (ex ++ own) f' h' mm → OwnOk w f' Ds m own → Ty.osv.is f' (b, D2) v2 →
    ∃ (bb : Addr) (ob : Obj) (old : Addr → Prop), v2 = .ref bb ∧ f'.get? bb = some ob ∧ ob.cls ≠ .type "tuple" ∧ ((bb ≠ a ∧ Src w 113 (.ref bb) f' h' (Only D) old (m D2) ∧ ∀ c, old c → c ≠ D ∧ h'.get? c ≠ none) ∨ (bb = a ∧ m D2 = m D)) := by
  rintro f' h' v2 k F O ⟨rfl, ob⟩
  dsimp only at ob ⊢
  obtain ⟨lo, dd, hs, t, n, e1, e2⟩ := id ob
  by_cases q : D2 = D
  · obtain rfl := hab q
    subst q
    exact ⟨b, _, Nil, rfl, e1, (fun z => by cases z), .inr ⟨rfl, rfl⟩⟩
  · refine ⟨b, _, Only D2, rfl, e1, (fun z => by cases z), .inl ⟨fun e => q ?_, ?_, ?_⟩⟩
    · subst e; exact ob.fun (oa.mono k)
    · obtain ⟨xs, ep, pre, post, rfl, R, _⟩ := O.at nd hD2
      exact src_os (K.keeps k) (by omega) ob (F.own (D2, symDic w xs ep) (by simp)).1 R q
    · rintro c rfl
      obtain ⟨xs, ep, pre, post, rfl, R, _⟩ := O.at nd hD2
      exact ⟨q, get_ne (F.own (c, symDic w xs ep) (by simp)).1⟩
theorem hG_list (oa : OsAt f a D) : ∀ f' h' v2, f.StaysIn f' → FS M₀ f₀ h₀ env (ex ++ own) f' h' mm → OwnOk w f' Ds m own → (Ty.list Ty.sym).is f' ys v2 →
    ∃ (bb : Addr) (ob : Obj) (old : Addr → Prop), v2 = .ref bb ∧ f'.get? bb = some ob ∧ ob.cls ≠ .type "tuple" ∧ ((bb ≠ a ∧ Src w 113 (.ref bb) f' h' (Only D) old ys ∧ ∀ c, old c → c ≠ D ∧ h'.get? c ≠ none) ∨ (bb = a ∧ ys = m D)) := by
  rintro f' h' v2 k F O t
  obtain ⟨l, vs, n, rfl, e, q⟩ := id t
  refine ⟨l, _, Nil, rfl, e, (fun z => by injection z with z; exact absurd z (by decide)), .inl ⟨fun q => ?_, src_list t, fun c z => z.elim⟩⟩
  subst q
  obtain ⟨lo, dd, hs, tt, n, e1, e2⟩ := oa.mono k
  rw [e] at e1; cases e1
theorem Closed1.congr {term : Sy → Bool} {rs : List (Sy × List Sy)} {r : Sy × List Sy} {N : List Sy} {first first' : Sy → List Sy} (C : Closed1 r N first) (h1 : first' r.1 = first r.1) (h2 : ∀ x ∈ r.2, first' x = first x) : Closed1 r N first' :=
  ⟨C.nul, fun i b hb hx z hz => by rw [h1]; rw [h2 b (List.mem_of_getElem? hb)] at hz; exact C.fi i b hb hx z hz⟩
theorem es_slice_tup {e sl : Expr} {pos : Pos} {xs : List α} {lo hi : Option Int} (he : Es w A env e f h (.tup T) xs) (hsl : Es w A env sl f h .slice (lo, hi, none)) (c : Cutting lo hi xs.length) (hz : xs.length ≤ 1000)
    (hs : ∀ o v, subscripted sl false o v = operate [o, v] (getItem o v) ∨ subscripted sl false o v = operate [v, o] (getItem o v) := by intro _ _; first | exact .inl rfl | exact .inr rfl) :
    Es w A env (.Subscript e sl pos) f h (.tup T) (cut xs (from0 lo) (upto xs.length hi)) :=
  es_sub he hsl ty_tup (fun f' h' u k t => isT_tup k.fh t) (fun f' h' u v k t ts => p_slice_tup k.fh t ts rfl c hz) hs
end
end Mine
end
section
open PySem PySem.W PyProof.Rows PySem.Calls
set_option Elab.async false
set_option linter.unusedVariables false
set_option linter.unusedSectionVars false
namespace Mine
theorem fillOs : PySem.Challenge.rw_fi0012_01 = PySem.Challenge.rw_fi0012_01 ∧ hd.heap_39 = hd.heap_39 := by
  k_fill
  exact ⟨rfl, rfl⟩
section
variable {α β γ : Type} {w : World} {A : Around} {env : Env} {f h : Heap} {T : Ty α} {U : Ty β} {V : Ty γ} {a : α} {b : β} {c : γ}
/-- the rules before the i-th give no more -/
def Prior (rules : List Ru) (DN : Addr) (DF : Sy → Addr) (i : Nat) (m : Kys) : Prop := ∀ k, k < i → ∀ r, rules[k]? = some r → Closed1 (r.origin, r.expansion) (m DN) (fun x => m (DF x))
def NulC (r : Ru) (DN : Addr) (m : Kys) : Prop := (∀ x ∈ r.expansion, x ∈ m DN) → r.origin ∈ m DN
def FirC (r : Ru) (DN : Addr) (DF : Sy → Addr) (j : Nat) (m : Kys) : Prop := ∀ k, k < j → ∀ b, r.expansion[k]? = some b → (∀ x ∈ r.expansion.take k, x ∈ m DN) → ∀ z ∈ m (DF b), z ∈ m (DF r.origin)
def UpC (r : Ru) (DN : Addr) (DL : Sy → Addr) (j : Nat) (m : Kys) : Prop := ∀ k, k < j → ∀ b, r.expansion[k]? = some b → (∀ x ∈ r.expansion.drop (k + 1), x ∈ m DN) → ∀ z ∈ m (DL r.origin), z ∈ m (DL b)
def BeJ (r : Ru) (DN : Addr) (DF DL : Sy → Addr) (k n : Nat) (m : Kys) : Prop := ∀ l, k < l → l < n → ∀ a b, r.expansion[k]? = some a → r.expansion[l]? = some b → (∀ x ∈ cut r.expansion (k + 1) l, x ∈ m DN) → ∀ z ∈ m (DF b), z ∈ m (DL a)
def BeC (r : Ru) (DN : Addr) (DF DL : Sy → Addr) (j : Nat) (m : Kys) : Prop := ∀ k, k < j → BeJ r DN DF DL k r.expansion.length m
def Prior2 (rules : List Ru) (DN : Addr) (DF DL : Sy → Addr) (i : Nat) (m : Kys) : Prop := ∀ k, k < i → ∀ r, rules[k]? = some r → Closed2 (r.origin, r.expansion) (m DN) (fun x => m (DF x)) (fun x => m (DL x))
theorem ts_name {x : Str} {p : Pos} {b : Bool} (X : Var w env h x (.bool b)) : Ts w A env (.Name x p) f h b := (es_name (T := Ty.bool) X rfl).test
set_option maxRecDepth 100000 in
theorem p_calc {u : Value} {rules : List Ru} (K : Ok w f) (kf : f.StaysIn h) (rm : Rm A 80) (tu : (Ty.list Ty.rule).is f rules u) (hz : rules.length ≤ 7) (hz' : ∀ r ∈ rules, r.expansion.length ≤ 5) :
    Does w A (call (.ref 117) [u]) f h fun f' r => ∃ FI FO N, (Ty.tri (Ty.tab w (symsOf rules)) (Ty.tab w (symsOf rules)) (Ty.oset w)).is f' (FI, FO, N) r ∧
      (∀ z, z ∈ N ↔ Nul (pureOf' rules) z) ∧ ∀ x ∈ symsOf rules, (∀ z, z ∈ FI x ↔ Fi term (pureOf' rules) x z) ∧ ∀ z, z ∈ FO x ↔ Fo term (pureOf' rules) x z := by
  refine' does_call (binds := [(Str.ofString "rules", u)]) K kf ?ho ?hcd ?hr ?hb ?hk ?hcl ?hnd ?body ?c1 ?c2 ?c3
  case ho => k_is
  case hcd => k_is
  case hr => have := rm.depth; omega
  case hb => exact fun g d tk os => BindsTo.of_eq rfl
  case hk => rfl
  case hcl => rfl
  case hnd => decide
  case c1 => rfl
  case c2 => rfl
  case c3 => rfl
  case body =>
    intro L h₁ g d tk os W F
    generalize hA : A.deeper _ = A'
    have rm' : Rm A' 83 := hA ▸ rm.deeper
    have fl := flat_len rules hz'
    refine wpAny_execs_cons (wpAny_Expr (Constant_str ?_) rfl rfl)
    refine st_assign (T := Ty.list Ty.sym) (a := symsOf rules) W F (.inl rfl) (es_call (v_glob K F.ext.fh (by k_is)) (kp_ref K F.ext.fh (by k_is)) (args1 (es_bin (V := Ty.list Ty.sym) (c := (rules.flatMap fun r => r.expansion.map fun s => s) ++ (rules.filter fun _ => true).map fun r => r.origin)
      (es_comp2 (T := Ty.rule) (U := Ty.sym) (V := Ty.sym) (xs := rules) (fun r => r.expansion) (fun r s => s) _ _ rfl (itr_list rm'.hh (es_name (F.var W rfl rfl) tu)) (fun C => takes_name rfl rfl) (fun C => takes_name rfl rfl) (by omega) (by omega) ?hi2 ?helt)
      (es_comp (T := Ty.rule) (U := Ty.sym) (xs := rules) (fun _ => true) (fun r => r.origin) _ rfl (itr_list rm'.hh (es_name (F.var W rfl rfl) tu)) (fun C => takes_name rfl rfl) (by omega) ?ts ?el) ?add)) ?dd) ?k1
    case hi2 =>
      rintro C f' h' m x hx k n ⟨v, e1, t1⟩
      exact itr_tup rm'.hh (es_expansion_of (K.keeps k.fk) rm'.mono (es_name (.local n e1 rfl rfl) t1))
    case helt =>
      rintro C f' h' m x y hx hy k n ⟨v, e1, t1⟩
      exact (es_name (.local n e1 rfl rfl) t1).here k.fh
    case ts =>
      rintro C f' h' m p hp k n -
      exact tests_nil k.fh
    case el =>
      rintro C f' h' m p hp _ k n ⟨v, e1, t1⟩
      exact (es_origin_of (K.keeps k.fk) rm'.mono (es_name (.local n e1 rfl rfl) t1)).here k.fh
    case add => exact fun f' h' u v k t t' => p_add_list k.fh t t' (by omega) (by rw [List.length_map]; have := List.length_filter_le (fun _ : Ru => true) rules; omega)
    case dd =>
      rintro f' h' vs k ⟨v, rfl, t⟩
      rw [List.filter_eq_self.mpr (fun _ _ => rfl)] at t
      exact p_dedup (K.keeps k.fk) k.fh rm'.mono t (by rw [List.length_append, List.length_map]; omega)
    case k1 =>
    intro f1 h1 g1 d1 tk1 vS k1 ge1 tS F1
    have K1 := K.keeps k1
    have sz : (symsOf rules).length ≤ 42 := by
      have := addAll_len ((rules.flatMap fun r => r.expansion.map fun s => s) ++ rules.map (·.origin)) ([] : List Sy)
      rw [List.length_append, List.length_map] at this
      simp only [List.length_nil] at this
      unfold symsOf; omega
    have S := symsOf_ok rules
    generalize symsOf rules = syms at tS S sz ⊢
    refine st_make W F1 (.inl rfl) (makes0 K1 rm'.mono (v_glob K1 F1.ext.fh (by k_is))) fun f2 h2 g2 d2 tk2 aN DN xN eN k2 ge2 osN zN RN F2 => ?_
    refine st_own W F2 (.inl rfl) new_dict rfl fun h3 tk3 dF zF F3 => ?_
    refine st_own W F3 (.inl rfl) new_dict rfl fun h4 tk4 dL zL F4 => ?_
    have K2 := K1.keeps k2
    have nLF : dL ≠ dF := fun q => by
      have := (F3.own (dF, emptyDict) (by simp)).1
      rw [← q, zL] at this; cases this
    have K4 := K2.keeps (fun _ _ e => e : f2.StaysIn f2)
    have nNF : dF ≠ DN := fun q => by
      have := (F2.own (DN, symDic w xN eN) (by simp)).1
      rw [← q, zF] at this; cases this
    have nNL : dL ≠ DN := fun q => by
      have := (F3.own (DN, symDic w xN eN) (by simp)).1
      rw [← q, zL] at this; cases this
    have frF : h.get? dF = none := by
      have := (F3.own (dF, emptyDict) (by simp)).2.2.2.1
      exact this.elim id fun z => z.elim
    have frL : h.get? dL = none := by
      have := (F4.own (dL, emptyDict) (by simp)).2.2.2.1
      exact this.elim id fun z => z.elim
    have loF : (dF == sysModules) = false := by
      have X := K.X sysModules _ (show (hd.heap_39 w.params).lookup sysModules = some _ by k_is)
      have X := kf _ _ X
      by_cases q : dF = sysModules
      · rw [← q, frF] at X; cases X
      · simpa using q
    have loL : (dL == sysModules) = false := by
      have X := K.X sysModules _ (show (hd.heap_39 w.params).lookup sysModules = some _ by k_is)
      have X := kf _ _ X
      by_cases q : dL = sysModules
      · rw [← q, frL] at X; cases X
      · simpa using q
    refine st_for (T := Ty.sym) (xs := syms) F4 (itr_list rm'.hh (es_name (F4.var W (v := vS) rfl rfl) (Ty.mono _ k2 tS))) (fun _ z => z.elim)
      (fun i f' mm' own' => f2.StaysIn f' ∧ (mm' (Str.ofString "FIRST") = some (.ref dF) ∧ mm' (Str.ofString "FOLLOW") = some (.ref dL) ∧ mm' (Str.ofString "NULLABLE") = some (.ref aN) ∧ mm' (Str.ofString "rules") = some u) ∧
        ∃ (AF AL DF DL : Sy → Addr) (m : Kys) (Ds : List Addr) (xF : List (Row Sy)) (eF : Nat) (xL : List (Row Sy)) (eL : Nat) (ownD : Own), own' = (dL, symDic w xL eL) :: (dF, symDic w xF eF) :: ownD ∧ Lay Ds (syms.take i) DN DF DL ∧ OwnOk w f' Ds m ownD ∧ dF ∉ Ds ∧ dL ∉ Ds ∧
          SymRows f' (PF AF DF) xF (syms.take i) ∧ SymRows f' (PF AL DL) xL (syms.take i) ∧ m DN = [] ∧ (∀ x ∈ syms.take i, m (DF x) = if x.2 then [x] else []) ∧ ∀ x ∈ syms.take i, m (DL x) = [])
      (fun f' mm' own' => f2.StaysIn f' ∧ (mm' (Str.ofString "FIRST") = some (.ref dF) ∧ mm' (Str.ofString "FOLLOW") = some (.ref dL) ∧ mm' (Str.ofString "NULLABLE") = some (.ref aN) ∧ mm' (Str.ofString "rules") = some u) ∧
        ∃ (AF AL DF DL : Sy → Addr) (m : Kys) (Ds : List Addr) (xF : List (Row Sy)) (eF : Nat) (xL : List (Row Sy)) (eL : Nat) (ownD : Own), own' = (dL, symDic w xL eL) :: (dF, symDic w xF eF) :: ownD ∧ Lay Ds syms DN DF DL ∧ OwnOk w f' Ds m ownD ∧ dF ∉ Ds ∧ dL ∉ Ds ∧
          SymRows f' (PF AF DF) xF syms ∧ SymRows f' (PF AL DL) xL syms ∧ m DN = [] ∧ (∀ x ∈ syms, m (DF x) = if x.2 then [x] else []) ∧ ∀ x ∈ syms, m (DL x) = [])
      ?jm (takesF_name W (.inl rfl)) ?j0 ?turn ?jz ?k
    case jm =>
      rintro i f1 f2 mm own k ⟨b, vv, AF, AL, DF, DL, m, Ds, xF, eF, xL, eL, ownD, c1, c2, c3, c4, c5, c6, c7, c8⟩
      exact ⟨fun b' o e => k _ _ (b b' o e), vv, AF, AL, DF, DL, m, Ds, xF, eF, xL, eL, ownD, c1, c2, c3.mono k, c4, c5, c6.mono k fun x v => PF.mono k, c7.mono k fun x v => PF.mono k, c8⟩
    case j0 =>
      refine ⟨fun _ _ e => e, ⟨rfl, rfl, rfl, rfl⟩, fun _ => 0, fun _ => 0, fun _ => 0, fun _ => 0, fun _ => [], [DN], [], 0, [], 0, [(DN, symDic w xN eN)], rfl, ⟨by simp, by simp, by simp, by simp, by simp, by simp, by simp, by simp, by simp, by simp⟩, ⟨rfl, fun p hp => ?_⟩, by simpa using nNF, by simpa using nNL, ⟨by simp, by simp, rfl, by simp⟩, ⟨by simp, by simp, rfl, by simp⟩, rfl, by simp, by simp⟩
      cases List.mem_singleton.mp hp
      exact ⟨xN, eN, rfl, RN⟩
    case jz =>
      rintro f mm own ⟨b, vv, AF, AL, DF, DL, m, Ds, xF, eF, xL, eL, ownD, c1, c2, c3, c4, c5, c6, c7, c8, c9, c10⟩
      rw [List.take_length] at c2 c6 c7 c9 c10
      exact ⟨b, vv, AF, AL, DF, DL, m, Ds, xF, eF, xL, eL, ownD, c1, c2, c3, c4, c5, c6, c7, c8, c9, c10⟩
    case turn =>
      rintro i x f5 h5 g5 d5 tk5 mm mm2 own2 hx ⟨k5, ⟨v1, v2, v3, v4⟩, AF, AL, DF, DL, m, Ds, xF, eF, xL, eL, ownD, rfl, c2, c3, c4, c5, c6, c7, c8, c9, c10⟩ ⟨v, t5, rfl⟩ F5
      have K5 := K2.keeps k5
      have out := take_out S.nodup hx
      have inD : ∀ {D}, D ∈ Ds → ∃ o, (D, o) ∈ ownD := fun {D} hD => by
        rw [← c3.addrs] at hD
        obtain ⟨⟨D', o⟩, hp, rfl⟩ := List.mem_map.mp hD
        exact ⟨o, hp⟩
      have inD' : ∀ {p}, p ∈ ownD → p.1 ∈ Ds := fun {p} hp => by rw [← c3.addrs]; exact List.mem_map_of_mem hp
      have tl : (syms.take i).length ≤ 42 := Nat.le_trans (List.length_take_le' i syms) sz
      refine st_maketab (dd := dF) (pre := [(dL, symDic w xL eL)]) (post := ownD) K5 rm'.mono F5 (fun p hp => ?_) c6 (fun f f' x v k => PF.mono k) (by rw [c6.len]; omega)
        (makes_ite (es_term_of K5 rm'.mono (es_name (F5.var W (v := v) rfl rfl) t5)).test (makes1 K5 rm'.mono (v_glob K5 F5.ext.fh (by k_is)) (es_name (F5.var W (v := v) rfl rfl) t5)) (makes0 K5 rm'.mono (v_glob K5 F5.ext.fh (by k_is))))
        (es_name (F5.var W (v := .ref dF) v1 rfl) rfl) (es_name (F5.var W (v := v) rfl rfl) t5) ?_
      · rcases List.mem_append.mp hp with h | h
        · cases List.mem_singleton.mp h; exact nLF
        · exact fun e => c4 (e ▸ inD' h)
      intro f6 h6 g6 d6 tk6 a1 D1 x1 e1 b1 er1 k6 ge6 os1 z1 R1 tb1 F6
      have K6 := K5.keeps k6
      have t6 := Ty.mono _ k6 t5
      have n1 : D1 ∉ Ds := fun hD => by
        obtain ⟨o, hp⟩ := inD hD
        have := (F5.own (D1, o) (by simp [hp])).1
        rw [z1] at this; cases this
      have n1L : D1 ≠ dL := fun q => by
        have := (F5.own (dL, symDic w xL eL) (by simp)).1
        rw [← q, z1] at this; cases this
      have n1F : D1 ≠ dF := fun q => by
        have := (F5.own (dF, symDic w xF eF) (by simp)).1
        rw [← q, z1] at this; cases this
      refine st_maketab (dd := dL) (pre := [(D1, symDic w x1 e1)]) (post := (dF, symDic w (putRow xF x (.ref b1) (.ref a1)) er1) :: ownD) K6 rm'.mono F6 (fun p hp => ?_) (c7.mono k6 fun x v => PF.mono k6) (fun f f' x v k => PF.mono k) (by rw [c7.len]; omega)
        (makes0 K6 rm'.mono (v_glob K6 F6.ext.fh (by k_is))) (es_name (F6.var W (v := .ref dL) v2 rfl) rfl) (es_name (F6.var W (v := v) rfl rfl) t6) ?_
      · rcases List.mem_append.mp hp with h | h
        · cases List.mem_singleton.mp h; exact n1L
        · rcases List.mem_cons.mp h with rfl | h
          · exact nLF.symm
          · exact fun e => c5 (e ▸ inD' h)
      intro f7 h7 g7 d7 tk7 a2 D2 x2 e2 b2 er2 k7 ge7 os2 z2 R2 tb2 F7
      have n2 : D2 ∉ Ds := fun hD => by
        obtain ⟨o, hp⟩ := inD hD
        have := (F6.own (D2, o) (by simp [hp])).1
        rw [z2] at this; cases this
      have n21 : D2 ≠ D1 := fun q => by
        have := (F6.own (D1, symDic w x1 e1) (by simp)).1
        rw [← q, z2] at this; cases this
      have n2L : D2 ≠ dL := fun q => by
        have := (F6.own (dL, symDic w xL eL) (by simp)).1
        rw [← q, z2] at this; cases this
      have n2F : D2 ≠ dF := fun q => by
        have := (F6.own (dF, symDic w (putRow xF x (.ref b1) (.ref a1)) er1) (by simp)).1
        rw [← q, z2] at this; cases this
      have k57 : f5.StaysIn f7 := fun b o q => k7 _ _ (k6 b o q)
      have F8 := F7.sub (own' := (dL, symDic w (putRow xL x (.ref b2) (.ref a2)) er2) :: (dF, symDic w (putRow xF x (.ref b1) (.ref a1)) er1) :: (D2, symDic w x2 e2) :: (D1, symDic w x1 e1) :: ownD) (fun p hp => by
        simp only [List.mem_cons, List.mem_append, List.not_mem_nil, or_false] at hp ⊢
        rcases hp with h | h | h | h | h
        · exact .inr (.inr (.inl h))
        · exact .inr (.inr (.inr (.inl h)))
        · exact .inl h
        · exact .inr (.inl h)
        · exact .inr (.inr (.inr (.inr h))))
      have mD : ∀ {D}, D ∈ Ds → upd (upd m D1 (if x.2 then [x] else [])) D2 [] D = m D := fun {D} hD => by
        have q2 : D ≠ D2 := fun q => n2 (q ▸ hD)
        have q1 : D ≠ D1 := fun q => n1 (q ▸ hD)
        rw [upd_ne q2, upd_ne q1]
      have ts := take_step hx
      have rw1 : addKey (syms.take i) x = syms.take (i + 1) := by rw [ts]; exact addKey_new out
      refine wpAny_execs_nil ⟨f7, h7, g7, d7, tk7, _, _, rfl, ge6.trans ge7, F8, fun b o q => k57 _ _ (k5 b o q), ⟨v1, v2, v3, v4⟩, setF AF x a1, setF AL x a2, setF DF x D1, setF DL x D2, upd (upd m D1 (if x.2 then [x] else [])) D2 [], D2 :: D1 :: Ds, _, er1, _, er2, _, rfl, ts ▸ c2.push out n1 n2 n21, ⟨?_, fun p hp => ?_⟩, ?_, ?_, ?_, ?_, ?_, fun y hy => ?_, fun y hy => ?_⟩
      · rw [List.map_cons, List.map_cons, c3.addrs]
      · rcases List.mem_cons.mp hp with rfl | hp
        · exact ⟨x2, e2, rfl, by show SymRows f7 AnyV x2 (upd _ D2 [] D2); rw [upd_at]; exact R2⟩
        · rcases List.mem_cons.mp hp with rfl | hp
          · exact ⟨x1, e1, rfl, by show SymRows f7 AnyV x1 (upd _ D2 [] D1); rw [upd_ne n21.symm, upd_at]; exact R1.any k7⟩
          · obtain ⟨xs, ep, e, R⟩ := c3.rows p hp
            exact ⟨xs, ep, e, by rw [mD (inD' hp)]; exact R.any k57⟩
      · intro h
        rcases List.mem_cons.mp h with h | h
        · exact n2F h.symm
        · rcases List.mem_cons.mp h with h | h
          · exact n1F h.symm
          · exact c4 h
      · intro h
        rcases List.mem_cons.mp h with h | h
        · exact n2L h.symm
        · rcases List.mem_cons.mp h with h | h
          · exact n1L h.symm
          · exact c5 h
      · rw [← rw1]
        exact ((c6.mono k57 fun x v => PF.mono k57).set out).put (Ty.mono _ k7 tb1) ⟨by rw [setF_same], by rw [setF_same, setF_same]; exact os1.mono k7⟩
      · rw [← rw1]
        exact ((c7.mono k57 fun x v => PF.mono k57).set out).put tb2 ⟨by rw [setF_same], by rw [setF_same, setF_same]; exact os2⟩
      · rw [mD c2.n]; exact c8
      · rw [ts] at hy
        rcases List.mem_append.mp hy with h | h
        · have q : y ≠ x := fun e => out (e ▸ h)
          rw [setF_ne q, mD (c2.f y h)]; exact c9 y h
        · simp at h; subst h
          rw [setF_same, upd_ne n21.symm, upd_at]
      · rw [ts] at hy
        rcases List.mem_append.mp hy with h | h
        · have q : y ≠ x := fun e => out (e ▸ h)
          rw [setF_ne q, mD (c2.o y h)]; exact c10 y h
        · simp at h; subst h
          rw [setF_same, upd_at]
    case k =>
    rintro f9 h9 g9 d9 tk9 mm9 own9 ge9 F9 ⟨k9, ⟨v1, v2, v3, v4⟩, AF, AL, DF, DL, m, Ds, xF, eF, xL, eL, ownD, rfl, L9, O9, nF, nL, RF, RL, mN, mF, mL⟩
    have inD' : ∀ {p}, p ∈ ownD → p.1 ∈ Ds := fun {p} hp => by rw [← O9.addrs]; exact List.mem_map_of_mem hp
    obtain ⟨Fa, ga, ka⟩ := F9.freeze (pre := []) (post := (dF, symDic w xF eF) :: ownD) (fun p hp => by
      rcases List.mem_cons.mp hp with rfl | hp
      · exact nLF.symm
      · exact fun e => nL (e ▸ inD' hp)) (.inl frL)
    obtain ⟨Fb, gb, kb⟩ := Fa.freeze (pre := []) (post := ownD) (fun p hp => fun e => nF (e ▸ inD' hp)) (.inl frF)
    have k9b : f9.StaysIn (addTo (addTo f9 h9 (· == dL)) h9 (· == dF)) := fun b o e => kb _ _ (ka b o e)
    have ga := kb _ _ ga
    generalize addTo (addTo f9 h9 (· == dL)) h9 (· == dF) = fb at Fb gb k9b ga
    have TF : Tab w fb dF syms AF DF := ⟨loF, xF, eF, gb, RF.mono k9b fun x v => PF.mono k9b⟩
    have TL : Tab w fb dL syms AL DL := ⟨loL, xL, eL, ga, RL.mono k9b fun x v => PF.mono k9b⟩
    have k2b : f2.StaysIn fb := fun b o e => k9b _ _ (k9 b o e)
    have Kb := K2.keeps k2b
    have osN := osN.mono k2b
    have tub : (Ty.list Ty.rule).is fb rules u := Ty.mono _ (fun b o e => k2b _ _ (k2 _ _ (k1 b o e))) tu
    have Ob := O9.mono k9b
    clear F9 Fa ga gb ka kb RF RL O9 K1 K4 F4 F3 F2 F1 tS F
    have I9 : SndM (pureOf' rules) syms DN DF DL m := ⟨by rw [mN]; simp, fun x hx z hz => by
        rw [mF x hx] at hz
        cases q : x.2 with
        | true => rw [q] at hz; simp at hz; subst hz; exact ⟨q, .refl⟩
        | false => rw [q] at hz; simp at hz, fun x hx z hz => by rw [mL x hx] at hz; simp at hz, fun x hx ht => by rw [mF x hx]; rw [show x.2 = true from ht]; simp⟩
    let p : CP := ⟨w, fb, dF, dL, aN, u, Ds, pureOf' rules, syms, DN, DF, DL⟩
    have bnd : ∀ {f' : Heap} {mm : Vars} {own : Own} {m : Kys} {c : Bool}, CS p f' mm own m c → tot Ds m ≤ Ds.length * 42 := fun S' => tot_le fun D hD => Nat.le_trans (S'.size S L9 hD) sz
    have exl : ∀ r ∈ rules, r.expansion.length ≤ 1000 := fun r hr => Nat.le_trans (hz' r hr) (by omega)
    have inR : ∀ r ∈ rules, (r.origin, r.expansion) ∈ pureOf' rules := fun r hr => List.mem_map.mpr ⟨r, hr, rfl⟩
    have toAll : ∀ {i : Nat} {X : Sy × List Sy → Prop}, rules.length ≤ i → (∀ k, k < i → ∀ r, rules[k]? = some r → X (r.origin, r.expansion)) → ∀ r ∈ pureOf' rules, X r := fun {i X} hi h r hr => by
      obtain ⟨q, hq, rfl⟩ := List.mem_map.mp hr
      obtain ⟨k, hk⟩ := List.getElem?_of_mem hq
      exact h k (Nat.lt_of_lt_of_le (List.getElem?_eq_some_iff.mp hk).1 hi) q hk
    refine st_assign (T := Ty.bool) (a := true) W Fb (.inl rfl) es_bool fun fc hc gc dc tkc vc kc gec tc Fc => ?_
    cases tc
    have S0 : CS p fc (Vars.set mm9 (Str.ofString "changed") (.bool true)) ownD m true := ⟨kc, v1, v2, v3, v4, rfl, Ob.mono kc, I9⟩
    refine st_while Fc (fun n f' mm own => ∃ m c, CS p f' mm own m c ∧ n = 2 * (Ds.length * 42 - tot Ds m) + (if c then 1 else 0) ∧ (c = false → ∀ r ∈ pureOf' rules, Closed1 r (m DN) (fun x => m (DF x))))
      (fun f' mm own => ∃ m, CS p f' mm own m false ∧ ∀ r ∈ pureOf' rules, Closed1 r (m DN) (fun x => m (DF x))) _ ⟨m, true, S0, rfl, fun h => nomatch h⟩ ?jm1 ?zm1 ?turn1 ?ka1
    case jm1 => rintro n f1 f2 mm own k ⟨m, c, S, r⟩; exact ⟨m, c, S.mono k, r⟩
    case zm1 => rintro f1 f2 mm own k ⟨m, S, r⟩; exact ⟨m, S.mono k, r⟩
    case turn1 =>
      clear S0 Fc Fb I9 Ob mN mF mL
      rintro n f1 h1 mm own ⟨m, c, S1, rfl, hc⟩ F1
      refine ⟨c, ts_name (F1.var W S1.vc rfl), fun hb => by subst hb; exact ⟨m, S1, hc rfl⟩, fun hb => ?_⟩
      subst hb
      intro f2 h2 g2 d2 tk2 k2 F2
      have S2 := S1.mono k2
      refine st_assign (T := Ty.bool) (a := false) W F2 (.inl rfl) es_bool fun f3 h3 g3 d3 tk3 v3 k3 ge3 t3 F3 => ?_
      cases t3
      have S3 : CS p f3 (mm.set (Str.ofString "changed") (.bool false)) own m false := ⟨fun b o e => k3 _ _ (S2.kf b o e), S2.vF, S2.vL, S2.vN, S2.vR, rfl, S2.O.mono k3, S2.I⟩
      refine st_for (T := Ty.rule) (xs := rules) F3 (itr_list rm'.hh (es_name (F3.var W S3.vR rfl) (Ty.mono _ S3.kf tub))) (fun _ z => z.elim)
        (fun i f' mm' own' => PI p (tot Ds m) (fun _ => True) (Prior rules DN DF i) f' mm' own')
        (fun f' mm' own' => PI p (tot Ds m) (fun _ => True) (fun m => ∀ r ∈ pureOf' rules, Closed1 r (m DN) (fun x => m (DF x))) f' mm' own')
        (fun i f f' mm own k S => S.mono k) (takesF_name W (.inl rfl)) ⟨m, false, S3, trivial, Nat.le_refl _, (fun h => nomatch h), fun _ k hk => absurd hk (Nat.not_lt_zero _)⟩ ?turn2 (fun f mm own S => S.imp fun m C => toAll (Nat.le_refl _) C) ?ka2
      case ka2 =>
        rintro f4 h4 g4 d4 tk4 mm4 own4 ge4 F4 ⟨m4, c4, S4, -, t1, t2, hC⟩
        refine wpAny_execs_nil ⟨f4, h4, g4, d4, tk4, mm4, own4, rfl, ge3.trans ge4, F4, 2 * (Ds.length * 42 - tot Ds m4) + (if c4 then 1 else 0), ?_, m4, c4, S4, rfl, hC⟩
        have b4 := bnd S4
        have b3 := bnd S3
        have t1 : tot Ds m ≤ tot Ds m4 := t1
        cases c4 with
        | false => simp; omega
        | true =>
          have : tot Ds m < tot Ds m4 := t2 rfl
          simp; omega
      case turn2 =>
        rintro i r f4 h4 g4 d4 tk4 mm4 mm5 own4 hr ⟨m4, c4, S4, -, t1, t2, hC⟩ ⟨v, t4, rfl⟩ F4
        have S4 : CS p f4 (mm4.set (Str.ofString "rule") v) own4 m4 c4 := S4.re
        have hrm := List.mem_of_getElem? hr
        have hrs := inR r hrm
        have ho : r.origin ∈ syms := S.org _ hrs
        have he : ∀ x ∈ r.expansion, x ∈ syms := S.exp _ hrs
        have K4 := Kb.keeps S4.kf
        refine st_if_join F4 (ts_holds (ex := []) K4 rm'.mono F4 L9.nd S4.O L9.n (F4.var W S4.vN rfl) (osN.mono S4.kf) (fun f' k kh => es_expansion_of (K4.keeps k) rm'.mono (es_name (F4.var W (v := v) rfl rfl) (Ty.mono _ k t4))) (exl r hrm))
          (fun f' mm' own' => f4.StaysIn f' ∧ mm' (Str.ofString "rule") = some v ∧ PI p (tot Ds m) (fun _ => True) (fun m => Prior rules DN DF i m ∧ NulC r DN m) f' mm' own') ?hb ?kj
        case hb =>
          intro f5 h5 g5 d5 tk5 k5 F5
          have S5 := S4.mono k5
          have K5 := K4.keeps k5
          cases hb : (r.expansion.all fun x => has x (m4 DN)) with
          | false => exact wpAny_execs_nil ⟨rfl, f5, h5, g5, d5, tk5, _, own4, rfl, .refl _, F5, k5, rfl, m4, c4, S5, trivial, t1, t2, fun h => ⟨hC h, fun hx => absurd hx (all_hasnt.mp hb)⟩⟩
          | true =>
            refine st_update (ex := []) (U := Ty.list Ty.sym) (ys := [r.origin]) (b := [r.origin]) (a := aN) K5 rm'.mono W F5 L9.nd S5.O L9.n (fun _ h => nomatch h) (.inl rfl) (v_glob K5 F5.ext.fh (by k_is)) (es_name (T := Ty.osv) (a := (aN, DN)) (F5.var W S5.vN rfl) ⟨rfl, osN.mono S5.kf⟩) (es_list1 (es_origin_of K5 rm'.mono (es_name (F5.var W (v := v) rfl rfl) (Ty.mono _ k5 t4)))) (hG_list (osN.mono S5.kf)) (by simp) (Nat.le_trans (S5.size S L9 L9.n) (Nat.le_trans sz (by omega))) ?_
            intro f6 h6 g6 d6 tk6 own6 mm6 cc k6 ge6 F6 O6 hcc hmm
            exact wpAny_execs_nil ⟨rfl, f6, h6, g6, d6, tk6, mm6, own6, rfl, ge6, F6, fun b o e => k6 _ _ (k5 b o e), (mm_ne hmm (by decide)).trans rfl, PI.upd (C := Prior rules DN DF i) L9 S5 t1 t2 hC L9.n k6 O6 (S5.I.addN L9 hrs (all_has.mp hb)) hcc hmm trivial fun C hy => ⟨C, fun _ => hy _ (by simp)⟩⟩
        case kj =>
          clear S4 hC t1 t2 F4
          rintro f5 h5 g5 d5 tk5 mm5 own5 ge5 F5 ⟨k5, vr5, P5⟩
          have t5 := Ty.mono _ k5 t4
          have K5 := K4.keeps k5
          refine st_for (T := Ty.pair .nat Ty.sym) (xs := enumL r.expansion) F5 (itr_enum_tup rm'.hh (v_built K5 F5.ext.fh (by k_is) rfl) (es_expansion_of K5 rm'.mono (es_name (F5.var W vr5 rfl) t5))) (fun _ z => z.elim)
            (fun j f' mm' own' => f5.StaysIn f' ∧ mm' (Str.ofString "rule") = some v ∧ PI p (tot Ds m) (fun _ => True) (fun m => (Prior rules DN DF i m ∧ NulC r DN m) ∧ FirC r DN DF j m) f' mm' own')
            (fun f' mm' own' => PI p (tot Ds m) (fun _ => True) (Prior rules DN DF (i + 1)) f' mm' own')
            ?jm3 (takesF_pair rm'.hh W (.inl rfl) (.inl rfl)) ⟨fun _ _ e => e, vr5, P5.imp fun m C => ⟨C, fun k hk => absurd hk (Nat.not_lt_zero _)⟩⟩ ?turn3 ?jz3 ?ka3
          case jm3 => rintro j f1 f2 mm own k ⟨b, vr, P⟩; exact ⟨fun b' o e => k _ _ (b b' o e), vr, P.mono k⟩
          case ka3 =>
            rintro f6 h6 g6 d6 tk6 mm6 own6 ge6 F6 P6
            exact wpAny_execs_nil ⟨f6, h6, g6, d6, tk6, mm6, own6, rfl, ge5.trans ge6, F6, P6⟩
          case jz3 =>
            rintro f6 mm6 own6 ⟨k6, vr6, P6⟩
            refine P6.imp fun m C k hk r' hr' => ?_
            by_cases q : k = i
            · subst q
              rw [hr] at hr'; cases hr'
              exact ⟨C.1.2, fun k b hb => C.2 k (by rw [enumL_length]; exact (List.getElem?_eq_some_iff.mp hb).1) b hb⟩
            · exact C.1.1 k (by omega) r' hr'
          case turn3 =>
            rintro j ⟨jj, b⟩ f6 h6 g6 d6 tk6 mm6 mm7 own6 hj ⟨k6, vr6, m6, c6, S6, -, t1, t2, hC⟩ ⟨vi, vs, ti, ts, rfl⟩ F6
            rw [enumL_get] at hj
            obtain ⟨b', hb', e⟩ := Option.map_eq_some_iff.mp hj
            cases e
            have S6 : CS p f6 ((mm6.set (Str.ofString "i") vi).set (Str.ofString "sym") vs) own6 m6 c6 := S6.re
            have vr6 : ((mm6.set (Str.ofString "i") vi).set (Str.ofString "sym") vs) (Str.ofString "rule") = some v := vr6
            have hjl := (List.getElem?_eq_some_iff.mp hb').1
            have K6 := K5.keeps k6
            have t6 := Ty.mono _ k6 t5
            have hbs : b ∈ syms := he b (List.mem_of_getElem? hb')
            have ecut : cut r.expansion (from0 none) (upto r.expansion.length (some (j : Int))) = r.expansion.take j := by unfold cut; simp [from0, upto]
            refine st_if F6 (ts_holds (ex := []) (items := cut r.expansion (from0 none) (upto r.expansion.length (some (j : Int)))) K6 rm'.mono F6 L9.nd S6.O L9.n (F6.var W S6.vN rfl) (osN.mono S6.kf) (fun f' k kh => es_slice_tup (es_expansion_of (K6.keeps k) rm'.mono (es_name (F6.var W vr6 rfl) (Ty.mono _ k t6))) (es_slice ep_none (ep_nat (es_name (F6.var W (v := vi) rfl rfl) ti)) ep_none) ⟨(fun i e => nomatch e), (fun i e => by cases e; omega)⟩ (exl r hrm)) (Nat.le_trans (cut_le _ _ _) (exl r hrm))) ?_
            rw [ecut]
            intro f7 h7 g7 d7 tk7 k7 ge7 F7
            have S7 := S6.mono k7
            have K7 := K6.keeps k7
            have TF7 := TF.mono S7.kf
            cases hb : (r.expansion.take j).all fun x => has x (m6 DN) with
            | false =>
              refine wpAny_execs_cons (wpAny_Break ?_)
              refine ⟨f7, h7, g7, d7, tk7, _, own6, rfl, ge7, F7, m6, c6, S7, trivial, t1, t2, fun h k hk r' hr' => ?_⟩
              have C := hC h
              by_cases q : k = i
              · subst q
                rw [hr] at hr'; cases hr'
                refine ⟨C.1.2, fun k b hb2 hx => ?_⟩
                by_cases q2 : k < j
                · exact C.2 k q2 b hb2 hx
                · refine absurd (fun x hx' => hx x ?_) (all_hasnt.mp hb)
                  exact (List.take_subset_take_left _ (by omega)) hx'
              · exact C.1.1 k (by omega) r' hr'
            | true =>
              refine st_update (ex := []) (U := Ty.osv) (ys := m6 (DF b)) (b := (AF b, DF b)) (a := AF r.origin) (D := DF r.origin) K7 rm'.mono W F7 L9.nd S7.O (L9.f _ ho) (fun _ h => nomatch h) (.inl rfl) (v_glob K7 F7.ext.fh (by k_is))
                (es_tab K7 rm'.mono (F7.var W S7.vF rfl) TF7 (es_origin_of K7 rm'.mono (es_name (F7.var W vr6 rfl) (Ty.mono _ k7 t6))) ho) (es_tab K7 rm'.mono (F7.var W S7.vF rfl) TF7 (es_name (F7.var W (v := vs) rfl rfl) (Ty.mono _ k7 ts)) hbs)
                (hG_os L9.nd (L9.f _ ho) (L9.f _ hbs) (TF7.oset ho) K7 fun q => by rw [L9.ff _ hbs _ ho q]) (Nat.le_trans (S7.size S L9 (L9.f _ hbs)) (Nat.le_trans sz (by omega))) (Nat.le_trans (S7.size S L9 (L9.f _ ho)) (Nat.le_trans sz (by omega))) ?_
              intro f8 h8 g8 d8 tk8 own8 mm8 cc k8 ge8 F8 O8 hcc hmm
              have hR1 : R1 (pureOf' rules) r.origin b := ⟨_, hrs, j, hb', fun x hx => S7.I.nul x (all_has.mp hb x hx)⟩
              refine wpAny_execs_nil (wpAny_execs_nil ⟨f8, h8, g8, d8, tk8, mm8, own8, rfl, ge7.trans ge8, F8, fun b o e => k8 _ _ (k7 _ _ (k6 b o e)), (mm_ne hmm (by decide)).trans vr6, PI.upd (C := fun m => (Prior rules DN DF i m ∧ NulC r DN m) ∧ FirC r DN DF j m) L9 S7 t1 t2 hC (L9.f _ ho) k8 O8 (S7.I.addF L9 ho fun z hz => (S7.I.fi b hbs z hz).step hR1) hcc hmm trivial fun C hy => ⟨C.1, fun k hk b2 hb2 hx => ?_⟩⟩)
              by_cases q : k = j
              · subst q
                rw [hb'] at hb2; cases hb2
                exact hy
              · exact C.2 k (by omega) b2 hb2 hx
    case ka1 =>
    clear S0 Fc Fb I9 Ob mN mF mL
    rintro f1 h1 gA d1 tk1 mm1 own1 geA F1 ⟨m1, S1, C1⟩
    let E : Kys → Prop := fun m => ∀ r ∈ pureOf' rules, Closed1 r (m DN) (fun x => m (DF x))
    have EDL : ∀ {m : Kys} {o : Sy} {ks : List Sy}, o ∈ syms → E m → E (upd m (DL o) ks) := fun {m o ks} ho hE r hr => by
      have e1 : upd m (DL o) ks DN = m DN := upd_ne (L9.nl _ ho)
      have e2 : ∀ x ∈ syms, upd m (DL o) ks (DF x) = m (DF x) := fun x hx => upd_ne (L9.fl _ hx _ ho)
      rw [e1]
      exact (hE r hr).congr (term := term) (rs := pureOf' rules) (e2 _ (S.org _ hr)) fun x hx => e2 _ (S.exp _ hr x hx)
    refine st_assign (T := Ty.bool) (a := true) W F1 (.inl rfl) es_bool fun fc hc gc dc tkc vc kc gec2 tc Fc => ?_
    cases tc
    have S0 : CS p fc (mm1.set (Str.ofString "changed") (.bool true)) own1 m1 true := ⟨fun b o e => kc _ _ (S1.kf b o e), S1.vF, S1.vL, S1.vN, S1.vR, rfl, S1.O.mono kc, S1.I⟩
    refine st_while Fc (fun n f' mm own => ∃ m c, CS p f' mm own m c ∧ E m ∧ n = 2 * (Ds.length * 42 - tot Ds m) + (if c then 1 else 0) ∧ (c = false → ∀ r ∈ pureOf' rules, Closed2 r (m DN) (fun x => m (DF x)) (fun x => m (DL x))))
      (fun f' mm own => ∃ m, CS p f' mm own m false ∧ E m ∧ ∀ r ∈ pureOf' rules, Closed2 r (m DN) (fun x => m (DF x)) (fun x => m (DL x))) _ ⟨m1, true, S0, C1, rfl, fun h => nomatch h⟩ ?jm5 ?zm5 ?turn5 ?ka5
    case jm5 => rintro n f1 f2 mm own k ⟨m, c, S, r⟩; exact ⟨m, c, S.mono k, r⟩
    case zm5 => rintro f1 f2 mm own k ⟨m, S, r⟩; exact ⟨m, S.mono k, r⟩
    case turn5 =>
      clear S0 Fc S1 C1 F1
      rintro n f1 h1 mm own ⟨m, c, S1, hE, rfl, hc⟩ F1
      refine ⟨c, ts_name (F1.var W S1.vc rfl), fun hb => by subst hb; exact ⟨m, S1, hE, hc rfl⟩, fun hb => ?_⟩
      subst hb
      intro f2 h2 g2 d2 tk2 k2 F2
      have S2 := S1.mono k2
      refine st_assign (T := Ty.bool) (a := false) W F2 (.inl rfl) es_bool fun f3 h3 g3 d3 tk3 v3 k3 ge3 t3 F3 => ?_
      cases t3
      have S3 : CS p f3 (mm.set (Str.ofString "changed") (.bool false)) own m false := ⟨fun b o e => k3 _ _ (S2.kf b o e), S2.vF, S2.vL, S2.vN, S2.vR, rfl, S2.O.mono k3, S2.I⟩
      refine st_for (T := Ty.rule) (xs := rules) F3 (itr_list rm'.hh (es_name (F3.var W S3.vR rfl) (Ty.mono _ S3.kf tub))) (fun _ z => z.elim)
        (fun i f' mm' own' => PI p (tot Ds m) E (Prior2 rules DN DF DL i) f' mm' own')
        (fun f' mm' own' => PI p (tot Ds m) E (fun m => ∀ r ∈ pureOf' rules, Closed2 r (m DN) (fun x => m (DF x)) (fun x => m (DL x))) f' mm' own')
        (fun i f f' mm own k S => S.mono k) (takesF_name W (.inl rfl)) ⟨m, false, S3, hE, Nat.le_refl _, (fun h => nomatch h), fun _ k hk => absurd hk (Nat.not_lt_zero _)⟩ ?turn6 (fun f mm own S => S.imp fun m C => toAll (Nat.le_refl _) C) ?ka6
      case ka6 =>
        rintro f4 h4 g4 d4 tk4 mm4 own4 ge4 F4 ⟨m4, c4, S4, hE4, t1, t2, hC⟩
        refine wpAny_execs_nil ⟨f4, h4, g4, d4, tk4, mm4, own4, rfl, ge3.trans ge4, F4, 2 * (Ds.length * 42 - tot Ds m4) + (if c4 then 1 else 0), ?_, m4, c4, S4, hE4, rfl, hC⟩
        have b4 := bnd S4
        have b3 := bnd S3
        have t1 : tot Ds m ≤ tot Ds m4 := t1
        cases c4 with
        | false => simp; omega
        | true =>
          have : tot Ds m < tot Ds m4 := t2 rfl
          simp; omega
      case turn6 =>
        rintro i r f4 h4 g4 d4 tk4 mm4 mm5 own4 hr ⟨m4, c4, S4, hE4, t1, t2, hC⟩ ⟨v, t4, rfl⟩ F4
        have S4 : CS p f4 (mm4.set (Str.ofString "rule") v) own4 m4 c4 := S4.re
        have hrm := List.mem_of_getElem? hr
        have hrs := inR r hrm
        have ho : r.origin ∈ syms := S.org _ hrs
        have he : ∀ x ∈ r.expansion, x ∈ syms := S.exp _ hrs
        have el := exl r hrm
        have K4 := Kb.keeps S4.kf
        refine st_for (T := Ty.pair .nat Ty.sym) (xs := enumL r.expansion) F4 (itr_enum_tup rm'.hh (v_built K4 F4.ext.fh (by k_is) rfl) (es_expansion_of K4 rm'.mono (es_name (F4.var W (v := v) rfl rfl) t4))) (fun _ z => z.elim)
          (fun j f' mm' own' => f4.StaysIn f' ∧ mm' (Str.ofString "rule") = some v ∧ PI p (tot Ds m) E (fun m => Prior2 rules DN DF DL i m ∧ UpC r DN DL j m ∧ BeC r DN DF DL j m) f' mm' own')
          (fun f' mm' own' => PI p (tot Ds m) E (Prior2 rules DN DF DL (i + 1)) f' mm' own')
          ?jm7 (takesF_pair rm'.hh W (.inl rfl) (.inl rfl)) ⟨fun _ _ e => e, rfl, m4, c4, S4, hE4, t1, t2, fun h => ⟨hC h, fun k hk => absurd hk (Nat.not_lt_zero _), fun k hk => absurd hk (Nat.not_lt_zero _)⟩⟩ ?turn7 ?jz7 ?ka7
        case jm7 => rintro j f1 f2 mm own k ⟨b, vr, P⟩; exact ⟨fun b' o e => k _ _ (b b' o e), vr, P.mono k⟩
        case ka7 =>
          rintro f6 h6 g6 d6 tk6 mm6 own6 ge6 F6 P6
          exact wpAny_execs_nil ⟨f6, h6, g6, d6, tk6, mm6, own6, rfl, ge6, F6, P6⟩
        case jz7 =>
          rintro f6 mm6 own6 ⟨k6, vr6, P6⟩
          refine P6.imp fun m C k hk r' hr' => ?_
          by_cases q : k = i
          · subst q
            rw [hr] at hr'; cases hr'
            exact ⟨fun k b hb => C.2.1 k (by rw [enumL_length]; exact (List.getElem?_eq_some_iff.mp hb).1) b hb, fun k l a b hkl ha hb => C.2.2 k (by rw [enumL_length]; exact (List.getElem?_eq_some_iff.mp ha).1) l hkl (List.getElem?_eq_some_iff.mp hb).1 a b ha hb⟩
          · exact C.1 k (by omega) r' hr'
        case turn7 =>
          clear S4 hC t1 t2 hE4 F4
          rintro j ⟨jj, b⟩ f6 h6 g6 d6 tk6 mm6 mm7 own6 hj ⟨k6, vr6, m6, c6, S6, hE6, t1, t2, hC⟩ ⟨vi, vs, ti, ts, rfl⟩ F6
          rw [enumL_get] at hj
          obtain ⟨b', hb', e⟩ := Option.map_eq_some_iff.mp hj
          cases e
          have S6 : CS p f6 ((mm6.set (Str.ofString "i") vi).set (Str.ofString "sym") vs) own6 m6 c6 := S6.re
          have vr6 : ((mm6.set (Str.ofString "i") vi).set (Str.ofString "sym") vs) (Str.ofString "rule") = some v := vr6
          have hjl := (List.getElem?_eq_some_iff.mp hb').1
          have K6 := K4.keeps k6
          have t6 := Ty.mono _ k6 t4
          have hbs : b ∈ syms := he b (List.mem_of_getElem? hb')
          have ecut : cut r.expansion (from0 (some ((j + 1 : Nat) : Int))) (upto r.expansion.length none) = r.expansion.drop (j + 1) := by
            unfold cut
            simp only [from0, upto, Int.toNat_natCast]
            exact List.take_of_length_le (by rw [List.length_drop]; omega)
          have iInt : Ty.int.is f6 (j : Int) vi := ti
          refine st_if_join F6 (b := decide ((j : Int) = (r.expansion.length : Int) - 1) || (cut r.expansion (from0 (some ((j + 1 : Nat) : Int))) (upto r.expansion.length none)).all fun x => has x (m6 DN))
            (ts_or2 (ts_cmp (T := Ty.int) (U := Ty.int) (es_name (F6.var W (v := vi) rfl rfl) iInt) (es_bin (V := Ty.int) ((es_len_tup (v_built K6 F6.ext.fh (by k_is) rfl) (es_expansion_of K6 rm'.mono (es_name (F6.var W vr6 rfl) t6)) el).conv (U := Ty.int) (b := (r.expansion.length : Int)) fun f' v k t => t) (es_int (i := 1)) (fun f' h' u v k t t' => p_sub k.fh t t')) (fun f' h' u v k t t' => p_eqi k.fh t t'))
              (fun _ => ts_holds (ex := []) (items := cut r.expansion (from0 (some ((j + 1 : Nat) : Int))) (upto r.expansion.length none)) K6 rm'.mono F6 L9.nd S6.O L9.n (F6.var W S6.vN rfl) (osN.mono S6.kf) (fun f' k kh => es_slice_tup (es_expansion_of (K6.keeps k) rm'.mono (es_name (F6.var W vr6 rfl) (Ty.mono _ k t6))) (es_slice (ep_nat (es_bin (V := Ty.nat) (es_name (F6.var W (v := vi) rfl rfl) ti) (es_nat (i := 1)) (fun f' h' u v k t t' => p_addn k.fh t t'))) ep_none ep_none) ⟨(fun i e => by cases e; omega), (fun i e => nomatch e)⟩ el) (Nat.le_trans (cut_le _ _ _) el)))
            (fun f' mm' own' => f6.StaysIn f' ∧ mm' (Str.ofString "rule") = some v ∧ mm' (Str.ofString "i") = some vi ∧ mm' (Str.ofString "sym") = some vs ∧ PI p (tot Ds m) E (fun m => Prior2 rules DN DF DL i m ∧ UpC r DN DL (j + 1) m ∧ BeC r DN DF DL j m) f' mm' own') ?hb7 ?kj7
          case hb7 =>
            intro f7 h7 g7 d7 tk7 k7 F7
            have S7 := S6.mono k7
            have K7 := K6.keeps k7
            have TL7 := TL.mono S7.kf
            cases hbb : (decide ((j : Int) = (r.expansion.length : Int) - 1) || (cut r.expansion (from0 (some ((j + 1 : Nat) : Int))) (upto r.expansion.length none)).all fun x => has x (m6 DN)) with
            | false =>
              refine wpAny_execs_nil ⟨rfl, f7, h7, g7, d7, tk7, _, own6, rfl, .refl _, F7, k7, vr6, rfl, rfl, m6, c6, S7, hE6, t1, t2, fun h => ?_⟩
              have C := hC h
              refine ⟨C.1, fun k hk b2 hb2 hx => ?_, C.2.2⟩
              by_cases q : k = j
              · subst q
                rw [ecut] at hbb
                exact absurd hx (all_hasnt.mp (Bool.or_eq_false_iff.mp hbb).2)
              · exact C.2.1 k (by omega) b2 hb2 hx
            | true =>
              have hx : ∀ x ∈ r.expansion.drop (j + 1), x ∈ m6 DN := by
                rw [ecut] at hbb
                rcases Bool.or_eq_true_iff.mp hbb with q | q
                · have : (j : Int) = (r.expansion.length : Int) - 1 := by simpa using q
                  rw [List.drop_of_length_le (by omega)]; simp
                · exact all_has.mp q
              refine st_update (ex := []) (U := Ty.osv) (ys := m6 (DL r.origin)) (b := (AL r.origin, DL r.origin)) (a := AL b) (D := DL b) K7 rm'.mono W F7 L9.nd S7.O (L9.o _ hbs) (fun _ h => nomatch h) (.inl rfl) (v_glob K7 F7.ext.fh (by k_is))
                (es_tab K7 rm'.mono (F7.var W S7.vL rfl) TL7 (es_name (F7.var W (v := vs) rfl rfl) (Ty.mono _ k7 ts)) hbs) (es_tab K7 rm'.mono (F7.var W S7.vL rfl) TL7 (es_origin_of K7 rm'.mono (es_name (F7.var W vr6 rfl) (Ty.mono _ k7 t6))) ho)
                (hG_os L9.nd (L9.o _ hbs) (L9.o _ ho) (TL7.oset hbs) K7 fun q => by rw [L9.ll _ ho _ hbs q]) (Nat.le_trans (S7.size S L9 (L9.o _ ho)) (Nat.le_trans sz (by omega))) (Nat.le_trans (S7.size S L9 (L9.o _ hbs)) (Nat.le_trans sz (by omega))) ?_
              intro f8 h8 g8 d8 tk8 own8 mm8 cc k8 ge8 F8 O8 hcc hmm
              have hR2 : R2 (pureOf' rules) r.origin b := ⟨_, hrs, j, hb', fun x hx' => S7.I.nul x (hx x hx')⟩
              refine wpAny_execs_nil ⟨rfl, f8, h8, g8, d8, tk8, mm8, own8, rfl, ge8, F8, fun b o e => k8 _ _ (k7 b o e), (mm_ne hmm (by decide)).trans vr6, (mm_ne hmm (by decide)).trans rfl, (mm_ne hmm (by decide)).trans rfl, PI.upd (C := fun m => Prior2 rules DN DF DL i m ∧ UpC r DN DL j m ∧ BeC r DN DF DL j m) L9 S7 t1 t2 hC (L9.o _ hbs) k8 O8 (S7.I.addL L9 hbs fun z hz => (S7.I.fo _ ho z hz).step hR2) hcc hmm (EDL hbs hE6) fun C hy => ⟨C.1, fun k hk b2 hb2 hx2 => ?_, C.2.2⟩⟩
              by_cases q : k = j
              · subst q
                rw [hb'] at hb2; cases hb2
                exact hy
              · exact C.2.1 k (by omega) b2 hb2 hx2
          case kj7 =>
            clear S6 hC t1 t2 F6 hE6
            rintro f7 h7 g7 d7 tk7 mm7 own7 ge7 F7 ⟨k7, vr7, vi7, vs7, P7⟩
            have K7 := K6.keeps k7
            have t7 := Ty.mono _ k7 t6
            have ti7 : Ty.nat.is f7 j vi := ti
            have ts7 := Ty.mono _ k7 ts
            refine st_for (T := Ty.nat) (xs := natsFrom (j + 1) (r.expansion.length - (j + 1))) F7 (itr_range rm'.hh (es_range2 (v_built K7 F7.ext.fh (by k_is) rfl) (es_bin (V := Ty.nat) (es_name (F7.var W (v := vi) vi7 rfl) ti7) (es_nat (i := 1)) (fun f' h' u v k t t' => p_addn k.fh t t')) (es_len_tup (v_built K7 F7.ext.fh (by k_is) rfl) (es_expansion_of K7 rm'.mono (es_name (F7.var W vr7 rfl) t7)) el)) el (by omega)) (fun _ z => z.elim)
              (fun q f' mm' own' => f7.StaysIn f' ∧ mm' (Str.ofString "rule") = some v ∧ mm' (Str.ofString "i") = some vi ∧ mm' (Str.ofString "sym") = some vs ∧ PI p (tot Ds m) E (fun m => (Prior2 rules DN DF DL i m ∧ UpC r DN DL (j + 1) m ∧ BeC r DN DF DL j m) ∧ BeJ r DN DF DL j (j + 1 + q) m) f' mm' own')
              (fun f' mm' own' => f7.StaysIn f' ∧ mm' (Str.ofString "rule") = some v ∧ PI p (tot Ds m) E (fun m => Prior2 rules DN DF DL i m ∧ UpC r DN DL (j + 1) m ∧ BeC r DN DF DL (j + 1) m) f' mm' own')
              ?jm8 (takesF_name W (.inl rfl)) ⟨fun _ _ e => e, vr7, vi7, vs7, P7.imp fun m C => ⟨C, fun l h1 h2 => by omega⟩⟩ ?turn8 ?jz8 ?ka8
            case jm8 => rintro q f1 f2 mm own k ⟨b, vr, vi, vs, P⟩; exact ⟨fun b' o e => k _ _ (b b' o e), vr, vi, vs, P.mono k⟩
            case jz8 =>
              rintro f8 mm8 own8 ⟨k8, vr8, vi8, vs8, P8⟩
              refine ⟨k8, vr8, P8.imp fun m C => ⟨C.1.1, C.1.2.1, fun k hk => ?_⟩⟩
              by_cases q : k = j
              · subst q
                intro l h1 h2
                exact C.2 l h1 (by rw [natsFrom_length]; omega)
              · exact C.1.2.2 k (by omega)
            case ka8 =>
              rintro f8 h8 g8 d8 tk8 mm8 own8 ge8 F8 ⟨k8, vr8, P8⟩
              exact wpAny_execs_nil ⟨f8, h8, g8, d8, tk8, mm8, own8, rfl, ge7.trans ge8, F8, fun b o e => k8 _ _ (k7 _ _ (k6 b o e)), vr8, P8⟩
            case turn8 =>
              rintro q l f8 h8 g8 d8 tk8 mm8 mm9' own8 hq ⟨k8, vr8, vi8, vs8, m8, c8, S8, hE8, t1, t2, hC⟩ ⟨vj, tj, rfl⟩ F8
              obtain ⟨hql, rfl⟩ := natsFrom_get hq
              have S8 : CS p f8 (mm8.set (Str.ofString "j") vj) own8 m8 c8 := S8.re
              have vr8 : (mm8.set (Str.ofString "j") vj) (Str.ofString "rule") = some v := vr8
              have vi8 : (mm8.set (Str.ofString "j") vj) (Str.ofString "i") = some vi := vi8
              have vs8 : (mm8.set (Str.ofString "j") vj) (Str.ofString "sym") = some vs := vs8
              have K8 := K7.keeps k8
              have t8 := Ty.mono _ k8 t7
              have ts8 := Ty.mono _ k8 ts7
              have ti8 : Ty.nat.is f8 j vi := ti
              obtain ⟨b2, hb2⟩ : ∃ b2, r.expansion[j + 1 + q]? = some b2 := ⟨_, List.getElem?_eq_getElem (by omega)⟩
              have hb2s : b2 ∈ syms := he b2 (List.mem_of_getElem? hb2)
              have ecut2 : cut r.expansion (from0 (some ((j + 1 : Nat) : Int))) (upto r.expansion.length (some ((j + 1 + q : Nat) : Int))) = cut r.expansion (j + 1) (j + 1 + q) := by simp only [from0, upto, Int.toNat_natCast]
              refine st_if F8 (ts_holds (ex := []) (items := cut r.expansion (from0 (some ((j + 1 : Nat) : Int))) (upto r.expansion.length (some ((j + 1 + q : Nat) : Int)))) K8 rm'.mono F8 L9.nd S8.O L9.n (F8.var W S8.vN rfl) (osN.mono S8.kf) (fun f' k kh => es_slice_tup (es_expansion_of (K8.keeps k) rm'.mono (es_name (F8.var W vr8 rfl) (Ty.mono _ k t8))) (es_slice (ep_nat (es_bin (V := Ty.nat) (es_name (F8.var W (v := vi) vi8 rfl) ti8) (es_nat (i := 1)) (fun f' h' u v k t t' => p_addn k.fh t t'))) (ep_nat (es_name (F8.var W (v := vj) rfl rfl) tj)) ep_none) ⟨(fun i e => by cases e; omega), (fun i e => by cases e; omega)⟩ el) (Nat.le_trans (cut_le _ _ _) el)) ?_
              rw [ecut2]
              intro f9' h9' g9' d9' tk9' k9' ge9' F9'
              have S9 := S8.mono k9'
              have K9 := K8.keeps k9'
              have TL9 := TL.mono S9.kf
              have TF9 := TF.mono S9.kf
              cases hbb : (cut r.expansion (j + 1) (j + 1 + q)).all fun x => has x (m8 DN) with
              | false =>
                refine wpAny_execs_nil (wpAny_execs_nil ⟨f9', h9', g9', d9', tk9', _, own8, rfl, ge9', F9', fun b o e => k9' _ _ (k8 b o e), vr8, vi8, vs8, m8, c8, S9, hE8, t1, t2, fun h => ?_⟩)
                have C := hC h
                refine ⟨C.1, fun l h1 h2 a b3 ha hb3 hx => ?_⟩
                by_cases e : l = j + 1 + q
                · subst e
                  exact absurd hx (all_hasnt.mp hbb)
                · exact C.2 l h1 (by omega) a b3 ha hb3 hx
              | true =>
                refine st_update (ex := []) (U := Ty.osv) (ys := m8 (DF b2)) (b := (AF b2, DF b2)) (a := AL b) (D := DL b) K9 rm'.mono W F9' L9.nd S9.O (L9.o _ hbs) (fun _ h => nomatch h) (.inl rfl) (v_glob K9 F9'.ext.fh (by k_is))
                  (es_tab K9 rm'.mono (F9'.var W S9.vL rfl) TL9 (es_name (F9'.var W (v := vs) vs8 rfl) (Ty.mono _ k9' ts8)) hbs) (es_tab K9 rm'.mono (F9'.var W S9.vF rfl) TF9 (es_item_tup (es_expansion_of K9 rm'.mono (es_name (F9'.var W vr8 rfl) (Ty.mono _ k9' t8))) (es_name (F9'.var W (v := vj) rfl rfl) (Ty.mono _ k9' tj)) el hb2) hb2s)
                  (hG_os L9.nd (L9.o _ hbs) (L9.f _ hb2s) (TL9.oset hbs) K9 fun e => absurd e (L9.fl _ hb2s _ hbs)) (Nat.le_trans (S9.size S L9 (L9.f _ hb2s)) (Nat.le_trans sz (by omega))) (Nat.le_trans (S9.size S L9 (L9.o _ hbs)) (Nat.le_trans sz (by omega))) ?_
                intro fa ha ga da tka owna mma cc ka gea Fa Oa hcc hmm
                have hB : Bes (pureOf' rules) b b2 := ⟨_, _, hrs, j, j + 1 + q, by omega, hb', hb2, fun x hx' => S9.I.nul x (all_has.mp hbb x hx')⟩
                refine wpAny_execs_nil (wpAny_execs_nil ⟨fa, ha, ga, da, tka, mma, owna, rfl, ge9'.trans gea, Fa, fun b o e => ka _ _ (k9' _ _ (k8 b o e)), (mm_ne hmm (by decide)).trans vr8, (mm_ne hmm (by decide)).trans vi8, (mm_ne hmm (by decide)).trans vs8, PI.upd (C := fun m => (Prior2 rules DN DF DL i m ∧ UpC r DN DL (j + 1) m ∧ BeC r DN DF DL j m) ∧ BeJ r DN DF DL j (j + 1 + q) m) L9 S9 t1 t2 hC (L9.o _ hbs) ka Oa (S9.I.addL L9 hbs fun z hz => Fo.of hB (S9.I.fi _ hb2s z hz)) hcc hmm (EDL hbs hE8) fun C hy => ⟨C.1, fun l h1 h2 a b3 hha hb3 hx => ?_⟩⟩)
                by_cases e : l = j + 1 + q
                · subst e
                  rw [hb'] at hha; cases hha
                  rw [hb2] at hb3; cases hb3
                  exact hy
                · exact C.2 l h1 (by omega) a b3 hha hb3 hx
    case ka5 =>
      rintro f5 h5 g5 d5 tk5 mm5 own5 ge5 F5 ⟨m5, S5, hE5, C5⟩
      obtain ⟨F6, g6, k6⟩ := F5.freezeAll
      generalize addTo f5 h5 (fun b => own5.any fun p => p.1 == b) = f6 at F6 g6 k6
      have S6 := S5.mono k6
      have frz : ∀ {D}, D ∈ Ds → ∃ xs ep, f6.get? D = some (symDic w xs ep) ∧ SymRows f6 AnyV xs (m5 D) := fun {D} hD => by
        obtain ⟨xs, ep, pre, post, rfl, R, _⟩ := S6.O.at L9.nd hD
        exact ⟨xs, ep, g6 (D, symDic w xs ep) (List.mem_append.mpr (.inr (.head _))), R⟩
      have tb : ∀ {dd : Addr} {AX DX : Sy → Addr}, Tab w fb dd syms AX DX → (∀ x ∈ syms, DX x ∈ Ds) → (Ty.tab w syms).is f6 (fun x => m5 (DX x)) (.ref dd) := fun {dd AX DX} t hD => by
        obtain ⟨xs, ep, e, R⟩ := (t.mono S6.kf).at_
        refine ⟨dd, xs, ep, rfl, t.lo, e, R.key, fun x hx => ?_, R.keys, R.nodup⟩
        obtain ⟨e1, oa⟩ := R.val x hx
        have hxs : x.1 ∈ syms := R.keys ▸ List.mem_map_of_mem hx
        obtain ⟨ys, ep2, gd, R2⟩ := frz (hD _ hxs)
        exact ⟨_, _, ys, ep2, e1, oa, gd, R2⟩
      obtain ⟨xN, epN, gN, RN'⟩ := frz L9.n
      refine st_ret (T := Ty.tri (Ty.tab w syms) (Ty.tab w syms) (Ty.oset w)) (a := (fun x => m5 (DF x), fun x => m5 (DL x), m5 DN)) F6 (es_tup3 (es_name (F6.var W S6.vF rfl) (tb TF L9.f)) (es_name (F6.var W S6.vL rfl) (tb TL L9.o)) (es_name (F6.var W S6.vN rfl) ⟨aN, DN, xN, epN, rfl, osN.mono S6.kf, gN, RN'⟩)) fun f7 h7 g7 d7 tk7 v7 k7 ge7 t7 F7 => .of F7 ?_ ⟨_, _, _, t7, ?_, ?_⟩
      · exact (ge1.trans (ge2.trans (ge9.trans gec))).trans (geA.trans (gec2.trans (ge5.trans ge7)))
      · exact fun z => ⟨S5.I.nul z, closed_nul hE5⟩
      · exact fun x hx => ⟨fun z => ⟨S5.I.fi x hx z, closed_first S S5.I hE5 hx⟩, fun z => ⟨S5.I.fo x hx z, closed_follow S S5.I hE5 C5⟩⟩
end
end Mine
end
section
open PySem PySem.W PyProof.Rows PySem.Calls
set_option Elab.async false
set_option linter.unusedVariables false
set_option linter.unusedSectionVars false
namespace Mine
theorem fillXa : PySem.Challenge.rw_fi0012_01 = PySem.Challenge.rw_fi0012_01 ∧ hd.heap_39 = hd.heap_39 := by
  k_fill
  exact ⟨rfl, rfl⟩
/-- some object -/
def Ty.obj : Ty Unit := ⟨fun f _ v => ∃ a, v = .ref a, fun _ h => h⟩
section
variable {w : World} {A : Around} {env : Env} {f h : Heap}
theorem p_opts (K : Ok w f) (kf : f.StaysIn h) (rm : Rm A 100) : Does w A (call (.ref 415) []) f h fun f' v => Ty.obj.is f' () v :=
  .of kf fun g d tk os Q hq => optsNew (fun a o e => kf _ _ (K.X a o e)) rm.hh rm.depth (Nat.le_trans rm.units (by omega)) fun h' tk' a ks => hq h' tk' _ ks ⟨a, rfl⟩
theorem p_ruleNew (K : Ok w f) (kf : f.StaysIn h) (rm : Rm A 100) {u1 u2 u3 u5 : Value} {x : Ru} (t1 : Ty.sym.is f x.origin u1) (t2 : (Ty.tup Ty.sym).is f x.expansion u2) (t3 : Ty.nat.is f x.order u3) (t5 : Ty.obj.is f () u5) : Does w A (call (.ref 388) [u1, u2, u3, .none, u5]) f h fun f' r => Ty.rule.is f' x r := by
  have t1' := t1
  have t2' := t2
  obtain ⟨a1, _, rfl, _⟩ := t1
  obtain ⟨a2, _, _, rfl, _⟩ := t2
  obtain ⟨t, rfl⟩ := t3
  obtain ⟨a5, rfl⟩ := t5
  refine Does.of kf fun g d tk os Q hq => ruleNew (fun a o e => kf _ _ (K.X a o e)) rm.hh rm.depth (Nat.le_trans rm.units (by omega)) fun h' tk' a dd ks na nd => hq h' tk' _ ks ⟨a, _, _, .ref a5, t, rfl, ⟨dd, Ext.all_new kf ks na, Ext.all_new kf ks nd⟩, Ty.mono _ (Ext.all kf ks).fk t1', Ty.mono _ (Ext.all kf ks).fk t2'⟩
theorem es_or_none {e e2 : Expr} {pos : Pos} {T : Ty Unit} (x : Es w A env e f h Ty.val .none) (y : Es w A env e2 f h T ()) : Es w A env (.BoolOp .Or [e, e2] pos) f h T () := fun f₁ h₁ k g d tk os Q hq => by
  refine BoolOp_or (x _ _ k g d tk os _ fun h1 f1 g1 d1 tk1 v e1 ge1 t1 => ?_)
  cases t1
  refine PyProof.Rows.truthy_none ?_
  exact y _ _ (k.trans e1) g1 d1 tk1 os _ fun h2 f2 g2 d2 tk2 v e2 ge2 t2 => hq _ _ _ _ _ _ (e1.trans e2) (ge1.trans ge2) t2
set_option maxRecDepth 100000 in
/-- Rule -/
theorem p_rule (K : Ok w f) (kf : f.StaysIn h) (rm : Rm A 90) {u1 u2 u3 : Value} {o : Sy} {e : List Sy} {k : Nat} (t1 : Ty.sym.is f o u1) (t2 : (Ty.list Ty.sym).is f e u2) (t3 : Ty.nat.is f k u3) (hz : e.length ≤ 1000) : Does w A (call (.ref 423) [u1, u2, u3]) f h fun f' r => Ty.rule.is f' ⟨o, e, k⟩ r := by
  refine' does_call (binds := [(Str.ofString "origin", u1), (Str.ofString "expansion", u2), (Str.ofString "order", u3), (Str.ofString "alias", .none), (Str.ofString "options", .none)]) K kf ?ho ?hcd ?hr ?hb ?hk ?hcl ?hnd ?body ?c1 ?c2 ?c3
  case ho => k_is
  case hcd => k_is
  case hr => have := rm.depth; omega
  case hb => exact fun g d tk os => binds_K (fun a o e => kf _ _ (K.X a o e)) rfl (by k_is) rfl rfl rfl
  case hk => rfl
  case hcl => rfl
  case hnd => decide
  case c1 => rfl
  case c2 => rfl
  case c3 => rfl
  case body =>
    intro L h₁ g d tk os W F
    generalize hA : A.deeper _ = A'
    have rm' : Rm A' 93 := hA ▸ rm.deeper
    refine wpAny_execs_cons (wpAny_Expr (Constant_str ?_) rfl rfl)
    refine st_ret (T := Ty.rule) (a := ⟨o, e, k⟩) F (es_call (v_glob K F.ext.fh (by k_is)) (kp_ref K F.ext.fh (by k_is))
      (argsS (es_name (F.var W rfl rfl) t1) (argsS (T := Ty.tup Ty.sym) (a := e) (es_call (v_built K F.ext.fh (by k_is) rfl) Kp.type (args1 (es_name (F.var W rfl rfl) t2)) ?tp)
        (argsS (es_name (F.var W rfl rfl) t3) (argsS (T := Ty.val) (a := .none) (es_name (F.var W rfl rfl) rfl) (args1 (T := Ty.obj) (a := ()) (es_or_none (es_name (F.var W (v := .none) rfl rfl) rfl) (es_call (v_glob K F.ext.fh (by k_is)) (kp_ref K F.ext.fh (by k_is)) args0 ?op))))))) ?fin) fun f' h' g' d' tk' v k ge t F' => .of F' ge t
    case tp =>
      rintro f' h' vs k ⟨v, rfl, t⟩
      exact p_tup_list k.fh t hz
    case op =>
      rintro f' h' vs k rfl
      exact p_opts (K.keeps k.fk) k.fh rm'.mono
    case fin =>
      rintro f' h' vs k ⟨v1, r1, rfl, q1, v2, r2, rfl, q2, v3, r3, rfl, q3, v4, r4, rfl, q4, v5, rfl, q5⟩
      cases q4
      exact p_ruleNew (K.keeps k.fk) k.fh rm'.mono q1 q2 q3 q5
end
end Mine
end
section
open PySem PySem.W PyProof.Rows PySem.Calls
set_option Elab.async false
set_option linter.unusedVariables false
set_option linter.unusedSectionVars false
namespace Mine
section
variable {α β γ : Type} {w : World} {A : Around} {env : Env} {f h : Heap} {T : Ty α} {U : Ty β} {V : Ty γ} {M₀ : Addr → Prop} {f₀ h₀ : Heap} {own pre post : Own} {mm : Vars} {Q : Flow → Shared → Prop} {rest : List Stmt} {g : Array GenState} {d : Drawn} {tk : Nat} {os : OsState} {a : α} {b : β} {c : γ}
theorem FS.tup (F : FS M₀ f₀ h₀ env own f h mm) (o : Obj) : FS M₀ f₀ h₀ env own f (h.push o) mm := F.grow (.push F.ext.fh)
theorem FS.extBut {h' : Heap} (F : FS M₀ f₀ h₀ env own f h mm) (he : Heap.ExtBut h.objs.size h h') : FS M₀ f₀ h₀ env own f h' mm := F.grow (.grown F.ext.fh fun b o z => he b o (Nat.ne_of_lt (Heap.lt_size z)) z)
/-- x, y, z = [], [], [] -/
theorem st_own3 {x1 x2 x3 : Str} {p1 p2 p3 l1 l2 l3 tp tp2 pos : Pos} {k1 k2 : Nat} (hh : A.handled = none) (W : Frm env) (F : FS M₀ f₀ h₀ env own f h mm) (q1 : Kind env x1) (q2 : Kind env x2) (q3 : Kind env x3)
    (k : ∀ h' tk' a1 a2 a3, h.get? a1 = none → h.get? a2 = none → h.get? a3 = none → a1 ≠ a2 → a1 ≠ a3 → a2 ≠ a3 → FS M₀ f₀ h₀ env ((a1, listOf #[] 0) :: (a2, listOf #[] 0) :: (a3, listOf #[] 0) :: own) f h' (((mm.set x3 (.ref a3)).set x2 (.ref a2)).set x1 (.ref a1)) → wpAny (model PP w) A (execs rest env) Q NoE ⟨h', g, d, tk', os⟩)
    (hs : swapsWithSole [.Tuple [.Name x1 p1, .Name x2 p2, .Name x3 p3] k1 tp] (.Tuple [.List [] l1, .List [] l2, .List [] l3] k2 tp2) pos.line env = pure false := by rfl)
    (hw : swappedStores [.Tuple [.Name x1 p1, .Name x2 p2, .Name x3 p3] k1 tp] (.Tuple [.List [] l1, .List [] l2, .List [] l3] k2 tp2) env = pure (some [x1, x2, x3]) := by rfl) :
    wpAny (model PP w) A (execs (.Assign [.Tuple [.Name x1 p1, .Name x2 p2, .Name x3 p3] k1 tp] (.Tuple [.List [] l1, .List [] l2, .List [] l3] k2 tp2) pos :: rest) env) Q NoE ⟨h, g, d, tk, os⟩ := by
  refine wpAny_execs_cons (Assign_Tuple_swapped ?_ hs hw)
  have F1 := F.push (o := listOf #[] 0) rfl
  have F2 := F1.push (o := listOf #[] 0) rfl
  have F3 := F2.push (o := listOf #[] 0) rfl
  have z1 := size_none h
  have z2 := size_none (h.push (listOf #[] 0))
  have z3 := size_none ((h.push (listOf #[] 0)).push (listOf #[] 0))
  have s2 : (h.push (listOf #[] 0)).objs.size = h.objs.size + 1 := Heap.size_push ..
  have s3 : ((h.push (listOf #[] 0)).push (listOf #[] 0)).objs.size = h.objs.size + 2 := by rw [Heap.size_push, s2]
  refine Tuple_ (spliced_cons (new_list h g d tk os _ (spliced_cons (new_list _ g d tk os _ (spliced_cons (new_list _ g d tk os _ (spliced_nil ?_)))))))
  refine wpAny_newObj_type ?_ (by size_fits)
  have F4 := F3.tup ⟨.type "tuple", none, .seq #[.ref h.objs.size, .ref (h.push (listOf #[] 0)).objs.size, .ref ((h.push (listOf #[] 0)).push (listOf #[] 0)).objs.size] 0, #[]⟩
  refine unpackItems_tuple (items := #[.ref h.objs.size, .ref (h.push (listOf #[] 0)).objs.size, .ref ((h.push (listOf #[] 0)).push (listOf #[] 0)).objs.size]) (s := ⟨_, g, d, tk, os⟩) hh ⟨_, Heap.get?_push_size _ rfl, rfl, 0, rfl⟩ fun h5 he5 => ?_
  have F5 := F4.extBut he5
  have up1 : h.StaysIn (h.push (listOf #[] 0)) := fun b o e => Heap.get?_push_of_some _ e
  have up2 : h.StaysIn ((h.push (listOf #[] 0)).push (listOf #[] 0)) := fun b o e => Heap.get?_push_of_some _ (up1 b o e)
  have z2' : h.get? (h.push (listOf #[] 0)).objs.size = none := by
    cases q : h.get? (h.push (listOf #[] 0)).objs.size with
    | none => rfl
    | some o => rw [up1 _ _ q] at z2; cases z2
  have z3' : h.get? ((h.push (listOf #[] 0)).push (listOf #[] 0)).objs.size = none := by
    cases q : h.get? ((h.push (listOf #[] 0)).push (listOf #[] 0)).objs.size with
    | none => rfl
    | some o => rw [up2 _ _ q] at z3; cases z3
  have n12 : h.objs.size ≠ (h.push (listOf #[] 0)).objs.size := by rw [s2]; exact Nat.ne_of_lt (Nat.lt_succ_self _)
  have n13 : h.objs.size ≠ ((h.push (listOf #[] 0)).push (listOf #[] 0)).objs.size := by rw [s3]; exact Nat.ne_of_lt (Nat.lt_succ_of_lt (Nat.lt_succ_self _))
  have n23 : (h.push (listOf #[] 0)).objs.size ≠ ((h.push (listOf #[] 0)).push (listOf #[] 0)).objs.size := by rw [s3, s2]; exact Nat.ne_of_lt (Nat.lt_succ_self _)
  show wpAny _ _ (assignInOrder [bindName env x3, bindName env x2, bindName env x1] [.ref ((h.push (listOf #[] 0)).push (listOf #[] 0)).objs.size, .ref (h.push (listOf #[] 0)).objs.size, .ref h.objs.size]) _ _ _
  refine assignInOrder_cons (bindName_ (F5.store W q3 fun h6 tk6 F6 => assignInOrder_cons (bindName_ (F6.store W q2 fun h7 tk7 F7 => assignInOrder_cons (bindName_ (F7.store W q1 fun h8 tk8 F8 => wpAny_pure ?_))))))
  refine k h8 tk8 _ _ _ z1 z2' z3' n12 n13 n23 (F8.sub fun p hp => ?_)
  simp only [List.mem_cons] at hp ⊢
  rcases hp with h | h | h | h
  · exact .inr (.inr (.inl h))
  · exact .inr (.inl h)
  · exact .inl h
  · exact .inr (.inr (.inr h))
/-- x, y, z = e1, e2, e3 -/
theorem st_assign3 {x1 x2 x3 : Str} {p1 p2 p3 tp tp2 pos : Pos} {k1 k2 : Nat} {e1 e2 e3 : Expr} (hh : A.handled = none) (W : Frm env) (F : FS M₀ f₀ h₀ env own f h mm) (q1 : Kind env x1) (q2 : Kind env x2) (q3 : Kind env x3)
    (he1 : Es w A env e1 f h T a) (he2 : Es w A env e2 f h U b) (he3 : Es w A env e3 f h V c)
    (k : ∀ f' h' g' d' tk' u1 u2 u3, f.StaysIn f' → Gx g g' → T.is f' a u1 → U.is f' b u2 → V.is f' c u3 → FS M₀ f₀ h₀ env own f' h' (((mm.set x3 u3).set x2 u2).set x1 u1) → wpAny (model PP w) A (execs rest env) Q NoE ⟨h', g', d', tk', os⟩)
    (hse : starEach [e1, e2, e3] env = (false, eval e1 env) :: starEach [e2, e3] env := by rfl) (hse2 : starEach [e2, e3] env = (false, eval e2 env) :: starEach [e3] env := by rfl) (hse3 : starEach [e3] env = (false, eval e3 env) :: starEach [] env := by rfl)
    (hs : swapsWithSole [.Tuple [.Name x1 p1, .Name x2 p2, .Name x3 p3] k1 tp] (.Tuple [e1, e2, e3] k2 tp2) pos.line env = pure false := by rfl)
    (hw : swappedStores [.Tuple [.Name x1 p1, .Name x2 p2, .Name x3 p3] k1 tp] (.Tuple [e1, e2, e3] k2 tp2) env = pure (some [x1, x2, x3]) := by rfl) :
    wpAny (model PP w) A (execs (.Assign [.Tuple [.Name x1 p1, .Name x2 p2, .Name x3 p3] k1 tp] (.Tuple [e1, e2, e3] k2 tp2) pos :: rest) env) Q NoE ⟨h, g, d, tk, os⟩ := by
  refine wpAny_execs_cons (Assign_Tuple_swapped ?_ hs hw)
  refine es_tup3 he1 he2 he3 hse hse2 hse3 _ _ (.refl F.ext.fh) g d tk os _ fun h1 f1 g1 d1 tk1 v e ge t => ?_
  obtain ⟨q, u1, u2, u3, n, rfl, e', t1, t2, t3⟩ := t
  have F1 := F.grow e
  refine unpackItems_tuple (items := #[u1, u2, u3]) (s := ⟨h1, g1, d1, tk1, os⟩) hh ⟨_, F1.ext.fh _ _ e', rfl, _, rfl⟩ fun h5 he5 => ?_
  have F5 := F1.extBut he5
  show wpAny _ _ (assignInOrder [bindName env x3, bindName env x2, bindName env x1] [u3, u2, u1]) _ _ _
  refine assignInOrder_cons (bindName_ (F5.store W q3 fun h6 tk6 F6 => assignInOrder_cons (bindName_ (F6.store W q2 fun h7 tk7 F7 => assignInOrder_cons (bindName_ (F7.store W q1 fun h8 tk8 F8 => wpAny_pure ?_))))))
  exact k _ _ _ _ _ u1 u2 u3 e.fk ge t1 t2 t3 F8
/-- x, y, z = e -/
theorem st_unpack3 {x1 x2 x3 : Str} {p1 p2 p3 tp pos : Pos} {k1 : Nat} {e : Expr} (hh : A.handled = none) (W : Frm env) (F : FS M₀ f₀ h₀ env own f h mm) (q1 : Kind env x1) (q2 : Kind env x2) (q3 : Kind env x3)
    (he : Es w A env e f h (Ty.tri T U V) (a, b, c))
    (k : ∀ f' h' g' d' tk' u1 u2 u3, f.StaysIn f' → Gx g g' → T.is f' a u1 → U.is f' b u2 → V.is f' c u3 → FS M₀ f₀ h₀ env own f' h' (((mm.set x1 u1).set x2 u2).set x3 u3) → wpAny (model PP w) A (execs rest env) Q NoE ⟨h', g', d', tk', os⟩)
    (hs : swapsWithSole [.Tuple [.Name x1 p1, .Name x2 p2, .Name x3 p3] k1 tp] e pos.line env = pure false := by rfl)
    (hw : swappedStores [.Tuple [.Name x1 p1, .Name x2 p2, .Name x3 p3] k1 tp] e env = pure none := by rfl) :
    wpAny (model PP w) A (execs (.Assign [.Tuple [.Name x1 p1, .Name x2 p2, .Name x3 p3] k1 tp] e pos :: rest) env) Q NoE ⟨h, g, d, tk, os⟩ := by
  refine wpAny_execs_cons (PyProof.Rows.Assign_Tuple ?_ hs hw)
  refine he _ _ (.refl F.ext.fh) g d tk os _ fun h1 f1 g1 d1 tk1 v e ge t => ?_
  obtain ⟨q, u1, u2, u3, n, rfl, e', t1, t2, t3⟩ := t
  have F1 := F.grow e
  refine wpAny_assign_Tuple (s := ⟨h1, g1, d1, tk1, os⟩) hh (items := #[u1, u2, u3]) ⟨_, F1.ext.fh _ _ e', rfl, _, rfl⟩ rfl rfl fun h5 he5 => ?_
  have F5 := F1.extBut he5
  show wpAny _ _ (assignInOrder [assign (.Name x1 p1) env, assign (.Name x2 p2) env, assign (.Name x3 p3) env] [u1, u2, u3]) _ _ _
  refine assignInOrder_cons (wpAny_assign_Name (F5.store W q1 fun h6 tk6 F6 => assignInOrder_cons (wpAny_assign_Name (F6.store W q2 fun h7 tk7 F7 => assignInOrder_cons (wpAny_assign_Name (F7.store W q3 fun h8 tk8 F8 => wpAny_pure ?_))))))
  exact k _ _ _ _ _ u1 u2 u3 e.fk ge t1 t2 t3 F8
/-- x, y = {}, {} -/
theorem st_own2 {x1 x2 : Str} {p1 p2 l1 l2 tp tp2 pos : Pos} {k1 k2 : Nat} (hh : A.handled = none) (W : Frm env) (F : FS M₀ f₀ h₀ env own f h mm) (q1 : Kind env x1) (q2 : Kind env x2)
    (k : ∀ h' tk' a1 a2, h.get? a1 = none → h.get? a2 = none → a1 ≠ a2 → FS M₀ f₀ h₀ env ((a1, emptyDict) :: (a2, emptyDict) :: own) f h' ((mm.set x1 (.ref a1)).set x2 (.ref a2)) → wpAny (model PP w) A (execs rest env) Q NoE ⟨h', g, d, tk', os⟩)
    (hs : swapsWithSole [.Tuple [.Name x1 p1, .Name x2 p2] k1 tp] (.Tuple [.Dict [] [] l1, .Dict [] [] l2] k2 tp2) pos.line env = pure false := by rfl)
    (hw : swappedStores [.Tuple [.Name x1 p1, .Name x2 p2] k1 tp] (.Tuple [.Dict [] [] l1, .Dict [] [] l2] k2 tp2) env = pure none := by rfl) :
    wpAny (model PP w) A (execs (.Assign [.Tuple [.Name x1 p1, .Name x2 p2] k1 tp] (.Tuple [.Dict [] [] l1, .Dict [] [] l2] k2 tp2) pos :: rest) env) Q NoE ⟨h, g, d, tk, os⟩ := by
  refine wpAny_execs_cons (PyProof.Rows.Assign_Tuple ?_ hs hw)
  have F1 := F.push (o := emptyDict) rfl
  have F2 := F1.push (o := emptyDict) rfl
  have z1 := size_none h
  have z2 := size_none (h.push emptyDict)
  have s2 : (h.push emptyDict).objs.size = h.objs.size + 1 := Heap.size_push ..
  refine Tuple_ (spliced_cons (new_dict h g d tk os _ (spliced_cons (new_dict _ g d tk os _ (spliced_nil ?_)))))
  refine wpAny_newObj_type ?_ (by size_fits)
  have F4 := F2.tup ⟨.type "tuple", none, .seq #[.ref h.objs.size, .ref (h.push emptyDict).objs.size] 0, #[]⟩
  refine wpAny_assign_Tuple (items := #[.ref h.objs.size, .ref (h.push emptyDict).objs.size]) (s := ⟨_, g, d, tk, os⟩) hh ⟨_, Heap.get?_push_size _ rfl, rfl, 0, rfl⟩ rfl rfl fun h5 he5 => ?_
  have F5 := F4.extBut he5
  have up1 : h.StaysIn (h.push emptyDict) := fun b o e => Heap.get?_push_of_some _ e
  have z2' : h.get? (h.push emptyDict).objs.size = none := by
    cases q : h.get? (h.push emptyDict).objs.size with
    | none => rfl
    | some o => rw [up1 _ _ q] at z2; cases z2
  have n12 : h.objs.size ≠ (h.push emptyDict).objs.size := by rw [s2]; exact Nat.ne_of_lt (Nat.lt_succ_self _)
  show wpAny _ _ (assignInOrder [assign (.Name x1 p1) env, assign (.Name x2 p2) env] [.ref h.objs.size, .ref (h.push emptyDict).objs.size]) _ _ _
  refine assignInOrder_cons (wpAny_assign_Name (F5.store W q1 fun h6 tk6 F6 => assignInOrder_cons (wpAny_assign_Name (F6.store W q2 fun h7 tk7 F7 => wpAny_pure ?_))))
  refine k h7 tk7 _ _ z1 z2' n12 (F7.sub fun p hp => ?_)
  simp only [List.mem_cons] at hp ⊢
  rcases hp with h | h | h
  · exact .inr (.inl h)
  · exact .inl h
  · exact .inr (.inr h)
end
end Mine
end
section
open PySem PySem.W PyProof.Rows PySem.Calls
set_option Elab.async false
set_option linter.unusedVariables false
set_option linter.unusedSectionVars false
namespace Mine
/-- the rows of a dict by law symbols -/
structure LawRows (f : Heap) (P : Heap → Sy → Value → Prop) (xs : List (Row Sy)) (ks : List Sy) : Prop where
  key : ∀ x ∈ xs, Ty.law.is f x.1 x.2.1
  val : ∀ x ∈ xs, P f x.1 x.2.2
  keys : xs.map (·.1) = ks
  nodup : ks.Nodup
section
variable {α β γ : Type} {w : World} {A : Around} {env : Env} {f f' h h' : Heap} {T : Ty α} {U : Ty β} {M₀ : Addr → Prop} {f₀ h₀ : Heap} {own pre post : Own} {mm : Vars} {P : Heap → Sy → Value → Prop} {xs : List (Row Sy)} {ks syms : List Sy} {g : Array GenState} {d : Drawn} {tk : Nat} {os : OsState} {D : Addr} {ep : Nat}
theorem symDic_law (xs : List (Row Sy)) (ep : Nat) : symDic w xs ep = dicO (lawKind w f) xs ep := rfl
theorem LawRows.mono (R : LawRows f P xs ks) (k : f.StaysIn f') (p : ∀ x v, P f x v → P f' x v) : LawRows f' P xs ks := ⟨fun x hx => Ty.mono _ k (R.key x hx), fun x hx => p _ _ (R.val x hx), R.keys, R.nodup⟩
theorem LawRows.len (R : LawRows f P xs ks) : xs.length = ks.length := by rw [← R.keys, List.length_map]
theorem LawRows.keysIn (R : LawRows f P xs ks) : KeysIn (lawKind w f) xs := ⟨R.key, fun x hx => let ⟨a, _, _, _, e, _⟩ := R.key x hx; ⟨a, e⟩, by rw [R.keys]; exact R.nodup⟩
theorem LawRows.put {x : Sy} {a : Addr} {v : Value} (R : LawRows f P xs ks) (hx : Ty.law.is f x (.ref a)) (hv : P f x v) : LawRows f P (putRow xs x (.ref a) v) (addKey ks x) := by
  unfold putRow addKey
  cases q : placeOf xs x with
  | none =>
    have hn : x ∉ xs.map (·.1) := placeOf_none_iff.mp q
    rw [R.keys] at hn
    rw [if_neg (by rw [has_not.mpr hn]; simp)]
    refine ⟨fun y hy => ?_, fun y hy => ?_, by rw [List.map_append, R.keys]; rfl, ?_⟩
    · rcases List.mem_append.mp hy with h | h
      · exact R.key y h
      · simp at h; subst h; exact hx
    · rcases List.mem_append.mp hy with h | h
      · exact R.val y h
      · simp at h; subst h; exact hv
    · exact List.nodup_append.mpr ⟨R.nodup, by simp, fun b hb c hc e => by simp at hc; subst hc; subst e; exact hn hb⟩
  | some j =>
    have hn : x ∈ ks := by
      refine Classical.byContradiction fun z => ?_
      rw [← R.keys, ← placeOf_none_iff, q] at z; cases z
    rw [if_pos (has_iff.mpr hn)]
    refine ⟨fun y hy => ?_, fun y hy => ?_, by rw [keys_setRow, R.keys], R.nodup⟩
    · obtain ⟨z, hz, rfl⟩ := List.mem_map.mp hy
      rw [(setRow_key x v z).1, (setRow_key x v z).2]
      exact R.key z hz
    · obtain ⟨z, hz, rfl⟩ := List.mem_map.mp hy
      unfold setRow
      split
      · rename_i e; subst e; exact hv
      · exact R.val z hz
theorem LawRows.at {x : Sy} (R : LawRows f P xs ks) (hx : x ∈ ks) : ∃ v, valAtRow xs x = some v ∧ P f x v := by
  have h := valAtRow_has (x := x) R.keys
  rw [has_iff.mpr hx] at h
  obtain ⟨v, hv⟩ := Option.isSome_iff_exists.mp h
  refine ⟨v, hv, ?_⟩
  unfold valAtRow at hv
  obtain ⟨j, e1, e2⟩ := Option.bind_eq_some_iff.mp hv
  obtain ⟨y, e3, e4⟩ := placeOf_get e1
  rw [e3] at e2
  cases e2
  rw [← e4]
  exact R.val y (List.mem_of_getElem? e3)
/-- a dict from law symbols -/
def Ty.ltab (w : World) (T : Ty α) (syms : List Sy) : Ty (Sy → α) := ⟨fun f F v => ∃ d xs ep, v = .ref d ∧ f.get? d = some (symDic w xs ep) ∧ LawRows f (fun f x v => T.is f (F x) v) xs syms,
  fun k ⟨d, xs, ep, e, g, R⟩ => ⟨d, xs, ep, e, k _ _ g, R.mono k fun x v t => Ty.mono _ k t⟩⟩
theorem es_ltab {e k' : Expr} {pos : Pos} {x : Sy} {G : Sy → α} (rm : Rm A 200) (he : Es w A env e f h (Ty.ltab w T syms) G) (hk : Es w A env k' f h Ty.law x) (hx : x ∈ syms)
    (hs : ∀ o v, subscripted k' false o v = operate [o, v] (getItem o v) ∨ subscripted k' false o v = operate [v, o] (getItem o v) := by intro _ _; first | exact .inl rfl | exact .inr rfl) :
    Es w A env (.Subscript e k' pos) f h T (G x) :=
  es_sub he hk ty_dict (fun f' h' u k t' g d tk os => by
    obtain ⟨dd, xs, ep, rfl, e, R⟩ := t'
    exact ⟨_, k.fh _ _ e, rfl⟩) (fun f' h' u v k t' ti g d tk os Q hq => by
    obtain ⟨dd, xs, ep, rfl, e, R⟩ := t'
    obtain ⟨v', hv, tv⟩ := R.at hx
    obtain ⟨b, u1, u2, n, rfl, e1⟩ := id ti
    refine dicItem (K := lawKind w f') (xs := xs) (ep := ep) (s := ⟨h', g, d, tk, os⟩) (by show 0 + 1 ≤ 8; omega) (by have := rm.units; have : cLine = 9900 := rfl; show A.units + 1 + 10 * (0 + 1) < _; omega) k.fh ti (k.fh _ _ e) R.keysIn hv fun tk' => ?_
    exact hq _ f' g _ _ _ (.refl k.fh) (.refl g) tv) hs
/-- FIRST[k] of the sets -/
theorem tab_os {k' : Expr} {p1 pos : Pos} {X : Str} {x : Sy} {v : Value} {G : Sy → List Sy} (K : Ok w f) (kf : f.StaysIn h) (rm : Rm A 200) (hX : Var w env h X v) (t : (Ty.tab w syms).is f G v) (hk : Es w A env k' f h Ty.sym x) (hx : x ∈ syms)
    (hs : ∀ o v, subscripted k' false o v = operate [o, v] (getItem o v) ∨ subscripted k' false o v = operate [v, o] (getItem o v) := by intro _ _; first | exact .inl rfl | exact .inr rfl) :
    ∃ D xs ep, Es w A env (.Subscript (.Name X p1) k' pos) f h Ty.os D ∧ h.get? D = some (symDic w xs ep) ∧ SymRows f AnyV xs (G x) := by
  obtain ⟨dd, xs, ep, rfl, lo, e, R⟩ := t
  obtain ⟨v, hv, a, D, xs', ep', rfl, oa, eD, RD⟩ := valAtRow_of R hx
  refine ⟨D, xs', ep', ?_, kf _ _ eD, RD⟩
  exact es_sub (T := Ty.val) (a := .ref dd) (es_name hX rfl) hk ty_dict (fun f' h' u k t' g d tk os => by
    cases t'
    exact ⟨_, k.fh _ _ (k.fk _ _ e), rfl⟩) (fun f' h' u v k t' ti g d tk os Q hq => by
    cases t'
    obtain ⟨b, tt, rfl, n⟩ := ti
    have K' := K.keeps k.fk
    have R' := R.mono (P := fun f x v => (Ty.oset w).is f (G x) v) k.fk fun x v t => Ty.mono _ k.fk t
    refine dicItem (K := symKind K') (xs := xs) (ep := ep) (s := ⟨h', g, d, tk, os⟩) (by show 0 + 1 ≤ 8; omega) (by have := rm.units; have : cLine = 9900 := rfl; show A.units + 1 + 10 * (0 + 1) < _; omega) k.fh ⟨b, tt, rfl, n⟩ (k.fh _ _ (k.fk _ _ e)) (R'.keysIn K') hv fun tk' => ?_
    exact hq _ f' g _ _ _ (.refl k.fh) (.refl g) ⟨a, rfl, oa.mono k.fk⟩) hs
/-- x[k] = e -/
theorem st_setlaw {o i e : Expr} {pos' pos : Pos} {x : Sy} {y : α} {Q : Flow → Shared → Prop} {rest : List Stmt} (rm : Rm A 200) (F : FS M₀ f₀ h₀ env (pre ++ (D, symDic w xs ep) :: post) f h mm) (hd : ∀ p ∈ pre ++ post, p.1 ≠ D) (R : LawRows f P xs ks) (pm : ∀ f f' x v, f.StaysIn f' → P f x v → P f' x v) (hz : xs.length ≤ 1000)
    (he : Es w A env e f h T y) (ho : Es w A env o f h Ty.val (.ref D)) (hi : Es w A env i f h Ty.law x)
    (k : ∀ f' h' g' d' tk' a v ep', f.StaysIn f' → Gx g g' → T.is f' y v → Ty.law.is f' x (.ref a) → FS M₀ f₀ h₀ env (pre ++ (D, symDic w (putRow xs x (.ref a) v) ep') :: post) f' h' mm → wpAny (model PP w) A (execs rest env) Q NoE ⟨h', g', d', tk', os⟩)
    (hs : swapsWith e (some (.Subscript o i pos')) pos.line env = pure false := by rfl) : wpAny (model PP w) A (execs (.Assign [.Subscript o i pos'] e pos :: rest) env) Q NoE ⟨h, g, d, tk, os⟩ := by
  refine wpAny_execs_cons (wpAny_Assign_Subscript ?_ hs)
  refine he _ _ (.refl F.ext.fh) g d tk os _ fun h1 f1 g1 d1 tk1 v e1 ge1 t1 => ?_
  refine (ho.keeps e1) _ _ (.refl e1.fh) g1 d1 tk1 os _ fun h2 f2 g2 d2 tk2 u1 e2 ge2 t2 => ?_
  cases t2
  refine (hi.keeps e1) _ _ e2 g2 d2 tk2 os _ fun h3 f3 g3 d3 tk3 u2 e3 ge3 t3 => ?_
  obtain ⟨a, u, u', n, rfl, q⟩ := id t3
  have e13 := (e1.trans e2).trans e3
  have F3 := F.grow e13
  refine dicStore (K := lawKind w f3) (xs := xs) (ep := ep) (s := ⟨h3, g3, d3, tk3, os⟩) (by show 0 + 1 ≤ 8; omega) (by have := rm.units; have : cLine = 9900 := rfl; show A.units + 1 + 10 * (0 + 1) < _; omega) F3.ext.fh t3 (F3.own (D, symDic w xs ep) (by simp)).1 (R.mono e13.fk fun x v p => pm _ _ x v e13.fk p).keysIn hz fun h4 tk4 ep4 e4 s4 => ?_
  exact k f3 h4 g3 d3 tk4 a v ep4 e13.fk ((ge1.trans ge2).trans ge3) (T.mono (fun b o q => e3.fk _ _ (e2.fk b o q)) t1) t3 (F3.write (fun b o n e => s4.extBut b o n e) e4 hd)
/-- a dict that is owned, looked at as frozen -/
theorem owned_ltab {F' : Sy → α} (F : FS M₀ f₀ h₀ env (pre ++ (D, symDic w xs ep) :: post) f h mm) (R : LawRows f (fun f x v => T.is f (F' x) v) xs ks) : (Ty.ltab w T ks).is (addTo f h (· == D)) F' (.ref D) := by
  have up := addTo_up (P := (· == D)) F.ext.fh
  refine ⟨D, xs, ep, rfl, ?_, R.mono up fun x v t => Ty.mono _ up t⟩
  rw [addTo_get F.ext.fh, if_pos (by simp)]
  exact (F.own (D, symDic w xs ep) (by simp)).1
abbrev emitD (kx vx : Expr) (acc : Value) (env : Env) : Sem Unit := do
  let kv ← eval kx env
  let vv ← holding [kv] (eval vx env)
  match acc with
  | .ref d => do
    standAt { kx.pos with endLine := vx.pos.endLine, endCol := vx.pos.endCol }
    holding [kv, vv] (dictSet d kv vv)
  | _ => unsupported "internal:dictcomp"
theorem turn_dict {kx vx target iter : Expr} {ifs : List Expr} {scope : Scope} {pos : Pos} {it acc : Value} {env : Env} :
    compTurn (.DictComp kx vx [⟨target, iter, ifs, 0⟩] scope pos) 0 it acc env = turnOf iter.pos target ifs (emitD kx vx acc env) (.compLoop (.DictComp kx vx [⟨target, iter, ifs, 0⟩] scope pos) 0 it acc env) it env := rfl
theorem eval_DictComp' (kx vx gens scope pos) : eval (.DictComp kx vx gens scope pos) env = comprehension (.DictComp kx vx gens scope pos) scope env (firstIterPos gens pos) newDict (firstAsync gens) (firstIter gens env) := rfl
/-- the dict that grows -/
def GrowD (w : World) (U : Ty β) (fn : Sy → β) (D : Addr) (ks : List Sy) (f h : Heap) : Prop := ∃ xs ep, h.get? D = some (symDic w xs ep) ∧ LawRows f (fun f x v => U.is f (fn x) v) xs ks
theorem GrowD.keep {fn : Sy → β} {D : Addr} (x : GrowD w U fn D ks f h) (k : ∀ o, h.get? D = some o → h'.get? D = some o) (k' : f.StaysIn f') : GrowD w U fn D ks f' h' := let ⟨xs, ep, a, b⟩ := x; ⟨xs, ep, k _ a, b.mono k' fun _ _ t => Ty.mono _ k' t⟩
theorem emits_dict {C D : Addr} {kx vx : Expr} {fn : Sy → β} {x : Sy} {m : Str → Option Value} (rm : Rm A 200) (DC : D ≠ C) (hn : h.Ns C m) (fC : f.get? C = none) (fD : f.get? D = none) (hg : GrowD w U fn D ks f h) (hz : ks.length ≤ 1000) (kf : f.StaysIn h)
    (hk : Es w A env kx f h Ty.law x) (hv : Es w A env vx f h U (fn x)) : Emits w A C D (emitD kx vx (.ref D) env) f h fun f' h' => h'.get? D ≠ none ∧ GrowD w U fn D (addKey ks x) f' h' := fun g d tk os Q hq => by
  refine wpAny_bind (hk _ _ (.refl kf) g d tk os _ fun h1 f1 g1 d1 tk1 v1 e1 ge1 t1 => wpAny_bind (wpAny_holding (hv _ _ e1 g1 d1 tk1 os _ fun h2 f2 g2 d2 tk2 v2 e2 ge2 t2 => ?_)))
  have e12 := e1.trans e2
  obtain ⟨xs, ep, a, b⟩ := hg.keep (fun o e => e12.hk D o (fun z => z) e) e12.fk
  have D2 := e12.new D (fun z => z) (let ⟨ys, n, a, b⟩ := hg; get_ne a) fD
  have t1 := Ty.mono _ e2.fk t1
  obtain ⟨ka, u, u', n, rfl, q⟩ := id t1
  refine wpAny_bind (wpAny_standAt (wpAny_holding ?_))
  refine dicSet (K := lawKind w f2) (xs := xs) (ep := ep) (s := ⟨h2, g2, d2, tk2, os⟩) (by show 0 + 1 ≤ 8; omega) (by have := rm.units; have : cLine = 9900 := rfl; show A.units + 10 * (0 + 1) < _; omega) e12.fh t1 a b.keysIn (by rw [b.len]; exact hz) fun h3 tk3 ep3 e3 s3 => ?_
  have e3' : Ext (· = D) f2 h2 f2 h3 := .heap e12.fh (fun b o n e => s3.extBut b o n e) fun b z => z ▸ D2
  exact hq _ f2 _ _ _ m ((e12.up (M := CD C D)).trans (e3'.mono fun b _ z => .inr z)) (ge1.trans ge2) (Keep.ns e3'.hk DC.symm (Keep.ns e12.hk (fun z => z) hn)) (e12.new C (fun z => z) (Ns.ne hn) fC) D2 ⟨get_ne e3, _, ep3, e3, b.put t1 t2⟩
theorem es_dictcomp {old : Addr → Prop} {kx vx tgt iter : Expr} {scope : Scope} {cl : List (Str × Addr)} {pos : Pos} {ks : List Sy} (rm : Rm A 200) (fn : Sy → β) (B : Heap → Sy → (Str → Option Value) → Prop)
    (hclos : closureFor scope env = pure cl) (hi : Itr w A env tgt iter f h old Ty.law ks) (tk_ : ∀ C, Takes w A tgt (compEnvC scope cl C env) Ty.law B) (hz : ks.length ≤ 1000) (nd : ks.Nodup)
    (hkey : ∀ C f' h' m x, x ∈ ks → Ext Nil f h f' h' → h'.Ns C m → B f' x m → Es w A (compEnvC scope cl C env) kx f' h' Ty.law x)
    (hval : ∀ C f' h' m x, x ∈ ks → Ext Nil f h f' h' → h'.Ns C m → B f' x m → Es w A (compEnvC scope cl C env) vx f' h' U (fn x))
    (hcell : ∀ x ∈ scope.names, x.2 ≠ .cell := by decide) (hkind : scope.kind = .function := by rfl) (hnames : ∀ x ∈ scope.names, x.2 = .local → scope.names.lookup x.1 = some .local := by decide)
    (hs : ∀ x, foldedSetIterable iter env x = pure x := by intro _; rfl) :
    Es w A env (.DictComp kx vx [⟨tgt, iter, [], 0⟩] scope pos) f h (Ty.ltab w U ks) fn := fun f₁ h₁ k g d tk os Q hq => by
  rw [eval_DictComp']
  refine wpAny_comprehension_free (use := none) rfl hs hclos hkind hnames ?_
  refine hi f₁ h₁ k g d tk os _ fun h2 f2 g2 d2 tk2_ it I fp wr e2 st wrN fpN => ?_
  refine wpAny_newObj_type ?_ (by size_fits)
  have zD : h₁.get? h2.objs.size = none := fresh_up e2.stays
  generalize hH : h2.push _ = H
  have hHs : H.objs.size = h2.objs.size + 1 := by rw [← hH, Heap.size_push]
  have up : h2.StaysIn H := fun b o e => hH ▸ Heap.get?_push_of_some _ e
  have gD : H.get? h2.objs.size = some emptyDict := hH ▸ Heap.get?_push_size _ rfl
  have zC : h₁.get? H.objs.size = none := fresh_up fun b o e => up _ _ (e2.stays _ _ e)
  refine comp_frame (Q := fun cenv s₄ => codeAny (model PP w) A (.compStart (.DictComp kx vx [⟨tgt, iter, [], 0⟩] scope pos) 0 it (.ref h2.objs.size) cenv) (compPost (model PP w) A NoE none Q (.ref h2.objs.size) cenv.locals) s₄) hcell hkind fun h3 tk3 n3 k3 => ?_
  dsimp only at n3 k3 ⊢
  generalize hC : H.objs.size = C at n3 zC
  generalize hD : h2.objs.size = D at gD zD
  have DC : D ≠ C := by rw [← hC, ← hD, hHs]; exact Nat.ne_of_lt (Nat.lt_succ_self _)
  have hD2 : h2.get? D = none := hD ▸ size_none h2
  have hC2 : h2.get? C = none := by
    cases q : h2.get? C with
    | none => rfl
    | some o => have := up _ _ q; rw [← hC, size_none] at this; cases this
  have dn : ∀ {b}, h2.get? b = none → f2.get? b = none := fun {b} z => by
    cases q : f2.get? b with
    | none => rfl
    | some o => rw [e2.fh _ _ q] at z; cases z
  have gD3 := k3 _ _ gD
  have st3 : I.St 0 fp wr f2 h3 g2 := I.keep st (fun b o z e => k3 _ _ (up _ _ e)) (fun _ _ e => e) (fun _ _ e => e) (.refl _)
  have e3 : Ext Nil f₁ h₁ f2 h3 := e2.trans (.grown e2.fh fun b o e => k3 _ _ (up _ _ e))
  have cdn : ∀ b, CD C D b → h₁.get? b = none := fun b z => z.elim (fun q => q ▸ zC) fun q => q ▸ zD
  have loop : codeAny (model PP w) A (.compLoop (.DictComp kx vx [⟨tgt, iter, [], 0⟩] scope pos) 0 it (.ref D) (compEnvC scope cl C env)) (compPost (model PP w) A NoE none Q (.ref D) C) ⟨h3, g2, d2, tk3, os⟩ := by
    refine compRun (env := compEnvC scope cl C env) I (fun _ => true) (fun i f' h' => GrowD w U fn D (ks.take i) f' h') B rfl rfl rfl turn_dict e3.up st3 DC wrN (fun z => I.live st _ z hC2) (fun z => I.live st _ z hD2) n3 (dn hC2) (dn hD2) (get_ne gD3)
      ⟨[], 0, gD3, ⟨by simp, by simp, rfl, by simp⟩⟩ (fun i f h f' h' x k k' => x.keep k k') (tk_ C) (fun i f' h' m x hx e n b => tests_nil e.fh) (fun i f h y hy hp => by simp at hp) ?_ ?_
    · intro i f' h' m x hx _ e n b fC fD lD hP
      have hmem := List.mem_of_getElem? hx
      have ex := k.trans (e.drop cdn)
      have out := take_out nd hx
      have := emits_dict (env := compEnvC scope cl C env) (x := x) rm DC n fC fD hP (by have := List.length_take_le' i ks; omega) e.fh (hkey C f' h' m x hmem ex n b) (hval C f' h' m x hmem ex n b)
      rw [addKey_new out, ← take_step hx] at this
      exact this
    · intro h' f' g' d' tk' m' e ge n fC fD lD hP
      obtain ⟨zs, nn, a, b⟩ := hP
      rw [List.take_length] at b
      obtain ⟨q1, q2, q3, q4⟩ := (e.drop cdn).freeze1 a zD
      exact ⟨m', n, fun h'' s'' => hq h'' _ g' d' tk' _ (q1.step (Ext.heap (M := (· = C)) q1.fh (fun b o n e => s''.extBut b o n e) (fun b z => by subst z; exact (q4 _ DC.symm).trans fC)) fun b z => z ▸ zC) ge ⟨D, zs, nn, rfl, q2, b.mono q3 fun _ _ t => Ty.mono _ q3 t⟩⟩
  subst hD hC
  exact compStarts rfl rfl rfl rfl rfl (fun _ => rfl) (I.self st3 ⟨rfl, rfl⟩) loop
end
end Mine
end
section
open PySem PySem.W PyProof.Rows PySem.Calls
set_option Elab.async false
set_option linter.unusedVariables false
set_option linter.unusedSectionVars false
namespace Mine
theorem pick_all {α : Type} (l : List α) : pick l none none none = l := by
  rw [pick_nn l none none (fun i e => nomatch e) (fun i e => nomatch e)]
  unfold cut; simp [from0, upto]
theorem pick_to {α : Type} (l : List α) (n : Nat) : pick l none (some (n : Int)) none = l.take n := by
  rw [pick_nn l none (some (n : Int)) (fun i e => nomatch e) (fun i e => by cases e; omega)]
  unfold cut; simp [from0, upto]
theorem pick_rev {α : Type} (l : List α) : pick l none none (some (-1)) = l.reverse := by
  unfold pick sliceBounds sliceRange
  simp only [Option.getD_some]
  have h1 : ¬ ((-1 : Int) > 0) := by omega
  simp only [h1, if_false]
  have hc : (if ((l.length : Int) - 1 > -1) then ((l.length : Int) - 1 - -1 - -1 - 1) / (- -1) else 0).toNat = l.length := by
    split
    · have : ((l.length : Int) - 1 - -1 - -1 - 1) = l.length := by omega
      rw [this]; simp
    · rename_i h
      have : l.length = 0 := by omega
      simp [this]
  rw [hc]
  refine List.ext_getElem? fun i => ?_
  by_cases hi : i < l.length
  · have key : ∀ n : Nat, n ≤ l.length → (((List.range n).map fun (k : Nat) => ((l.length : Int) - 1 + -1 * (k : Int)).toNat).filterMap (l[·]?)) = l.reverse.take n := by
      intro n
      induction n with
      | zero => intro _; simp
      | succ n ih =>
        intro hn
        rw [List.range_succ, List.map_append, List.filterMap_append, ih (by omega), List.take_add_one]
        congr 1
        have e1 : ((l.length : Int) - 1 + -1 * (n : Int)).toNat = l.length - 1 - n := by omega
        simp only [List.map_cons, List.map_nil, e1]
        rw [List.getElem?_reverse (by omega)]
        cases h : l[l.length - 1 - n]? <;> simp [h]
    rw [key l.length (Nat.le_refl _), List.take_of_length_le (by simp)]
  · have : l.reverse[i]? = none := by rw [List.getElem?_eq_none]; simp; omega
    rw [this, List.getElem?_eq_none]
    refine Nat.le_trans (List.length_filterMap_le _ _) ?_
    simp; omega
section
variable {α β γ : Type} {w : World} {A : Around} {env : Env} {f h : Heap} {T : Ty α} {U : Ty β} {V : Ty γ}
theorem es_neg1 {k' : Nat} {p pos : Pos} : Es w A env (.UnaryOp .USub (.Constant (.int 1) k' p) pos) f h .int (-1) := fun f₁ h₁ k g d tk os Q hq => by
  refine wpAny_UnaryOp (wpAny_Constant_int (neg_int ?_))
  exact hq _ f₁ g _ _ _ (.refl k.fh) (.refl g) ⟨_, rfl⟩
theorem es_ints5 {a b c d' e' : Int} {k1 k2 k3 k4 k5 : Nat} {p1 p2 p3 p4 p5 pos : Pos} : Es w A env (.List [.Constant (.int a) k1 p1, .Constant (.int b) k2 p2, .Constant (.int c) k3 p3, .Constant (.int d') k4 p4, .Constant (.int e') k5 p5] pos) f h (.list .int) [a, b, c, d', e'] := fun f₁ h₁ k g d tk os Q hq => by
  have y := argsS (w := w) (A := A) (env := env) (f := f) (h := h) (T := .int) (a := a) (es_int (k' := k1) (pos := p1)) (argsS (T := .int) (a := b) (es_int (k' := k2) (pos := p2)) (argsS (T := .int) (a := c) (es_int (k' := k3) (pos := p3)) (argsS (T := .int) (a := d') (es_int (k' := k4) (pos := p4)) (argsS (T := .int) (a := e') (es_int (k' := k5) (pos := p5)) args0))))
  refine List_ (y _ _ k g d tk os _ (fun h' f' g' d' tk' vs e ge r => ?_) pos)
  obtain ⟨v1, _, rfl, r1, v2, _, rfl, r2, v3, _, rfl, r3, v4, _, rfl, r4, v5, _, rfl, r5, rfl⟩ := r
  refine does_new (f := f') (R := fun f'' v => (Ty.list Ty.int).is f'' [a, b, c, _, e'] v) e.fh rfl (fun g d tk os Q hq => wpAny_newObj_type hq (by size_fits)) (fun f'' kk gt => ⟨_, #[v1, v2, v3, v4, v5], 0, rfl, gt, .cons r1 (.cons r2 (.cons r3 (.cons r4 (.cons r5 .nil))))⟩) g' d' tk' os Q ?_
  exact fun h'' f'' g'' d'' tk'' v e' ge' r' => hq _ _ _ _ _ _ (e.trans e') (ge.trans ge') r'
/-- for k, (a, b) -/
theorem takes_nest {x a b : Str} {px pa pb tp tp2 : Pos} {kk k2 : Nat} {env : Env} (hh : A.handled = none) (hxa : x ≠ a) (hxb : x ≠ b) (hab : a ≠ b) (hx : env.kindOf x = some .local) (ha : env.kindOf a = some .local) (hb : env.kindOf b = some .local) (hp : (env.scope.kind == .class || (env.scope.kind == .module && env.locals != env.globals)) = false) :
    Takes w A (.Tuple [.Name x px, .Tuple [.Name a pa, .Name b pb] k2 tp2] kk tp) env (.pair T (.pair U V)) fun f y m => (∃ v, m x = some v ∧ T.is f y.1 v) ∧ (∃ v, m a = some v ∧ U.is f y.2.1 v) ∧ ∃ v, m b = some v ∧ V.is f y.2.2 v := by
  refine ⟨fun {f h m y v g d tk os Q} t k hn hq => ?_, fun k ⟨⟨v, e, t⟩, ⟨v', e', t'⟩, v'', e'', t''⟩ => ⟨⟨v, e, T.mono k t⟩, ⟨v', e', U.mono k t'⟩, v'', e'', V.mono k t''⟩⟩
  obtain ⟨q, u, u', n, rfl, e, t1, q2, u2, u2', n2, rfl, e2, t2, t3⟩ := t
  refine wpAny_assign_Tuple (s := ⟨h, g, d, tk, os⟩) hh (items := #[u, .ref q2]) ⟨_, k _ _ e, rfl, _, rfl⟩ rfl rfl fun h₁ he₁ => ?_
  have hL : env.locals ≠ h.objs.size := Nat.ne_of_lt hn.lt
  have hn₁ : h₁.Ns env.locals m := hn.at' fun o e => he₁ _ o hL e
  have up₁ : ∀ c o, h.get? c = some o → h₁.get? c = some o := fun c o e => he₁ c o (Nat.ne_of_lt (Heap.lt_size e)) e
  show wpAny _ _ (assignInOrder [assign (.Name x px) env, assign (.Tuple [.Name a pa, .Name b pb] k2 tp2) env] [u, .ref q2]) _ _ _
  refine assignInOrder_cons ?_
  refine wpAny_assign_Name (wpAny_storeName_local hx hn₁ (fun h₂ hn₂ hs₂ => ?_) hp)
  refine assignInOrder_cons ?_
  have g2 : h₂.get? q2 = some (tupleOf #[u2, u2'] n2) := hs₂.extBut _ _ (fun z => by
    have := k _ _ e2
    rw [z] at this
    obtain ⟨o, es, ep, ho, hd, _⟩ := hn
    rw [this] at ho
    cases ho
    cases hd) (up₁ _ _ (k _ _ e2))
  refine kcp_assign (s := ⟨h₂, _, _, _, _⟩) hh (T := q2) (x := u2) (y := u2') ⟨_, g2, rfl, _, rfl⟩ ha hb hp hn₂ fun h' tk' hn' hk' => ?_
  refine assignInOrder_nil ?_
  refine hq _ _ _ hn' (fun c o hc e => hk' c o hc (hs₂.extBut c o hc (up₁ c o e))) ⟨⟨u, ?_, t1⟩, ⟨u2, ?_, t2⟩, u2', ?_, t3⟩
  · simp [hxa, hxb]
  · simp [hab]
  · simp
/-- what is there, told by a law of it -/
def Ty.ex {α : Type} (P : α → Prop) (T : Ty α) : Ty Unit := ⟨fun f _ v => ∃ a, P a ∧ T.is f a v, fun k ⟨a, p, t⟩ => ⟨a, p, T.mono k t⟩⟩
section
variable {M₀ : Addr → Prop} {f₀ h₀ : Heap} {own pre post : Own} {mm : Vars} {Q : Flow → Shared → Prop} {rest : List Stmt} {g : Array GenState} {d : Drawn} {tk : Nat} {os : OsState} {D : Addr} {xs : List (Row Sy)} {ks : List Sy} {ep : Nat}
/-- x, y, z = e -/
theorem st_unpack3E {x1 x2 x3 : Str} {p1 p2 p3 tp pos : Pos} {k1 : Nat} {e : Expr} {P : α × β × γ → Prop} (hh : A.handled = none) (W : Frm env) (F : FS M₀ f₀ h₀ env own f h mm) (q1 : Kind env x1) (q2 : Kind env x2) (q3 : Kind env x3)
    (he : Es w A env e f h (Ty.ex P (Ty.tri T U V)) ())
    (k : ∀ f' h' g' d' tk' a b c u1 u2 u3, P (a, b, c) → f.StaysIn f' → Gx g g' → T.is f' a u1 → U.is f' b u2 → V.is f' c u3 → FS M₀ f₀ h₀ env own f' h' (((mm.set x1 u1).set x2 u2).set x3 u3) → wpAny (model PP w) A (execs rest env) Q NoE ⟨h', g', d', tk', os⟩)
    (hs : swapsWithSole [.Tuple [.Name x1 p1, .Name x2 p2, .Name x3 p3] k1 tp] e pos.line env = pure false := by rfl)
    (hw : swappedStores [.Tuple [.Name x1 p1, .Name x2 p2, .Name x3 p3] k1 tp] e env = pure none := by rfl) :
    wpAny (model PP w) A (execs (.Assign [.Tuple [.Name x1 p1, .Name x2 p2, .Name x3 p3] k1 tp] e pos :: rest) env) Q NoE ⟨h, g, d, tk, os⟩ := by
  refine wpAny_execs_cons (PyProof.Rows.Assign_Tuple ?_ hs hw)
  refine he _ _ (.refl F.ext.fh) g d tk os _ fun h1 f1 g1 d1 tk1 v e ge t => ?_
  obtain ⟨⟨a, b, c⟩, hP, q, u1, u2, u3, n, rfl, e', t1, t2, t3⟩ := t
  have F1 := F.grow e
  refine wpAny_assign_Tuple (s := ⟨h1, g1, d1, tk1, os⟩) hh (items := #[u1, u2, u3]) ⟨_, F1.ext.fh _ _ e', rfl, _, rfl⟩ rfl rfl fun h5 he5 => ?_
  have F5 := F1.extBut he5
  show wpAny _ _ (assignInOrder [assign (.Name x1 p1) env, assign (.Name x2 p2) env, assign (.Name x3 p3) env] [u1, u2, u3]) _ _ _
  refine assignInOrder_cons (wpAny_assign_Name (F5.store W q1 fun h6 tk6 F6 => assignInOrder_cons (wpAny_assign_Name (F6.store W q2 fun h7 tk7 F7 => assignInOrder_cons (wpAny_assign_Name (F7.store W q3 fun h8 tk8 F8 => wpAny_pure ?_))))))
  exact k _ _ _ _ _ a b c u1 u2 u3 hP e.fk ge t1 t2 t3 F8
/-- d[k] of a dict that may yet be written -/
theorem es_ltab_own {e k' : Expr} {pos : Pos} {x : Sy} {G : Sy → α} (rm : Rm A 200) (gD : h.get? D = some (symDic w xs ep)) (R : LawRows f (fun f x v => T.is f (G x) v) xs ks) (he : Es w A env e f h Ty.val (.ref D)) (hk : Es w A env k' f h Ty.law x) (hx : x ∈ ks)
    (hs : ∀ o v, subscripted k' false o v = operate [o, v] (getItem o v) ∨ subscripted k' false o v = operate [v, o] (getItem o v) := by intro _ _; first | exact .inl rfl | exact .inr rfl) :
    Es w A env (.Subscript e k' pos) f h T (G x) :=
  es_sub he hk ty_dict (fun f' h' u k t' g d tk os => by
    cases t'
    exact ⟨_, k.stays _ _ gD, rfl⟩) (fun f' h' u v k t' ti g d tk os Q hq => by
    cases t'
    have R' : LawRows f' (fun f x v => T.is f (G x) v) xs ks := ⟨fun x hx => Ty.mono _ k.fk (R.key x hx), fun x hx => Ty.mono _ k.fk (R.val x hx), R.keys, R.nodup⟩
    obtain ⟨v', hv, tv⟩ := R'.at hx
    obtain ⟨b, u1, u2, n, rfl, e1⟩ := id ti
    refine dicItem (K := lawKind w f') (xs := xs) (ep := ep) (s := ⟨h', g, d, tk, os⟩) (by show 0 + 1 ≤ 8; omega) (by have := rm.units; have : cLine = 9900 := rfl; show A.units + 1 + 10 * (0 + 1) < _; omega) k.fh ti (k.stays _ _ gD) R'.keysIn hv fun tk' => ?_
    exact hq _ f' g _ _ _ (.refl k.fh) (.refl g) tv) hs
/-- if t: l.append(e) -/
theorem st_put {t e : Expr} {x : Str} {a : Addr} {vs : Array Value} {n : Nat} {y : α} {l : List α} {b : Bool} {p1 apos cpos epos ipos : Pos} (W : Frm env) (F : FS M₀ f₀ h₀ env (pre ++ (a, listOf vs n) :: post) f h mm) (hd : ∀ p ∈ pre ++ post, p.1 ≠ a) (hz : l.length ≤ 1000)
    (p : Pw (T.is f) l vs.toList) (hx : mm x = some (.ref a)) (hk : env.kindOf x = some .local) (ht : Ts w A env t f h b)
    (he : b = true → ∀ f' h', f.StaysIn f' → FS M₀ f₀ h₀ env (pre ++ (a, listOf vs n) :: post) f' h' mm → Es w A env e f' h' T y)
    (k : ∀ f' h' g' d' tk' vs' n', f.StaysIn f' → Gx g g' → Pw (T.is f') (l ++ if b then [y] else []) vs'.toList → FS M₀ f₀ h₀ env (pre ++ (a, listOf vs' n') :: post) f' h' mm → wpAny (model PP w) A (execs rest env) Q NoE ⟨h', g', d', tk', os⟩)
    (hdb : (x == ("__debug__" : Str)) = false := by decide)
    (hint : interactive env = false := by rfl)
    (hsw2 : swapsWith (.Call (.Attribute (.Name x p1) "append" apos) [e] [] cpos) none epos.line env = pure false := by rfl)
    (hbase : attributeBase (.Name x p1) "append" env (eval (.Name x p1) env) = eval (.Name x p1) env := by rfl)
    (hfew : ((backTo cpos (starEach [e] env)).all (fun x => !x.1) && (backToKw cpos (keywordEach [] env)).all (fun x => x.1.isSome)
      && decide (([e] : List Expr).length + ([] : List Keyword).length + (if ([] : List Keyword).isEmpty then 0 else 1) < 30)) = true := by rfl)
    (hline : (apos.endLine == cpos.line) = true := by rfl)
    (htrees : backTo cpos (starEach [e] env) = [(false, eval e env)] := by rfl) :
    wpAny (model PP w) A (execs (.If t [.Expr (.Call (.Attribute (.Name x p1) "append" apos) [e] [] cpos) epos] [] ipos :: rest) env) Q NoE ⟨h, g, d, tk, os⟩ := by
  refine st_if F ht fun f1 h1 g1 d1 tk1 k1 ge1 F1 => ?_
  cases b with
  | false => exact wpAny_execs_nil (k f1 h1 g1 d1 tk1 vs n k1 ge1 (by simpa using p.mono fun _ _ => Ty.mono _ k1) F1)
  | true =>
    have hl := p.length
    have hl2 : vs.toList.length = vs.size := Array.length_toList
    refine st_append (T := T) (y := y) W F1 (F1.var W hx hk hdb) (he rfl f1 h1 k1 F1) hd (by omega) ?_ hint hsw2 hbase hfew hline htrees
    intro f2 h2 g2 d2 tk2 v2 n2 k2 ge2 t2 F2
    refine wpAny_execs_nil ?_
    refine k f2 h2 g2 d2 tk2 (vs.push v2) n2 (fun b o e => k2 _ _ (k1 b o e)) (ge1.trans ge2) ?_ F2
    rw [Array.toList_push]
    exact Pw.append (p.mono fun _ _ q => Ty.mono _ k2 (Ty.mono _ k1 q)) (.cons t2 .nil)
end
end
end Mine
end
section
open PySem PySem.W PyProof.Rows PySem.Calls
set_option Elab.async false
set_option linter.unusedVariables false
set_option linter.unusedSectionVars false
namespace Mine
theorem Reach.imp {α : Type} {R S : α → α → Prop} (k : ∀ a b, R a b → S a b) {x y : α} (h : Reach R x y) : Reach S x y := by
  induction h with
  | refl => exact .refl
  | step _ h ih => exact .step ih (k _ _ h)
theorem Reach.iff {α : Type} {R S : α → α → Prop} (k : ∀ a b, R a b ↔ S a b) {x y : α} : Reach R x y ↔ Reach S x y := ⟨.imp fun a b => (k a b).mp, .imp fun a b => (k a b).mpr⟩
section
variable {rs rs' : List (Sy × List Sy)}
theorem Nul.sub (k : ∀ r, r ∈ rs → r ∈ rs') {z : Sy} (h : Nul rs z) : Nul rs' z := by
  induction h with
  | mk h _ ih => exact .mk (k _ h) ih
theorem R1.sub (k : ∀ r, r ∈ rs → r ∈ rs') {a b : Sy} (h : R1 rs a b) : R1 rs' a b := by
  obtain ⟨e, h1, i, h2, h3⟩ := h
  exact ⟨e, k _ h1, i, h2, fun x hx => (h3 x hx).sub k⟩
theorem R2.sub (k : ∀ r, r ∈ rs → r ∈ rs') {a b : Sy} (h : R2 rs a b) : R2 rs' a b := by
  obtain ⟨e, h1, i, h2, h3⟩ := h
  exact ⟨e, k _ h1, i, h2, fun x hx => (h3 x hx).sub k⟩
theorem Bes.sub (k : ∀ r, r ∈ rs → r ∈ rs') {a b : Sy} (h : Bes rs a b) : Bes rs' a b := by
  obtain ⟨o, e, h1, i, j, h2, h3, h4, h5⟩ := h
  exact ⟨o, e, k _ h1, i, j, h2, h3, h4, fun x hx => (h5 x hx).sub k⟩
theorem Fi.sub (k : ∀ r, r ∈ rs → r ∈ rs') {a b : Sy} (h : Fi term rs a b) : Fi term rs' a b := ⟨h.1, h.2.imp fun _ _ => .sub k⟩
theorem Fo.sub (k : ∀ r, r ∈ rs → r ∈ rs') {a b : Sy} (h : Fo term rs a b) : Fo term rs' a b := by
  obtain ⟨one, two, h1, h2, h3⟩ := h
  exact ⟨one, two, h1.sub k, h2.imp fun _ _ => .sub k, h3.sub k⟩
/-- nothing is left of a row -/
def gone (empty l : List Sy) : Bool := decide (((l.filter fun x => !has x empty).map id) = [])
theorem gone_of {empty l : List Sy} (he : ∀ z, z ∈ empty ↔ Nul rs z) : gone empty l = true ↔ NullStr rs l := by
  unfold gone
  rw [decide_eq_true_eq, List.map_id, List.filter_eq_nil_iff]
  constructor
  · intro a x hx
    have := a x hx
    exact (he x).mp (has_iff.mp (by simpa using this))
  · intro a x hx
    rw [has_iff.mpr ((he x).mpr (a x hx))]; simp
/-- the pairs of a rule at i -/
def at1 (empty : List Sy) (r : Sy × List Sy) (i : Nat) : List (Sy × Sy) := match r.2[i]? with
  | some b => if gone empty (r.2.take i) then [(r.1, b)] else []
  | none => []
def at2 (empty : List Sy) (r : Sy × List Sy) (i : Nat) : List (Sy × Sy) := match r.2[i]? with
  | some b => if gone empty (r.2.drop (i + 1)) then [(r.1, b)] else []
  | none => []
def at3 (empty : List Sy) (e : List Sy) (i j : Nat) : List (Sy × Sy) := match e[i]?, e[j]? with
  | some a, some b => if gone empty (cut e (i + 1) j) then [(a, b)] else []
  | _, _ => []
def row1 (empty : List Sy) (r : Sy × List Sy) (n : Nat) : List (Sy × Sy) := (natsFrom 0 n).flatMap (at1 empty r)
def row2 (empty : List Sy) (r : Sy × List Sy) (n : Nat) : List (Sy × Sy) := (natsFrom 0 n).flatMap (at2 empty r)
def row3i (empty : List Sy) (e : List Sy) (i n : Nat) : List (Sy × Sy) := (natsFrom (i + 1) n).flatMap (at3 empty e i)
def row3 (empty : List Sy) (r : Sy × List Sy) (n : Nat) : List (Sy × Sy) := (natsFrom 0 n).flatMap fun i => row3i empty r.2 i (r.2.length - (i + 1))
def all1 (empty : List Sy) (rs : List (Sy × List Sy)) := rs.flatMap fun r => row1 empty r r.2.length
def all2 (empty : List Sy) (rs : List (Sy × List Sy)) := rs.flatMap fun r => row2 empty r r.2.length
def all3 (empty : List Sy) (rs : List (Sy × List Sy)) := rs.flatMap fun r => row3 empty r r.2.length
theorem nats_mem {a n x : Nat} : x ∈ natsFrom a n ↔ a ≤ x ∧ x < a + n := by
  unfold natsFrom
  simp only [List.mem_map, List.mem_range]
  constructor
  · rintro ⟨y, hy, rfl⟩; omega
  · rintro ⟨h1, h2⟩; exact ⟨x - a, by omega, by omega⟩
variable {empty : List Sy}
theorem at1_mem {r : Sy × List Sy} {i : Nat} {p : Sy × Sy} : p ∈ at1 empty r i ↔ ∃ b, r.2[i]? = some b ∧ gone empty (r.2.take i) = true ∧ p = (r.1, b) := by
  unfold at1
  cases h : r.2[i]? with
  | none => simp
  | some b =>
    dsimp only
    cases q : gone empty (r.2.take i) <;> simp
theorem at2_mem {r : Sy × List Sy} {i : Nat} {p : Sy × Sy} : p ∈ at2 empty r i ↔ ∃ b, r.2[i]? = some b ∧ gone empty (r.2.drop (i + 1)) = true ∧ p = (r.1, b) := by
  unfold at2
  cases h : r.2[i]? with
  | none => simp
  | some b =>
    dsimp only
    cases q : gone empty (r.2.drop (i + 1)) <;> simp
theorem at3_mem {e : List Sy} {i j : Nat} {p : Sy × Sy} : p ∈ at3 empty e i j ↔ ∃ a b, e[i]? = some a ∧ e[j]? = some b ∧ gone empty (cut e (i + 1) j) = true ∧ p = (a, b) := by
  unfold at3
  cases h : e[i]? with
  | none => simp
  | some a =>
    cases h' : e[j]? with
    | none => simp
    | some b =>
      dsimp only
      cases q : gone empty (cut e (i + 1) j) <;> simp
theorem all1_mem (he : ∀ z, z ∈ empty ↔ Nul rs z) {a b : Sy} : (a, b) ∈ all1 empty rs ↔ R1 rs a b := by
  unfold all1 row1 R1
  simp only [List.mem_flatMap, at1_mem, nats_mem]
  constructor
  · rintro ⟨⟨o, e⟩, hr, i, hi, b', h1, h2, h3⟩
    cases h3
    exact ⟨e, hr, i, h1, (gone_of he).mp h2⟩
  · rintro ⟨e, hr, i, h1, h2⟩
    exact ⟨(a, e), hr, i, ⟨Nat.zero_le _, by have := (List.getElem?_eq_some_iff.mp h1).1; dsimp only; omega⟩, b, h1, (gone_of he).mpr h2, rfl⟩
theorem all2_mem (he : ∀ z, z ∈ empty ↔ Nul rs z) {a b : Sy} : (a, b) ∈ all2 empty rs ↔ R2 rs a b := by
  unfold all2 row2 R2
  simp only [List.mem_flatMap, at2_mem, nats_mem]
  constructor
  · rintro ⟨⟨o, e⟩, hr, i, hi, b', h1, h2, h3⟩
    cases h3
    exact ⟨e, hr, i, h1, (gone_of he).mp h2⟩
  · rintro ⟨e, hr, i, h1, h2⟩
    exact ⟨(a, e), hr, i, ⟨Nat.zero_le _, by have := (List.getElem?_eq_some_iff.mp h1).1; dsimp only; omega⟩, b, h1, (gone_of he).mpr h2, rfl⟩
theorem all3_mem (he : ∀ z, z ∈ empty ↔ Nul rs z) {a b : Sy} : (a, b) ∈ all3 empty rs ↔ Bes rs a b := by
  unfold all3 row3 row3i Bes
  simp only [List.mem_flatMap, at3_mem, nats_mem]
  constructor
  · rintro ⟨⟨o, e⟩, hr, i, hi, j, hj, a', b', h1, h2, h3, h4⟩
    cases h4
    exact ⟨o, e, hr, i, j, by omega, h1, h2, (gone_of he).mp h3⟩
  · rintro ⟨o, e, hr, i, j, hij, h1, h2, h3⟩
    have l1 := (List.getElem?_eq_some_iff.mp h1).1
    have l2 := (List.getElem?_eq_some_iff.mp h2).1
    exact ⟨(o, e), hr, i, ⟨Nat.zero_le _, by dsimp only; omega⟩, j, ⟨by omega, by dsimp only; omega⟩, a, b, h1, h2, (gone_of he).mpr h3, rfl⟩
theorem flat_le {α β : Type} {fn : α → List β} {B : Nat} : ∀ {l : List α}, (∀ x ∈ l, (fn x).length ≤ B) → (l.flatMap fn).length ≤ l.length * B
  | [], _ => by simp
  | x :: l, h => by
    have h1 := h x (.head _)
    have h2 := flat_le (l := l) fun y hy => h y (.tail _ hy)
    rw [List.flatMap_cons, List.length_append, List.length_cons, Nat.add_mul]; omega
theorem at1_len {r : Sy × List Sy} {i : Nat} : (at1 empty r i).length ≤ 1 := by
  unfold at1
  split
  · split <;> simp
  · simp
theorem at2_len {r : Sy × List Sy} {i : Nat} : (at2 empty r i).length ≤ 1 := by
  unfold at2
  split
  · split <;> simp
  · simp
theorem at3_len {e : List Sy} {i j : Nat} : (at3 empty e i j).length ≤ 1 := by
  unfold at3
  split
  · split <;> simp
  · simp
theorem row1_len {r : Sy × List Sy} {n : Nat} (h : n ≤ 5) : (row1 empty r n).length ≤ 5 := by
  have := flat_le (B := 1) (l := natsFrom 0 n) (fn := at1 empty r) fun i _ => at1_len
  rw [natsFrom_length] at this; unfold row1; omega
theorem row2_len {r : Sy × List Sy} {n : Nat} (h : n ≤ 5) : (row2 empty r n).length ≤ 5 := by
  have := flat_le (B := 1) (l := natsFrom 0 n) (fn := at2 empty r) fun i _ => at2_len
  rw [natsFrom_length] at this; unfold row2; omega
theorem row3i_len {e : List Sy} {i n : Nat} : (row3i empty e i n).length ≤ n := by
  have := flat_le (B := 1) (l := natsFrom (i + 1) n) (fn := at3 empty e i) fun j _ => at3_len
  rw [natsFrom_length] at this; unfold row3i; omega
theorem nats_succ {a n : Nat} : natsFrom a (n + 1) = natsFrom a n ++ [a + n] := by
  unfold natsFrom; rw [List.range_succ, List.map_append]; rfl
theorem row3_step {r : Sy × List Sy} {n : Nat} : row3 empty r (n + 1) = row3 empty r n ++ row3i empty r.2 n (r.2.length - (n + 1)) := by
  unfold row3; rw [nats_succ, List.flatMap_append]; simp
theorem row1_step {r : Sy × List Sy} {n : Nat} : row1 empty r (n + 1) = row1 empty r n ++ at1 empty r n := by
  unfold row1; rw [nats_succ, List.flatMap_append]; simp
theorem row2_step {r : Sy × List Sy} {n : Nat} : row2 empty r (n + 1) = row2 empty r n ++ at2 empty r n := by
  unfold row2; rw [nats_succ, List.flatMap_append]; simp
theorem row3i_step {e : List Sy} {i n : Nat} : row3i empty e i (n + 1) = row3i empty e i n ++ at3 empty e i (i + 1 + n) := by
  unfold row3i; rw [nats_succ, List.flatMap_append]; simp
theorem row3_len {r : Sy × List Sy} {n : Nat} (h : r.2.length ≤ 5) (hn : n ≤ r.2.length) : (row3 empty r n).length ≤ 10 := by
  have key : ∀ m, m ≤ n → 2 * (row3 empty r m).length + m * (m + 1) ≤ 2 * m * r.2.length := by
    intro m
    induction m with
    | zero => intro _; simp [row3, natsFrom]
    | succ m ih =>
      intro hm
      have i1 := ih (by omega)
      have l := row3i_len (empty := empty) (e := r.2) (i := m) (n := r.2.length - (m + 1))
      rw [row3_step, List.length_append]
      generalize (row3 empty r m).length = A1 at *
      generalize (row3i empty r.2 m (r.2.length - (m + 1))).length = B1 at *
      generalize r.2.length = L at *
      have e1 : (m + 1) * (m + 1 + 1) = m * (m + 1) + 2 * (m + 1) := by simp only [Nat.add_mul, Nat.mul_add]; omega
      have e2 : 2 * (m + 1) * L = 2 * m * L + 2 * L := by simp only [Nat.add_mul, Nat.mul_add]
      rw [e1, e2]
      generalize m * (m + 1) = X at *
      generalize 2 * m * L = Y at *
      omega
  have := key n (Nat.le_refl _)
  generalize (row3 empty r n).length = A1 at *
  generalize r.2.length = L at *
  have hL : L = 0 ∨ L = 1 ∨ L = 2 ∨ L = 3 ∨ L = 4 ∨ L = 5 := by omega
  have hN : n = 0 ∨ n = 1 ∨ n = 2 ∨ n = 3 ∨ n = 4 ∨ n = 5 := by omega
  rcases hL with hL | hL | hL | hL | hL | hL <;> rcases hN with hN | hN | hN | hN | hN | hN <;> subst hL <;> subst hN <;> omega
end
end Mine
end
section
open PySem PySem.W PyProof.Rows PySem.Calls
set_option Elab.async false
set_option linter.unusedVariables false
set_option linter.unusedSectionVars false
namespace Mine
theorem fillVa : PySem.Challenge.rw_fi0012_01 = PySem.Challenge.rw_fi0012_01 ∧ hd.heap_39 = hd.heap_39 := by
  k_fill
  exact ⟨rfl, rfl⟩
/-- what is reached, in the order of the program -/
def comeAt (pairs : List (Sy × Sy)) (x : Sy) : Nat → List Sy
  | 0 => [x]
  | n + 1 => match (comeAt pairs x n)[n]? with
    | some y => comeAt pairs x n ++ srt ltS ((pairs.filter fun p => decide (p.1 = y) && !has p.2 (comeAt pairs x n)).map Prod.snd)
    | none => comeAt pairs x n
def comeOf (pairs : List (Sy × Sy)) (x : Sy) : List Sy := comeAt pairs x 70
theorem comeAt_end {pairs : List (Sy × Sy)} {x : Sy} {n : Nat} (h : (comeAt pairs x n).length ≤ n) : ∀ k, comeAt pairs x (n + k) = comeAt pairs x n
  | 0 => rfl
  | k + 1 => by
    have ih := comeAt_end h k
    show (match (comeAt pairs x (n + k))[n + k]? with | some y => _ | none => _) = _
    rw [ih, List.getElem?_eq_none (by omega)]
    exact ih
theorem comeAt_step {pairs : List (Sy × Sy)} {x y : Sy} {n : Nat} (h : (comeAt pairs x n)[n]? = some y) : comeAt pairs x (n + 1) = comeAt pairs x n ++ srt ltS ((pairs.filter fun p => decide (p.1 = y) && !has p.2 (comeAt pairs x n)).map Prod.snd) := by
  show (match (comeAt pairs x n)[n]? with | some y => _ | none => _) = _
  rw [h]
section
variable {w : World} {A : Around} {f h : Heap}
set_option maxRecDepth 100000 in
theorem p_come (K : Ok w f) (kf : f.StaysIn h) (rm : Rm A 90) {u v : Value} {x : Sy} {pairs : List (Sy × Sy)} (tu : (Ty.list Ty.two).is f pairs u) (tv : Ty.law.is f x v) (hz : pairs.length < 64) :
    Does w A (call (.ref 447) [u, v]) f h fun f' r => Come pairs x (comeOf pairs x) ∧ (Ty.list Ty.law).is f' (comeOf pairs x) r := by
  refine' does_call (binds := [(Str.ofString "pairs", u), (Str.ofString "x", v)]) K kf ?ho ?hcd ?hr ?hb ?hk ?hcl ?hnd ?body ?c1 ?c2 ?c3
  case ho => k_is
  case hcd => k_is
  case hr => have := rm.depth; omega
  case hb => exact fun g d tk os => BindsTo.of_eq rfl
  case hk => rfl
  case hcl => rfl
  case hnd => decide
  case c1 => rfl
  case c2 => rfl
  case c3 => rfl
  case body =>
    intro L h₁ g d tk os W F
    generalize hA : A.deeper _ = A'
    have rm' : Rm A' 93 := hA ▸ rm.deeper
    refine st_assign W F (.inr ⟨rfl, _, rfl⟩) (es_list1 (T := Ty.law) (es_name (F.var W rfl rfl) tv)) fun f1 h1 g1 d1 tk1 v1 k1 ge1 t1 F1 => ?_
    refine st_assign W F1 (.inr ⟨rfl, _, rfl⟩) (es_nat (i := 0)) fun f2 h2 g2 d2 tk2 v2 k2 ge2 t2 F2 => ?_
    refine st_while F2 (fun n f' mm own => own = [] ∧ f.StaysIn f' ∧ ∃ found place u1 u2, n = pairs.length + 2 - place ∧ (ComeInv pairs x found place ∧ found = comeAt pairs x place) ∧ mm (Str.ofString "found") = some u1 ∧ (Ty.list Ty.law).is f' found u1 ∧ mm (Str.ofString "place") = some u2 ∧ Ty.nat.is f' place u2 ∧ mm (Str.ofString "pairs") = some u)
      (fun f' mm own => ∃ found u1, (Come pairs x found ∧ found = comeOf pairs x) ∧ mm (Str.ofString "found") = some u1 ∧ (Ty.list Ty.law).is f' found u1) _ ⟨rfl, fun b o e => k2 b o (k1 b o e), [x], 0, v1, v2, rfl, ⟨.first, rfl⟩, rfl, Ty.mono _ k2 t1, rfl, t2, rfl⟩ ?jm ?zm ?turn ?k
    case jm => rintro n f1 f2 mm own k ⟨a, b, found, place, u1, u2, c1, c2, c3, c4, c5, c6, c7⟩; exact ⟨a, fun b' o e => k _ _ (b b' o e), found, place, u1, u2, c1, c2, c3, Ty.mono _ k c4, c5, c6, c7⟩
    case zm => rintro f1 f2 mm own k ⟨found, u1, c1, c2, c3⟩; exact ⟨found, u1, c1, c2, Ty.mono _ k c3⟩
    case k =>
      rintro f3 h3 g3 d3 tk3 mm3 own3 ge3 F3 ⟨found, u1, c1, c2, c3⟩
      refine st_ret F3 (es_name (F3.cvar W c2 rfl rfl) c3) fun f' h' g' d' tk' v k ge t F' => .of F' ((ge1.trans ge2).trans (ge3.trans ge)) (c1.2 ▸ ⟨c1.1, t⟩)
    case turn =>
      rintro n f3 h3 mm3 own3 ⟨rfl, k3, found, place, u1, u2, c1, ⟨c2, ce⟩, c3, c4, c5, c6, c7⟩ F3
      have hl := c2.len
      refine ⟨decide (place < found.length), ts_cmp (es_name (F3.cvar W c5 rfl rfl) c6) (es_len_list (v_built (K.keeps k3) F3.ext.fh (by k_is) rfl) (es_name (F3.cvar W c3 rfl rfl) c4) (by omega)) (fun f' h' u v k t t' => p_ltn k.fh t t'), fun hb => ⟨found, u1, ⟨c2.last (by simpa using hb), ?_⟩, c3, c4⟩, fun hb => ?_⟩
      · have hb : ¬ place < found.length := by simpa using hb
        have := c2.le
        have e := comeAt_end (pairs := pairs) (x := x) (n := place) (by rw [← ce]; omega) (70 - place)
        rw [show place + (70 - place) = 70 by omega] at e
        rw [ce]; exact e.symm
      have hb : place < found.length := by simpa using hb
      intro f4 h4 g4 d4 tk4 k4 F4
      have K4 := K.keeps fun b o e => k4 b o (k3 b o e)
      have c4 := Ty.mono _ k4 c4
      have c6 := Ty.mono _ k4 c6
      obtain ⟨y, hy⟩ : ∃ y, found[place]? = some y := ⟨_, List.getElem?_eq_getElem hb⟩
      have tu4 := Ty.mono _ (fun b o e => k4 b o (k3 b o e)) tu
      have fz : ((pairs.filter fun p => decide (p.1 = y) && !has p.2 found).map Prod.snd).length < 64 := by
        have := List.length_filter_le (fun p => decide (p.1 = y) && !has p.2 found) pairs
        rw [List.length_map]; omega
      have sz := srt_len (kdLaw w).isLt ((pairs.filter fun p => decide (p.1 = y) && !has p.2 found).map Prod.snd)
      refine st_assign W F4 (.inr ⟨rfl, _, rfl⟩) (es_bin (es_name (F4.cvar W c3 rfl rfl) c4) (es_sorted_set (kdLaw w) rm'.mono (v_built K4 F4.ext.fh (by k_is) rfl) (es_set (kdLaw w) rm'.mono (v_built K4 F4.ext.fh (by k_is) rfl)
        (es_comp (T := Ty.two) (U := Ty.law) (xs := pairs) (fun p => decide (p.1 = y) && !has p.2 found) Prod.snd _ rfl (itr_list rm'.hh (es_name (F4.var W c7 rfl) tu4)) (fun C => takes_pair rm'.hh (by decide) rfl rfl rfl) (by omega) ?tests ?elt) fz) fz)
        (fun f' h' u v k t t' => p_add_list k.fh t t' (by omega) (by omega))) ?_
      case tests =>
        rintro C f' h' m p hp k n ⟨⟨vo, e1, t1⟩, vt, e2, t2⟩
        refine tests_one (ts_and2 (ts_cmp (es_name (.local n e1 rfl rfl) t1) (es_item_list (es_name ?v1 (Ty.mono _ k.fk c4)) (es_name ?v2 (Ty.mono _ k.fk c6)) (by omega) hy) (fun f' h' u v k t t' => p_eq_law k.fh rm'.mono t t'))
          (fun _ => ts_notin (kdLaw w) rm'.mono (es_name (.local n e2 rfl rfl) t2) (es_name ?v3 (Ty.mono _ k.fk c4)))) k.fh
        case v1 => exact F4.fvk k.stays c3 rfl
        case v2 => exact F4.fvk k.stays c5 rfl
        case v3 => exact F4.fvk k.stays c3 rfl
      case elt =>
        rintro C f' h' m p hp _ k n ⟨⟨vo, e1, t1⟩, vt, e2, t2⟩
        exact (es_name (.local n e2 rfl rfl) t2).here k.fh
      intro f5 h5 g5 d5 tk5 v5 k5 ge5 t5 F5
      refine st_assign W F5 (.inr ⟨rfl, _, rfl⟩) (es_bin (es_name (F5.cvar W (v := u2) c5 rfl rfl) (Ty.mono _ k5 c6)) (es_nat (i := 1)) (fun f' h' u v k t t' => p_addn k.fh t t')) fun f6 h6 g6 d6 tk6 v6 k6 ge6 t6 F6 => ?_
      refine wpAny_execs_nil ⟨f6, h6, g6, d6, tk6, _, _, rfl, ge5.trans ge6, F6, pairs.length + 2 - (place + 1), by omega, rfl, fun b o e => k6 _ _ (k5 _ _ (k4 _ _ (k3 b o e))), _, place + 1, v5, v6, rfl, ⟨c2.next (kdLaw w).isLt hy, by rw [comeAt_step (ce ▸ hy), ← ce]; rfl⟩, rfl, Ty.mono _ k6 t5, rfl, t6, c7⟩
end
end Mine
end
section
open PySem PySem.W PyProof.Rows PySem.Calls
set_option Elab.async false
set_option linter.unusedVariables false
set_option linter.unusedSectionVars false
namespace Mine
theorem fillVb : PySem.Challenge.rw_fi0012_01 = PySem.Challenge.rw_fi0012_01 ∧ hd.heap_39 = hd.heap_39 := by
  k_fill
  exact ⟨rfl, rfl⟩
abbrev Ty.rul : Ty (Sy × List Sy) := Ty.pair Ty.law (Ty.list Ty.law)
section
variable {w : World} {A : Around} {f h : Heap}
set_option maxRecDepth 100000 in
theorem p_nullable (K : Ok w f) (kf : f.StaysIn h) (rm : Rm A 90) {u : Value} {rules : List (Sy × List Sy)} (tu : (Ty.list Ty.rul).is f rules u) (hz : rules.length < 64) (hz' : ∀ r ∈ rules, r.2.length ≤ 1000) :
    Does w A (call (.ref 442) [u]) f h fun f' r => ∃ found, (∀ z, z ∈ found ↔ Nul rules z) ∧ (Ty.list Ty.law).is f' (srt ltS found) r := by
  refine' does_call (binds := [(Str.ofString "rules", u)]) K kf ?ho ?hcd ?hr ?hb ?hk ?hcl ?hnd ?body ?c1 ?c2 ?c3
  case ho => k_is
  case hcd => k_is
  case hr => have := rm.depth; omega
  case hb => exact fun g d tk os => BindsTo.of_eq rfl
  case hk => rfl
  case hcl => rfl
  case hnd => decide
  case c1 => rfl
  case c2 => rfl
  case c3 => rfl
  case body =>
    intro L h₁ g d tk os W F
    generalize hA : A.deeper _ = A'
    have rm' : Rm A' 93 := hA ▸ rm.deeper
    refine st_comp (T := Ty.rul) (U := Ty.rul) (xs := rules) (fun _ => true) id _ W F rfl rfl (itr_list rm'.hh (es_name (F.var W rfl rfl) tu)) (fun C => takes_pair rm'.hh (by decide) rfl rfl rfl) (by omega) ?_ ?_ ?_
    · rintro C f' h' m p hp k n -
      exact tests_nil k.fh
    · rintro C f' h' m p hp _ k n ⟨⟨vo, e1, t1⟩, vt, e2, t2⟩
      refine (es_tup2 (es_name (.local n e1 rfl rfl) t1) (es_call (v_built (K.keeps k.fk) k.fh (by k_is) rfl) Kp.type (args1 (es_name (.local n e2 rfl rfl) t2)) ?_)).here k.fh
      rintro f'' h'' vs k' ⟨v, rfl, t⟩
      exact p_list_list k'.fh t (hz' _ hp)
    intro f1 h1 g1 d1 tk1 v1 k1 ge1 t1 F1
    have e1 : (rules.filter (fun _ => true)).map id = leftOf rules [] := by rw [left_nil]; simp
    rw [e1] at t1
    have K1 := K.keeps k1
    refine st_assign W F1 (.inr ⟨rfl, _, rfl⟩) (es_list0 (T := Ty.law)) fun f2 h2 g2 d2 tk2 v2 k2 ge2 t2 F2 => ?_
    have K2 := K1.keeps k2
    have t1 := Ty.mono _ k2 t1
    have fz : ∀ found : List Sy, (((leftOf rules found).filter fun r => decide (r.2 = []) && !has r.1 found).map Prod.fst).length < 64 := fun found => by
      have := List.length_filter_le (fun r : Sy × List Sy => decide (r.2 = []) && !has r.1 found) (leftOf rules found)
      simp only [leftOf, List.length_map] at this ⊢; omega
    have lz : ∀ found : List Sy, (leftOf rules found).length = rules.length := fun found => by simp [leftOf]
    have n0 : newOf ltS rules [] = srt ltS (((leftOf rules []).filter fun r => decide (r.2 = [])).map Prod.fst) := by
      unfold newOf
      congr 2
      refine List.filter_congr fun x _ => ?_
      simp [has]
    have fz0 : (((leftOf rules []).filter fun r => decide (r.2 = [])).map Prod.fst).length < 64 := by
      have := List.length_filter_le (fun r : Sy × List Sy => decide (r.2 = [])) (leftOf rules [])
      rw [lz] at this
      rw [List.length_map]; omega
    refine st_assign (T := Ty.list Ty.law) (a := newOf ltS rules []) W F2 (.inl rfl) (Es.cast (es_sorted_set (kdLaw w) rm'.mono (v_built K2 F2.ext.fh (by k_is) rfl) (es_set (kdLaw w) rm'.mono (v_built K2 F2.ext.fh (by k_is) rfl)
        (es_comp (T := Ty.rul) (U := Ty.law) (xs := leftOf rules []) (fun r => decide (r.2 = [])) Prod.fst _ rfl (itr_list rm'.hh (es_name (F2.var W (v := v1) rfl rfl) t1)) (fun C => takes_pair rm'.hh (by decide) rfl rfl rfl) (by rw [lz]; omega) ?_ ?_) fz0) fz0) n0.symm) ?_
    · rintro C f' h' m p hp k n ⟨⟨vo, e1, t1⟩, vt, e2, t2⟩
      exact tests_one (ts_cmp (es_name (.local n e2 rfl rfl) t2) es_list0 (fun f' h' u v k t t' => p_eq_list (eqk_kd (kdLaw w)) (by omega) k.fh rm'.mono t t')) k.fh
    · rintro C f' h' m p hp _ k n ⟨⟨vo, e1, t1⟩, vt, e2, t2⟩
      exact (es_name (.local n e1 rfl rfl) t1).here k.fh
    intro f3 h3 g3 d3 tk3 v3 k3 ge3 t3 F3
    refine st_while F3 (fun n f' mm own => own = [] ∧ f.StaysIn f' ∧ ∃ found u1 u2 u3, n = rules.length - found.length ∧ NulInv rules found ∧ mm (Str.ofString "found") = some u1 ∧ (Ty.list Ty.law).is f' found u1 ∧ mm (Str.ofString "left") = some u2 ∧ (Ty.list Ty.rul).is f' (leftOf rules found) u2 ∧
        mm (Str.ofString "new") = some u3 ∧ (Ty.list Ty.law).is f' (newOf ltS rules found) u3)
      (fun f' mm own => f.StaysIn f' ∧ ∃ found u1, (∀ z, z ∈ found ↔ Nul rules z) ∧ found.Nodup ∧ mm (Str.ofString "found") = some u1 ∧ (Ty.list Ty.law).is f' found u1) _ ⟨rfl, fun b o e => k3 _ _ (k2 b o (k1 b o e)), [], v2, v1, v3, rfl, .first, rfl, Ty.mono _ k3 t2, rfl, Ty.mono _ k3 t1, rfl, t3⟩ ?jm ?zm ?turn ?k
    case jm => rintro n f1 f2 mm own k ⟨a, b, found, u1, u2, u3, c1, c2, c3, c4, c5, c6, c7, c8⟩; exact ⟨a, fun b' o e => k _ _ (b b' o e), found, u1, u2, u3, c1, c2, c3, Ty.mono _ k c4, c5, Ty.mono _ k c6, c7, Ty.mono _ k c8⟩
    case zm => rintro f1 f2 mm own k ⟨b, found, u1, c1, c0, c2, c3⟩; exact ⟨fun b' o e => k _ _ (b b' o e), found, u1, c1, c0, c2, Ty.mono _ k c3⟩
    case k =>
      rintro f4 h4 g4 d4 tk4 mm4 own4 ge4 F4 ⟨k4, found, u1, c1, c0, c2, c3⟩
      have := nodup_le (m := rules.map Prod.fst) c0 fun z hz => by
        cases (c1 z).mp hz with
        | mk h _ => exact List.mem_map.mpr ⟨_, h, rfl⟩
      rw [List.length_map] at this
      refine st_ret F4 (es_sorted_list (kdLaw w) rm'.mono (v_built (K.keeps k4) F4.ext.fh (by k_is) rfl) (es_name (F4.cvar W c2 rfl rfl) c3) c0 (by omega)) fun f' h' g' d' tk' v k ge t F' => .of F' (((ge1.trans ge2).trans ge3).trans (ge4.trans ge)) ⟨found, c1, t⟩
    case turn =>
      rintro n f4 h4 mm4 own4 ⟨rfl, k4, found, u1, u2, u3, c1, c2, c3, c4, c5, c6, c7, c8⟩ F4
      have hl := c2.len
      have nl : (newOf ltS rules found).length ≤ rules.length := newOf_len (kdLaw w).isLt
      refine ⟨!decide (newOf ltS rules found = []), ts_cmp (es_name (F4.var W c7 rfl) c8) es_list0 (fun f' h' u v k t t' => p_ne_list (eqk_kd (kdLaw w)) (by omega) k.fh rm'.mono t t'), fun hb => ⟨k4, found, u1, c2.last (by simpa using hb), c2.nodup, c3, c4⟩, fun hb => ?_⟩
      have hb : newOf ltS rules found ≠ [] := by simpa using hb
      have pos : 0 < (newOf ltS rules found).length := List.length_pos_iff.mpr hb
      have c2' := c2.next (lt := ltS) (kdLaw w).isLt
      have hl' := c2'.len
      rw [List.length_append] at hl'
      intro f5 h5 g5 d5 tk5 k5 F5
      refine st_assign W F5 (.inr ⟨rfl, _, rfl⟩) (es_bin (es_name (F5.cvar W c3 rfl rfl) (Ty.mono _ k5 c4)) (es_name (F5.var W c7 rfl) (Ty.mono _ k5 c8)) (fun f' h' u v k t t' => p_add_list k.fh t t' (by omega) (by omega))) ?_
      intro f6 h6 g6 d6 tk6 v6 k6 ge6 t6 F6
      have t2' := Ty.mono _ k6 (Ty.mono _ k5 c6)
      have K6 := K.keeps fun b o e => k6 _ _ (k5 b o (k4 b o e))
      refine st_comp (T := Ty.rul) (U := Ty.rul) (xs := leftOf rules found) (fun _ => true) (fun r => (r.1, (r.2.filter fun x => !has x (found ++ newOf ltS rules found)).map id)) _ W F6 rfl rfl (itr_list rm'.hh (es_name (F6.var W (v := u2) c5 rfl) t2')) (fun C => takes_pair rm'.hh (by decide) rfl rfl rfl) (by rw [lz]; omega) ?_ ?_ ?_
      · rintro C f' h' m p hp k n -
        exact tests_nil k.fh
      · rintro C f' h' m p hp _ k n ⟨⟨vo, e1, t1⟩, vt, e2, t2⟩
        have pz : p.2.length ≤ 1000 := by
          obtain ⟨r, hr, rfl⟩ := List.mem_map.mp hp
          exact Nat.le_trans (List.length_filter_le _ _) (hz' r hr)
        refine (es_tup2 (es_name (.local n e1 rfl rfl) t1) (es_comp (T := Ty.law) (U := Ty.law) (xs := p.2) (fun x => !has x (found ++ newOf ltS rules found)) id _ rfl (itr_list rm'.hh (es_name (.local n e2 rfl rfl) t2)) (fun C => takes_name rfl rfl) pz ?_ ?_)).here k.fh
        · rintro C' f'' h'' m' x hx k' n' ⟨v, e1', t1'⟩
          refine tests_one (ts_notin (kdLaw w) rm'.mono (es_name (.local n' e1' rfl rfl) t1') (es_name ?v1 (Ty.mono _ k'.fk (Ty.mono _ k.fk t6)))) k'.fh
          case v1 => exact F6.fvk (k.trans k').stays rfl rfl
        · rintro C' f'' h'' m' x hx _ k' n' ⟨v, e1', t1'⟩
          exact (es_name (.local n' e1' rfl rfl) t1').here k'.fh
      intro f7 h7 g7 d7 tk7 v7 k7 ge7 t7 F7
      have e7 : ((leftOf rules found).filter (fun _ => true)).map (fun r => (r.1, (r.2.filter fun x => !has x (found ++ newOf ltS rules found)).map id)) = leftOf rules (found ++ newOf ltS rules found) := by
        rw [← left_step, List.filter_eq_self.mpr (fun _ _ => rfl)]; simp only [List.map_id]
      rw [e7] at t7
      have K7 := K6.keeps k7
      refine st_assign (T := Ty.list Ty.law) (a := newOf ltS rules (found ++ newOf ltS rules found)) W F7 (.inl rfl) (es_sorted_set (kdLaw w) rm'.mono (v_built K7 F7.ext.fh (by k_is) rfl) (es_set (kdLaw w) rm'.mono (v_built K7 F7.ext.fh (by k_is) rfl)
          (es_comp (T := Ty.rul) (U := Ty.law) (xs := leftOf rules (found ++ newOf ltS rules found)) (fun r => decide (r.2 = []) && !has r.1 (found ++ newOf ltS rules found)) Prod.fst _ rfl (itr_list rm'.hh (es_name (F7.var W (v := v7) rfl rfl) t7)) (fun C => takes_pair rm'.hh (by decide) rfl rfl rfl) (by rw [lz]; omega) ?_ ?_) (fz _)) (fz _)) ?_
      · rintro C f' h' m p hp k n ⟨⟨vo, e1, t1⟩, vt, e2, t2⟩
        refine tests_one (ts_and2 (ts_cmp (es_name (.local n e2 rfl rfl) t2) es_list0 (fun f' h' u v k t t' => p_eq_list (eqk_kd (kdLaw w)) (by omega) k.fh rm'.mono t t')) fun _ => ts_notin (kdLaw w) rm'.mono (es_name (.local n e1 rfl rfl) t1) (es_name ?v2 (Ty.mono _ k.fk (Ty.mono _ k7 t6)))) k.fh
        case v2 => exact F7.fvk k.stays rfl rfl
      · rintro C f' h' m p hp _ k n ⟨⟨vo, e1, t1⟩, vt, e2, t2⟩
        exact (es_name (.local n e1 rfl rfl) t1).here k.fh
      intro f8 h8 g8 d8 tk8 v8 k8 ge8 t8 F8
      exact wpAny_execs_nil ⟨f8, h8, g8, d8, tk8, _, _, rfl, (ge6.trans ge7).trans ge8, F8, rules.length - (found ++ newOf ltS rules found).length, by rw [List.length_append]; omega, rfl, fun b o e => k8 _ _ (k7 _ _ (k6 _ _ (k5 b o (k4 b o e)))), _, v6, v7, v8, rfl, c2', rfl, Ty.mono _ k8 (Ty.mono _ k7 t6), rfl, Ty.mono _ k8 t7, rfl, t8⟩
end
end Mine
end
section
open PySem PySem.W PyProof.Rows PySem.Calls
set_option Elab.async false
set_option linter.unusedVariables false
set_option linter.unusedSectionVars false
namespace Mine
theorem fillVc : PySem.Challenge.rw_fi0012_01 = PySem.Challenge.rw_fi0012_01 ∧ hd.heap_39 = hd.heap_39 := by
  k_fill
  exact ⟨rfl, rfl⟩
/-- what is asked of rules -/
structure RulesOk (rules : List (Sy × List Sy)) : Prop where
  few : rules.length ≤ 6
  org : ∀ r ∈ rules, r.1 ∈ lawSyms
  exp : ∀ r ∈ rules, ∀ x ∈ r.2, x ∈ lawSyms
  short : ∀ r ∈ rules, r.2.length ≤ 5
theorem sym_at (i : Nat) (hi : i < 8) : ∃ x, lawSyms[i]? = some x ∧ x ∈ lawSyms := ⟨_, List.getElem?_eq_getElem (show i < lawSyms.length from hi), List.getElem_mem _⟩
section
variable {w : World} {A : Around} {f h : Heap}
set_option maxRecDepth 100000 in
theorem p_rules (K : Ok w f) (kf : f.StaysIn h) (rm : Rm A 90) {u : Value} {ns : List Int} (tu : (Ty.list Ty.int).is f ns u) (hz : ns.length < 64) :
    Does w A (call (.ref 437) [u]) f h fun f' r => ∃ rules, RulesOk rules ∧ (Ty.list Ty.rul).is f' rules r := by
  refine' does_call (binds := [(Str.ofString "numbers", u)]) K kf ?ho ?hcd ?hr ?hb ?hk ?hcl ?hnd ?body ?c1 ?c2 ?c3
  case ho => k_is
  case hcd => k_is
  case hr => have := rm.depth; omega
  case hb => exact fun g d tk os => BindsTo.of_eq rfl
  case hk => rfl
  case hcl => rfl
  case hnd => decide
  case c1 => rfl
  case c2 => rfl
  case c3 => rfl
  case body =>
    intro L h₁ g d tk os W F
    generalize hA : A.deeper _ = A'
    have rm' : Rm A' 93 := hA ▸ rm.deeper
    refine st_own W F (.inl rfl) new_list rfl fun h1 tk1 a za F1 => ?_
    refine st_assign W F1 (.inl rfl) (es_nat (i := 0)) fun f2 h2 g2 d2 tk2 v2 k2 ge2 t2 F2 => ?_
    refine st_while F2 (fun n f' mm own => f.StaysIn f' ∧ ∃ rules vs e place u2, own = [(a, listOf vs e)] ∧ n = 64 - place ∧ RulesOk rules ∧ mm (Str.ofString "numbers") = some u ∧ mm (Str.ofString "rules") = some (.ref a) ∧ Pw (Ty.rul.is f') rules vs.toList ∧ mm (Str.ofString "place") = some u2 ∧ Ty.nat.is f' place u2)
      (fun f' mm own => f.StaysIn f' ∧ ∃ rules vs e, own = [(a, listOf vs e)] ∧ RulesOk rules ∧ mm (Str.ofString "rules") = some (.ref a) ∧ Pw (Ty.rul.is f') rules vs.toList) _ ⟨k2, [], #[], 0, 0, v2, rfl, rfl, ⟨by simp, by simp, by simp, by simp⟩, rfl, rfl, .nil, rfl, t2⟩ ?jm ?zm ?turn ?k
    case jm => rintro n f1 f2 mm own k ⟨b, rules, vs, e, place, u2, c1, c2, c3, c4, c5, c6, c7, c8⟩; exact ⟨fun b' o e => k _ _ (b b' o e), rules, vs, e, place, u2, c1, c2, c3, c4, c5, c6.mono fun _ _ => Ty.mono _ k, c7, c8⟩
    case zm => rintro f1 f2 mm own k ⟨b, rules, vs, e, c1, c2, c3, c4⟩; exact ⟨fun b' o e => k _ _ (b b' o e), rules, vs, e, c1, c2, c3, c4.mono fun _ _ => Ty.mono _ k⟩
    case k =>
      rintro f3 h3 g3 d3 tk3 mm3 own3 ge3 F3 ⟨k3, rules, vs, e, rfl, c2, c3, c4⟩
      obtain ⟨F4, g4, k4⟩ := F3.freeze (pre := []) (post := []) (fun _ hp => nomatch hp) (.inl (by
        have := F1.own (a, listOf #[] 0) (by simp)
        exact this.2.2.2.1.elim id fun z => z.elim))
      refine st_ret (T := Ty.list Ty.rul) (a := rules) F4 (es_name (F4.var W c3 rfl) ⟨a, vs, e, rfl, g4, c4.mono fun _ _ => Ty.mono _ k4⟩) fun f' h' g' d' tk' v k ge t F' => .of F' (ge2.trans (ge3.trans ge)) ⟨rules, c2, t⟩
    case turn =>
      rintro n f3 h3 mm3 own3 ⟨k3, rules, vs, e, place, u2, rfl, rfl, c3, c4, c5, c6, c7, c8⟩ F3
      have K3 := K.keeps k3
      have K3' : Ok w (addTo f3 h3 (· == a)) := K3.keeps (addTo_up F3.ext.fh)
      have hP : ∀ b, (b == a) = true → h3.get? b ≠ none := fun b hb => by
        have : b = a := by simpa using hb
        subst this; exact get_ne (F3.own _ (.head _)).1
      refine ⟨decide (place < ns.length) && decide (rules.length < 6), ts_and2 (ts_cmp (es_name (F3.var W c7 rfl) c8) (es_len_list (v_built K3 F3.ext.fh (by k_is) rfl) (es_name (F3.var W c4 rfl) (Ty.mono _ k3 tu)) (by omega)) (fun f' h' u v k t t' => p_ltn k.fh t t')) (fun _ => Ts.more (P := (· == a)) F3.ext.fh hP (ts_cmp (es_len_list (v_built K3' (addTo_stays F3.ext.fh) (by k_is) rfl) (es_name (F3.var W c5 rfl) (owned_list (pre := []) F3 c6)) (by have := c3.few; omega)) (es_nat (i := 6)) (fun f' h' u v k t t' => p_ltn k.fh t t'))), fun hb => ⟨k3, rules, vs, e, rfl, c3, c5, c6⟩, fun hb => ?_⟩
      have hb : place < ns.length ∧ rules.length < 6 := by simpa using hb
      obtain ⟨x, hx⟩ : ∃ x, ns[place]? = some x := ⟨_, List.getElem?_eq_getElem hb.1⟩
      intro f4 h4 g4 d4 tk4 k4 F4
      have k14 : f.StaysIn f4 := fun b o e => k4 b o (k3 b o e)
      refine st_assign (T := Ty.nat) (a := ((x.fdiv 4).fmod (6 : Nat)).toNat) W F4 (.inl rfl) (es_mod (b := 6) (es_bin (V := .int) (es_item_list (es_name (F4.var W c4 rfl) (Ty.mono _ k14 tu)) (es_name (F4.var W c7 rfl) c8) (by omega) hx) (es_int (i := 4)) (fun f' h' u v k t t' => p_div k.fh t t' (by omega) (by omega))) (by omega)) ?_
      have hc : ((x.fdiv 4).fmod (6 : Nat)).toNat < 6 := by
        have := Int.fmod_lt_of_pos (x.fdiv 4) (b := ((6 : Nat) : Int)) (by omega)
        omega
      generalize ((x.fdiv 4).fmod (6 : Nat)).toNat = count at hc
      intro f5 h5 g5 d5 tk5 v5 k5 ge5 t5 F5
      have k15 : f.StaysIn f5 := fun b o e => k5 _ _ (k14 b o e)
      have K5 := K.keeps k15
      have hm : (x.fmod (4 : Nat)).toNat < 8 := by
        have := Int.fmod_lt_of_pos x (b := ((4 : Nat) : Int)) (by omega)
        omega
      obtain ⟨o, ho, ho'⟩ := sym_at _ hm
      have t2' : Ty.nat.is f5 place u2 := c8
      have sl : ∀ {f' h'}, Ext Nil f5 h5 f' h' → True := fun _ => trivial
      let ex := pick ns (some ((place + 1 : Nat) : Int)) (some ((place + 1 + count : Nat) : Int)) none
      have exl : ex.length ≤ 5 := by
        show (pick _ _ _ _).length ≤ _
        rw [pick_nn _ _ _ (fun i e => by cases e; omega) (fun i e => by cases e; omega)]
        refine Nat.le_trans (cut_len _ _ _) ?_
        simp only [upto, from0]; omega
      let fn : Int → Sy := fun n => (lawSyms[(n.fmod (8 : Nat)).toNat]?).getD (Str.ofString "s", false)
      have hfn : ∀ n : Int, lawSyms[(n.fmod (8 : Nat)).toNat]? = some (fn n) ∧ fn n ∈ lawSyms := fun n => by
        obtain ⟨y, e1, e2⟩ := sym_at (n.fmod (8 : Nat)).toNat (by
          have := Int.fmod_lt_of_pos n (b := ((8 : Nat) : Int)) (by omega)
          omega)
        have e3 : fn n = y := by simp only [fn, e1, Option.getD_some]
        rw [e3]; exact ⟨e1, e2⟩
      have vz : vs.size ≤ 1000 := by
        have l := c6.length
        have l2 := c3.few
        have l3 : vs.toList.length = vs.size := Array.length_toList
        omega
      refine st_append (T := Ty.rul) (y := (o, (ex.filter fun _ => true).map fn)) (pre := []) W F5 (F5.var W c5 rfl) (es_tup2 (T := Ty.law) (U := Ty.list Ty.law) (es_item_list (es_name (v_glob K5 F5.ext.fh (by k_is)) (is_syms K5)) (es_mod (b := 4) (es_item_list (es_name (F5.var W c4 rfl) (Ty.mono _ k15 tu)) (es_name (F5.var W c7 rfl) t2') (by omega) hx) (by omega)) (by omega) ho)
        (es_comp (T := Ty.int) (U := Ty.law) (xs := ex) (fun _ => true) fn _ rfl (itr_list rm'.hh (es_slice_list (es_name (F5.var W c4 rfl) (Ty.mono _ k15 tu)) (es_slice (ep_nat (es_bin (es_name (F5.var W c7 rfl) t2') (es_nat (i := 1)) (fun f' h' u v k t t' => p_addn k.fh t t'))) (ep_nat (es_bin (V := .nat) (es_bin (V := .nat) (es_name (F5.var W c7 rfl) t2') (es_nat (i := 1)) (fun f' h' u v k t t' => p_addn k.fh t t')) (es_name (F5.var W (v := v5) rfl rfl) t5) (fun f' h' u v k t t' => p_addn k.fh t t'))) ep_none) (by simp) (by omega))) (fun C => takes_name rfl rfl) (Nat.le_trans exl (by omega)) ?_ ?_)) (fun _ hp => nomatch hp) vz ?_
      · rintro C f' h' m p hp k n -
        exact tests_nil k.fh
      · rintro C f' h' m p hp _ k n ⟨v, e1, t1⟩
        exact (es_item_list (es_name (v_glob (K5.keeps k.fk) k.fh (by k_is)) (is_syms (K5.keeps k.fk))) (es_mod (b := 8) (es_name (.local n e1 rfl rfl) t1) (by omega)) (by
          have := Int.fmod_lt_of_pos p (b := ((8 : Nat) : Int)) (by omega)
          omega) (hfn p).1).here k.fh
      intro f6 h6 g6 d6 tk6 v6 n6 k6 ge6 t6 F6
      refine st_assign (T := Ty.nat) (a := place + 1 + count) W F6 (.inl rfl) (es_bin (V := .nat) (es_bin (V := .nat) (es_name (F6.var W c7 rfl) t2') (es_nat (i := 1)) (fun f' h' u v k t t' => p_addn k.fh t t')) (es_name (F6.var W (v := v5) rfl rfl) (Ty.mono _ k6 t5)) (fun f' h' u v k t t' => p_addn k.fh t t')) ?_
      intro f7 h7 g7 d7 tk7 v7 k7 ge7 t7 F7
      have ef : (ex.filter fun _ => true) = ex := List.filter_eq_self.mpr fun _ _ => rfl
      rw [ef] at t6
      refine wpAny_execs_nil ⟨f7, h7, g7, d7, tk7, _, _, rfl, (ge5.trans ge6).trans ge7, F7, 64 - (place + 1 + count), by omega, fun b o e => k7 _ _ (k6 _ _ (k15 b o e)), rules ++ [(o, ex.map fn)], vs.push v6, n6, place + 1 + count, v7, rfl, rfl, ⟨?_, ?_, ?_, ?_⟩, c4, c5, ?_, rfl, t7⟩
      · rw [List.length_append]; simp; omega
      · intro r hr
        rcases List.mem_append.mp hr with h | h
        · exact c3.org r h
        · simp at h; subst h; exact ho'
      · intro r hr
        rcases List.mem_append.mp hr with h | h
        · exact c3.exp r h
        · simp at h; subst h
          intro x hx
          obtain ⟨n, _, rfl⟩ := List.mem_map.mp hx
          exact (hfn n).2
      · intro r hr
        rcases List.mem_append.mp hr with h | h
        · exact c3.short r h
        · simp at h; subst h
          rw [List.length_map]; exact exl
      · rw [Array.toList_push]
        exact Pw.append (c6.mono fun _ _ q => Ty.mono _ k7 (Ty.mono _ k6 (Ty.mono _ k5 (Ty.mono _ k4 q)))) (.cons (Ty.mono _ k7 t6) .nil)
end
end Mine
end
section
open PySem PySem.W PyProof.Rows PySem.Calls
set_option Elab.async false
set_option linter.unusedVariables false
set_option linter.unusedSectionVars false
namespace Mine
theorem at1_eq {empty : List Sy} {r : Sy × List Sy} {i : Nat} {b : Sy} (h : r.2[i]? = some b) : at1 empty r i = if gone empty (r.2.take i) then [(r.1, b)] else [] := by unfold at1; rw [h]
theorem at2_eq {empty : List Sy} {r : Sy × List Sy} {i : Nat} {b : Sy} (h : r.2[i]? = some b) : at2 empty r i = if gone empty (r.2.drop (i + 1)) then [(r.1, b)] else [] := by unfold at2; rw [h]
theorem at3_eq {empty : List Sy} {e : List Sy} {i j : Nat} {a b : Sy} (h : e[i]? = some a) (h' : e[j]? = some b) : at3 empty e i j = if gone empty (cut e (i + 1) j) then [(a, b)] else [] := by unfold at3; rw [h, h']
theorem pick_from {α : Type} (l : List α) (n : Nat) : pick l (some (n : Int)) none none = l.drop n := by
  rw [pick_nn l (some (n : Int)) none (fun i e => by cases e; omega) (fun i e => nomatch e)]
  unfold cut
  show (l.drop n).take (l.length - n) = _
  rw [List.take_of_length_le (by simp)]
theorem pick_mid {α : Type} (l : List α) (n m : Nat) : pick l (some (n : Int)) (some (m : Int)) none = cut l n m := by
  rw [pick_nn l (some (n : Int)) (some (m : Int)) (fun i e => by cases e; omega) (fun i e => by cases e; omega)]
  rfl
section
variable {α β γ : Type} {w : World} {A : Around} {env : Env} {f h : Heap}
/-- [x for x in l if x not in empty] == [] -/
theorem ts_gone {it : Expr} {scope : Scope} {cl : List (Str × Addr)} {p1 p2 p3 p4 p5 p6 p7 p8 : Pos} {l empty : List Sy} {vE : Value} (rm : Rm A 200) (he : Es w A env it f h (.list Ty.law) l) (hz : l.length ≤ 1000) (hclos : closureFor scope env = pure cl)
    (tE : (Ty.list Ty.law).is f empty vE) (hE : ∀ C f' h', Ext Nil f h f' h' → Var w (compEnvC scope cl C env) h' (Str.ofString "empty") vE)
    (hcell : ∀ x ∈ scope.names, x.2 ≠ .cell := by decide) (hkind : scope.kind = .function := by rfl) (hnames : ∀ x ∈ scope.names, x.2 = .local → scope.names.lookup x.1 = some .local := by decide)
    (hs : ∀ x, foldedSetIterable it env x = pure x := by intro _; rfl)
    (q1 : ∀ C, (compEnvC scope cl C env).kindOf (Str.ofString "x") = some .local := by intro _; rfl) (q2 : ∀ C, ((compEnvC scope cl C env).scope.kind == .class || ((compEnvC scope cl C env).scope.kind == .module && (compEnvC scope cl C env).locals != (compEnvC scope cl C env).globals)) = false := by intro _; rfl) (q3 : ∀ C, (compEnvC scope cl C env).scope.kind = .function := by intro _; rfl) :
    Ts w A env (.Compare (.ListComp (.Name (Str.ofString "x") p1) [⟨.Name (Str.ofString "x") p2, it, [.Compare (.Name (Str.ofString "x") p3) [.NotIn] [.Name (Str.ofString "empty") p4] p5], 0⟩] scope p6) [.Eq] [.List [] p7] p8) f h (gone empty l) := by
  refine ts_cmp (es_comp (T := Ty.law) (U := Ty.law) (xs := l) (fun x => !has x empty) id _ hclos (itr_list rm.hh he) (fun C => takes_name (q1 C) (q2 C)) hz ?_ ?_ hcell hkind hnames hs) es_list0 (fun f' h' u v k t t' => p_eq_list (eqk_kd (kdLaw w)) (by omega) k.fh rm t t')
  · rintro C f' h' m x hx k n ⟨v, e1, t1⟩
    exact tests_one (ts_notin (kdLaw w) rm (es_name (.local n e1 (q3 C) (q1 C)) t1) (es_name (hE C f' h' k) (Ty.mono _ k.fk tE))) k.fh
  · rintro C f' h' m x hx _ k n ⟨v, e1, t1⟩
    exact (es_name (.local n e1 (q3 C) (q1 C)) t1).here k.fh
/-- the three lists as they grow -/
structure LS (f₁ f : Heap) (mm : Vars) (own : Own) (vR vE u : Value) (a1 a2 a3 : Addr) (l1 l2 l3 : List (Sy × Sy)) : Prop where
  kf : f₁.StaysIn f
  v1 : mm (Str.ofString "firsts") = some (.ref a1)
  v2 : mm (Str.ofString "lasts") = some (.ref a2)
  v3 : mm (Str.ofString "besides") = some (.ref a3)
  vR : mm (Str.ofString "rules") = some vR
  vE : mm (Str.ofString "empty") = some vE
  vS : mm (Str.ofString "script") = some u
  own : ∃ w1 n1 w2 n2 w3 n3, own = [(a1, listOf w1 n1), (a2, listOf w2 n2), (a3, listOf w3 n3)] ∧ Pw (Ty.two.is f) l1 w1.toList ∧ Pw (Ty.two.is f) l2 w2.toList ∧ Pw (Ty.two.is f) l3 w3.toList
theorem LS.mono {f₁ f f' : Heap} {mm : Vars} {own : Own} {vR vE u : Value} {a1 a2 a3 : Addr} {l1 l2 l3 : List (Sy × Sy)} (S : LS f₁ f mm own vR vE u a1 a2 a3 l1 l2 l3) (k : f.StaysIn f') : LS f₁ f' mm own vR vE u a1 a2 a3 l1 l2 l3 :=
  ⟨fun b o e => k _ _ (S.kf b o e), S.v1, S.v2, S.v3, S.vR, S.vE, S.vS, let ⟨w1, n1, w2, n2, w3, n3, e, p1, p2, p3⟩ := S.own; ⟨w1, n1, w2, n2, w3, n3, e, p1.mono fun _ _ => Ty.mono _ k, p2.mono fun _ _ => Ty.mono _ k, p3.mono fun _ _ => Ty.mono _ k⟩⟩
theorem LS.re {f₁ f : Heap} {mm mm' : Vars} {own : Own} {vR vE u : Value} {a1 a2 a3 : Addr} {l1 l2 l3 : List (Sy × Sy)} (S : LS f₁ f mm own vR vE u a1 a2 a3 l1 l2 l3) (h1 : mm' (Str.ofString "firsts") = mm (Str.ofString "firsts") := by rfl) (h2 : mm' (Str.ofString "lasts") = mm (Str.ofString "lasts") := by rfl) (h3 : mm' (Str.ofString "besides") = mm (Str.ofString "besides") := by rfl)
    (h4 : mm' (Str.ofString "rules") = mm (Str.ofString "rules") := by rfl) (h5 : mm' (Str.ofString "empty") = mm (Str.ofString "empty") := by rfl) (h6 : mm' (Str.ofString "script") = mm (Str.ofString "script") := by rfl) : LS f₁ f mm' own vR vE u a1 a2 a3 l1 l2 l3 :=
  ⟨S.kf, h1.trans S.v1, h2.trans S.v2, h3.trans S.v3, h4.trans S.vR, h5.trans S.vE, h6.trans S.vS, S.own⟩
theorem LS.to {f₁ f : Heap} {mm : Vars} {own : Own} {vR vE u : Value} {a1 a2 a3 : Addr} {l1 l2 l3 m1 m2 m3 : List (Sy × Sy)} (S : LS f₁ f mm own vR vE u a1 a2 a3 l1 l2 l3) (h1 : l1 = m1) (h2 : l2 = m2) (h3 : l3 = m3) : LS f₁ f mm own vR vE u a1 a2 a3 m1 m2 m3 := h1 ▸ h2 ▸ h3 ▸ S
end
end Mine
end
section
open PySem PySem.W PyProof.Rows PySem.Calls
set_option Elab.async false
set_option linter.unusedVariables false
set_option linter.unusedSectionVars false
namespace Mine
theorem take_stepG' {α : Type} {l : List α} {i : Nat} {x : α} (h : l[i]? = some x) : l.take (i + 1) = l.take i ++ [x] := by rw [List.take_add_one, h]; rfl
theorem come_ok (T : IsLt ltS) {pairs : List (Sy × Sy)} (hz : pairs.length < 64) (x : Sy) : Come pairs x (comeOf pairs x) := by
  have key : ∀ n, ComeInv pairs x (comeAt pairs x n) n ∨ (Come pairs x (comeAt pairs x n) ∧ (comeAt pairs x n).length ≤ n) := by
    intro n
    induction n with
    | zero => exact .inl .first
    | succ n ih =>
      rcases ih with I | ⟨C, l⟩
      · by_cases hb : n < (comeAt pairs x n).length
        · obtain ⟨y, hy⟩ : ∃ y, (comeAt pairs x n)[n]? = some y := ⟨_, List.getElem?_eq_getElem hb⟩
          rw [comeAt_step hy]
          exact .inl (I.next T hy)
        · have e := comeAt_end (pairs := pairs) (x := x) (n := n) (by omega) 1
          rw [e]
          exact .inr ⟨I.last hb, by omega⟩
      · have e := comeAt_end (pairs := pairs) (x := x) (n := n) l 1
        rw [e]
        exact .inr ⟨C, by omega⟩
  rcases key 70 with I | ⟨C, _⟩
  · have := I.le
    have := I.len
    omega
  · exact C
theorem come_len (T : IsLt ltS) {pairs : List (Sy × Sy)} (hz : pairs.length < 64) (x : Sy) : (comeOf pairs x).length ≤ pairs.length + 1 := by
  have C := come_ok T hz x
  have := nodup_le C.nodup fun z hz => reach_sub ((C.mem z).mp hz)
  simpa using this
/-- first of the law -/
def firstOf (pairs : List (Sy × Sy)) (x : Sy) : List Sy := srt ltS (((comeOf pairs x).filter fun y => y.2).map id)
section
variable {rs : List (Sy × List Sy)} {empty : List Sy} (T : IsLt ltS) (he : ∀ z, z ∈ empty ↔ Nul rs z)
include T he
theorem come1_mem {x z : Sy} (hz : (srt ltP (all1 empty rs)).length < 64) : z ∈ comeOf (srt ltP (all1 empty rs)) x ↔ Reach (R1 rs) x z :=
  ((come_ok T hz x).mem z).trans (Reach.iff fun a b => srt_mem.trans (all1_mem he))
theorem come2_mem {x z : Sy} (hz : (srt ltP (all2 empty rs)).length < 64) : z ∈ comeOf (srt ltP (all2 empty rs)) x ↔ Reach (R2 rs) x z :=
  ((come_ok T hz x).mem z).trans (Reach.iff fun a b => srt_mem.trans (all2_mem he))
theorem first_mem {x z : Sy} (hz : (srt ltP (all1 empty rs)).length < 64) : z ∈ firstOf (srt ltP (all1 empty rs)) x ↔ Fi term rs x z := by
  unfold firstOf
  rw [srt_mem, List.map_id, List.mem_filter, come1_mem T he hz]
  exact and_comm
end
/-- the symbols of the law -/
def symL (rs : List (Sy × List Sy)) : List Sy := ((rs.filter fun _ => true).map Prod.fst) ++ rs.flatMap fun r => r.2.map fun x => x
theorem symL_mem {rs : List (Sy × List Sy)} {z : Sy} : z ∈ symL rs ↔ ∃ r ∈ rs, z = r.1 ∨ z ∈ r.2 := by
  unfold symL
  simp only [List.mem_append, List.mem_map, List.mem_filter, List.mem_flatMap]
  constructor
  · rintro (⟨r, ⟨hr, _⟩, rfl⟩ | ⟨r, hr, x, hx, rfl⟩)
    · exact ⟨r, hr, .inl rfl⟩
    · exact ⟨r, hr, .inr hx⟩
  · rintro ⟨r, hr, rfl | hz⟩
    · exact .inl ⟨r, ⟨hr, trivial⟩, rfl⟩
    · exact .inr ⟨r, hr, z, hz, rfl⟩
theorem symL_ok (T : IsLt ltS) (rs : List (Sy × List Sy)) : SymsOk rs (srt ltS (symL rs)) :=
  ⟨srt_nodup T _, fun r hr => srt_mem.mpr (symL_mem.mpr ⟨r, hr, .inl rfl⟩), fun r hr x hx => srt_mem.mpr (symL_mem.mpr ⟨r, hr, .inr hx⟩)⟩
theorem symL_len {rs : List (Sy × List Sy)} (h6 : rs.length ≤ 6) (h : ∀ r ∈ rs, r.2.length ≤ 5) : (symL rs).length ≤ 36 := by
  unfold symL
  have e1 := List.length_filter_le (fun _ : Sy × List Sy => true) rs
  have e2 := flat_le (B := 5) (l := rs) (fn := fun r => r.2.map fun x => x) fun r hr => by rw [List.length_map]; exact h r hr
  rw [List.length_append, List.length_map]
  omega
section
variable {α : Type} {w : World} {f : Heap} {T : Ty α} {xs : List (Row Sy)} {ks : List Sy}
theorem LawRows.putF {m : Sy → α} {x : Sy} {y : α} {a : Addr} {v : Value} (R : LawRows f (fun f z v => T.is f (m z) v) xs ks) (hx : Ty.law.is f x (.ref a)) (hv : T.is f y v) : LawRows f (fun f z v => T.is f (if z = x then y else m z) v) (putRow xs x (.ref a) v) (addKey ks x) := by
  unfold putRow addKey
  cases q : placeOf xs x with
  | none =>
    have hn : x ∉ xs.map (·.1) := placeOf_none_iff.mp q
    have hn' := hn
    rw [R.keys] at hn
    rw [if_neg (by rw [has_not.mpr hn]; simp)]
    refine ⟨fun y hy => ?_, fun z hz => ?_, by rw [List.map_append, R.keys]; rfl, ?_⟩
    · rcases List.mem_append.mp hy with h | h
      · exact R.key y h
      · simp at h; subst h; exact hx
    · rcases List.mem_append.mp hz with h | h
      · have ne : z.1 ≠ x := fun e => hn' (e ▸ List.mem_map_of_mem h)
        show T.is f (if z.1 = x then y else m z.1) z.2.2
        rw [if_neg ne]; exact R.val z h
      · simp at h; subst h
        show T.is f (if x = x then y else m x) v
        rw [if_pos rfl]; exact hv
    · exact List.nodup_append.mpr ⟨R.nodup, by simp, fun b hb c hc e => by simp at hc; subst hc; subst e; exact hn hb⟩
  | some j =>
    have hn : x ∈ ks := by
      refine Classical.byContradiction fun z => ?_
      rw [← R.keys, ← placeOf_none_iff, q] at z; cases z
    rw [if_pos (has_iff.mpr hn)]
    refine ⟨fun y hy => ?_, fun z' hz' => ?_, by rw [keys_setRow, R.keys], R.nodup⟩
    · obtain ⟨z, hz, rfl⟩ := List.mem_map.mp hy
      rw [(setRow_key x v z).1, (setRow_key x v z).2]
      exact R.key z hz
    · obtain ⟨z, hz, rfl⟩ := List.mem_map.mp hz'
      show T.is f (if (setRow x v z).1 = x then y else m (setRow x v z).1) (setRow x v z).2.2
      rw [(setRow_key x v z).1]
      by_cases e : z.1 = x
      · rw [if_pos e]; unfold setRow; rw [if_pos e]; exact hv
      · rw [if_neg e]; unfold setRow; rw [if_neg e]; exact R.val z hz
end
/-- follow as it grows: so many pairs done -/
def FoI (bs : List (Sy × Sy)) (come fst : Sy → List Sy) (n : Nat) (m : Sy → List Sy) : Prop := (∀ x, (m x).Nodup) ∧ ∀ x z, z ∈ m x ↔ ∃ i, i < n ∧ ∃ p, bs[i]? = some p ∧ x ∈ come p.1 ∧ z ∈ fst p.2
def FoJ (bs : List (Sy × Sy)) (come fst : Sy → List Sy) (n : Nat) (p : Sy × Sy) (k : Nat) (m : Sy → List Sy) : Prop :=
  (∀ x, (m x).Nodup) ∧ ∀ x z, z ∈ m x ↔ (∃ i, i < n ∧ ∃ p, bs[i]? = some p ∧ x ∈ come p.1 ∧ z ∈ fst p.2) ∨ (x ∈ (come p.1).take k ∧ z ∈ fst p.2)
section
variable {bs : List (Sy × Sy)} {come fst : Sy → List Sy} {n k : Nat} {p : Sy × Sy} {m : Sy → List Sy}
theorem FoI.first : FoI bs come fst 0 fun _ => [] := ⟨fun _ => by simp, fun x z => by simp⟩
theorem FoI.in (I : FoI bs come fst n m) : FoJ bs come fst n p 0 m := ⟨I.1, fun x z => by rw [I.2]; simp⟩
theorem FoJ.out (J : FoJ bs come fst n p (come p.1).length m) (hp : bs[n]? = some p) : FoI bs come fst (n + 1) m := by
  refine ⟨J.1, fun x z => ?_⟩
  rw [J.2, List.take_length]
  constructor
  · rintro (⟨i, hi, q, h⟩ | h)
    · exact ⟨i, by omega, q, h⟩
    · exact ⟨n, by omega, p, hp, h⟩
  · rintro ⟨i, hi, q, h1, h2⟩
    by_cases e : i = n
    · subst e
      rw [hp] at h1; cases h1
      exact .inr h2
    · exact .inl ⟨i, by omega, q, h1, h2⟩
theorem FoJ.step (J : FoJ bs come fst n p k m) (nd : (fst p.2).Nodup) {x : Sy} (hx : (come p.1)[k]? = some x) :
    FoJ bs come fst n p (k + 1) fun z => if z = x then m x ++ ((fst p.2).filter fun t => !has t (m x)).map id else m z := by
  refine ⟨fun z => ?_, fun y z => ?_⟩
  · show (if z = x then _ else m z).Nodup
    split
    · rw [List.map_id]
      refine List.nodup_append.mpr ⟨J.1 x, nd.filter _, fun a ha b hb e => ?_⟩
      subst e
      have := (List.mem_filter.mp hb).2
      rw [has_iff.mpr ha] at this; cases this
    · exact J.1 z
  · rw [take_stepG' hx, List.mem_append, List.mem_singleton]
    show z ∈ (if y = x then _ else m y) ↔ _
    by_cases e : y = x
    · subst e
      rw [if_pos rfl, List.map_id, List.mem_append, J.2, List.mem_filter]
      constructor
      · rintro ((h | h) | h)
        · exact .inl h
        · exact .inr ⟨.inl h.1, h.2⟩
        · exact .inr ⟨.inr rfl, h.1⟩
      · rintro (h | ⟨h, hz⟩)
        · exact .inl (.inl h)
        · by_cases q : z ∈ m y
          · exact .inl ((J.2 y z).mp q)
          · exact .inr ⟨hz, by rw [has_not.mpr q]; rfl⟩
    · rw [if_neg e, J.2]
      constructor
      · rintro (h | h)
        · exact .inl h
        · exact .inr ⟨.inl h.1, h.2⟩
      · rintro (h | ⟨h | h, hz⟩)
        · exact .inl h
        · exact .inr ⟨h, hz⟩
        · exact absurd h e
end
theorem fo_mem {rs : List (Sy × List Sy)} {empty : List Sy} (T : IsLt ltS) (he : ∀ z, z ∈ empty ↔ Nul rs z) (h1 : (srt ltP (all1 empty rs)).length < 64) (h2 : (srt ltP (all2 empty rs)).length < 64) {m : Sy → List Sy}
    (I : FoI (srt ltP (all3 empty rs)) (comeOf (srt ltP (all2 empty rs))) (firstOf (srt ltP (all1 empty rs))) (srt ltP (all3 empty rs)).length m) {x z : Sy} : z ∈ m x ↔ Fo term rs x z := by
  rw [I.2]
  unfold Fo
  constructor
  · rintro ⟨i, hi, ⟨a, b⟩, hp, hx, hz⟩
    exact ⟨a, b, (all3_mem he).mp (srt_mem.mp (List.mem_of_getElem? hp)), (come2_mem T he h2).mp hx, (first_mem T he h1).mp hz⟩
  · rintro ⟨a, b, hb, hx, hz⟩
    obtain ⟨i, hi⟩ := List.getElem?_of_mem (srt_mem.mpr ((all3_mem he).mpr hb) : (a, b) ∈ srt ltP (all3 empty rs))
    exact ⟨i, (List.getElem?_eq_some_iff.mp hi).1, (a, b), hi, (come2_mem T he h2).mpr hx, (first_mem T he h1).mpr hz⟩
end Mine
end
section
open PySem PySem.W PyProof.Rows PySem.Calls
set_option Elab.async false
set_option linter.unusedVariables false
set_option linter.unusedSectionVars false
namespace Mine
theorem R2.sym {rs : List (Sy × List Sy)} {syms : List Sy} (S : SymsOk rs syms) {a b : Sy} (h : R2 rs a b) : b ∈ syms := by
  obtain ⟨e, h1, i, h2, _⟩ := h
  exact S.exp _ h1 _ (List.mem_of_getElem? h2)
theorem Reach2.sym {rs : List (Sy × List Sy)} {syms : List Sy} (S : SymsOk rs syms) {a b : Sy} (ha : a ∈ syms) (h : Reach (R2 rs) a b) : b ∈ syms := by
  cases h with
  | refl => exact ha
  | step _ h => exact h.sym S
theorem Bes.sym {rs : List (Sy × List Sy)} {syms : List Sy} (S : SymsOk rs syms) {a b : Sy} (h : Bes rs a b) : a ∈ syms ∧ b ∈ syms := by
  obtain ⟨o, e, h1, i, j, _, h2, h3, _⟩ := h
  exact ⟨S.exp _ h1 _ (List.mem_of_getElem? h2), S.exp _ h1 _ (List.mem_of_getElem? h3)⟩
theorem enumL_mem {α : Type} {l : List α} {q : Nat × α} (h : q ∈ enumL l) : q.2 ∈ l := by
  obtain ⟨i, hi⟩ := List.getElem?_of_mem h
  rw [enumL_get] at hi
  obtain ⟨x, hx, rfl⟩ := Option.map_eq_some_iff.mp hi
  exact List.mem_of_getElem? hx
theorem enumL_of {α : Type} {l : List α} {x : α} (h : x ∈ l) : ∃ i, (i, x) ∈ enumL l := by
  obtain ⟨i, hi⟩ := List.getElem?_of_mem h
  refine ⟨i, List.mem_of_getElem? (i := i) ?_⟩
  rw [enumL_get, hi]; rfl
/-- the rules as listed -/
def listL (rules : List (Sy × List Sy)) : List Ru := ((enumL rules).filter fun _ => true).map fun q => ⟨q.2.1, (q.2.2.filter fun _ => true).map id, q.1⟩
def handL (b : Bool) (l : List Ru) : List Ru := if b then l else l.reverse ++ l.take 1
theorem listL_len {rules : List (Sy × List Sy)} : (listL rules).length ≤ rules.length := by
  unfold listL
  rw [List.length_map]
  exact Nat.le_trans (List.length_filter_le _ _) (by rw [enumL_length]; exact Nat.le_refl _)
theorem listL_mem {rules : List (Sy × List Sy)} {r : Sy × List Sy} : r ∈ pureOf' (listL rules) ↔ r ∈ rules := by
  unfold pureOf' listL
  rw [List.map_map, List.filter_eq_self.mpr (fun _ _ => rfl)]
  simp only [List.mem_map, Function.comp]
  constructor
  · rintro ⟨q, hq, rfl⟩
    rw [List.filter_eq_self.mpr (fun _ _ => rfl), List.map_id]
    exact enumL_mem hq
  · intro h
    obtain ⟨i, hi⟩ := enumL_of h
    exact ⟨_, hi, by rw [List.filter_eq_self.mpr (fun _ _ => rfl), List.map_id]⟩
theorem handL_mem {b : Bool} {l : List Ru} {r : Ru} : r ∈ handL b l ↔ r ∈ l := by
  unfold handL
  cases b with
  | true => exact Iff.rfl
  | false =>
    show r ∈ l.reverse ++ l.take 1 ↔ _
    rw [List.mem_append, List.mem_reverse]
    exact ⟨fun h => h.elim id List.mem_of_mem_take, .inl⟩
theorem handL_len {b : Bool} {l : List Ru} : (handL b l).length ≤ l.length + 1 := by
  unfold handL
  cases b with
  | true => show l.length ≤ _; omega
  | false =>
    show (l.reverse ++ l.take 1).length ≤ _
    rw [List.length_append, List.length_reverse]
    have := List.length_take_le 1 l; omega
theorem hand_pure {b : Bool} {rules : List (Sy × List Sy)} {r : Sy × List Sy} : r ∈ pureOf' (handL b (listL rules)) ↔ r ∈ rules := by
  refine Iff.trans ?_ listL_mem
  unfold pureOf'
  simp only [List.mem_map, handL_mem]
theorem hand_short {b : Bool} {rules : List (Sy × List Sy)} (h : ∀ r ∈ rules, r.2.length ≤ 5) : ∀ r ∈ handL b (listL rules), r.expansion.length ≤ 5 := fun r hr => by
  have : (r.origin, r.expansion) ∈ pureOf' (handL b (listL rules)) := List.mem_map.mpr ⟨r, hr, rfl⟩
  exact h _ (hand_pure.mp this)
/-- what is kept of the rules -/
def keptL (l : List Ru) : List (Str × List Sy × Nat) := (l.filter fun _ => true).map fun r => (r.origin.1, (r.expansion.filter fun _ => true).map (fun x => (x.1, x.2)), r.order)
theorem pair_map {l : List Sy} {p : Sy → Bool} (hp : ∀ x, p x = true) : (l.filter p).map (fun x => (x.1, x.2)) = l := by
  rw [List.filter_eq_self.mpr fun x _ => hp x]
  exact List.map_id l
/-- the same sets told in another order -/
theorem same_sorted (T : IsLt ltS) {l l' : List Sy} (h : ∀ z, z ∈ l ↔ z ∈ l') : (!decide (srt ltS l = srt ltS l')) = false := by rw [srt_congr T h]; simp
end Mine
namespace Mine
section
variable {α : Type} {w : World} {A : Around} {env : Env} {f h : Heap} {syms : List Sy}
theorem Ts.cast {e : Expr} {b b' : Bool} (x : Ts w A env e f h b) (k : b = b') : Ts w A env e f h b' := k ▸ x
/-- FIRST[k] of the sets -/
theorem tab_os2 {X : Str} {x : Sy} {v : Value} {G : Sy → List Sy} (K : Ok w f) (kf : f.StaysIn h) (rm : Rm A 200) (hX : Var w env h X v) (t : (Ty.tab w syms).is f G v) (hx : x ∈ syms) :
    ∃ D xs ep, h.get? D = some (symDic w xs ep) ∧ SymRows f AnyV xs (G x) ∧ ∀ (k' : Expr) (p1 pos : Pos), Es w A env k' f h Ty.sym x → (∀ o v, subscripted k' false o v = operate [o, v] (getItem o v) ∨ subscripted k' false o v = operate [v, o] (getItem o v)) →
      Es w A env (.Subscript (.Name X p1) k' pos) f h Ty.os D := by
  obtain ⟨dd, xs, ep, rfl, lo, e, R⟩ := t
  obtain ⟨v, hv, a, D, xs', ep', rfl, oa, eD, RD⟩ := valAtRow_of R hx
  refine ⟨D, xs', ep', kf _ _ eD, RD, fun k' p1 pos hk hs => ?_⟩
  exact es_sub (T := Ty.val) (a := .ref dd) (es_name hX rfl) hk ty_dict (fun f' h' u k t' g d tk os => by
    cases t'
    exact ⟨_, k.fh _ _ (k.fk _ _ e), rfl⟩) (fun f' h' u v k t' ti g d tk os Q hq => by
    cases t'
    obtain ⟨b, tt, rfl, n⟩ := ti
    have K' := K.keeps k.fk
    have R' := R.mono (P := fun f x v => (Ty.oset w).is f (G x) v) k.fk fun x v t => Ty.mono _ k.fk t
    refine dicItem (K := symKind K') (xs := xs) (ep := ep) (s := ⟨h', g, d, tk, os⟩) (by show 0 + 1 ≤ 8; omega) (by have := rm.units; have : cLine = 9900 := rfl; show A.units + 1 + 10 * (0 + 1) < _; omega) k.fh ⟨b, tt, rfl, n⟩ (k.fh _ _ (k.fk _ _ e)) (R'.keysIn K') hv fun tk' => ?_
    exact hq _ f' g _ _ _ (.refl k.fh) (.refl g) ⟨a, rfl, oa.mono k.fk⟩) hs
/-- len(FIRST) -/
theorem es_len_tab {x : Str} {p pos : Pos} {e : Expr} {G : Sy → List Sy} (X : Var w env h x (.builtin "len")) (y : Es w A env e f h (Ty.tab w syms) G) (hz : syms.length ≤ 1000) (he : starEach [e] env = (false, eval e env) :: starEach [] env := by rfl)
    (hpl : (backTo pos (starEach [e] env)).any (·.1) = false := by rfl) (hn : [e] = [] ∨ ∃ x r, backTo pos (starEach [e] env) = (false, x) :: r := by first | exact .inl rfl | exact .inr ⟨_, _, rfl⟩) : Es w A env (.Call (.Name x p) [e] [] pos) f h .nat syms.length :=
  es_call X Kp.builtin (args1 y he) (fun f' h' vs k ⟨v, e, t⟩ => by
    subst e
    obtain ⟨dd, xs, ep, rfl, lo, g, R⟩ := t
    refine (p_len_dic k.fh lo g (by rw [R.len]; exact hz)).mono fun f'' h'' v e ⟨t, q⟩ => ⟨t, ?_⟩
    rw [q, R.len]) hpl hn
end
theorem same_len {l l' : List Sy} (n : l.Nodup) (n' : l'.Nodup) (h : ∀ z, z ∈ l ↔ z ∈ l') : l.length = l'.length :=
  Nat.le_antisymm (nodup_le n fun z hz => (h z).mp hz) (nodup_le n' fun z hz => (h z).mpr hz)
theorem symsOf_mem {rules : List Ru} {z : Sy} : z ∈ symsOf rules ↔ ∃ r ∈ pureOf' rules, z = r.1 ∨ z ∈ r.2 := by
  unfold symsOf
  rw [addAll_mem]
  unfold pureOf'
  simp only [List.not_mem_nil, false_or, List.mem_append, List.mem_flatMap, List.mem_map]
  constructor
  · rintro (⟨r, hr, s, hs, rfl⟩ | ⟨r, hr, rfl⟩)
    · exact ⟨_, ⟨r, hr, rfl⟩, .inr hs⟩
    · exact ⟨_, ⟨r, hr, rfl⟩, .inl rfl⟩
  · rintro ⟨_, ⟨r, hr, rfl⟩, rfl | hz⟩
    · exact .inr ⟨r, hr, rfl⟩
    · exact .inl ⟨r, hr, z, hz, rfl⟩
end Mine
end
section
open PySem PySem.W PyProof.Rows PySem.Calls
set_option Elab.async false
set_option linter.unusedVariables false
set_option linter.unusedSectionVars false
namespace Mine
theorem fillXh : PySem.Challenge.rw_fi0012_01 = PySem.Challenge.rw_fi0012_01 ∧ hd.heap_39 = hd.heap_39 := by
  k_fill
  exact ⟨rfl, rfl⟩
section
variable {w : World} {A : Around} {f : Heap}
theorem all1_len {empty : List Sy} {rs : List (Sy × List Sy)} (h : ∀ r ∈ rs, r.2.length ≤ 5) : (all1 empty rs).length ≤ rs.length * 5 := flat_le fun r hr => row1_len (h r hr)
theorem all2_len {empty : List Sy} {rs : List (Sy × List Sy)} (h : ∀ r ∈ rs, r.2.length ≤ 5) : (all2 empty rs).length ≤ rs.length * 5 := flat_le fun r hr => row2_len (h r hr)
theorem all3_len {empty : List Sy} {rs : List (Sy × List Sy)} (h : ∀ r ∈ rs, r.2.length ≤ 5) : (all3 empty rs).length ≤ rs.length * 10 := flat_le fun r hr => row3_len (h r hr) (Nat.le_refl _)
theorem take_stepG {α : Type} {l : List α} {i : Nat} {x : α} (h : l[i]? = some x) : l.take (i + 1) = l.take i ++ [x] := by rw [List.take_add_one, h]; rfl
theorem take_le6 {α : Type} {l : List α} (h : l.length ≤ 6) (i : Nat) : (l.take i).length ≤ 6 := Nat.le_trans (List.length_take_le' i l) h
def scriptOf (ns : List Int) : List Int := if ns = [] then [8, 1, 4, 5, 2] else ns.take 24
theorem scriptOf_len (ns : List Int) : (scriptOf ns).length < 64 := by
  unfold scriptOf
  split
  · simp
  · have := List.length_take_le 24 ns; omega
/-- what stands in the frame behind the first loop -/
structure MV (mm : Vars) (u1 u2 u3 vS vF vL vR vE u : Value) : Prop where
  v1 : mm (Str.ofString "firsts") = some u1
  v2 : mm (Str.ofString "lasts") = some u2
  v3 : mm (Str.ofString "besides") = some u3
  vS : mm (Str.ofString "symbols") = some vS
  vF : mm (Str.ofString "first") = some vF
  vL : mm (Str.ofString "follow") = some vL
  vR : mm (Str.ofString "rules") = some vR
  vE : mm (Str.ofString "empty") = some vE
  vC : mm (Str.ofString "script") = some u
theorem MV.re {mm mm' : Vars} {u1 u2 u3 vS vF vL vR vE u : Value} (S : MV mm u1 u2 u3 vS vF vL vR vE u) (h1 : mm' (Str.ofString "firsts") = mm (Str.ofString "firsts") := by rfl) (h2 : mm' (Str.ofString "lasts") = mm (Str.ofString "lasts") := by rfl) (h3 : mm' (Str.ofString "besides") = mm (Str.ofString "besides") := by rfl)
    (h4 : mm' (Str.ofString "symbols") = mm (Str.ofString "symbols") := by rfl) (h5 : mm' (Str.ofString "first") = mm (Str.ofString "first") := by rfl) (h6 : mm' (Str.ofString "follow") = mm (Str.ofString "follow") := by rfl) (h7 : mm' (Str.ofString "rules") = mm (Str.ofString "rules") := by rfl) (h8 : mm' (Str.ofString "empty") = mm (Str.ofString "empty") := by rfl) (h9 : mm' (Str.ofString "script") = mm (Str.ofString "script") := by rfl) :
    MV mm' u1 u2 u3 vS vF vL vR vE u := ⟨h1.trans S.v1, h2.trans S.v2, h3.trans S.v3, h4.trans S.vS, h5.trans S.vF, h6.trans S.vL, h7.trans S.vR, h8.trans S.vE, h9.trans S.vC⟩
set_option maxRecDepth 100000 in
set_option maxHeartbeats 0 in
theorem law_code {s : Shared} {RR : Result → Shared → Prop} {u : Value} {ns : List Int} (K : Ok w f) (kf : f.StaysIn s.heap) (rm : Rm A 60) (tu : (Ty.list Ty.int).is f ns u) (hz : ns.length < 64)
    (hq : ∀ h' f' g' d' tk', Ext Nil f s.heap f' h' → Gx s.gens g' → RR (.ok (.ret (.bool true))) ⟨h', g', d', tk', s.os⟩) : codeAny (model PP w) A (.call (.ref 459) ⟨[u], []⟩) RR s := by
  obtain ⟨h, g, d, tk, os⟩ := s
  refine' call_fs (binds := [(Str.ofString "script", u)]) K kf ?ho ?hcd ?hr ?hb ?hk ?hcl ?hnd ?body ?c1 ?c2 ?c3
  case ho => k_is
  case hcd => k_is
  case hr => have := rm.depth; have : recursionLimit = 1000 := rfl; omega
  case hb => exact BindsTo.of_eq rfl
  case hk => rfl
  case hcl => rfl
  case hnd => decide
  case c1 => rfl
  case c2 => rfl
  case c3 => rfl
  case body =>
    intro L h₁ tk₁ W F
    generalize hA : A.deeper _ = A'
    have rm' : Rm A' 63 := hA ▸ rm.deeper
    refine wpAny_mono (Q := RetEnd f h g os (fun _ v => v = .bool true)) ?_ (fun fl s' r => ?_) fun _ _ z => z
    rotate_left
    · obtain ⟨f', h', g', d', tk', rfl, e, ge, r⟩ := r
      rw [r]
      exact hq _ _ _ _ _ e ge
    dsimp only at F kf hq ⊢
    refine st_assign (T := Ty.ex RulesOk (Ty.list Ty.rul)) (a := ()) W F (.inl rfl) (es_call (v_glob K F.ext.fh (by k_is)) (kp_ref K F.ext.fh (by k_is)) (args1 (T := .list .int) (a := scriptOf ns) (es_ite (ts_cmp (es_name (F.var W rfl rfl) tu) es_list0 (fun f' h' u v k t t' => p_ne_list eqk_int (by omega) k.fh rm'.mono t t'))
      (fun hb => Es.cast (es_slice_list (es_name (F.var W rfl rfl) tu) (es_slice ep_none (ep_nat (es_nat (i := 24))) ep_none) (by simp) (by omega)) (by
        have hb : ns ≠ [] := by simpa using hb
        unfold scriptOf; rw [if_neg hb]; exact pick_to ns 24))
      (fun hb => Es.cast es_ints5 (by
        have hb : ns = [] := by simpa using hb
        unfold scriptOf; rw [if_pos hb])))) ?call1) ?k1
    case call1 =>
      rintro f' h' vs k ⟨v, rfl, t⟩
      exact p_rules (K.keeps k.fk) k.fh rm'.mono t (scriptOf_len ns)
    case k1 =>
    rintro f1 h1 g1 d1 tk1 vR k1 ge1 ⟨rules, rok, tR⟩ F1
    have K1 := K.keeps k1
    have few := rok.few
    refine st_assign (T := Ty.ex (fun e => ∃ found, (∀ z, z ∈ found ↔ Nul rules z) ∧ e = srt ltS found) (Ty.list Ty.law)) (a := ()) W F1 (.inr ⟨rfl, _, rfl⟩) (es_call (v_glob K1 F1.ext.fh (by k_is)) (kp_ref K1 F1.ext.fh (by k_is)) (args1 (es_name (F1.var W (v := vR) rfl rfl) tR)) ?call2) ?k2
    case call2 =>
      rintro f' h' vs k ⟨v, rfl, t⟩
      refine (p_nullable (K1.keeps k.fk) k.fh rm'.mono t (by omega) fun r hr => Nat.le_trans (rok.short r hr) (by omega)).mono ?_
      rintro f'' h'' v e ⟨found, c1, c2⟩
      exact ⟨_, ⟨found, c1, rfl⟩, c2⟩
    case k2 =>
    rintro f2 h2 g2 d2 tk2 vE k2 ge2 ⟨empty, ⟨found, hfound, hempty⟩, tE⟩ F2
    have K2 := K1.keeps k2
    have tR := Ty.mono _ k2 tR
    have he : ∀ z, z ∈ empty ↔ Nul rules z := fun z => by rw [hempty, srt_mem]; exact hfound z
    refine st_own3 rm'.hh W F2 (.inl rfl) (.inl rfl) (.inl rfl) fun h3 tk3 a1 a2 a3 z1 z2 z3 n12 n13 n23 F3 => ?_
    have fz : ∀ a o, (a, o) ∈ [(a1, listOf #[] 0), (a2, listOf #[] 0), (a3, listOf #[] 0)] → h.get? a = none := fun a o hm => by
      have := (F3.own (a, o) hm).2.2.2.1
      exact this.elim id fun z => z.elim
    refine st_for (T := Ty.rul) (xs := rules) F3 (itr_list rm'.hh (es_name (F3.var W (v := vR) rfl rfl) tR)) (fun _ z => z.elim)
      (fun i f' mm' own' => LS f2 f' mm' own' vR vE u a1 a2 a3 (all1 empty (rules.take i)) (all2 empty (rules.take i)) (all3 empty (rules.take i)))
      (fun f' mm' own' => LS f2 f' mm' own' vR vE u a1 a2 a3 (all1 empty rules) (all2 empty rules) (all3 empty rules))
      (fun i f f' mm own k S => S.mono k) (takesF_pair rm'.hh W (.inl rfl) (.inl rfl)) ⟨fun _ _ e => e, rfl, rfl, rfl, rfl, rfl, rfl, #[], 0, #[], 0, #[], 0, rfl, .nil, .nil, .nil⟩ ?turn4 (fun f mm own S => by rw [List.take_length] at S; exact S) ?k4
    case turn4 =>
      rintro i r f4 h4 g4 d4 tk4 mm mm4 own4 hr S4 ⟨vo, ve, to, te, rfl⟩ F4
      have S4 : LS f2 f4 ((mm.set (Str.ofString "origin") vo).set (Str.ofString "expansion") ve) own4 vR vE u a1 a2 a3 _ _ _ := S4.re
      have hrm := List.mem_of_getElem? hr
      have hs5 := rok.short r hrm
      have K4 := K2.keeps S4.kf
      have tk6 := take_le6 few i
      have tks : ∀ r ∈ rules.take i, r.2.length ≤ 5 := fun r hr => rok.short r (List.mem_of_mem_take hr)
      have b1 := all1_len (empty := empty) tks
      have b2 := all2_len (empty := empty) tks
      have b3 := all3_len (empty := empty) tks
      have stp1 : all1 empty (rules.take (i + 1)) = all1 empty (rules.take i) ++ row1 empty r r.2.length := by rw [take_stepG hr]; unfold all1; rw [List.flatMap_append]; simp
      have stp2 : all2 empty (rules.take (i + 1)) = all2 empty (rules.take i) ++ row2 empty r r.2.length := by rw [take_stepG hr]; unfold all2; rw [List.flatMap_append]; simp
      have stp3 : all3 empty (rules.take (i + 1)) = all3 empty (rules.take i) ++ row3 empty r r.2.length := by rw [take_stepG hr]; unfold all3; rw [List.flatMap_append]; simp
      refine st_for (T := Ty.nat) (xs := natsFrom 0 (r.2.length - 0)) F4 (itr_range rm'.hh (es_range1 (v_built K4 F4.ext.fh (by k_is) rfl) (es_len_list (v_built K4 F4.ext.fh (by k_is) rfl) (es_name (F4.var W (v := ve) rfl rfl) te) (by omega))) (by omega) (by omega)) (fun _ z => z.elim)
        (fun j f' mm' own' => f4.StaysIn f' ∧ mm' (Str.ofString "origin") = some vo ∧ mm' (Str.ofString "expansion") = some ve ∧ LS f2 f' mm' own' vR vE u a1 a2 a3 (all1 empty (rules.take i) ++ row1 empty r j) (all2 empty (rules.take i) ++ row2 empty r j) (all3 empty (rules.take i) ++ row3 empty r j))
        (fun f' mm' own' => LS f2 f' mm' own' vR vE u a1 a2 a3 (all1 empty (rules.take (i + 1))) (all2 empty (rules.take (i + 1))) (all3 empty (rules.take (i + 1))))
        ?jm5 (takesF_name W (.inl rfl)) ⟨fun _ _ e => e, rfl, rfl, S4.to (by simp [row1, natsFrom]) (by simp [row2, natsFrom]) (by simp [row3, natsFrom])⟩ ?turn5 ?jz5 ?k5
      case jm5 => rintro j f f' mm own k ⟨c0, c1, c2, c3⟩; exact ⟨fun b o e => k _ _ (c0 b o e), c1, c2, c3.mono k⟩
      case jz5 => rintro f mm own ⟨c0, c1, c2, c3⟩; rw [natsFrom_length, Nat.sub_zero] at c3; exact c3.to stp1.symm stp2.symm stp3.symm
      case k5 =>
        rintro f5 h5 g5 d5 tk5 mm5 own5 ge5 F5 S5
        exact wpAny_execs_nil ⟨f5, h5, g5, d5, tk5, mm5, own5, rfl, ge5, F5, S5⟩
      case turn5 =>
        rintro j jj f5 h5 g5 d5 tk5 mm5 mm6 own5 hj ⟨k5, vo5, ve5, S5⟩ ⟨vi, ti, rfl⟩ F5
        obtain ⟨hjl, hjj⟩ := natsFrom_get hj
        rw [Nat.zero_add] at hjj
        subst hjj
        rw [Nat.sub_zero] at hjl
        have S5 : LS f2 f5 (mm5.set (Str.ofString "i") vi) own5 vR vE u a1 a2 a3 _ _ _ := S5.re
        obtain ⟨b, hb⟩ : ∃ b, r.2[jj]? = some b := ⟨_, List.getElem?_eq_getElem hjl⟩
        have r1l := row1_len (empty := empty) (r := r) (n := jj) (by omega)
        have r2l := row2_len (empty := empty) (r := r) (n := jj) (by omega)
        have r3l := row3_len (empty := empty) (r := r) (n := jj) hs5 (by omega)
        obtain ⟨w1, n1, w2, n2, w3, n3, rfl, p1, p2, p3⟩ := S5.own
        have te5 := Ty.mono _ k5 te
        have to5 := Ty.mono _ k5 to
        have tE5 := Ty.mono _ S5.kf tE
        refine st_put (T := Ty.two) (y := (r.1, b)) (pre := []) (post := [(a2, listOf w2 n2), (a3, listOf w3 n3)]) W F5 (fun p hp => by
            rcases List.mem_cons.mp hp with rfl | hp
            · exact n12.symm
            · rcases List.mem_cons.mp hp with rfl | hp
              · exact n13.symm
              · cases hp) (by rw [List.length_append]; omega) p1 S5.v1 rfl
          (ts_gone rm'.mono (es_slice_list (es_name (F5.var W (v := ve) ve5 rfl) te5) (es_slice ep_none (ep_nat (es_name (F5.var W (v := vi) rfl rfl) ti)) ep_none) (by simp) (by omega)) (by rw [pick_to]; have := List.length_take_le' jj r.2; omega) rfl tE5 (fun C f' h' k => F5.fvk k.stays S5.vE rfl))
          (fun _ f' h' k F' => es_tup2 (es_name (F'.var W (v := vo) vo5 rfl) (Ty.mono _ k to5)) (es_item_list (es_name (F'.var W (v := ve) ve5 rfl) (Ty.mono _ k te5)) (es_name (F'.var W (v := vi) rfl rfl) (Ty.mono _ k ti)) (by omega) hb)) ?_
        rw [pick_to]
        intro f6 h6 g6 d6 tk6' w1' n1' k6 ge6 p1' F6
        rw [← at1_eq hb, List.append_assoc, ← row1_step] at p1'
        have te6 := Ty.mono _ k6 te5
        have to6 := Ty.mono _ k6 to5
        have tE6 := Ty.mono _ k6 tE5
        have ti6 := Ty.mono _ k6 ti
        have p2 := p2.mono (Q := Ty.two.is f6) fun _ _ => Ty.mono _ k6
        have p3 := p3.mono (Q := Ty.two.is f6) fun _ _ => Ty.mono _ k6
        refine st_put (T := Ty.two) (y := (r.1, b)) (pre := [(a1, listOf w1' n1')]) (post := [(a3, listOf w3 n3)]) W F6 (fun p hp => by
            rcases List.mem_cons.mp hp with rfl | hp
            · exact n12
            · rcases List.mem_cons.mp hp with rfl | hp
              · exact n23.symm
              · cases hp) (by rw [List.length_append]; omega) p2 S5.v2 rfl
          (ts_gone rm'.mono (es_slice_list (es_name (F6.var W (v := ve) ve5 rfl) te6) (es_slice (ep_nat (es_bin (es_name (F6.var W (v := vi) rfl rfl) ti6) (es_nat (i := 1)) (fun f' h' u v k t t' => p_addn k.fh t t'))) ep_none ep_none) (by simp) (by omega)) (by rw [pick_from]; have := List.length_drop (i := jj + 1) (l := r.2); omega) rfl tE6 (fun C f' h' k => F6.fvk k.stays S5.vE rfl))
          (fun _ f' h' k F' => es_tup2 (es_name (F'.var W (v := vo) vo5 rfl) (Ty.mono _ k to6)) (es_item_list (es_name (F'.var W (v := ve) ve5 rfl) (Ty.mono _ k te6)) (es_name (F'.var W (v := vi) rfl rfl) (Ty.mono _ k ti6)) (by omega) hb)) ?_
        rw [pick_from]
        intro f7 h7 g7 d7 tk7 w2' n2' k7 ge7 p2' F7
        rw [← at2_eq hb, List.append_assoc, ← row2_step] at p2'
        have te7 := Ty.mono _ k7 te6
        have tE7 := Ty.mono _ k7 tE6
        have ti7 := Ty.mono _ k7 ti6
        have p1' := p1'.mono (Q := Ty.two.is f7) fun _ _ => Ty.mono _ k7
        have p3 := p3.mono (Q := Ty.two.is f7) fun _ _ => Ty.mono _ k7
        have k57 : f5.StaysIn f7 := fun b o e => k7 _ _ (k6 b o e)
        have S7 : LS f2 f7 (mm5.set (Str.ofString "i") vi) [(a1, listOf w1' n1'), (a2, listOf w2' n2'), (a3, listOf w3 n3)] vR vE u a1 a2 a3 _ _ _ := ⟨fun b o e => k57 _ _ (S5.kf b o e), S5.v1, S5.v2, S5.v3, S5.vR, S5.vE, S5.vS, w1', n1', w2', n2', w3, n3, rfl, p1', p2', p3⟩
        have K7 := K2.keeps S7.kf
        have r3il := fun n => row3i_len (empty := empty) (e := r.2) (i := jj) (n := n)
        refine st_for (T := Ty.nat) (xs := natsFrom (jj + 1) (r.2.length - (jj + 1))) F7 (itr_range rm'.hh (es_range2 (v_built K7 F7.ext.fh (by k_is) rfl) (es_bin (V := .nat) (es_name (F7.var W (v := vi) rfl rfl) ti7) (es_nat (i := 1)) (fun f' h' u v k t t' => p_addn k.fh t t')) (es_len_list (v_built K7 F7.ext.fh (by k_is) rfl) (es_name (F7.var W (v := ve) ve5 rfl) te7) (by omega))) (by omega) (by omega)) (fun _ z => z.elim)
          (fun k f' mm' own' => f7.StaysIn f' ∧ mm' (Str.ofString "origin") = some vo ∧ mm' (Str.ofString "expansion") = some ve ∧ mm' (Str.ofString "i") = some vi ∧ LS f2 f' mm' own' vR vE u a1 a2 a3 (all1 empty (rules.take i) ++ row1 empty r (jj + 1)) (all2 empty (rules.take i) ++ row2 empty r (jj + 1)) (all3 empty (rules.take i) ++ row3 empty r jj ++ row3i empty r.2 jj k))
          (fun f' mm' own' => f7.StaysIn f' ∧ mm' (Str.ofString "origin") = some vo ∧ mm' (Str.ofString "expansion") = some ve ∧ LS f2 f' mm' own' vR vE u a1 a2 a3 (all1 empty (rules.take i) ++ row1 empty r (jj + 1)) (all2 empty (rules.take i) ++ row2 empty r (jj + 1)) (all3 empty (rules.take i) ++ row3 empty r (jj + 1)))
          ?jm6 (takesF_name W (.inl rfl)) ⟨fun _ _ e => e, vo5, ve5, rfl, S7.to rfl rfl (by simp [row3i, natsFrom])⟩ ?turn6 ?jz6 ?k6
        case jm6 => rintro j f f' mm own k ⟨c0, c1, c2, c3, c4⟩; exact ⟨fun b o e => k _ _ (c0 b o e), c1, c2, c3, c4.mono k⟩
        case jz6 => rintro f mm own ⟨c0, c1, c2, c3, c4⟩; rw [natsFrom_length] at c4; exact ⟨c0, c1, c2, c4.to rfl rfl (by rw [List.append_assoc, ← row3_step])⟩
        case k6 =>
          rintro f8 h8 g8 d8 tk8 mm8 own8 ge8 F8 ⟨k8, c1, c2, S8⟩
          exact wpAny_execs_nil ⟨f8, h8, g8, d8, tk8, mm8, own8, rfl, (ge6.trans ge7).trans ge8, F8, fun b o e => k8 _ _ (k57 _ _ (k5 b o e)), c1, c2, S8⟩
        case turn6 =>
          rintro k kk f8 h8 g8 d8 tk8 mm8 mm9 own8 hk ⟨k8, vo8, ve8, vi8, S8⟩ ⟨vj, tj, rfl⟩ F8
          obtain ⟨hkl, hkk⟩ := natsFrom_get hk
          subst hkk
          have S8 : LS f2 f8 (mm8.set (Str.ofString "j") vj) own8 vR vE u a1 a2 a3 _ _ _ := S8.re
          obtain ⟨c, hc⟩ : ∃ c, r.2[jj + 1 + k]? = some c := ⟨_, List.getElem?_eq_getElem (by omega)⟩
          obtain ⟨w1, n1, w2, n2, w3, n3, rfl, p1, p2, p3⟩ := S8.own
          have te8 := Ty.mono _ k8 te7
          have tE8 := Ty.mono _ k8 tE7
          have ti8 := Ty.mono _ k8 ti7
          have := r3il k
          refine st_put (T := Ty.two) (y := (b, c)) (pre := [(a1, listOf w1 n1), (a2, listOf w2 n2)]) (post := []) W F8 (fun p hp => by
              rcases List.mem_cons.mp hp with rfl | hp
              · exact n13
              · rcases List.mem_cons.mp hp with rfl | hp
                · exact n23
                · cases hp) (by rw [List.length_append, List.length_append]; omega) p3 S8.v3 rfl
            (ts_gone rm'.mono (es_slice_list (es_name (F8.var W (v := ve) ve8 rfl) te8) (es_slice (ep_nat (es_bin (es_name (F8.var W (v := vi) vi8 rfl) ti8) (es_nat (i := 1)) (fun f' h' u v k t t' => p_addn k.fh t t'))) (ep_nat (es_name (F8.var W (v := vj) rfl rfl) tj)) ep_none) (by simp) (by omega)) (by rw [pick_mid]; have := cut_le r.2 (jj + 1) (jj + 1 + k); omega) rfl tE8 (fun C f' h' k => F8.fvk k.stays S8.vE rfl))
            (fun _ f' h' k' F' => es_tup2 (es_item_list (es_name (F'.var W (v := ve) ve8 rfl) (Ty.mono _ k' te8)) (es_name (F'.var W (v := vi) vi8 rfl) (Ty.mono _ k' ti8)) (by omega) hb) (es_item_list (es_name (F'.var W (v := ve) ve8 rfl) (Ty.mono _ k' te8)) (es_name (F'.var W (v := vj) rfl rfl) (Ty.mono _ k' tj)) (by omega) hc)) ?_
          rw [pick_mid]
          intro f9 h9 g9 d9 tk9 w3' n3' k9 ge9 p3' F9
          rw [← at3_eq hb hc, List.append_assoc _ (row3i _ _ _ _), ← row3i_step] at p3'
          exact wpAny_execs_nil ⟨f9, h9, g9, d9, tk9, _, _, rfl, ge9, F9, fun b o e => k9 _ _ (k8 b o e), vo8, ve8, vi8, fun b o e => k9 _ _ (S8.kf b o e), S8.v1, S8.v2, S8.v3, S8.vR, S8.vE, S8.vS, w1, n1, w2, n2, w3', n3', rfl, p1.mono fun _ _ => Ty.mono _ k9, p2.mono fun _ _ => Ty.mono _ k9, p3'⟩
    case k4 =>
    clear F3 F2 F1 F
    rintro f4 h4 g4 d4 tk4 mm4 own4 ge4 F4 S4
    obtain ⟨w1, n1, w2, n2, w3, n3, rfl, p1, p2, p3⟩ := S4.own
    have K4 := K2.keeps S4.kf
    have T : IsLt ltS := (kdLaw w).isLt
    have T2 : IsLt ltP := (kdTwo w).isLt
    have l1 := all1_len (empty := empty) rok.short
    have l2 := all2_len (empty := empty) rok.short
    have l3 := all3_len (empty := empty) rok.short
    have s1 : (srt ltP (all1 empty rules)).length < 64 := Nat.lt_of_le_of_lt (srt_len T2 _) (by omega)
    have s2 : (srt ltP (all2 empty rules)).length < 64 := Nat.lt_of_le_of_lt (srt_len T2 _) (by omega)
    have s3 : (srt ltP (all3 empty rules)).length < 64 := Nat.lt_of_le_of_lt (srt_len T2 _) (by omega)
    have x1 : (srt ltP (all1 empty rules)).length ≤ 30 := Nat.le_trans (srt_len T2 _) (by omega)
    have x2 : (srt ltP (all2 empty rules)).length ≤ 30 := Nat.le_trans (srt_len T2 _) (by omega)
    obtain ⟨F5, gg, k5⟩ := F4.freezeAll
    have t1 : (Ty.list Ty.two).is _ (all1 empty rules) (.ref a1) := ⟨a1, w1, n1, rfl, gg (a1, listOf w1 n1) (by simp), p1.mono fun _ _ => Ty.mono _ k5⟩
    have t2 : (Ty.list Ty.two).is _ (all2 empty rules) (.ref a2) := ⟨a2, w2, n2, rfl, gg (a2, listOf w2 n2) (by simp), p2.mono fun _ _ => Ty.mono _ k5⟩
    have t3 : (Ty.list Ty.two).is _ (all3 empty rules) (.ref a3) := ⟨a3, w3, n3, rfl, gg (a3, listOf w3 n3) (by simp), p3.mono fun _ _ => Ty.mono _ k5⟩
    clear gg
    generalize addTo f4 h4 _ = f5 at F5 k5 t1 t2 t3
    have K5 := K4.keeps k5
    refine st_assign3 rm'.hh W F5 (.inl rfl) (.inl rfl) (.inl rfl)
      (es_sorted_set (kdTwo w) rm'.mono (v_built K5 F5.ext.fh (by k_is) rfl) (es_set (kdTwo w) rm'.mono (v_built K5 F5.ext.fh (by k_is) rfl) (es_name (F5.var W S4.v1 rfl) t1) (by omega)) (by omega))
      (es_sorted_set (kdTwo w) rm'.mono (v_built K5 F5.ext.fh (by k_is) rfl) (es_set (kdTwo w) rm'.mono (v_built K5 F5.ext.fh (by k_is) rfl) (es_name (F5.var W S4.v2 rfl) t2) (by omega)) (by omega))
      (es_sorted_set (kdTwo w) rm'.mono (v_built K5 F5.ext.fh (by k_is) rfl) (es_set (kdTwo w) rm'.mono (v_built K5 F5.ext.fh (by k_is) rfl) (es_name (F5.var W S4.v3 rfl) t3) (by omega)) (by omega)) ?_
    intro f6 h6 g6 d6 tk6 u1 u2 u3 k6 ge6 t1' t2' t3' F6
    have t1' : (Ty.list Ty.two).is f6 (srt ltP (all1 empty rules)) u1 := t1'
    have t2' : (Ty.list Ty.two).is f6 (srt ltP (all2 empty rules)) u2 := t2'
    have t3' : (Ty.list Ty.two).is f6 (srt ltP (all3 empty rules)) u3 := t3'
    have FM := fun x z => first_mem (rs := rules) T he (x := x) (z := z) s1
    have C2M := fun x z => come2_mem (rs := rules) T he (x := x) (z := z) s2
    have B3M := fun a b => all3_mem (rs := rules) he (a := a) (b := b)
    have FOM := fun m I x z => fo_mem (rs := rules) T he s1 s2 (m := m) I (x := x) (z := z)
    clear t1 t2 t3 F4 F5 p1 p2 p3 l1 l2 l3
    have B3M : ∀ p ∈ srt ltP (all3 empty rules), Bes rules p.1 p.2 := fun p hp => (B3M p.1 p.2).mp (srt_mem.mp hp)
    generalize srt ltP (all1 empty rules) = FS at t1' s1 x1 FM FOM
    generalize srt ltP (all2 empty rules) = LS' at t2' s2 x2 C2M FOM
    generalize srt ltP (all3 empty rules) = BS at t3' s3 B3M FOM
    have K6 := K5.keeps k6
    have tR6 := Ty.mono _ k6 (Ty.mono _ k5 (Ty.mono _ S4.kf tR))
    have tE6 := Ty.mono _ k6 (Ty.mono _ k5 (Ty.mono _ S4.kf tE))
    have tu6 := Ty.mono _ k6 (Ty.mono _ k5 (Ty.mono _ S4.kf (Ty.mono _ k2 (Ty.mono _ k1 tu))))
    have yl := symL_len rok.few rok.short
    have fl5 : (rules.flatMap fun r => r.2.map fun x => x).length ≤ 36 := by unfold symL at yl; rw [List.length_append] at yl; omega
    refine st_assign (T := Ty.list Ty.law) (a := srt ltS (symL rules)) W F6 (.inl rfl) (es_sorted_set (kdLaw w) rm'.mono (v_built K6 F6.ext.fh (by k_is) rfl) (es_set (kdLaw w) rm'.mono (v_built K6 F6.ext.fh (by k_is) rfl) (es_bin (V := Ty.list Ty.law) (c := symL rules)
      (es_comp (T := Ty.rul) (U := Ty.law) (xs := rules) (fun _ => true) Prod.fst _ rfl (itr_list rm'.hh (es_name (F6.var W (v := vR) S4.vR rfl) tR6)) (fun C => takes_pair rm'.hh (by decide) rfl rfl rfl) (by omega) ?ts6 ?el6)
      (es_comp2 (T := Ty.rul) (U := Ty.law) (V := Ty.law) (xs := rules) (fun r => r.2) (fun r s => s) _ _ rfl (itr_list rm'.hh (es_name (F6.var W (v := vR) S4.vR rfl) tR6)) (fun C => takes_pair rm'.hh (by decide) rfl rfl rfl) (fun C => takes_name rfl rfl) (by omega) (by omega) ?hi6 ?helt6) ?add6) (by omega)) (by omega)) ?k6
    case ts6 =>
      rintro C f' h' m p hp k n -
      exact tests_nil k.fh
    case el6 =>
      rintro C f' h' m p hp _ k n ⟨⟨vo, e1, t1⟩, vt, e2, t2⟩
      exact (es_name (.local n e1 rfl rfl) t1).here k.fh
    case hi6 =>
      rintro C f' h' m p hp k n ⟨⟨vo, e1, t1⟩, vt, e2, t2⟩
      exact itr_list rm'.hh (es_name (.local n e2 rfl rfl) t2)
    case helt6 =>
      rintro C f' h' m p y hp hy k n ⟨v, e1, t1⟩
      exact (es_name (.local n e1 rfl rfl) t1).here k.fh
    case add6 =>
      exact fun f' h' u v k t t' => p_add_list k.fh t t' (by rw [List.length_map]; have := List.length_filter_le (fun _ : Sy × List Sy => true) rules; omega) (by omega)
    case k6 =>
    intro f7 h7 g7 d7 tk7 vS k7 ge7 tS F7
    have SO := symL_ok T rules
    have sl : (srt ltS (symL rules)).length ≤ 36 := Nat.le_trans (srt_len T _) yl
    have SM := fun z => (srt_mem (lt := ltS) (z := z) (l := symL rules)).trans symL_mem
    generalize srt ltS (symL rules) = SY at tS SO sl SM
    have K7 := K6.keeps k7
    refine st_own2 rm'.hh W F7 (.inl rfl) (.inr ⟨rfl, _, rfl⟩) fun h8 tk8 dF dL zF zL nFL F8 => ?_
    have M8 : MV (((((((mm4.set (Str.ofString "besides") u3).set (Str.ofString "lasts") u2).set (Str.ofString "firsts") u1).set (Str.ofString "symbols") vS).set (Str.ofString "first") (.ref dF)).set (Str.ofString "follow") (.ref dL))) u1 u2 u3 vS (.ref dF) (.ref dL) vR vE u := ⟨rfl, rfl, rfl, rfl, rfl, rfl, S4.vR, S4.vE, S4.vS⟩
    have t1' := Ty.mono _ k7 t1'
    have t2' := Ty.mono _ k7 t2'
    have t3' := Ty.mono _ k7 t3'
    have tR7 := Ty.mono _ k7 tR6
    have tE7 := Ty.mono _ k7 tE6
    have tu7 := Ty.mono _ k7 tu6
    have cl := fun x => come_len T s1 x
    have cn := fun x => (come_ok T s1 x).nodup
    have fl := fun x => Nat.le_trans (List.length_filter_le (fun y : Sy => y.2) (comeOf FS x)) (cl x)
    refine st_for (T := Ty.law) (xs := SY) F8 (itr_list rm'.hh (es_name (F8.var W (v := vS) rfl rfl) tS)) (fun _ z => z.elim)
      (fun i f' mm' own' => f7.StaysIn f' ∧ MV mm' u1 u2 u3 vS (.ref dF) (.ref dL) vR vE u ∧ ∃ xF eF xL eL, own' = [(dF, symDic w xF eF), (dL, symDic w xL eL)] ∧ LawRows f' (fun f z v => (Ty.list Ty.law).is f (firstOf FS z) v) xF (SY.take i) ∧ LawRows f' (fun f z v => (Ty.list Ty.law).is f [] v) xL (SY.take i))
      (fun f' mm' own' => f7.StaysIn f' ∧ MV mm' u1 u2 u3 vS (.ref dF) (.ref dL) vR vE u ∧ ∃ xF eF xL eL, own' = [(dF, symDic w xF eF), (dL, symDic w xL eL)] ∧ LawRows f' (fun f z v => (Ty.list Ty.law).is f (firstOf FS z) v) xF SY ∧ LawRows f' (fun f z v => (Ty.list Ty.law).is f [] v) xL SY)
      ?jm8 (takesF_name W (.inr ⟨rfl, _, rfl⟩)) ⟨fun _ _ e => e, M8, [], 0, [], 0, rfl, ⟨by simp, by simp, rfl, by simp⟩, ⟨by simp, by simp, rfl, by simp⟩⟩ ?turn8 ?jz8 ?k8
    case jm8 => rintro j f f' mm own k ⟨c0, c1, xF, eF, xL, eL, c2, c3, c4⟩; exact ⟨fun b o e => k _ _ (c0 b o e), c1, xF, eF, xL, eL, c2, c3.mono k fun _ _ t => Ty.mono _ k t, c4.mono k fun _ _ t => Ty.mono _ k t⟩
    case jz8 => rintro f mm own ⟨c0, c1, xF, eF, xL, eL, c2, c3, c4⟩; rw [List.take_length] at c3 c4; exact ⟨c0, c1, xF, eF, xL, eL, c2, c3, c4⟩
    case turn8 =>
      clear F8 F7 F6
      rintro i x f8 h8 g8 d8 tk8 mm mm8 own8 hx ⟨k8, M8, xF, eF, xL, eL, rfl, RF, RL⟩ ⟨vx, tx, rfl⟩ F8
      have M8 : MV (mm.set (Str.ofString "x") vx) u1 u2 u3 vS (.ref dF) (.ref dL) vR vE u := M8.re
      have K8 := K7.keeps k8
      have tl : (SY.take i).length ≤ 36 := Nat.le_trans (List.length_take_le' i SY) sl
      have out := take_out SO.nodup hx
      refine st_setlaw (T := Ty.list Ty.law) (y := firstOf FS x) (pre := []) (post := [(dL, symDic w xL eL)]) rm'.mono F8 (fun p hp => by cases List.mem_singleton.mp hp; exact nFL.symm) RF (fun f f' x v k => Ty.mono _ k) (by rw [RF.len]; omega)
        (es_sorted_list (kdLaw w) rm'.mono (v_built K8 F8.ext.fh (by k_is) rfl) (es_comp (T := Ty.law) (U := Ty.law) (xs := comeOf FS x) (fun y => y.2) id _ rfl (itr_list rm'.hh (es_call (v_glob K8 F8.ext.fh (by k_is)) (kp_ref K8 F8.ext.fh (by k_is)) (args2 (es_name (F8.var W M8.v1 rfl) (Ty.mono _ k8 t1')) (es_name (F8.cvar W (v := vx) rfl rfl rfl) tx)) ?come)) (fun C => takes_name rfl rfl) (by have := cl x; omega) ?ts8 ?el8) (by rw [List.map_id]; exact (cn x).filter _) (by rw [List.map_id]; have := fl x; omega))
        (es_name (F8.var W M8.vF rfl) rfl) (es_name (F8.cvar W (v := vx) rfl rfl rfl) tx) ?_
      case come =>
        rintro f' h' vs k ⟨v, v', rfl, t, t'⟩
        exact (p_come (K8.keeps k.fk) k.fh rm'.mono t t' s1).mono fun _ _ _ _ q => q.2
      case ts8 =>
        rintro C f' h' m y hy k n ⟨v, e1, t1⟩
        exact tests_one (es_snd (es_name (.local n e1 rfl rfl) t1)).test k.fh
      case el8 =>
        rintro C f' h' m y hy _ k n ⟨v, e1, t1⟩
        exact (es_name (.local n e1 rfl rfl) t1).here k.fh
      intro f9 h9 g9 d9 tk9 a va ep k9 ge9 ta txa F9
      refine st_setlaw (T := Ty.list Ty.law) (y := []) (pre := [(dF, symDic w (putRow xF x (.ref a) va) ep)]) (post := []) rm'.mono F9 (fun p hp => by cases List.mem_singleton.mp hp; exact nFL) (RL.mono k9 fun x v t => Ty.mono _ k9 t) (fun f f' x v k => Ty.mono _ k) (by rw [RL.len]; omega)
        es_list0 (es_name (F9.cvar W M8.vL rfl rfl) rfl) (es_name (F9.cvar W (v := vx) rfl rfl rfl) (Ty.mono _ k9 tx)) ?_
      intro f10 h10 g10 d10 tk10 b vb ep2 k10 ge10 tb txb F10
      have e1 : addKey (SY.take i) x = SY.take (i + 1) := by rw [take_step hx]; exact addKey_new out
      refine wpAny_execs_nil ⟨f10, h10, g10, d10, tk10, _, _, rfl, ge9.trans ge10, F10, fun b o e => k10 _ _ (k9 _ _ (k8 b o e)), M8, _, _, _, _, rfl, ?_, ?_⟩
      · rw [← e1]
        exact LawRows.put (RF.mono (fun b o e => k10 _ _ (k9 b o e)) fun x v t => Ty.mono _ k10 (Ty.mono _ k9 t)) (Ty.mono _ k10 txa) (Ty.mono _ k10 ta)
      · rw [← e1]
        exact LawRows.put (RL.mono (fun b o e => k10 _ _ (k9 b o e)) fun x v t => Ty.mono _ k10 (Ty.mono _ k9 t)) txb tb
    case k8 =>
    clear F8 F7 F6
    rintro f8 h8 g8 d8 tk8 mm8 own8 ge8 F8 ⟨k8, M8, xF, eF, xL, eL, rfl, RF, RL⟩
    have K8 := K7.keeps k8
    have nfo : ∀ x, (firstOf FS x).Nodup := fun x => srt_nodup T _
    have flen : ∀ x, (firstOf FS x).length ≤ 31 := fun x => by
      have e1 := srt_len T (((comeOf FS x).filter fun y => y.2).map id)
      rw [List.length_map] at e1
      have e2 := fl x
      unfold firstOf; omega
    have fsub : ∀ x ∈ SY, ∀ z ∈ firstOf FS x, z ∈ SY := fun x hx z hz => Fi.sym SO hx ((FM x z).mp hz)
    have bsub : ∀ p ∈ BS, p.1 ∈ SY ∧ p.2 ∈ SY := fun p hp => Bes.sym SO (B3M p hp)
    have csub : ∀ p ∈ BS, ∀ x ∈ comeOf LS' p.1, x ∈ SY := fun p hp x hx => Reach2.sym SO (bsub p hp).1 ((C2M p.1 x).mp hx)
    have mlen : ∀ m n p k, p ∈ BS → FoJ BS (comeOf LS') (firstOf FS) n p k m → ∀ x, (m x).length ≤ 36 := fun m n p k hp J x => Nat.le_trans (nodup_le (J.1 x) fun z hz => by
      rcases (J.2 x z).mp hz with ⟨i, _, q, hq, _, h⟩ | ⟨_, h⟩
      · exact fsub _ (bsub q (List.mem_of_getElem? hq)).2 z h
      · exact fsub _ (bsub p hp).2 z h) sl
    have c2l := fun x => come_len T s2 x
    refine st_for (T := Ty.two) (xs := BS) F8 (itr_list rm'.hh (es_name (F8.var W M8.v3 rfl) (Ty.mono _ k8 t3'))) (fun _ z => z.elim)
      (fun n f' mm' own' => f8.StaysIn f' ∧ MV mm' u1 u2 u3 vS (.ref dF) (.ref dL) vR vE u ∧ ∃ m xL eL, own' = [(dF, symDic w xF eF), (dL, symDic w xL eL)] ∧ LawRows f' (fun f z v => (Ty.list Ty.law).is f (m z) v) xL SY ∧ FoI BS (comeOf LS') (firstOf FS) n m)
      (fun f' mm' own' => f8.StaysIn f' ∧ MV mm' u1 u2 u3 vS (.ref dF) (.ref dL) vR vE u ∧ ∃ m xL eL, own' = [(dF, symDic w xF eF), (dL, symDic w xL eL)] ∧ LawRows f' (fun f z v => (Ty.list Ty.law).is f (m z) v) xL SY ∧ FoI BS (comeOf LS') (firstOf FS) BS.length m)
      ?jm9 (takesF_pair rm'.hh W (.inl rfl) (.inl rfl)) ⟨fun _ _ e => e, M8, fun _ => [], xL, eL, rfl, RL, FoI.first⟩ ?turn9 (fun f mm own S => S) ?k9
    case jm9 => rintro j f f' mm own k ⟨c0, c1, m, xL, eL, c2, c3, c4⟩; exact ⟨fun b o e => k _ _ (c0 b o e), c1, m, xL, eL, c2, c3.mono k fun _ _ t => Ty.mono _ k t, c4⟩
    case turn9 =>
      rintro n ⟨one, two⟩ f9 h9 g9 d9 tk9 mm mm9 own9 hp ⟨k9, M9, m, xL, eL, rfl, RL, I⟩ ⟨v1, v2, to1, to2, rfl⟩ F9
      have M9 : MV ((mm.set (Str.ofString "one") v1).set (Str.ofString "two") v2) u1 u2 u3 vS (.ref dF) (.ref dL) vR vE u := M9.re
      have K9 := K8.keeps k9
      have hpm := List.mem_of_getElem? hp
      refine st_for (T := Ty.law) (xs := comeOf LS' one) F9 (itr_list rm'.hh (es_call (v_glob K9 F9.ext.fh (by k_is)) (kp_ref K9 F9.ext.fh (by k_is)) (args2 (es_name (F9.var W M9.v2 rfl) (Ty.mono _ k9 (Ty.mono _ k8 t2'))) (es_name (F9.var W (v := v1) rfl rfl) to1)) ?come9)) (fun _ z => z.elim)
        (fun k f' mm' own' => f9.StaysIn f' ∧ MV mm' u1 u2 u3 vS (.ref dF) (.ref dL) vR vE u ∧ mm' (Str.ofString "two") = some v2 ∧ ∃ m xL eL, own' = [(dF, symDic w xF eF), (dL, symDic w xL eL)] ∧ LawRows f' (fun f z v => (Ty.list Ty.law).is f (m z) v) xL SY ∧ FoJ BS (comeOf LS') (firstOf FS) n (one, two) k m)
        (fun f' mm' own' => f9.StaysIn f' ∧ MV mm' u1 u2 u3 vS (.ref dF) (.ref dL) vR vE u ∧ ∃ m xL eL, own' = [(dF, symDic w xF eF), (dL, symDic w xL eL)] ∧ LawRows f' (fun f z v => (Ty.list Ty.law).is f (m z) v) xL SY ∧ FoI BS (comeOf LS') (firstOf FS) (n + 1) m)
        ?jm10 (takesF_name W (.inr ⟨rfl, _, rfl⟩)) ⟨fun _ _ e => e, M9, rfl, m, xL, eL, rfl, RL, I.in⟩ ?turn10 ?jz10 ?k10
      case come9 =>
        rintro f' h' vs k ⟨v, v', rfl, t, t'⟩
        exact (p_come (K9.keeps k.fk) k.fh rm'.mono t t' s2).mono fun _ _ _ _ q => q.2
      case jm10 => rintro j f f' mm own k ⟨c0, c1, c1', m, xL, eL, c2, c3, c4⟩; exact ⟨fun b o e => k _ _ (c0 b o e), c1, c1', m, xL, eL, c2, c3.mono k fun _ _ t => Ty.mono _ k t, c4⟩
      case jz10 => rintro f mm own ⟨c0, c1, c1', m, xL, eL, c2, c3, c4⟩; exact ⟨c0, c1, m, xL, eL, c2, c3, c4.out hp⟩
      case k10 =>
        rintro f10 h10 g10 d10 tk10 mm10 own10 ge10 F10 ⟨k10, M10, m, xL, eL, c2, c3, c4⟩
        exact wpAny_execs_nil ⟨f10, h10, g10, d10, tk10, mm10, own10, rfl, ge10, F10, fun b o e => k10 _ _ (k9 b o e), M10, m, xL, eL, c2, c3, c4⟩
      case turn10 =>
        clear F9 F8
        rintro k x f10 h10 g10 d10 tk10 mm mm10 own10 hx ⟨k10, M10, vt, m, xL, eL, rfl, RL, J⟩ ⟨vx, tx, rfl⟩ F10
        have M10 : MV (mm.set (Str.ofString "x") vx) u1 u2 u3 vS (.ref dF) (.ref dL) vR vE u := M10.re
        have hxs : x ∈ SY := csub (one, two) hpm x (List.mem_of_getElem? hx)
        have h2s : two ∈ SY := (bsub (one, two) hpm).2
        have gF := (F10.own (dF, symDic w xF eF) (by simp)).1
        have gL := (F10.own (dL, symDic w xL eL) (by simp)).1
        have k810 : f8.StaysIn f10 := fun b o e => k10 _ _ (k9 b o e)
        have RF10 := RF.mono (P := fun f z v => (Ty.list Ty.law).is f (firstOf FS z) v) k810 fun _ _ t => Ty.mono _ k810 t
        have to2 := Ty.mono _ k10 to2
        have ml := mlen m n (one, two) k hpm J x
        have fl2 := flen two
        refine st_setlaw (T := Ty.list Ty.law) (y := m x ++ ((firstOf FS two).filter fun t => !has t (m x)).map id) (pre := [(dF, symDic w xF eF)]) (post := []) rm'.mono F10 (fun p hp => by cases List.mem_singleton.mp hp; exact nFL) RL (fun f f' x v k => Ty.mono _ k) (by rw [RL.len]; omega)
          (es_bin (es_ltab_own (G := m) rm'.mono gL RL (es_name (F10.cvar W M10.vL rfl rfl) rfl) (es_name (F10.cvar W (v := vx) rfl rfl rfl) tx) hxs)
            (es_comp (T := Ty.law) (U := Ty.law) (xs := firstOf FS two) (fun t => !has t (m x)) id _ rfl (itr_list rm'.hh (es_ltab_own (G := firstOf FS) rm'.mono gF RF10 (es_name (F10.var W M10.vF rfl) rfl) (es_name (F10.var W (v := v2) vt rfl) to2) h2s)) (fun C => takes_name rfl rfl) (by omega) ?ts10 ?el10)
            (fun f' h' u v k t t' => p_add_list k.fh t t' (by omega) (by rw [List.length_map]; have := List.length_filter_le (fun t => !has t (m x)) (firstOf FS two); omega)))
          (es_name (F10.cvar W M10.vL rfl rfl) rfl) (es_name (F10.cvar W (v := vx) rfl rfl rfl) tx) ?_
        case ts10 =>
          rintro C f' h' m' t ht k n ⟨v, e1, t1⟩
          refine tests_one (ts_notin (kdLaw w) rm'.mono (es_name (.local n e1 rfl rfl) t1) (es_ltab_own (G := m) rm'.mono (k.stays _ _ gL) (RL.mono k.fk fun _ _ t => Ty.mono _ k.fk t) (es_name ?w1 rfl) (es_name ?w2 (Ty.mono _ k.fk tx)) hxs)) k.fh
          case w1 => exact F10.fvk k.stays M10.vL rfl
          case w2 => exact F10.fvk (v := vx) k.stays rfl rfl
        case el10 =>
          rintro C f' h' m' t ht _ k n ⟨v, e1, t1⟩
          exact (es_name (.local n e1 rfl rfl) t1).here k.fh
        intro f11 h11 g11 d11 tk11 a va ep k11 ge11 ta txa F11
        have e1 : addKey SY x = SY := addKey_has hxs
        have R11 := LawRows.putF (m := m) (RL.mono k11 fun _ _ t => Ty.mono _ k11 t) txa ta
        rw [e1] at R11
        exact wpAny_execs_nil ⟨f11, h11, g11, d11, tk11, _, _, rfl, ge11, F11, fun b o e => k11 _ _ (k10 b o e), M10, vt, _, _, _, rfl, R11, J.step (nfo two) hx⟩
    case k9 =>
    clear F8
    rintro f9 h9 g9 d9 tk9 mm9 own9 ge9 F9 ⟨k9, M9, m, xL', eL', rfl, RL', I⟩
    obtain ⟨Fa, gg, ka⟩ := F9.freezeAll
    have k8a := fun b o e => ka b o (k9 b o e)
    have tF : (Ty.ltab w (Ty.list Ty.law) SY).is _ (firstOf FS) (.ref dF) := ⟨dF, xF, eF, rfl, gg (dF, symDic w xF eF) (by simp), RF.mono k8a fun _ _ t => Ty.mono _ k8a t⟩
    have tL : (Ty.ltab w (Ty.list Ty.law) SY).is _ m (.ref dL) := ⟨dL, xL', eL', rfl, gg (dL, symDic w xL' eL') (by simp), RL'.mono ka fun _ _ t => Ty.mono _ ka t⟩
    clear gg
    have FO := FOM m I
    have mnd := I.1
    clear FOM mlen csub C2M I RF RL RL'
    generalize addTo f9 h9 _ = fa at Fa ka k8a tF tL
    have k7a : f7.StaysIn fa := fun b o e => k8a _ _ (k8 b o e)
    have Ka := K7.keeps k7a
    have tSa := Ty.mono _ k7a tS
    have tRa := Ty.mono _ k7a tR7
    have tEa := Ty.mono _ k7a tE7
    have tua := Ty.mono _ k7a tu7
    refine st_assign (T := Ty.ltab w Ty.sym lawSyms) (a := id) W Fa (.inr ⟨rfl, _, rfl⟩) (es_dictcomp rm'.mono id _ rfl (itr_list rm'.hh (es_name (v_glob Ka Fa.ext.fh (by k_is)) (is_syms Ka))) (fun C => takes_name rfl rfl) (by decide) (by decide) ?key ?val) ?kM
    case key =>
      rintro C f' h' m' x hx k n ⟨v, e1, t1⟩
      exact es_name (.local n e1 rfl rfl) t1
    case val =>
      rintro C f' h' m' x hx k n ⟨v, e1, t1⟩
      refine es_call (v_glob (Ka.keeps k.fk) k.fh (by k_is)) (kp_ref (Ka.keeps k.fk) k.fh (by k_is)) (args1 (es_name (.local n e1 rfl rfl) t1)) ?_
      rintro f'' h'' vs k' ⟨v, rfl, t⟩
      exact p_lark ((Ka.keeps k.fk).keeps k'.fk) k'.fh rm'.mono t
    case kM =>
    intro fb hb gb db tkb vM kb geb tM Fb
    have Kb := Ka.keeps kb
    have tRb := Ty.mono _ kb tRa
    have Mb' : MV (mm9.set (Str.ofString "made") vM) u1 u2 u3 vS (.ref dF) (.ref dL) vR vE u := M9.re
    refine st_comp (T := Ty.pair .nat Ty.rul) (U := Ty.rule) (xs := enumL rules) (fun _ => true) (fun q => (⟨q.2.1, (q.2.2.filter fun _ => true).map id, q.1⟩ : Ru)) _ W Fb rfl rfl (itr_enum_list rm'.hh (v_built Kb Fb.ext.fh (by k_is) rfl) (es_name (Fb.var W Mb'.vR rfl) tRb)) (fun C => takes_nest rm'.hh (by decide) (by decide) (by decide) rfl rfl rfl rfl) (by rw [enumL_length]; omega) ?ts11 ?el11 ?k11
    case ts11 =>
      rintro C f' h' m' p hp k n -
      exact tests_nil k.fh
    case el11 =>
      rintro C f' h' m' q hq _ k n ⟨⟨vk, e1, t1⟩, ⟨vo, e2, t2⟩, ve, e3, t3⟩
      have hqr := enumL_mem hq
      have Kc := Kb.keeps k.fk
      have q5 := rok.short _ hqr
      refine (es_call (V := Ty.rule) (v_glob Kc k.fh (by k_is)) (kp_ref Kc k.fh (by k_is)) (args3 (T := Ty.sym) (U := Ty.list Ty.sym) (V := Ty.nat) (es_ltab rm'.mono (es_name ?w1 (Ty.mono _ k.fk tM)) (es_name (.local n e2 rfl rfl) t2) (rok.org _ hqr))
        (es_comp (T := Ty.law) (U := Ty.sym) (xs := q.2.2) (fun _ => true) id _ rfl (itr_list rm'.hh (es_name (.local n e3 rfl rfl) t3)) (fun C => takes_name rfl rfl) (by omega) ?ts12 ?el12)
        (es_name (.local n e1 rfl rfl) t1)) ?spec).here k.fh
      case w1 => exact Fb.fvk (v := vM) k.stays rfl rfl
      case ts12 =>
        rintro C' f'' h'' m'' p hp k' n' -
        exact tests_nil k'.fh
      case el12 =>
        rintro C' f'' h'' m'' y hy _ k' n' ⟨v, e4, t4⟩
        refine (es_ltab (T := Ty.sym) (G := id) rm'.mono (es_name ?w2 (Ty.mono _ k'.fk (Ty.mono _ k.fk tM))) (es_name (.local n' e4 rfl rfl) t4) (rok.exp _ hqr y hy)).here k'.fh
        case w2 => exact Fb.fvk (v := vM) (k.trans k').stays rfl rfl
      case spec =>
        rintro f'' h'' vs k' ⟨v, v2, v3, rfl, s1, s2, s3⟩
        exact p_rule (Kc.keeps k'.fk) k'.fh rm'.mono s1 s2 s3 (by rw [List.length_map]; have := List.length_filter_le (fun _ : Sy => true) q.2.2; omega)
    case k11 =>
    intro fc hc gc dc tkc vLi kc gec tLi Fc
    have tLi : (Ty.list Ty.rule).is fc (listL rules) vLi := tLi
    have Kc := Kb.keeps kc
    have tuc := Ty.mono _ kc (Ty.mono _ kb tua)
    have ll : (listL rules).length ≤ 6 := Nat.le_trans listL_len rok.few
    have Mc' : MV ((mm9.set (Str.ofString "made") vM).set (Str.ofString "listed") vLi) u1 u2 u3 vS (.ref dF) (.ref dL) vR vE u := Mb'.re
    refine st_assign (T := Ty.list Ty.rule) (a := handL (decide ((((ns.length : Nat) : Int).fmod ((2 : Nat) : Int)).toNat = 0)) (listL rules)) W Fc (.inl rfl) (es_ite (b := decide ((((ns.length : Nat) : Int).fmod ((2 : Nat) : Int)).toNat = 0)) (ts_cmp (es_mod (b := 2) (a := ((ns.length : Nat) : Int)) ((es_len_list (v_built Kc Fc.ext.fh (by k_is) rfl) (es_name (Fc.var W (v := u) Mc'.vC rfl) tuc) (by omega)).conv fun f' v k t => t) (by omega)) (es_nat (i := 0)) (fun f' h' u v k t t' => p_eqn k.fh t t'))
      (fun hb => Es.cast (es_slice_list (es_name (Fc.var W (v := vLi) rfl rfl) tLi) (es_slice ep_none ep_none ep_none) (by simp) (by omega)) (by rw [hb]; exact pick_all _))
      (fun hb => Es.cast (es_bin (es_slice_list (es_name (Fc.var W (v := vLi) rfl rfl) tLi) (es_slice ep_none ep_none (ep_some es_neg1)) (by simp) (by omega)) (es_slice_list (es_name (Fc.var W (v := vLi) rfl rfl) tLi) (es_slice ep_none (ep_nat (es_nat (i := 1))) ep_none) (by simp) (by omega)) (fun f' h' u v k t t' => p_add_list k.fh t t' (by rw [pick_rev, List.length_reverse]; omega) (by rw [pick_to]; have := List.length_take_le 1 (listL rules); omega))) (by rw [hb, pick_rev, pick_to]; rfl))) ?k12
    case k12 =>
    generalize decide ((((ns.length : Nat) : Int).fmod ((2 : Nat) : Int)).toNat = 0) = bb
    intro fd hd' gd dd tkd vH kd ged tH Fd
    have HL : (handL bb (listL rules)).length ≤ 7 := Nat.le_trans handL_len (by omega)
    have HS := hand_short (b := bb) rok.short
    have HP := fun r => hand_pure (b := bb) (rules := rules) (r := r)
    generalize handL bb (listL rules) = HD at tH HL HS HP
    clear tLi
    have Kd' := Kc.keeps kd
    refine st_comp (T := Ty.rule) (U := Ty.tri Ty.str (Ty.list Ty.law) Ty.nat) (xs := HD) (fun _ => true) (fun r => (r.origin.1, (r.expansion.filter fun _ => true).map (fun x => (x.1, x.2)), r.order)) _ W Fd rfl rfl (itr_list rm'.hh (es_name (Fd.var W (v := vH) rfl rfl) tH)) (fun C => takes_name rfl rfl) (by omega) ?ts13 ?el13 ?k13
    case ts13 =>
      rintro C f' h' m' p hp k n -
      exact tests_nil k.fh
    case el13 =>
      rintro C f' h' m' r hr _ k n ⟨v, e1, t1⟩
      have K' := Kd'.keeps k.fk
      refine (es_tup3 (es_name_of K' rm'.mono (es_origin_of K' rm'.mono (es_name (.local n e1 rfl rfl) t1))) (es_comp (T := Ty.sym) (U := Ty.law) (xs := r.expansion) (fun _ => true) (fun x => (x.1, x.2)) _ rfl (itr_tup rm'.hh (es_expansion_of K' rm'.mono (es_name (.local n e1 rfl rfl) t1))) (fun C => takes_name rfl rfl) (by have := HS r hr; omega) ?ts14 ?el14) (es_order_of K' rm'.mono (es_name (.local n e1 rfl rfl) t1))).here k.fh
      case ts14 =>
        rintro C' f'' h'' m'' p hp k' n' -
        exact tests_nil k'.fh
      case el14 =>
        rintro C' f'' h'' m'' y hy _ k' n' ⟨v, e4, t4⟩
        have K'' := K'.keeps k'.fk
        exact (es_tup2 (es_name_of K'' rm'.mono (es_name (.local n' e4 rfl rfl) t4)) (es_term_of K'' rm'.mono (es_name (.local n' e4 rfl rfl) t4))).here k'.fh
    case k13 =>
    intro fe he' ge' de tke vK ke gee tKp Fe
    have tKp : (Ty.list (Ty.tri Ty.str (Ty.list Ty.law) Ty.nat)).is fe (keptL HD) vK := tKp
    have Ke := Kd'.keeps ke
    have tHe := Ty.mono _ ke tH
    refine st_unpack3E (T := Ty.tab w (symsOf HD)) (U := Ty.tab w (symsOf HD)) (V := Ty.oset w) (P := fun q : (Sy → List Sy) × (Sy → List Sy) × List Sy => (∀ z, z ∈ q.2.2 ↔ Nul (pureOf' HD) z) ∧ ∀ x ∈ symsOf HD, (∀ z, z ∈ q.1 x ↔ Fi term (pureOf' HD) x z) ∧ ∀ z, z ∈ q.2.1 x ↔ Fo term (pureOf' HD) x z) rm'.hh W Fe (.inl rfl) (.inl rfl) (.inl rfl)
      (es_call (v_glob Ke Fe.ext.fh (by k_is)) (kp_ref Ke Fe.ext.fh (by k_is)) (args1 (es_name (Fe.var W (v := vH) rfl rfl) tHe)) ?callC) ?k14
    case callC =>
      rintro f' h' vs k ⟨v, rfl, t⟩
      refine (p_calc (Ke.keeps k.fk) k.fh rm'.mono t HL HS).mono ?_
      rintro f'' h'' v e ⟨FI, FO, N, t, c1, c2⟩
      exact ⟨(FI, FO, N), ⟨c1, c2⟩, t⟩
    case k14 =>
    rintro ff hf gf df tkf FI FO' N vFI vFO vN ⟨cN, cF⟩ kf' gef tFI tFO tN Ff
    have Kf := Ke.keeps kf'
    have SOH := symsOf_ok HD
    have hsym : ∀ z, z ∈ symsOf HD ↔ z ∈ SY := fun z => by
      rw [symsOf_mem, SM]
      constructor
      · rintro ⟨r, hr, h⟩; exact ⟨r, (HP r).mp hr, h⟩
      · rintro ⟨r, hr, h⟩; exact ⟨r, (HP r).mpr hr, h⟩
    have hlen : (symsOf HD).length = SY.length := same_len SOH.nodup SO.nodup hsym
    have hN : ∀ z, z ∈ N ↔ Nul rules z := fun z => (cN z).trans ⟨.sub fun r => (HP r).mp, .sub fun r => (HP r).mpr⟩
    have hFI : ∀ x ∈ SY, ∀ z, z ∈ FI x ↔ Fi term rules x z := fun x hx z => ((cF x ((hsym x).mpr hx)).1 z).trans ⟨.sub fun r => (HP r).mp, .sub fun r => (HP r).mpr⟩
    have hFO : ∀ x ∈ SY, ∀ z, z ∈ FO' x ↔ Fo term rules x z := fun x hx z => ((cF x ((hsym x).mpr hx)).2 z).trans ⟨.sub fun r => (HP r).mp, .sub fun r => (HP r).mpr⟩
    clear cN cF
    have kaf : fa.StaysIn ff := fun b o e => kf' _ _ (ke _ _ (kd _ _ (kc _ _ (kb b o e))))
    have tHf := Ty.mono _ kf' tHe
    have tKf := Ty.mono _ kf' tKp
    have tSf := Ty.mono _ kaf tSa
    have tEf := Ty.mono _ kaf tEa
    have tFf := Ty.mono _ kaf tF
    have tLf := Ty.mono _ kaf tL
    obtain ⟨aN, DN, xN, eN, rfl, oN, gN, RN⟩ := id tN
    have nN := RN.nodup
    have lN : N.length ≤ 36 := Nat.le_trans (nodup_le nN fun z hz => ((hN z).mp hz).sym SO) sl
    have Mf' : MV ((((((mm9.set (Str.ofString "made") vM).set (Str.ofString "listed") vLi).set (Str.ofString "handed") vH).set (Str.ofString "kept") vK).set (Str.ofString "FIRST") vFI).set (Str.ofString "FOLLOW") vFO |>.set (Str.ofString "NULLABLE") (.ref aN)) u1 u2 u3 vS (.ref dF) (.ref dL) vR vE u := Mc'.re
    refine st_if (b := false) Ff (ts_or (b := false) (Ts.cast (ts_cmp (T := Ty.list (Ty.tri Ty.str (Ty.list Ty.law) Ty.nat)) (U := Ty.list (Ty.tri Ty.str (Ty.list Ty.law) Ty.nat)) (a := keptL HD) (b := keptL HD) (es_comp (T := Ty.rule) (U := Ty.tri Ty.str (Ty.list Ty.law) Ty.nat) (xs := HD) (fun _ => true) (fun r => (r.origin.1, (r.expansion.filter fun _ => true).map (fun x => (x.1, x.2)), r.order)) _ rfl (itr_list rm'.hh (es_name (Ff.var W (v := vH) rfl rfl) tHf)) (fun C => takes_name rfl rfl) (by omega) ?ts15 ?el15)
        (es_name (Ff.var W (v := vK) rfl rfl) tKf) (fun f' h' u v k t t' => p_ne_list (eqk_tri inj_str (inj_list (inj_kd (kdLaw w))) inj_nat (eqk_str.up (n := 0) (by omega)) (eqk_list (inj_kd (kdLaw w)) (eqk_kd (kdLaw w))) (eqk_nat.up (n := 0) (by omega))) (by omega) k.fh rm'.mono t t')) (by simp))
      fun _ => ts_or (b := false) (Ts.cast (ts_cmp (es_sorted_list (kdLaw w) rm'.mono (v_built Kf Ff.ext.fh (by k_is) rfl) (es_comp (T := Ty.sym) (U := Ty.law) (xs := N) (fun _ => true) (fun x => (x.1, x.2)) _ rfl (itr_os Kf rm'.mono (es_name (Ff.var W (v := .ref aN) rfl rfl) ⟨aN, rfl, oN⟩) (Ff.ext.fh _ _ gN) RN) (fun C => takes_name rfl rfl) (by omega) ?ts16 ?el16) (by rw [pair_map fun _ => rfl]; exact nN) (by rw [pair_map fun _ => rfl]; omega))
        (es_name (Ff.cvar W Mf'.vE rfl rfl) tEf) (fun f' h' u v k t t' => p_ne_list (eqk_kd (kdLaw w)) (by omega) k.fh rm'.mono t t')) (by rw [pair_map fun _ => rfl, hempty]; exact same_sorted T fun z => (hN z).trans (hfound z).symm))
      fun _ => ts_or (b := false) (Ts.cast (ts_cmp (es_len_tab (v_built Kf Ff.ext.fh (by k_is) rfl) (es_name (Ff.var W (v := vFI) rfl rfl) tFI) (by omega)) (es_len_list (v_built Kf Ff.ext.fh (by k_is) rfl) (es_name (Ff.var W Mf'.vS rfl) tSf) (by omega)) (fun f' h' u v k t t' => p_nen k.fh t t')) (by rw [hlen]; simp))
      fun _ => ts_or (b := false) (Ts.cast (ts_cmp (es_len_tab (v_built Kf Ff.ext.fh (by k_is) rfl) (es_name (Ff.var W (v := vFO) rfl rfl) tFO) (by omega)) (es_len_list (v_built Kf Ff.ext.fh (by k_is) rfl) (es_name (Ff.var W Mf'.vS rfl) tSf) (by omega)) (fun f' h' u v k t t' => p_nen k.fh t t')) (by rw [hlen]; simp))
      fun _ => ts_or_nil) ?k15
    case ts15 =>
      rintro C f' h' m' p hp k n -
      exact tests_nil k.fh
    case el15 =>
      rintro C f' h' m' r hr _ k n ⟨v, e1, t1⟩
      have K' := Kf.keeps k.fk
      refine (es_tup3 (es_name_of K' rm'.mono (es_origin_of K' rm'.mono (es_name (.local n e1 rfl rfl) t1))) (es_comp (T := Ty.sym) (U := Ty.law) (xs := r.expansion) (fun _ => true) (fun x => (x.1, x.2)) _ rfl (itr_tup rm'.hh (es_expansion_of K' rm'.mono (es_name (.local n e1 rfl rfl) t1))) (fun C => takes_name rfl rfl) (by have := HS r hr; omega) ?ts14 ?el14) (es_order_of K' rm'.mono (es_name (.local n e1 rfl rfl) t1))).here k.fh
      case ts14 =>
        rintro C' f'' h'' m'' p hp k' n' -
        exact tests_nil k'.fh
      case el14 =>
        rintro C' f'' h'' m'' y hy _ k' n' ⟨v, e4, t4⟩
        have K'' := K'.keeps k'.fk
        exact (es_tup2 (es_name_of K'' rm'.mono (es_name (.local n' e4 rfl rfl) t4)) (es_term_of K'' rm'.mono (es_name (.local n' e4 rfl rfl) t4))).here k'.fh
    case ts16 =>
      rintro C f' h' m' p hp k n -
      exact tests_nil k.fh
    case el16 =>
      rintro C f' h' m' y hy _ k n ⟨v, e4, t4⟩
      have K'' := Kf.keeps k.fk
      exact (es_tup2 (es_name_of K'' rm'.mono (es_name (.local n e4 rfl rfl) t4)) (es_term_of K'' rm'.mono (es_name (.local n e4 rfl rfl) t4))).here k.fh
    case k15 =>
    intro fg hg gg dg tkg kg geg Fg
    refine wpAny_execs_nil ?_
    have Kg := Kf.keeps kg
    refine st_for (T := Ty.law) (xs := SY) Fg (itr_list rm'.hh (es_name (Fg.var W Mf'.vS rfl) (Ty.mono _ kg tSf))) (fun _ z => z.elim)
      (fun i f' mm' own' => own' = [] ∧ fg.StaysIn f' ∧ MV mm' u1 u2 u3 vS (.ref dF) (.ref dL) vR vE u ∧ mm' (Str.ofString "FIRST") = some vFI ∧ mm' (Str.ofString "FOLLOW") = some vFO)
      (fun f' mm' own' => True) (by rintro i f f' mm own k ⟨c1, c2, c3⟩; exact ⟨c1, fun b o e => k _ _ (c2 b o e), c3⟩) (takesF_name W (.inr ⟨rfl, _, rfl⟩)) ⟨rfl, fun _ _ e => e, Mf', rfl, rfl⟩ ?turn17 (fun _ _ _ _ => trivial) ?k17
    case turn17 =>
      clear Ff Fg Fe Fd Fc Fb Fa F9
      rintro i x f1 h1 g1 d1 tk1 mm mm1 own1 hx ⟨rfl, k1, M1, vf, vo⟩ ⟨vx, tx, rfl⟩ F1
      have M1 : MV (mm.set (Str.ofString "x") vx) u1 u2 u3 vS (.ref dF) (.ref dL) vR vE u := M1.re
      have K1 := Kg.keeps k1
      have hxs := List.mem_of_getElem? hx
      have hxh := (hsym x).mpr hxs
      refine st_assign (T := Ty.sym) (a := x) W F1 (.inl rfl) (es_call (v_glob K1 F1.ext.fh (by k_is)) (kp_ref K1 F1.ext.fh (by k_is)) (args1 (es_name (F1.cvar W (v := vx) rfl rfl rfl) tx)) ?lark) ?ka
      case lark =>
        rintro f' h' vs k ⟨v, rfl, t⟩
        exact p_lark (K1.keeps k.fk) k.fh rm'.mono t
      case ka =>
      intro f2 h2 g2 d2 tk2 vo2 k2 ge2 to F2
      have K2 := K1.keeps k2
      have kg2 : ff.StaysIn f2 := fun b o e => k2 _ _ (k1 _ _ (kg b o e))
      have tx2 := Ty.mono _ k2 tx
      have M2 : MV ((mm.set (Str.ofString "x") vx).set (Str.ofString "one") vo2) u1 u2 u3 vS (.ref dF) (.ref dL) vR vE u := M1.re
      have vf2 : ((mm.set (Str.ofString "x") vx).set (Str.ofString "one") vo2) (Str.ofString "FIRST") = some vFI := vf
      have vo3 : ((mm.set (Str.ofString "x") vx).set (Str.ofString "one") vo2) (Str.ofString "FOLLOW") = some vFO := vo
      obtain ⟨D1, x1', e1', gD1, R1, E1⟩ := tab_os2 K2 F2.ext.fh rm'.mono (F2.var W vf2 rfl) (Ty.mono _ kg2 tFI) hxh
      obtain ⟨D2, x2', e2', gD2, R2', E2⟩ := tab_os2 K2 F2.ext.fh rm'.mono (F2.var W vo3 rfl) (Ty.mono _ kg2 tFO) hxh
      have l1 : (FI x).length ≤ 36 := Nat.le_trans (nodup_le R1.nodup fun z hz => Fi.sym SO hxs ((hFI x hxs z).mp hz)) sl
      have l2 : (FO' x).length ≤ 36 := Nat.le_trans (nodup_le R2'.nodup fun z hz => Fo.sym SO ((hFO x hxs z).mp hz)) sl
      have l3 : (m x).length ≤ 36 := Nat.le_trans (nodup_le (mnd x) fun z hz => Fo.sym SO ((FO x z).mp hz)) sl
      refine st_if (b := false) F2 (ts_or (b := false) (Ts.cast (ts_cmp (es_sorted_list (kdLaw w) rm'.mono (v_built K2 F2.ext.fh (by k_is) rfl) (es_comp (T := Ty.sym) (U := Ty.law) (xs := FI x) (fun _ => true) (fun x => (x.1, x.2)) _ rfl (itr_os K2 rm'.mono (E1 _ _ _ (es_name (F2.var W (v := vo2) rfl rfl) to) (by intro _ _; first | exact .inl rfl | exact .inr rfl)) gD1 R1) (fun C => takes_name rfl rfl) (by omega) ?ts18 ?el18) (by rw [pair_map fun _ => rfl]; exact R1.nodup) (by rw [pair_map fun _ => rfl]; omega))
          (es_ltab rm'.mono (es_name (F2.var W M2.vF rfl) (Ty.mono _ kg2 tFf)) (es_name (F2.cvar W (v := vx) rfl rfl rfl) tx2) hxs) (fun f' h' u v k t t' => p_ne_list (eqk_kd (kdLaw w)) (by omega) k.fh rm'.mono t t')) (by
            rw [pair_map fun _ => rfl]
            exact same_sorted T fun z => (hFI x hxs z).trans ((FM x z).symm.trans srt_mem)))
        fun _ => ts_or (b := false) (Ts.cast (ts_cmp (es_sorted_list (kdLaw w) rm'.mono (v_built K2 F2.ext.fh (by k_is) rfl) (es_comp (T := Ty.sym) (U := Ty.law) (xs := FO' x) (fun _ => true) (fun x => (x.1, x.2)) _ rfl (itr_os K2 rm'.mono (E2 _ _ _ (es_name (F2.var W (v := vo2) rfl rfl) to) (by intro _ _; first | exact .inl rfl | exact .inr rfl)) gD2 R2') (fun C => takes_name rfl rfl) (by omega) ?ts19 ?el19) (by rw [pair_map fun _ => rfl]; exact R2'.nodup) (by rw [pair_map fun _ => rfl]; omega))
          (es_sorted_list (kdLaw w) rm'.mono (v_built K2 F2.ext.fh (by k_is) rfl) (es_ltab rm'.mono (es_name (F2.cvar W M2.vL rfl rfl) (Ty.mono _ kg2 tLf)) (es_name (F2.cvar W (v := vx) rfl rfl rfl) tx2) hxs) (mnd x) (by omega)) (fun f' h' u v k t t' => p_ne_list (eqk_kd (kdLaw w)) (by omega) k.fh rm'.mono t t')) (by
            rw [pair_map fun _ => rfl]
            exact same_sorted T fun z => (hFO x hxs z).trans (FO x z).symm))
        fun _ => ts_or_nil) ?kb
      case ts18 =>
        rintro C f' h' m' p hp k n -
        exact tests_nil k.fh
      case el18 =>
        rintro C f' h' m' y hy _ k n ⟨v, e4, t4⟩
        have K'' := K2.keeps k.fk
        exact (es_tup2 (es_name_of K'' rm'.mono (es_name (.local n e4 rfl rfl) t4)) (es_term_of K'' rm'.mono (es_name (.local n e4 rfl rfl) t4))).here k.fh
      case ts19 =>
        rintro C f' h' m' p hp k n -
        exact tests_nil k.fh
      case el19 =>
        rintro C f' h' m' y hy _ k n ⟨v, e4, t4⟩
        have K'' := K2.keeps k.fk
        exact (es_tup2 (es_name_of K'' rm'.mono (es_name (.local n e4 rfl rfl) t4)) (es_term_of K'' rm'.mono (es_name (.local n e4 rfl rfl) t4))).here k.fh
      case kb =>
      intro f3 h3 g3 d3 tk3 k3 ge3 F3
      exact wpAny_execs_nil (wpAny_execs_nil ⟨f3, h3, g3, d3, tk3, _, _, rfl, ge2.trans ge3, F3, rfl, fun b o e => k3 _ _ (k2 _ _ (k1 b o e)), M2, vf2, vo3⟩)
    case k17 =>
    rintro fi hi gi di tki mmi owni gei Fi' -
    refine st_ret (T := Ty.bool) (a := true) Fi' es_bool fun f' h' g' d' tk' v k ge t F' => .of F' ?_ t
    exact ge1.trans (ge2.trans (ge4.trans (ge6.trans (ge7.trans (ge8.trans (ge9.trans (geb.trans (gec.trans (ged.trans (gee.trans (gef.trans (geg.trans (gei.trans ge)))))))))))))
end
end Mine
end
section
open PySem PySem.W PyProof.Rows PySem.Calls
set_option Elab.async false
set_option linter.unusedVariables false
set_option linter.unusedSectionVars false
namespace Mine
theorem fillXi : PySem.Challenge.rw_fi0012_01 = PySem.Challenge.rw_fi0012_01 ∧ hd.heap_39 = hd.heap_39 := by
  k_fill
  exact ⟨rfl, rfl⟩
theorem ints_pw {f : Heap} {vs : List Value} {ns : List Int} (h : IntsAre vs ns) : Pw (Ty.int.is f) ns vs := by
  induction h with
  | nil => exact .nil
  | cons n t _ ih => exact .cons ⟨t, rfl⟩ ih
theorem well_list {P : Params} {h : Heap} {v : Value} {D : WData} (x : Well P h v D) {xs : List WData} (e : D = .list xs) : ∃ a vs, v = .ref a ∧ h.get? a = some (listOf vs 0) := by
  cases x with
  | list g _ => exact ⟨_, _, rfl, g⟩
  | _ => cases e
theorem ints_is {P : Params} {h : Heap} {l : Addr} {vs : List Value} {ns : List Int} {D : WData} {xs : List WData} (hL : h.IsList l vs.toArray) (x : Well P h (.ref l) D) (e : D = .list xs) (hI : IntsAre vs ns) : (Ty.list Ty.int).is h ns (.ref l) := by
  obtain ⟨a, ws, e1, g⟩ := well_list x e
  cases e1
  obtain ⟨o, ho, _, n, hd⟩ := hL
  rw [g] at ho
  cases ho
  cases hd
  exact ⟨l, _, 0, rfl, g, by simpa using ints_pw hI⟩
set_option maxRecDepth 100000 in
set_option maxHeartbeats 0 in
theorem goal0 : PySem.W.OpenLaw.Holds PySem.Challenge.rw_fi0012_01 := hd (by
  k_fill
  intro w s₀ s₁ mg mb G Y fa o pm cd doc dV kV ho hd hcd hD hmg hg args vals as hpre hlay hrd hwl hlo
  have KX := kIn_of Y
  refine Ground.open G ?_
  intro T B D TE TW
  have hfa : fa = 459 := by
    have this : mg (Str.ofString "law") = some (.ref 459) := mg_of KX T.g (by k_is)
    have q := hmg.symm.trans this
    injection q with q
    injection q
  subst hfa
  have K : Ok w s₁.heap := ⟨KX, _, _, mg, mb, topRead_of T⟩
  clear D TE TW B T hmg hD
  wrow_args hpre hlay hrd hwl hlo
  all_goals (first | refine callC_kw (enter_call ?_) | refine enter_call ?_)
  rename Heap.IsList _ _ _ => hL
  rename IntsAre _ _ => hI
  rename Well _ _ _ _ => hW
  rename ¬ _ < _ => hc
  refine law_code K (fun _ _ e => e) ⟨rfl, by decide, by decide⟩ (ints_is hL hW rfl hI) (by omega) ?_
  intro h' f' g' d' tk' e ge
  refine ⟨.inl ⟨.bool true, .bool true, [], rfl, fun _ => rfl, .bool true, ?_, fun _ => ⟨by simp, by simp⟩⟩, .of_keep e.stays, rfl, ge.all (AllBare.of_eq hg)⟩
  wrow_post)
end Mine
end
theorem PySem.Challenge.cw_fi0012_01_holds : PySem.Challenge.rw_fi0012_01.Holds :=
  Mine.goal0
