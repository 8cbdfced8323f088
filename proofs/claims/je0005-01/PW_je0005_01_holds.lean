import PyProof.Rows.All
import Wide.All
import OpenK.AllK
import Wide.FinOn
import PyProof.FactsAll.set_3
import PyProof.FactsAll.set_4
import PySem.Challenge.RW_je0005_01
set_option Elab.async false
set_option maxRecDepth 100000
set_option maxHeartbeats 8000000
namespace Mine
section
open PySem PySem.W PySem.Calls PyProof.Rows
/- The written part of the heap (hd.heap_1), laid by the head's own tactic and nothing beside it: simp's side tactic runs k_head on a row that
the head refuses (a loose name more), so the side goal is not met and only the definition stays. hd itself says nothing. -/
def badRow : OpenRow := { PySem.Challenge.rw_je0005_01.row with loose := [Str.ofString "x"] }
def Q0 : Prop := True
theorem q0_of : badRow.Holds → Q0 = True := fun _ => by simp [Q0]
theorem hd : Q0 ∧ True := by
  simp (disch := (k_head; skip)) only [q0_of, and_true]
  exact trivial
theorem reIn {K : Params → Frag} {P : Params} {h : Heap} (e : K = hd.heap_1) (x : (K P).In h) : (hd.heap_1 P).In h := e ▸ x
/- Takes the name under which the head would lay a quick twin of hd.heap_1 (its proof alone would be some ten MiB); the twin is then left out. -/
theorem qq.tw357486453476387696 : True := trivial
set_option Elab.async true in
theorem qq (P : Params) : plainGet (hd.heap_1 P) 160 ("" : Str) = true := by k_is
end
section
open PySem PySem.SetTable

/-- strictly rising -/
def Ris (xs : Array Nat) : Prop := ∀ a b x y : Nat, a < b → xs[a]? = some x → xs[b]? = some y → x < y

theorem getD_of {xs : Array Nat} {a x d : Nat} (h : xs[a]? = some x) : xs.getD a d = x := by
  rw [Array.getD_eq_getD_getElem?, h]; rfl
theorem lt_of_get {α : Type} {xs : Array α} {a : Nat} {x : α} (h : xs[a]? = some x) : a < xs.size := by
  obtain ⟨h, _⟩ := Array.getElem?_eq_some_iff.mp h; exact h
theorem get_of_lt {α : Type} {xs : Array α} {a : Nat} (h : a < xs.size) : ∃ x, xs[a]? = some x := ⟨xs[a], Array.getElem?_eq_getElem h⟩

theorem below_go {xs : Array Nat} (hr : Ris xs) (j : Nat) : ∀ (fuel lo hi : Nat), hi - lo ≤ fuel → lo ≤ hi → hi ≤ xs.size → (∀ a x, a < lo → xs[a]? = some x → x < j) → (∀ a x, hi ≤ a → xs[a]? = some x → j ≤ x) →
    below.go xs j fuel lo hi ≤ xs.size ∧ (∀ a x, a < below.go xs j fuel lo hi → xs[a]? = some x → x < j) ∧ (∀ a x, below.go xs j fuel lo hi ≤ a → xs[a]? = some x → j ≤ x) := by
  intro fuel
  induction fuel with
  | zero =>
    intro lo hi h1 h2 h3 h4 h5
    have : lo = hi := by omega
    subst this
    exact ⟨h3, h4, h5⟩
  | succ f ih =>
    intro lo hi h1 h2 h3 h4 h5
    unfold below.go
    by_cases c : lo < hi
    · rw [if_pos c]
      obtain ⟨y, hy⟩ := get_of_lt (xs := xs) (a := (lo + hi) / 2) (by omega)
      simp only [getD_of hy]
      by_cases q : y < j
      · rw [if_pos q]
        refine ih _ _ (by omega) (by omega) h3 (fun a x ha hx => ?_) h5
        rcases Nat.lt_or_ge a ((lo + hi) / 2) with z | z
        · exact Nat.lt_trans (hr _ _ _ _ z hx hy) q
        · have : a = (lo + hi) / 2 := by omega
          subst this
          rw [hy] at hx; cases hx; exact q
      · rw [if_neg q]
        refine ih _ _ (by omega) (by omega) (by omega) h4 (fun a x ha hx => ?_)
        rcases Nat.lt_or_ge ((lo + hi) / 2) a with z | z
        · have := hr _ _ _ _ z hy hx; omega
        · have : a = (lo + hi) / 2 := by omega
          subst this
          rw [hy] at hx; cases hx; omega
    · rw [if_neg c]
      have : lo = hi := by omega
      subst this
      exact ⟨h3, h4, h5⟩

theorem below_spec {xs : Array Nat} (hr : Ris xs) (j : Nat) : below xs j ≤ xs.size ∧ (∀ a x, a < below xs j → xs[a]? = some x → x < j) ∧ (∀ a x, below xs j ≤ a → xs[a]? = some x → j ≤ x) :=
  below_go hr j _ _ _ (by omega) (by omega) (by omega) (fun a x h => absurd h (by omega)) fun a x h e => absurd (lt_of_get e) (by omega)

theorem below_at {xs : Array Nat} (hr : Ris xs) {j i : Nat} (h : xs[i]? = some j) : below xs j = i := by
  obtain ⟨h1, h2, h3⟩ := below_spec hr j
  rcases Nat.lt_trichotomy (below xs j) i with z | z | z
  · obtain ⟨y, hy⟩ := get_of_lt (xs := xs) (a := below xs j) (by have := lt_of_get h; omega)
    have a1 := hr _ _ _ _ z hy h
    have a2 := h3 _ _ (Nat.le_refl _) hy
    omega
  · exact z
  · have := h2 _ _ z h; omega

theorem has_iff {xs : Array Nat} (hr : Ris xs) {j : Nat} : has xs j = true ↔ ∃ i : Nat, xs[i]? = some j := by
  unfold has
  constructor
  · intro h; exact ⟨_, eq_of_beq h⟩
  · rintro ⟨i, h⟩; rw [below_at hr h, h]; exact beq_self_eq_true _

theorem slot_live {t : SetTable} (hp : Ris t.place) {j i : Nat} : t.slot j = .live i ↔ t.place[i]? = some j := by
  unfold slot
  constructor
  · intro h
    dsimp only at h
    split at h
    · rename_i q; cases h; exact eq_of_beq q
    · split at h <;> cases h
  · intro h
    dsimp only
    rw [below_at hp h, h, if_pos (beq_self_eq_true _)]

theorem slot_dummy {t : SetTable} (hp : Ris t.place) (hd : Ris t.dummies) {j : Nat} : t.slot j = .dummy ↔ (¬ ∃ i : Nat, t.place[i]? = some j) ∧ ∃ i : Nat, t.dummies[i]? = some j := by
  unfold slot
  dsimp only
  constructor
  · intro h
    split at h
    · cases h
    · rename_i q
      split at h
      · rename_i q2
        exact ⟨fun hh => q ((has_iff hp).mpr hh), (has_iff hd).mp q2⟩
      · cases h
  · rintro ⟨h1, h2⟩
    rw [if_neg (fun q => h1 ⟨_, eq_of_beq q⟩), if_pos ((has_iff hd).mpr h2)]

/-- held by an element or by the mark of one that went -/
def Occ (t : SetTable) (j : Nat) : Prop := (∃ i : Nat, t.place[i]? = some j) ∨ ∃ i : Nat, t.dummies[i]? = some j

theorem slot_empty {t : SetTable} (hp : Ris t.place) (hd : Ris t.dummies) {j : Nat} : t.slot j = .empty ↔ ¬ Occ t j := by
  unfold slot Occ
  dsimp only
  constructor
  · intro h
    split at h
    · cases h
    · rename_i q
      split at h
      · cases h
      · rename_i q2
        rintro (hh | hh)
        · exact q ((has_iff hp).mpr hh)
        · exact q2 ((has_iff hd).mpr hh)
  · intro h
    rw [if_neg (fun q => h (.inl ⟨_, eq_of_beq q⟩)), if_neg (fun q => h (.inr ((has_iff hd).mp q)))]

/-- k steps of the search -/
def nxt (t : SetTable) : Nat → Probe → Probe
  | 0, p => p
  | k + 1, p => nxt t k (t.advance p)

def core (p : Probe) : Nat × Nat × Nat × Nat := (p.j, p.more, p.i, p.perturb)
theorem advance_core {t : SetTable} {p q : Probe} (h : core p = core q) : core (t.advance p) = core (t.advance q) := by
  obtain ⟨a, b, c, d, e⟩ := p
  obtain ⟨a', b', c', d', e'⟩ := q
  simp only [core, Prod.mk.injEq] at h
  obtain ⟨rfl, rfl, rfl, rfl⟩ := h
  unfold advance
  dsimp only
  split <;> rfl
theorem nxt_core {t : SetTable} : ∀ (k : Nat) {p q : Probe}, core p = core q → core (nxt t k p) = core (nxt t k q)
  | 0, _, _, h => h
  | k + 1, _, _, h => nxt_core k (advance_core h)
theorem advance_dummy {t : SetTable} {p : Probe} : (t.advance p).dummy = p.dummy := by
  unfold advance
  dsimp only
  split <;> rfl
theorem nxt_add {t : SetTable} : ∀ (a b : Nat) (p : Probe), nxt t (a + b) p = nxt t b (nxt t a p)
  | 0, b, p => by rw [Nat.zero_add]; rfl
  | a + 1, b, p => by rw [Nat.add_right_comm]; exact nxt_add a b (t.advance p)
theorem nxt_succ {t : SetTable} (a : Nat) (p : Probe) : nxt t (a + 1) p = t.advance (nxt t a p) := by rw [nxt_add]; rfl

/-- the starts of the runs -/
def leaps (mask : Nat) : Nat → Nat × Nat → Nat × Nat
  | 0, x => x
  | n + 1, x => leaps mask n (leap mask x.1 x.2)
def lcg (mask : Nat) : Nat → Nat → Nat
  | 0, i => i
  | n + 1, i => lcg mask n ((i * 5 + 1) % (mask + 1))

theorem leaps_succ (mask : Nat) : ∀ (n : Nat) (x : Nat × Nat), leaps mask (n + 1) x = leap mask (leaps mask n x).1 (leaps mask n x).2
  | 0, _ => rfl
  | n + 1, x => leaps_succ mask n (leap mask x.1 x.2)
theorem leaps_snd (mask : Nat) : ∀ (n : Nat) (x : Nat × Nat), (leaps mask n x).2 = x.2 / 32 ^ n
  | 0, x => by simp [leaps]
  | n + 1, x => by
    rw [leaps_succ]
    show (leaps mask n x).2 / 32 = _
    rw [leaps_snd mask n x, Nat.div_div_eq_div_mul, Nat.pow_succ]
theorem leaps_zero (mask : Nat) : ∀ (n : Nat) (i : Nat), (leaps mask n (i, 0)).1 = lcg mask n i
  | 0, _ => rfl
  | n + 1, i => by
    show (leaps mask n (leap mask i 0)).1 = lcg mask n ((i * 5 + 1) % (mask + 1))
    rw [← leaps_zero mask n]
    rfl
theorem leaps_add (mask : Nat) : ∀ (a b : Nat) (x : Nat × Nat), leaps mask (a + b) x = leaps mask b (leaps mask a x)
  | 0, b, x => by rw [Nat.zero_add]; rfl
  | a + 1, b, x => by rw [Nat.add_right_comm]; exact leaps_add mask a b _

def MaskOk (m : Nat) : Prop := m = 7 ∨ m = 15 ∨ m = 31

theorem lcg_full {mask : Nat} (hm : MaskOk mask) {i x : Nat} (hi : i ≤ mask) (hx : x ≤ mask) : ∃ r, r ≤ mask ∧ lcg mask r i = x := by
  have key : ∀ m ∈ [7, 15, 31], ∀ i ∈ List.range (m + 1), ∀ x ∈ List.range (m + 1), ((List.range (m + 1)).any fun r => lcg m r i == x) = true := by decide +kernel
  have hmem : mask ∈ [7, 15, 31] := by rcases hm with rfl | rfl | rfl <;> simp
  have q := key mask hmem i (List.mem_range.mpr (by omega)) x (List.mem_range.mpr (by omega))
  obtain ⟨r, hr, e⟩ := List.any_eq_true.mp q
  exact ⟨r, by have := List.mem_range.mp hr; omega, eq_of_beq e⟩

theorem leaps_fst_le (mask n : Nat) (x : Nat × Nat) (h : x.1 ≤ mask) : (leaps mask n x).1 ≤ mask := by
  cases n with
  | zero => exact h
  | succ n =>
    rw [leaps_succ]
    have : ((leaps mask n x).1 * 5 + 1 + (leaps mask n x).2 / 32) % (mask + 1) < mask + 1 := Nat.mod_lt _ (by omega)
    show ((leaps mask n x).1 * 5 + 1 + (leaps mask n x).2 / 32) % (mask + 1) ≤ mask
    omega

theorem leaps_full {mask : Nat} (hm : MaskOk mask) {i p x : Nat} (hi : i ≤ mask) (hp : p < 2 ^ 64) (hx : x ≤ mask) : ∃ n, 1 ≤ n ∧ n ≤ 13 + mask ∧ (leaps mask n (i, p)).1 = x := by
  have h0 : (leaps mask 13 (i, p)).2 = 0 := by
    rw [leaps_snd]
    exact Nat.div_eq_of_lt (Nat.lt_of_lt_of_le hp (by decide))
  obtain ⟨r, hr, e⟩ := lcg_full hm (leaps_fst_le mask 13 (i, p) hi) hx
  refine ⟨13 + r, by omega, by omega, ?_⟩
  rw [leaps_add]
  have : leaps mask 13 (i, p) = ((leaps mask 13 (i, p)).1, 0) := by rw [← h0]
  rw [this, leaps_zero]; exact e

/-- a run, then a leap -/
theorem run_step {t : SetTable} : ∀ (r : Nat) (p : Probe), p.more = r → core (nxt t (r + 1) p) = ((leap t.mask p.i p.perturb).1, runEnd t.mask (leap t.mask p.i p.perturb).1 - (leap t.mask p.i p.perturb).1, (leap t.mask p.i p.perturb).1, (leap t.mask p.i p.perturb).2) := by
  intro r
  induction r with
  | zero =>
    intro p hp
    show core (t.advance p) = _
    unfold advance
    rw [if_neg (by omega)]
    rfl
  | succ r ih =>
    intro p hp
    show core (nxt t (r + 1) (t.advance p)) = _
    have e : t.advance p = { p with j := p.j + 1, more := p.more - 1 } := by unfold advance; rw [if_pos (by omega)]
    rw [e]
    rw [ih _ (by show p.more - 1 = r; omega)]

theorem runEnd_le (mask i : Nat) : runEnd mask i - i ≤ 9 := by unfold runEnd; split <;> omega

theorem reach_run {t : SetTable} (p : Probe) (hmore : p.more ≤ 9) : ∀ n, 1 ≤ n → ∃ k, k ≤ 10 * n ∧ (nxt t k p).j = (leaps t.mask n (p.i, p.perturb)).1 ∧ (nxt t k p).i = (leaps t.mask n (p.i, p.perturb)).1 ∧ (nxt t k p).perturb = (leaps t.mask n (p.i, p.perturb)).2 ∧ (nxt t k p).more ≤ 9 := by
  intro n
  induction n with
  | zero => intro h; omega
  | succ n ih =>
    intro _
    by_cases h : n = 0
    · subst h
      have q := run_step (t := t) p.more p rfl
      simp only [core, Prod.mk.injEq] at q
      refine ⟨p.more + 1, by omega, q.1, q.2.2.1, q.2.2.2, ?_⟩
      rw [q.2.1]; exact runEnd_le _ _
    · obtain ⟨k, hk, e1, e2, e3, e4⟩ := ih (by omega)
      have q := run_step (t := t) (nxt t k p).more (nxt t k p) rfl
      rw [e2, e3] at q
      simp only [core, Prod.mk.injEq] at q
      rw [← nxt_add] at q
      refine ⟨k + ((nxt t k p).more + 1), by omega, ?_, ?_, ?_, ?_⟩
      · rw [leaps_succ]; exact q.1
      · rw [leaps_succ]; exact q.2.2.1
      · rw [leaps_succ]; exact q.2.2.2
      · rw [q.2.1]; exact runEnd_le _ _

theorem visits_all {t : SetTable} (hm : MaskOk t.mask) {p : Probe} (hmore : p.more ≤ 9) (hi : p.i ≤ t.mask) (hp : p.perturb < 2 ^ 64) {x : Nat} (hx : x ≤ t.mask) : ∃ k, k < 10 * turns t.mask ∧ (nxt t k p).j = x := by
  obtain ⟨n, h1, h2, e⟩ := leaps_full hm hi hp hx
  obtain ⟨k, hk, e1, _⟩ := reach_run (t := t) p hmore n h1
  exact ⟨k, by unfold turns; omega, e1.trans e⟩
open PySem PySem.SetTable

theorem ins_get {α : Type} (xs : Array α) (p : Nat) (hp : p ≤ xs.size) (x : α) (i : Nat) : (insertAt xs p x)[i]? = if i < p then xs[i]? else if i = p then some x else xs[i - 1]? := by
  unfold insertAt
  have hs : (xs.extract 0 p).size = p := by simp; omega
  rw [Array.getElem?_append, Array.size_push, hs]
  by_cases h1 : i < p
  · rw [if_pos (by omega), if_pos h1, Array.getElem?_push, hs, if_neg (by omega), Array.getElem?_extract, if_pos (by omega), Nat.zero_add]
  · rw [if_neg h1]
    by_cases h2 : i = p
    · rw [if_pos (by omega), if_pos h2, Array.getElem?_push, hs, if_pos h2]
    · rw [if_neg (by omega), if_neg h2, Array.getElem?_extract]
      by_cases h3 : i - 1 < xs.size
      · rw [if_pos (by omega)]; congr 1; omega
      · rw [if_neg (by omega), Array.getElem?_eq_none (by omega)]
theorem era_get {α : Type} (xs : Array α) (p : Nat) (hp : p < xs.size) (i : Nat) : (eraseAt xs p)[i]? = if i < p then xs[i]? else xs[i + 1]? := by
  unfold eraseAt
  have hs : (xs.extract 0 p).size = p := by simp; omega
  rw [Array.getElem?_append, hs]
  by_cases h1 : i < p
  · rw [if_pos h1, if_pos h1, Array.getElem?_extract, if_pos (by omega), Nat.zero_add]
  · rw [if_neg h1, if_neg h1, Array.getElem?_extract]
    by_cases h3 : i + 1 < xs.size
    · rw [if_pos (by omega)]; congr 1; omega
    · rw [if_neg (by omega), Array.getElem?_eq_none (by omega)]
theorem ins_size {α : Type} (xs : Array α) (p : Nat) (hp : p ≤ xs.size) (x : α) : (insertAt xs p x).size = xs.size + 1 := by
  unfold insertAt; simp; omega
theorem era_size {α : Type} (xs : Array α) (p : Nat) (hp : p < xs.size) : (eraseAt xs p).size = xs.size - 1 := by
  unfold eraseAt; simp; omega
theorem ins_map {α β : Type} (f : α → β) (xs : Array α) (p : Nat) (x : α) : (insertAt xs p x).map f = insertAt (xs.map f) p (f x) := by
  unfold insertAt; simp [Array.map_append]
theorem era_map {α β : Type} (f : α → β) (xs : Array α) (p : Nat) : (eraseAt xs p).map f = eraseAt (xs.map f) p := by
  unfold eraseAt; simp [Array.map_append]

theorem ins_mem {xs : Array Nat} {p : Nat} (hp : p ≤ xs.size) {x j : Nat} : (∃ i : Nat, (insertAt xs p x)[i]? = some j) ↔ j = x ∨ ∃ i : Nat, xs[i]? = some j := by
  constructor
  · rintro ⟨i, h⟩
    rw [ins_get xs p hp] at h
    split at h
    · exact .inr ⟨i, h⟩
    · split at h
      · cases h; exact .inl rfl
      · exact .inr ⟨_, h⟩
  · rintro (rfl | ⟨i, h⟩)
    · exact ⟨p, by rw [ins_get xs p hp, if_neg (by omega), if_pos rfl]⟩
    · by_cases c : i < p
      · exact ⟨i, by rw [ins_get xs p hp, if_pos c]; exact h⟩
      · exact ⟨i + 1, by rw [ins_get xs p hp, if_neg (by omega), if_neg (by omega), Nat.add_sub_cancel]; exact h⟩
theorem era_mem {xs : Array Nat} (hr : Ris xs) {p : Nat} {x j : Nat} (hx : xs[p]? = some x) : (∃ i : Nat, (eraseAt xs p)[i]? = some j) ↔ j ≠ x ∧ ∃ i : Nat, xs[i]? = some j := by
  have hp := lt_of_get hx
  constructor
  · rintro ⟨i, h⟩
    rw [era_get xs p hp] at h
    split at h
    · rename_i c
      exact ⟨fun e => by subst e; have := hr _ _ _ _ c h hx; omega, i, h⟩
    · exact ⟨fun e => by subst e; have := hr p (i + 1) _ _ (by omega) hx h; omega, i + 1, h⟩
  · rintro ⟨h1, i, h⟩
    by_cases c : i < p
    · exact ⟨i, by rw [era_get xs p hp, if_pos c]; exact h⟩
    · have hne : i ≠ p := fun e => by subst e; rw [hx] at h; cases h; exact h1 rfl
      exact ⟨i - 1, by rw [era_get xs p hp, if_neg (by omega), show i - 1 + 1 = i by omega]; exact h⟩
theorem ins_ris {xs : Array Nat} (hr : Ris xs) {x : Nat} (hx : ¬ ∃ i : Nat, xs[i]? = some x) : Ris (insertAt xs (below xs x) x) := by
  obtain ⟨h1, h2, h3⟩ := below_spec hr x
  intro a b u v hab hu hv
  rw [ins_get xs _ h1] at hu hv
  have lo : ∀ i y, i < below xs x → xs[i]? = some y → y < x := h2
  have hi : ∀ i y, below xs x ≤ i → xs[i]? = some y → x < y := fun i y hh hy => by
    have := h3 i y hh hy
    rcases Nat.lt_or_eq_of_le this with q | q
    · exact q
    · exact absurd ⟨i, by rw [q]; exact hy⟩ hx
  split at hu
  · rename_i c1
    split at hv
    · exact hr _ _ _ _ hab hu hv
    · split at hv
      · cases hv; exact lo _ _ c1 hu
      · exact Nat.lt_trans (lo _ _ c1 hu) (hi _ _ (by omega) hv)
  · rename_i c1
    split at hu
    · rename_i c2
      cases hu
      rw [if_neg (by omega), if_neg (by omega)] at hv
      exact hi _ _ (by omega) hv
    · rw [if_neg (by omega), if_neg (by omega)] at hv
      exact hr _ _ _ _ (by omega) hu hv
theorem era_ris {xs : Array Nat} (hr : Ris xs) {p : Nat} (hp : p < xs.size) : Ris (eraseAt xs p) := by
  intro a b u v hab hu hv
  rw [era_get xs p hp] at hu hv
  split at hu <;> split at hv
  · exact hr _ _ _ _ hab hu hv
  · exact hr _ _ _ _ (by omega) hu hv
  · omega
  · exact hr _ _ _ _ (by omega) hu hv

theorem nxt_mask {t t' : SetTable} (h : t.mask = t'.mask) : ∀ (k : Nat) (p : Probe), nxt t k p = nxt t' k p
  | 0, _ => rfl
  | k + 1, p => by
    have e : t.advance p = t'.advance p := by unfold advance; rw [h]
    show nxt t k (t.advance p) = nxt t' k (t'.advance p)
    rw [e]; exact nxt_mask h k _
theorem start_mask {t t' : SetTable} (h : t.mask = t'.mask) (x : Int) : probeStart t x = probeStart t' x := by unfold probeStart; rw [h]

structure TInv (t : SetTable) (hs : Array Int) : Prop where
  size : t.place.size = hs.size
  rp : Ris t.place
  rd : Ris t.dummies
  fit : t.fill ≤ t.mask
  pl : ∀ i j : Nat, t.place[i]? = some j → j ≤ t.mask
  dl : ∀ i j : Nat, t.dummies[i]? = some j → j ≤ t.mask
  dis : ∀ j : Nat, (∃ i : Nat, t.place[i]? = some j) → ¬ ∃ i : Nat, t.dummies[i]? = some j
  mok : MaskOk t.mask
  reach : ∀ (i : Nat) (h : Int) (j : Nat), hs[i]? = some h → t.place[i]? = some j → ∃ k, (nxt t k (probeStart t h)).j = j ∧ ∀ k', k' < k → Occ t (nxt t k' (probeStart t h)).j

theorem pig : ∀ (n : Nat) (l : List Nat), (∀ x, x < n → x ∈ l) → n ≤ l.length
  | 0, _, _ => Nat.zero_le _
  | n + 1, l, h => by
    have h1 : n ∈ l := h n (Nat.lt_succ_self n)
    have := pig n (l.erase n) fun x hx => (List.mem_erase_of_ne (by omega)).mpr (h x (by omega))
    rw [List.length_erase_of_mem h1] at this
    have : 0 < l.length := List.length_pos_of_mem h1
    omega

theorem TInv.empty {t : SetTable} {hs : Array Int} (I : TInv t hs) : ∃ x, x ≤ t.mask ∧ ¬ Occ t x := by
  apply Classical.byContradiction
  intro hn
  have all : ∀ x, x < t.mask + 1 → x ∈ t.place.toList ++ t.dummies.toList := fun x hx => by
    have : Occ t x := Classical.byContradiction fun q => hn ⟨x, by omega, q⟩
    rcases this with ⟨i, h⟩ | ⟨i, h⟩
    · exact List.mem_append_left _ (List.mem_of_getElem? (i := i) (by rw [Array.getElem?_toList]; exact h))
    · exact List.mem_append_right _ (List.mem_of_getElem? (i := i) (by rw [Array.getElem?_toList]; exact h))
  have := pig _ _ all
  have f := I.fit
  unfold fill at f
  simp at this
  omega

structure Wf (t : SetTable) (p : Probe) : Prop where
  more : p.more ≤ 9
  i : p.i ≤ t.mask
  pt : p.perturb < 2 ^ 64
theorem wf_start (t : SetTable) (h : Int) : Wf t (probeStart t h) := by
  have hb : bits h < 2 ^ 64 := by unfold bits; omega
  refine ⟨runEnd_le _ _, ?_, hb⟩
  have : bits h % (t.mask + 1) < t.mask + 1 := Nat.mod_lt _ (by omega)
  show bits h % (t.mask + 1) ≤ t.mask
  omega
theorem Wf.adv {t : SetTable} {p : Probe} (x : Wf t p) : Wf t (t.advance p) := by
  unfold advance
  by_cases c : p.more > 0
  · rw [if_pos c]; exact ⟨by have := x.more; show p.more - 1 ≤ 9; omega, x.i, x.pt⟩
  · rw [if_neg c]
    refine ⟨runEnd_le _ _, ?_, ?_⟩
    · have : (p.i * 5 + 1 + p.perturb / 32) % (t.mask + 1) < t.mask + 1 := Nat.mod_lt _ (by omega)
      show (p.i * 5 + 1 + p.perturb / 32) % (t.mask + 1) ≤ t.mask
      omega
    · have := x.pt
      show p.perturb / 32 < 2 ^ 64
      omega
theorem Wf.nxt {t : SetTable} : ∀ (k : Nat) {p : Probe}, Wf t p → Wf t (Mine.nxt t k p)
  | 0, _, x => x
  | k + 1, _, x => Wf.nxt k x.adv
theorem Wf.core {t : SetTable} {p q : Probe} (x : Wf t p) (h : Mine.core p = Mine.core q) : Wf t q := by
  simp only [Mine.core, Prod.mk.injEq] at h
  exact ⟨h.2.1 ▸ x.more, h.2.2.1 ▸ x.i, h.2.2.2 ▸ x.pt⟩

/-- the search for h stands at its K-th place, all before it held -/
structure On (t : SetTable) (h : Int) (K : Nat) (p : Probe) : Prop where
  c : core p = core (nxt t K (probeStart t h))
  occ : ∀ k, k < K → Occ t (nxt t k (probeStart t h)).j
  dm : ∀ d, p.dummy = some d → t.slot d = .dummy ∧ ∃ k, k < K ∧ (nxt t k (probeStart t h)).j = d

theorem On.start (t : SetTable) (h : Int) : On t h 0 (probeStart t h) := ⟨rfl, fun k hk => absurd hk (by omega), fun d hd => by cases hd⟩
theorem core_j {p q : Probe} (h : core p = core q) : p.j = q.j := by simp only [core, Prod.mk.injEq] at h; exact h.1
theorem On.adv {t : SetTable} {h : Int} {K : Nat} {p : Probe} (o : On t h K p) (ho : Occ t p.j) : On t h (K + 1) (t.advance p) := by
  refine ⟨by rw [nxt_succ]; exact advance_core o.c, fun k hk => ?_, fun d hd => ?_⟩
  · rcases Nat.lt_or_eq_of_le (Nat.le_of_lt_succ hk) with q | q
    · exact o.occ k q
    · subst q; rw [← core_j o.c]; exact ho
  · rw [advance_dummy] at hd
    obtain ⟨a, k, hk, e⟩ := o.dm d hd
    exact ⟨a, k, by omega, e⟩
theorem On.advD {t : SetTable} {h : Int} {K : Nat} {p : Probe} (o : On t h K p) (hs : t.slot p.j = .dummy) (ho : Occ t p.j) : On t h (K + 1) (t.advance { p with dummy := some p.j }) := by
  refine ⟨by rw [nxt_succ]; exact advance_core o.c, fun k hk => ?_, fun d hd => ?_⟩
  · rcases Nat.lt_or_eq_of_le (Nat.le_of_lt_succ hk) with q | q
    · exact o.occ k q
    · subst q; rw [← core_j o.c]; exact ho
  · rw [advance_dummy] at hd
    cases hd
    exact ⟨hs, K, by omega, (core_j o.c).symm⟩

/-- what one look of the search gives -/
inductive Look1 (t : SetTable) (hashAt : Nat → Int) (h : Int) (K : Nat) : Option Met → Prop
  | empty (K' : Nat) (q : Probe) (hK : K ≤ K') (o : On t h K' q) (he : t.slot q.j = .empty)
      (hn : ∀ k i, K ≤ k → k < K' → t.slot (nxt t k (probeStart t h)).j = .live i → hashAt i ≠ h) : Look1 t hashAt h K (some (.empty q.j q.dummy))
  | cand (K' : Nat) (q : Probe) (i : Nat) (hK : K ≤ K') (o : On t h K' q) (hl : t.slot q.j = .live i) (hh : hashAt i = h)
      (hn : ∀ k i, K ≤ k → k < K' → t.slot (nxt t k (probeStart t h)).j = .live i → hashAt i ≠ h) : Look1 t hashAt h K (some (.candidate q.j i (t.advance q)))

theorem Look1.weak {t : SetTable} {hashAt : Nat → Int} {h : Int} {K : Nat} {o : Option Met} (r : Look1 t hashAt h (K + 1) o) (hK : ∀ i, t.slot (nxt t K (probeStart t h)).j = .live i → hashAt i ≠ h) : Look1 t hashAt h K o := by
  have step : ∀ K', (∀ k i, K + 1 ≤ k → k < K' → t.slot (nxt t k (probeStart t h)).j = .live i → hashAt i ≠ h) → ∀ k i, K ≤ k → k < K' → t.slot (nxt t k (probeStart t h)).j = .live i → hashAt i ≠ h := by
    intro K' hn k i h1 h2 hl
    rcases Nat.lt_or_eq_of_le h1 with z | z
    · exact hn k i z h2 hl
    · subst z; exact hK i hl
  cases r with
  | empty K' q h1 o' he' hn => exact .empty K' q (by omega) o' he' (step K' hn)
  | cand K' q i h1 o' hl' hh' hn => exact .cand K' q i (by omega) o' hl' hh' (step K' hn)

theorem go_spec {t : SetTable} {hs : Array Int} (I : TInv t hs) (hashAt : Nat → Int) (h : Int) : ∀ (fuel K : Nat) (p : Probe), On t h K p → (∃ k, k < fuel ∧ ¬ Occ t (nxt t k p).j) →
    Look1 t hashAt h K (probe.go t hashAt h fuel p) := by
  intro fuel
  induction fuel with
  | zero => rintro K p o ⟨k, hk, _⟩; omega
  | succ f ih =>
    rintro K p o ⟨k, hk, he⟩
    unfold probe.go
    have ej := core_j o.c
    cases hsl : t.slot p.j with
    | empty => exact .empty K p (Nat.le_refl _) o hsl fun k i h1 h2 => by omega
    | dummy =>
      have ho : Occ t p.j := .inr ((slot_dummy I.rp I.rd).mp hsl).2
      have hk0 : k ≠ 0 := fun e => by subst e; exact he ho
      refine Look1.weak (ih (K + 1) _ (o.advD hsl ho) ⟨k - 1, by omega, ?_⟩) fun i hl => ?_
      · have e1 : nxt t k p = nxt t (k - 1) (t.advance p) := by
          conv => lhs; rw [show k = k - 1 + 1 by omega]
          rfl
        have e2 : core (t.advance { p with dummy := some p.j }) = core (t.advance p) := advance_core rfl
        rw [core_j (nxt_core (k - 1) e2), ← e1]; exact he
      · rw [← ej, hsl] at hl; cases hl
    | live i =>
      have ho : Occ t p.j := .inl ⟨i, (slot_live I.rp).mp hsl⟩
      dsimp only
      by_cases c : hashAt i = h
      · rw [if_pos (by rw [c]; exact beq_self_eq_true _)]
        exact .cand K p i (Nat.le_refl _) o hsl c fun k i h1 h2 => by omega
      · rw [if_neg (fun q => c (eq_of_beq q))]
        have hk0 : k ≠ 0 := fun e => by subst e; exact he ho
        refine Look1.weak (ih (K + 1) _ (o.adv ho) ⟨k - 1, by omega, ?_⟩) fun i' hl => ?_
        · have e1 : nxt t k p = nxt t (k - 1) (t.advance p) := by
            conv => lhs; rw [show k = k - 1 + 1 by omega]
            rfl
          rw [← e1]; exact he
        · rw [← ej, hsl] at hl; cases hl; exact c

theorem probe_spec {t : SetTable} {hs : Array Int} (I : TInv t hs) (hashAt : Nat → Int) (h : Int) {K : Nat} {p : Probe} (o : On t h K p) : Look1 t hashAt h K (t.probe hashAt h p) := by
  obtain ⟨x, hx, he⟩ := I.empty
  have wf : Wf t p := (Wf.nxt K (wf_start t h)).core o.c.symm
  obtain ⟨k, hk, e⟩ := visits_all I.mok wf.more wf.i wf.pt hx
  exact go_spec I hashAt h _ K p o ⟨k, hk, by rw [e]; exact he⟩

/-- the first empty place on h's road: no search goes beyond it -/
theorem road_end {t : SetTable} {hs : Array Int} (I : TInv t hs) (h : Int) : ∃ B, B < 10 * turns t.mask ∧ ¬ Occ t (nxt t B (probeStart t h)).j := by
  obtain ⟨x, hx, he⟩ := I.empty
  have wf := wf_start t h
  obtain ⟨k, hk, e⟩ := visits_all I.mok wf.more wf.i wf.pt hx
  exact ⟨k, hk, by rw [e]; exact he⟩
open PySem PySem.SetTable

theorem occ_put {t : SetTable} (hp : Ris t.place) (hd : Ris t.dummies) {j0 j : Nat} (hj : ¬ ∃ i : Nat, t.place[i]? = some j0) : Occ (t.put j0).1 j ↔ Occ t j ∨ j = j0 := by
  obtain ⟨h1, _, _⟩ := below_spec hp j0
  show ((∃ i : Nat, (insertAt t.place (below t.place j0) j0)[i]? = some j) ∨ ∃ i : Nat, (if has t.dummies j0 then eraseAt t.dummies (below t.dummies j0) else t.dummies)[i]? = some j) ↔ _
  rw [ins_mem h1]
  by_cases c : has t.dummies j0 = true
  · rw [if_pos c]
    obtain ⟨i, hi⟩ := (has_iff hd).mp c
    rw [below_at hd hi, era_mem hd hi]
    unfold Occ
    constructor
    · rintro ((rfl | x) | ⟨_, x⟩)
      · exact .inr rfl
      · exact .inl (.inl x)
      · exact .inl (.inr x)
    · rintro ((x | x) | rfl)
      · exact .inl (.inr x)
      · by_cases q : j = j0
        · exact .inl (.inl q)
        · exact .inr ⟨q, x⟩
      · exact .inl (.inl rfl)
  · rw [if_neg c]
    unfold Occ
    constructor
    · rintro ((rfl | x) | x)
      · exact .inr rfl
      · exact .inl (.inl x)
      · exact .inl (.inr x)
    · rintro ((x | x) | rfl)
      · exact .inl (.inr x)
      · exact .inr x
      · exact .inl (.inl rfl)

theorem put_fill {t : SetTable} (hp : Ris t.place) (hd : Ris t.dummies) (j0 : Nat) : (t.put j0).1.fill = if has t.dummies j0 then t.fill else t.fill + 1 := by
  obtain ⟨h1, _, _⟩ := below_spec hp j0
  show (insertAt t.place (below t.place j0) j0).size + (if has t.dummies j0 then eraseAt t.dummies (below t.dummies j0) else t.dummies).size = _
  rw [ins_size _ _ h1]
  unfold fill
  by_cases c : has t.dummies j0 = true
  · rw [if_pos c, if_pos c]
    obtain ⟨i, hi⟩ := (has_iff hd).mp c
    rw [below_at hd hi, era_size _ _ (lt_of_get hi)]
    have := lt_of_get hi
    omega
  · rw [if_neg c, if_neg c]; omega

theorem put_inv {t : SetTable} {hs : Array Int} (I : TInv t hs) {h : Int} {j0 : Nat} (hj : ¬ ∃ i : Nat, t.place[i]? = some j0) (hj' : j0 ≤ t.mask) (hr : ∃ k, (nxt t k (probeStart t h)).j = j0 ∧ ∀ k', k' < k → Occ t (nxt t k' (probeStart t h)).j)
    (hfit : (t.put j0).1.fill ≤ t.mask) : TInv (t.put j0).1 (insertAt hs (t.put j0).2 h) := by
  obtain ⟨h1, _, _⟩ := below_spec I.rp j0
  have hm : (t.put j0).1.mask = t.mask := rfl
  have hpl : (t.put j0).1.place = insertAt t.place (below t.place j0) j0 := rfl
  have hdm : (t.put j0).1.dummies = if has t.dummies j0 then eraseAt t.dummies (below t.dummies j0) else t.dummies := rfl
  have h2 : (t.put j0).2 = below t.place j0 := rfl
  have h1' : below t.place j0 ≤ hs.size := I.size ▸ h1
  have dmem : ∀ j : Nat, (∃ i : Nat, (t.put j0).1.dummies[i]? = some j) ↔ j ≠ j0 ∧ ∃ i : Nat, t.dummies[i]? = some j := by
    intro j
    rw [hdm]
    by_cases c : has t.dummies j0 = true
    · rw [if_pos c]
      obtain ⟨i, hi⟩ := (has_iff I.rd).mp c
      rw [below_at I.rd hi, era_mem I.rd hi]
    · rw [if_neg c]
      exact ⟨fun x => ⟨fun e => c ((has_iff I.rd).mpr (e ▸ x)), x⟩, fun x => x.2⟩
  refine ⟨?_, ?_, ?_, hfit, ?_, ?_, ?_, I.mok, ?_⟩
  · rw [hpl, h2, ins_size _ _ h1, ins_size _ _ h1', I.size]
  · rw [hpl]; exact ins_ris I.rp hj
  · rw [hdm]
    by_cases c : has t.dummies j0 = true
    · rw [if_pos c]
      obtain ⟨i, hi⟩ := (has_iff I.rd).mp c
      rw [below_at I.rd hi]
      exact era_ris I.rd (lt_of_get hi)
    · rw [if_neg c]; exact I.rd
  · intro i j e
    rw [hpl] at e
    rcases (ins_mem h1).mp ⟨i, e⟩ with rfl | ⟨i', e'⟩
    · exact hj'
    · exact I.pl _ _ e'
  · intro i j e
    obtain ⟨_, i', e'⟩ := (dmem j).mp ⟨i, e⟩
    exact I.dl _ _ e'
  · intro j hx hy
    obtain ⟨hne, hy'⟩ := (dmem j).mp hy
    rw [hpl] at hx
    rcases (ins_mem h1).mp hx with rfl | hx'
    · exact hne rfl
    · exact I.dis j hx' hy'
  · intro i hh j e1 e2
    rw [start_mask hm]
    rw [h2, ins_get hs _ h1'] at e1
    rw [hpl, ins_get t.place _ h1] at e2
    have lift : ∀ (x : Int) (y : Nat), (∃ k, (nxt t k (probeStart t x)).j = y ∧ ∀ k', k' < k → Occ t (nxt t k' (probeStart t x)).j) →
        ∃ k, (nxt (t.put j0).1 k (probeStart t x)).j = y ∧ ∀ k', k' < k → Occ (t.put j0).1 (nxt (t.put j0).1 k' (probeStart t x)).j := by
      rintro x y ⟨k, a, b⟩
      refine ⟨k, by rw [nxt_mask hm]; exact a, fun k' hk' => ?_⟩
      rw [nxt_mask hm]
      exact (occ_put I.rp I.rd hj).mpr (.inl (b k' hk'))
    split at e1
    · rename_i c
      rw [if_pos c] at e2
      exact lift _ _ (I.reach _ _ _ e1 e2)
    · rename_i c
      rw [if_neg c] at e2
      split at e1
      · rename_i c2
        rw [if_pos c2] at e2
        cases e1; cases e2
        exact lift _ _ hr
      · rename_i c2
        rw [if_neg c2] at e2
        exact lift _ _ (I.reach _ _ _ e1 e2)

theorem drop_eq {t : SetTable} {i j : Nat} (h : t.place[i]? = some j) : t.drop i = { t with place := eraseAt t.place i, dummies := insertAt t.dummies (below t.dummies j) j } := by
  unfold drop; rw [h]

theorem drop_fill {t : SetTable} {hs : Array Int} (I : TInv t hs) {i j : Nat} (h : t.place[i]? = some j) : (t.drop i).fill = t.fill := by
  rw [drop_eq h]
  show (eraseAt t.place i).size + (insertAt t.dummies (below t.dummies j) j).size = _
  obtain ⟨h1, _, _⟩ := below_spec I.rd j
  rw [era_size _ _ (lt_of_get h), ins_size _ _ h1]
  have := lt_of_get h
  unfold fill; omega

theorem drop_inv {t : SetTable} {hs : Array Int} (I : TInv t hs) {i : Nat} (hi : i < hs.size) : TInv (t.drop i) (eraseAt hs i) := by
  obtain ⟨j, h⟩ := get_of_lt (xs := t.place) (a := i) (by rw [I.size]; exact hi)
  have hf := drop_fill I h
  have hij := lt_of_get h
  obtain ⟨h1, _, _⟩ := below_spec I.rd j
  have hnd : ¬ ∃ i : Nat, t.dummies[i]? = some j := I.dis j ⟨i, h⟩
  have hm : (t.drop i).mask = t.mask := by rw [drop_eq h]
  have hpl : (t.drop i).place = eraseAt t.place i := by rw [drop_eq h]
  have hdm : (t.drop i).dummies = insertAt t.dummies (below t.dummies j) j := by rw [drop_eq h]
  have occ : ∀ x, Occ t x → Occ (t.drop i) x := by
    rintro x (⟨i', e⟩ | ⟨i', e⟩)
    · by_cases q : x = j
      · right; rw [hdm]; exact (ins_mem h1).mpr (.inl q)
      · left; rw [hpl]; exact (era_mem I.rp h).mpr ⟨q, i', e⟩
    · right; rw [hdm]; exact (ins_mem h1).mpr (.inr ⟨i', e⟩)
  refine ⟨?_, ?_, ?_, ?_, ?_, ?_, ?_, ?_, ?_⟩
  · rw [hpl, era_size _ _ hij, era_size _ _ hi, I.size]
  · rw [hpl]; exact era_ris I.rp hij
  · rw [hdm]; exact ins_ris I.rd hnd
  · rw [hf, hm]; exact I.fit
  · intro a b e
    rw [hm]; rw [hpl] at e
    obtain ⟨_, i', e'⟩ := (era_mem I.rp h).mp ⟨a, e⟩
    exact I.pl _ _ e'
  · intro a b e
    rw [hm]; rw [hdm] at e
    rcases (ins_mem h1).mp ⟨a, e⟩ with rfl | ⟨i', e'⟩
    · exact I.pl _ _ h
    · exact I.dl _ _ e'
  · intro x hx hy
    rw [hpl] at hx
    rw [hdm] at hy
    obtain ⟨hne, hx'⟩ := (era_mem I.rp h).mp hx
    rcases (ins_mem h1).mp hy with e | hy'
    · exact hne e
    · exact I.dis x hx' hy'
  · rw [hm]; exact I.mok
  · intro a hh b e1 e2
    rw [start_mask hm]
    rw [era_get _ _ hi] at e1
    rw [hpl, era_get _ _ hij] at e2
    have lift : (∃ k, (nxt t k (probeStart t hh)).j = b ∧ ∀ k', k' < k → Occ t (nxt t k' (probeStart t hh)).j) →
        ∃ k, (nxt (t.drop i) k (probeStart t hh)).j = b ∧ ∀ k', k' < k → Occ (t.drop i) (nxt (t.drop i) k' (probeStart t hh)).j := by
      rintro ⟨k, x, y⟩
      exact ⟨k, by rw [nxt_mask hm]; exact x, fun k' hk' => by rw [nxt_mask hm]; exact occ _ (y k' hk')⟩
    split at e1
    · rename_i c
      rw [if_pos c] at e2
      exact lift (I.reach _ _ _ e1 e2)
    · rename_i c
      rw [if_neg c] at e2
      exact lift (I.reach _ _ _ e1 e2)

theorem fresh_inv (mv : Nat) (led : Bool) : TInv (SetTable.fresh 0 mv led) #[] :=
  ⟨rfl, fun a b x y _ h => by simp [SetTable.fresh] at h, fun a b x y _ h => by simp [SetTable.fresh] at h, Nat.zero_le _, fun i j h => by simp [SetTable.fresh] at h, fun i j h => by simp [SetTable.fresh] at h, fun j h => by simp [SetTable.fresh] at h, .inl rfl, fun i h j e => by simp at e⟩

/-! laying a table anew -/
abbrev tm (mask : Nat) : SetTable := { mask, place := #[], dummies := #[], finger := 0, led := true, moves := 0, plain := true }
def OccO (ow : Array (Option Nat)) (j : Nat) : Prop := ∃ c, ow[j]? = some (some c)
theorem occO_not {ow : Array (Option Nat)} {j : Nat} (hj : j < ow.size) : ¬ OccO ow j ↔ ow[j]? = some none := by
  obtain ⟨x, hx⟩ := get_of_lt hj
  unfold OccO
  rw [hx]
  cases x with
  | none => simp
  | some c => simp

theorem run_at {t : SetTable} : ∀ (r : Nat) (p : Probe), r ≤ p.more → (nxt t r p).j = p.j + r
  | 0, _, _ => rfl
  | r + 1, p, h => by
    have e : t.advance p = { p with j := p.j + 1, more := p.more - 1 } := by unfold advance; rw [if_pos (by omega)]
    show (nxt t r (t.advance p)).j = _
    rw [e, run_at r _ (by show r ≤ p.more - 1; omega)]
    show p.j + 1 + r = p.j + (r + 1)
    omega

theorem free_spec {mask : Nat} {ow : Array (Option Nat)} (hsz : ow.size = mask + 1) (st : Probe) : ∀ (fuel i p K : Nat), i ≤ mask → core (nxt (tm mask) K st) = (i, runEnd mask i - i, i, p) → (∀ k, k < K → OccO ow (nxt (tm mask) k st).j) →
    (∃ n, n < fuel ∧ ¬ OccO ow (leaps mask n (i, p)).1) → ∃ j K', layClean.free mask ow fuel i p = some j ∧ (nxt (tm mask) K' st).j = j ∧ j ≤ mask ∧ ¬ OccO ow j ∧ ∀ k, k < K' → OccO ow (nxt (tm mask) k st).j := by
  intro fuel
  induction fuel with
  | zero => rintro i p K _ _ _ ⟨n, hn, _⟩; omega
  | succ f ih =>
    rintro i p K hi hc hocc ⟨n, hn, hemp⟩
    have hre : runEnd mask i ≤ mask := by unfold runEnd; split <;> omega
    have hge : i ≤ runEnd mask i := by unfold runEnd; split <;> omega
    simp only [core, Prod.mk.injEq] at hc
    obtain ⟨c1, c2, c3, c4⟩ := hc
    have posn : ∀ r, r ≤ runEnd mask i - i → (nxt (tm mask) (K + r) st).j = i + r := fun r hr => by rw [nxt_add, run_at r _ (by rw [c2]; exact hr), c1]
    unfold layClean.free
    cases hf : (List.range (runEnd mask i + 1 - i)).find? (fun k => (ow.getD (i + k) (some 0)).isNone) with
    | some k =>
      rw [List.find?_range_eq_some] at hf
      obtain ⟨a, b, c⟩ := hf
      have hk := List.mem_range.mp b
      dsimp only
      refine ⟨i + k, K + k, rfl, posn k (by omega), by omega, ?_, ?_⟩
      · rw [occO_not (by omega)]
        obtain ⟨x, hx⟩ := get_of_lt (xs := ow) (a := i + k) (by omega)
        rw [Array.getD_eq_getD_getElem?, hx] at a
        cases x with
        | none => exact hx
        | some _ => simp at a
      · intro k' hk'
        by_cases q : k' < K
        · exact hocc k' q
        · have e := posn (k' - K) (by omega)
          rw [show K + (k' - K) = k' by omega] at e
          rw [e]
          have z := c (k' - K) (by omega)
          obtain ⟨x, hx⟩ := get_of_lt (xs := ow) (a := i + (k' - K)) (by omega)
          rw [Array.getD_eq_getD_getElem?, hx] at z
          cases x with
          | none => simp at z
          | some y => exact ⟨y, hx⟩
    | none =>
      have hall : ∀ r, r ≤ runEnd mask i - i → OccO ow (i + r) := fun r hr => by
        have z := List.find?_eq_none.mp hf r (List.mem_range.mpr (by omega))
        obtain ⟨x, hx⟩ := get_of_lt (xs := ow) (a := i + r) (by omega)
        rw [Array.getD_eq_getD_getElem?, hx] at z
        cases x with
        | none => simp at z
        | some y => exact ⟨y, hx⟩
      dsimp only
      have hstep := run_step (t := tm mask) (nxt (tm mask) K st).more (nxt (tm mask) K st) rfl
      rw [← nxt_add, c2, c3, c4] at hstep
      have hn0 : n ≠ 0 := fun e => by subst e; exact hemp (hall 0 (Nat.zero_le _))
      have hle : (leap mask i p).1 ≤ mask := by
        have : (i * 5 + 1 + p / 32) % (mask + 1) < mask + 1 := Nat.mod_lt _ (by omega)
        show (i * 5 + 1 + p / 32) % (mask + 1) ≤ mask
        omega
      refine ih _ _ (K + (runEnd mask i - i + 1)) hle hstep (fun k hk => ?_) ⟨n - 1, by omega, ?_⟩
      · by_cases q : k < K
        · exact hocc k q
        · have e := posn (k - K) (by omega)
          rw [show K + (k - K) = k by omega] at e
          rw [e]; exact hall _ (by omega)
      · have e : leaps mask n (i, p) = leaps mask (n - 1) (leap mask i p) := by
          conv => lhs; rw [show n = n - 1 + 1 by omega]
          rfl
        rw [← e]; exact hemp
open PySem PySem.SetTable

structure LInv (mask : Nat) (ow : Array (Option Nat)) (dn : List Int) (pos : List Nat) : Prop where
  sz : ow.size = mask + 1
  ln : pos.length = dn.length
  iff : ∀ c j : Nat, pos[c]? = some j ↔ ow[j]? = some (some c)
  reach : ∀ (c : Nat) (h : Int) (j : Nat), dn[c]? = some h → pos[c]? = some j → ∃ K, (nxt (tm mask) K (probeStart (tm mask) h)).j = j ∧ ∀ k, k < K → OccO ow (nxt (tm mask) k (probeStart (tm mask) h)).j

theorem LInv.occ {mask : Nat} {ow : Array (Option Nat)} {dn : List Int} {pos : List Nat} (I : LInv mask ow dn pos) (j : Nat) : OccO ow j ↔ j ∈ pos := by
  constructor
  · rintro ⟨c, h⟩; exact List.mem_of_getElem? ((I.iff c j).mpr h)
  · intro h
    obtain ⟨c, hc⟩ := List.mem_iff_getElem?.mp h
    exact ⟨c, (I.iff c j).mp hc⟩

theorem LInv.put {mask : Nat} (hm : MaskOk mask) {ow : Array (Option Nat)} {dn : List Int} {pos : List Nat} (I : LInv mask ow dn pos) (h : Int) (hl : dn.length ≤ mask) :
    ∃ j, layClean.free mask ow (turns mask) (bits h % (mask + 1)) (bits h) = some j ∧ LInv mask (ow.setIfInBounds j (some dn.length)) (dn ++ [h]) (pos ++ [j]) := by
  have hemp : ∃ x, x ≤ mask ∧ ¬ OccO ow x := by
    apply Classical.byContradiction
    intro hn
    have all : ∀ x, x < mask + 1 → x ∈ pos := fun x hx => (I.occ x).mp (Classical.byContradiction fun q => hn ⟨x, by omega, q⟩)
    have := pig _ _ all
    rw [I.ln] at this
    omega
  obtain ⟨x, hx, hxe⟩ := hemp
  have wf := wf_start (tm mask) h
  obtain ⟨n, hn1, hn2, e⟩ := leaps_full hm wf.i wf.pt hx
  obtain ⟨j, K, e1, e2, e3, e4, e5⟩ := free_spec I.sz (probeStart (tm mask) h) (turns mask) (bits h % (mask + 1)) (bits h) 0 wf.i rfl (fun k hk => by omega) ⟨n, by unfold turns; omega, by
    have : (bits h % (mask + 1), bits h) = ((probeStart (tm mask) h).i, (probeStart (tm mask) h).perturb) := rfl
    rw [this, e]; exact hxe⟩
  refine ⟨j, e1, ?_⟩
  have hj : ow[j]? = some none := (occO_not (by rw [I.sz]; omega)).mp e4
  have hjl := lt_of_get hj
  have get' : ∀ y : Nat, (ow.setIfInBounds j (some dn.length))[y]? = if j = y then some (some dn.length) else ow[y]? := by
    intro y
    rw [Array.getElem?_setIfInBounds]
    by_cases q : j = y
    · rw [if_pos q, if_pos q, if_pos hjl]
    · rw [if_neg q, if_neg q]
  have occ' : ∀ y, OccO ow y → OccO (ow.setIfInBounds j (some dn.length)) y := by
    rintro y ⟨c, hc⟩
    unfold OccO
    rw [get']
    by_cases q : j = y
    · rw [if_pos q]; exact ⟨_, rfl⟩
    · rw [if_neg q]; exact ⟨c, hc⟩
  refine ⟨by rw [Array.size_setIfInBounds]; exact I.sz, by simp [I.ln], fun c y => ?_, fun c hh y a b => ?_⟩
  · rw [get']
    by_cases q : j = y
    · subst q
      rw [if_pos rfl]
      constructor
      · intro z
        by_cases l : c < pos.length
        · rw [List.getElem?_append_left l] at z
          rw [I.iff, hj] at z; cases z
        · rw [List.getElem?_append_right (by omega)] at z
          have : c - pos.length = 0 := by
            rcases Nat.eq_zero_or_pos (c - pos.length) with w | w
            · exact w
            · rw [List.getElem?_eq_none (by simp; omega)] at z; cases z
          have : c = dn.length := by have := I.ln; omega
          rw [this]
      · intro z
        have : c = dn.length := by simpa using z.symm
        subst this
        rw [← I.ln, List.getElem?_append_right (Nat.le_refl _), Nat.sub_self]; rfl
    · rw [if_neg q]
      constructor
      · intro z
        by_cases l : c < pos.length
        · rw [List.getElem?_append_left l] at z
          exact (I.iff c y).mp z
        · rw [List.getElem?_append_right (by omega)] at z
          rcases Nat.eq_zero_or_pos (c - pos.length) with w | w
          · rw [w] at z; cases z; exact absurd rfl q
          · rw [List.getElem?_eq_none (by simp; omega)] at z; cases z
      · intro z
        have := (I.iff c y).mpr z
        rw [List.getElem?_append_left (by
          rcases Nat.lt_or_ge c pos.length with w | w
          · exact w
          · rw [List.getElem?_eq_none w] at this; cases this)]
        exact this
  · by_cases l : c < dn.length
    · rw [List.getElem?_append_left l] at a
      rw [List.getElem?_append_left (by rw [I.ln]; exact l)] at b
      obtain ⟨K', u, v⟩ := I.reach c hh y a b
      exact ⟨K', u, fun k hk => occ' _ (v k hk)⟩
    · rw [List.getElem?_append_right (by omega)] at a
      rw [List.getElem?_append_right (by rw [I.ln]; omega)] at b
      rcases Nat.eq_zero_or_pos (c - dn.length) with w | w
      · rw [w] at a
        rw [I.ln, w] at b
        cases a; cases b
        exact ⟨K, e2, fun k hk => occ' _ (e5 k hk)⟩
      · rw [List.getElem?_eq_none (by simp; omega)] at a; cases a

theorem LInv.nil (mask : Nat) : LInv mask (Array.replicate (mask + 1) none) [] [] := by
  refine ⟨by simp, rfl, fun c j => ?_, fun c h j e => by simp at e⟩
  constructor
  · intro h; simp at h
  · intro h
    rw [Array.getElem?_replicate] at h
    split at h <;> cases h

theorem lay_fold {mask : Nat} (hm : MaskOk mask) : ∀ (l : List Int) (ow : Array (Option Nat)) (dn : List Int) (pos : List Nat), LInv mask ow dn pos → dn.length + l.length ≤ mask + 1 →
    ∃ ow' pos', l.foldl (fun (acc : Option (Array (Option Nat) × Nat)) h => do
        let (owner, k) ← acc
        let j ← layClean.free mask owner (turns mask) (bits h % (mask + 1)) (bits h)
        pure (owner.setIfInBounds j (some k), k + 1)) (some (ow, dn.length)) = some (ow', (dn ++ l).length) ∧ LInv mask ow' (dn ++ l) pos'
  | [], ow, dn, pos, I, _ => ⟨ow, pos, by simp, by simpa using I⟩
  | h :: l, ow, dn, pos, I, hl => by
    simp only [List.length_cons] at hl
    obtain ⟨j, e, I'⟩ := I.put hm h (by omega)
    obtain ⟨ow', pos', e', I''⟩ := lay_fold hm l _ _ _ I' (by simp; omega)
    refine ⟨ow', pos', ?_, by simpa using I''⟩
    rw [List.foldl_cons]
    simp only [List.append_assoc, List.singleton_append] at e'
    rw [← e']
    congr 1
    show (do
        let j ← layClean.free mask ow (turns mask) (bits h % (mask + 1)) (bits h)
        pure (ow.setIfInBounds j (some dn.length), dn.length + 1) : Option (Array (Option Nat) × Nat)) = _
    rw [e]
    simp

theorem layClean_spec {mask : Nat} (hm : MaskOk mask) (hs : Array Int) (hl : hs.size ≤ mask) : ∃ ow pos, layClean mask hs = some ow ∧ LInv mask ow hs.toList pos := by
  obtain ⟨ow, pos, e, I⟩ := lay_fold hm hs.toList _ [] [] (LInv.nil mask) (by simp; omega)
  refine ⟨ow, pos, ?_, by simpa using I⟩
  unfold layClean
  rw [← Array.foldl_toList]
  simp only [List.length_nil] at e
  rw [e]
  rfl

theorem pig2 : ∀ (n : Nat) (l : List Nat), l.Nodup → (∀ x, x ∈ l → x < n) → l.length ≤ n
  | 0, l, _, h => by
    cases l with
    | nil => exact Nat.le_refl _
    | cons a l => have := h a (.head _); omega
  | n + 1, l, hn, h => by
    by_cases c : n ∈ l
    · have := pig2 n (l.erase n) (hn.erase n) fun x hx => by
        have h1 := (hn.mem_erase_iff).mp hx
        have := h x h1.2
        omega
      rw [List.length_erase_of_mem c] at this
      omega
    · have := pig2 n l hn fun x hx => by
        have := h x hx
        have : x ≠ n := fun e => c (e ▸ hx)
        omega
      omega

/-- the order in which the elements lie anew -/
structure Reord (n : Nat) (order : Array Nat) : Prop where
  sz : order.size = n
  lt : ∀ i c : Nat, order[i]? = some c → c < n
  all : ∀ c : Nat, c < n → ∃ i : Nat, order[i]? = some c
  inj : ∀ i j c : Nat, order[i]? = some c → order[j]? = some c → i = j

theorem laid_spec {mask : Nat} (hm : MaskOk mask) (hs : Array Int) (hl : hs.size ≤ mask) (finger moves : Nat) (led plain : Bool) :
    ∃ t order, laid mask finger moves led plain hs = some (t, order) ∧ t.mask = mask ∧ t.fill = hs.size ∧ t.plain = plain ∧ Reord hs.size order ∧ TInv t (order.map fun c => hs.getD c 0) := by
  obtain ⟨ow, pos, e, I⟩ := layClean_spec hm hs hl
  have hpl : pos.length = hs.size := by rw [I.ln]; simp
  let live : List (Nat × Nat) := (List.range (mask + 1)).filterMap fun j => (ow.getD j none).map (j, ·)
  have hmem : ∀ (j c : Nat), (j, c) ∈ live ↔ ow[j]? = some (some c) := by
    intro j c
    constructor
    · intro h
      obtain ⟨j', hj', q⟩ := List.mem_filterMap.mp h
      rw [Array.getD_eq_getD_getElem?] at q
      cases z : ow[j']? with
      | none => rw [z] at q; simp at q
      | some o => rw [z] at q; cases o with
        | none => simp at q
        | some c' => simp at q; obtain ⟨rfl, rfl⟩ := q; exact z
    · intro h
      refine List.mem_filterMap.mpr ⟨j, List.mem_range.mpr (by have := lt_of_get h; rw [I.sz] at this; exact this), ?_⟩
      rw [Array.getD_eq_getD_getElem?, h]; rfl
  have hpw : live.Pairwise (fun a b => a.1 < b.1) := by
    refine List.pairwise_filterMap.mpr (List.Pairwise.imp ?_ List.pairwise_lt_range)
    intro a a' haa b hb b' hb'
    cases z : ow.getD a none with
    | none => rw [z] at hb; simp at hb
    | some c => cases z' : ow.getD a' none with
      | none => rw [z'] at hb'; simp at hb'
      | some c' => rw [z] at hb; rw [z'] at hb'; simp at hb hb'; subst hb hb'; exact haa
  have hord : ∀ (i k : Nat) (x y : Nat × Nat), i < k → live[i]? = some x → live[k]? = some y → x.1 < y.1 := by
    intro i k x y hik hx hy
    obtain ⟨hi, rfl⟩ := List.getElem?_eq_some_iff.mp hx
    obtain ⟨hk, rfl⟩ := List.getElem?_eq_some_iff.mp hy
    exact List.pairwise_iff_getElem.mp hpw i k hi hk hik
  have uniq : ∀ (i k j c j' : Nat), live[i]? = some (j, c) → live[k]? = some (j', c) → i = k := by
    intro i k j c j' h1 h2
    have a1 := (I.iff c j).mpr ((hmem j c).mp (List.mem_of_getElem? h1))
    have a2 := (I.iff c j').mpr ((hmem j' c).mp (List.mem_of_getElem? h2))
    rw [a1] at a2
    cases a2
    rcases Nat.lt_trichotomy i k with z | z | z
    · exact absurd (hord i k _ _ z h1 h2) (Nat.lt_irrefl _)
    · exact z
    · exact absurd (hord k i _ _ z h2 h1) (Nat.lt_irrefl _)
  have gfst : ∀ i j : Nat, ((live.map (·.1)).toArray)[i]? = some j ↔ ∃ c, live[i]? = some (j, c) := by
    intro i j
    simp only [List.getElem?_toArray, List.getElem?_map, Option.map_eq_some_iff]
    constructor
    · rintro ⟨⟨a, c⟩, h, rfl⟩; exact ⟨c, h⟩
    · rintro ⟨c, h⟩; exact ⟨(j, c), h, rfl⟩
  have gsnd : ∀ i c : Nat, ((live.map (·.2)).toArray)[i]? = some c ↔ ∃ j, live[i]? = some (j, c) := by
    intro i j
    simp only [List.getElem?_toArray, List.getElem?_map, Option.map_eq_some_iff]
    constructor
    · rintro ⟨⟨a, c⟩, h, rfl⟩; exact ⟨a, h⟩
    · rintro ⟨c, h⟩; exact ⟨(c, j), h, rfl⟩
  have clt : ∀ (j c : Nat), ow[j]? = some (some c) → c < hs.size := by
    intro j c h
    have := (I.iff c j).mpr h
    have := (List.getElem?_eq_some_iff.mp this).1
    omega
  have R : Reord hs.size ((live.map (·.2)).toArray) := by
    have lt : ∀ i c : Nat, ((live.map (·.2)).toArray)[i]? = some c → c < hs.size := fun i c h => by
      obtain ⟨j, h⟩ := (gsnd i c).mp h
      exact clt j c ((hmem j c).mp (List.mem_of_getElem? h))
    have all : ∀ c : Nat, c < hs.size → ∃ i : Nat, ((live.map (·.2)).toArray)[i]? = some c := fun c hc => by
      obtain ⟨j, hj⟩ : ∃ j, pos[c]? = some j := ⟨pos[c]'(by omega), List.getElem?_eq_getElem (by omega)⟩
      obtain ⟨i, hi⟩ := List.mem_iff_getElem?.mp ((hmem j c).mpr ((I.iff c j).mp hj))
      exact ⟨i, (gsnd i c).mpr ⟨j, hi⟩⟩
    have inj : ∀ i j c : Nat, ((live.map (·.2)).toArray)[i]? = some c → ((live.map (·.2)).toArray)[j]? = some c → i = j := fun i k c h1 h2 => by
      obtain ⟨j, h1⟩ := (gsnd i c).mp h1
      obtain ⟨j', h2⟩ := (gsnd k c).mp h2
      exact uniq i k j c j' h1 h2
    refine ⟨?_, lt, all, inj⟩
    have hnd : (live.map (·.2)).Nodup := by
      rw [List.nodup_iff_pairwise_ne, List.pairwise_iff_getElem]
      intro i j hi hj hij e
      have := inj i j _ (by simp [List.getElem?_toArray, List.getElem?_eq_getElem hi]; rfl) (by simp [List.getElem?_toArray, List.getElem?_eq_getElem hj]; rw [List.getElem_map, List.getElem_map] at e; exact e.symm)
      omega
    have h1 := pig2 hs.size (live.map (·.2)) hnd fun x hx => by
      obtain ⟨i, hi⟩ := List.mem_iff_getElem?.mp hx
      exact lt i x (by rw [List.getElem?_toArray]; exact hi)
    have h2 := pig hs.size (live.map (·.2)) fun x hx => by
      obtain ⟨i, hi⟩ := all x hx
      rw [List.getElem?_toArray] at hi
      exact List.mem_of_getElem? hi
    rw [List.size_toArray]
    omega
  have hlen : live.length = hs.size := by have := R.sz; simpa using this
  refine ⟨{ mask, place := (live.map (·.1)).toArray, dummies := #[], finger, led, moves, plain }, (live.map (·.2)).toArray, ?_, rfl, ?_, rfl, R, ?_⟩
  · unfold laid
    rw [e]
    rfl
  · unfold fill
    simp [hlen]
  · have rp : Ris ((live.map (·.1)).toArray) := by
      intro a b x y hab hx hy
      obtain ⟨c, hx⟩ := (gfst a x).mp hx
      obtain ⟨c', hy⟩ := (gfst b y).mp hy
      exact hord a b _ _ hab hx hy
    refine ⟨?_, rp, fun a b x y _ h => by simp at h, ?_, ?_, fun i j h => by simp at h, fun j _ h => by simp at h, hm, ?_⟩
    · simp
    · unfold fill; simp [hlen]; exact hl
    · intro i j h
      obtain ⟨c, h⟩ := (gfst i j).mp h
      have := lt_of_get ((hmem j c).mp (List.mem_of_getElem? h))
      rw [I.sz] at this
      show j ≤ mask
      omega
    · intro i h j e1 e2
      obtain ⟨c, e2⟩ := (gfst i j).mp e2
      have e3 := (hmem j c).mp (List.mem_of_getElem? e2)
      rw [Array.getElem?_map, (gsnd i c).mpr ⟨j, e2⟩] at e1
      simp only [Option.map_some, Option.some.injEq] at e1
      have hc := clt j c e3
      obtain ⟨K, a, b⟩ := I.reach c h j (by rw [← e1, Array.getElem?_toList, Array.getD_eq_getD_getElem?]; obtain ⟨x, hx⟩ := get_of_lt hc; rw [hx]; rfl) ((I.iff c j).mpr e3)
      have hmk : (tm mask).mask = ({ mask, place := (live.map (·.1)).toArray, dummies := #[], finger, led, moves, plain } : SetTable).mask := rfl
      refine ⟨K, ?_, fun k hk => ?_⟩
      · rw [← nxt_mask hmk, ← start_mask hmk]; exact a
      · rw [← nxt_mask hmk, ← start_mask hmk]
        obtain ⟨c', hc'⟩ := b k hk
        obtain ⟨i', hi'⟩ := List.mem_iff_getElem?.mp ((hmem _ c').mpr hc')
        exact .inl ⟨i', (gfst i' _).mpr ⟨c', hi'⟩⟩

theorem reord_es {α : Type} {n : Nat} {order : Array Nat} (R : Reord n order) (es : Array α) (hn : es.size = n) :
    (order.filterMap (es[·]?)).size = n ∧ ∀ (i c : Nat), order[i]? = some c → (order.filterMap (es[·]?))[i]? = es[c]? := by
  have h : ∀ (l : List Nat), (∀ x ∈ l, x < n) → (l.filterMap (es[·]?)).length = l.length ∧ ∀ i c : Nat, l[i]? = some c → (l.filterMap (es[·]?))[i]? = es[c]? := by
    intro l
    induction l with
    | nil => intro _; exact ⟨rfl, fun i c h => by simp at h⟩
    | cons a l ih =>
      intro ha
      obtain ⟨x, hx⟩ := get_of_lt (xs := es) (a := a) (by rw [hn]; exact ha a (.head _))
      obtain ⟨h1, h2⟩ := ih fun x hx => ha x (.tail _ hx)
      rw [List.filterMap_cons, hx]
      refine ⟨by simp [h1], fun i c hi => ?_⟩
      cases i with
      | zero => simp at hi; subst hi; simp [hx]
      | succ i => simp at hi ⊢; exact h2 i c hi
  have hlt : ∀ x ∈ order.toList, x < n := fun x hx => by
    obtain ⟨i, hi⟩ := List.mem_iff_getElem?.mp hx
    exact R.lt i x (by rw [← Array.getElem?_toList]; exact hi)
  obtain ⟨h1, h2⟩ := h order.toList hlt
  have e : (order.filterMap (es[·]?)).toList = order.toList.filterMap (es[·]?) := by simp
  refine ⟨?_, fun i c hi => ?_⟩
  · rw [← Array.length_toList, e, h1, Array.length_toList, R.sz]
  · rw [← Array.getElem?_toList, e]
    exact h2 i c (by rw [Array.getElem?_toList]; exact hi)
end
open PySem PySem.W PySem.Calls PyProof.Rows
section

abbrev Mo (w : World) : Model := model PySem.Challenge.rw_je0005_01.row.prog w

theorem fill (w : World) (h : Heap) (X : (hd.heap_1 w.params).In h) : (hd.heap_1 w.params).In h ∧ PySem.Challenge.rw_je0005_01.foot = 2 := by
  revert X
  k_fill
  intro X
  exact ⟨X, rfl⟩

structure Sx (w : World) (A₀ : Around) (base : Heap) (outer : List Env) (env : Env) (h₀ : Heap) (L : Addr) (mg mb : Str → Option Value) (mean : ExcName → Option Value) (loose : List Str) : Prop where
  B : Below A₀ base outer h₀
  X : (hd.heap_1 w.params).In h₀
  T : Top hd.view_1 loose mean mg mb h₀
  hf : env.frame = some L
  hk : env.scope.kind = .function

structure Rm (A : Around) (fr : List Env) (n : Nat) : Prop where
  fr : A.frames = some fr
  d : A.depth + n ≤ 900
  u : A.units + 10 * n ≤ 9000
  hh : A.handled = none

theorem Rm.in1 {A : Around} {fr : List Env} {n : Nat} (r : Rm A fr (n + 1)) : Rm A.in1 fr n :=
  ⟨r.fr, by have := r.d; simp only [Around.in1_depth]; omega, by have := r.u; simp only [Around.in1_units]; omega, r.hh⟩
theorem Rm.le {A : Around} {fr : List Env} {n k : Nat} (r : Rm A fr n) (h : k ≤ n := by decide) : Rm A fr k :=
  ⟨r.fr, by have := r.d; omega, by have := r.u; omega, r.hh⟩
theorem Rm.deeper {A : Around} {fr : List Env} {env : Env} {n : Nat} (r : Rm A fr (n + 1)) : Rm (A.deeper env) (env :: fr) n :=
  ⟨Around.frames_deeper r.fr, by have := r.d; show A.depth + 1 + n ≤ 900; omega, by have := r.u; show A.units + 3 + 10 * n ≤ 9000; omega, r.hh⟩
theorem Rm.room {A : Around} {fr : List Env} {n : Nat} (r : Rm A fr n) : A.depth < recursionLimit := by
  have := r.d; show A.depth < 1000; omega
theorem Rm.units {A : Around} {fr : List Env} {n : Nat} (r : Rm A fr n) : A.units < cLine := by
  have := r.u; show A.units < 9900; omega

theorem Rm.u1 {A : Around} {fr : List Env} {n : Nat} (r : Rm A fr n) : A.units + 1 < cLine := by
  have := r.u; show A.units + 1 < 9900; omega

section
variable {w : World} {A A₀ : Around} {base h₀ : Heap} {outer : List Env} {env : Env} {L : Addr} {mg mb : Str → Option Value} {mean : ExcName → Option Value} {loose : List Str} {m : Str → Option Value} {s : Shared} {ν : List (Addr × Obj)} {n : Nat}
  {R : Result → Shared → Prop} {Q : Value → Shared → Prop} {E : Value → Shared → Prop}

theorem call_def {name qual : Str} {params : Arguments} {body : List Stmt} {scope : Scope} {dV kV doc pm cdv ct oc : Value} {an od : Option Addr} {osl : Array (Option Value)} {f : Addr} {args : Args} {binds : List (Str × Value)}
    (S : Sx w A₀ base outer env h₀ L mg mb mean loose) (F : Fr h₀ L s.heap m) (N : News h₀ L s.heap ν) (r : Rm A (env :: outer) (n + 1))
    (ho : (hd.heap_1 w.params).lookup f = some ⟨oc, od, .func (fnOf name qual params body scope dV kV doc pm an cdv ct), osl⟩) (hcd : codeIn (hd.heap_1 w.params) cdv qual = true)
    (hbind : BindsTo s (fnOf name qual params body scope dV kV doc pm an cdv ct) args binds) (hloc : ∀ y ∈ binds, scope.names.lookup y.1 = some .local)
    (hco : scope.isCoroutine = false) (hgen : scope.isGenerator = false) (hk : scope.kind = .function) (hcell : ∀ x ∈ scope.names, x.2 ≠ .cell)
    (h : ∀ g L' h₁, Fr h₀ L g m → Fr g L' h₁ (fun y => binds.reverse.lookup y) → News g L' h₁ ν → Sx w A base (env :: outer) (envOf qual scope L' f cdv) g L' mg mb mean loose →
      Rm (A.deeper (envOf qual scope L' f cdv)) (envOf qual scope L' f cdv :: env :: outer) n →
      wpAny (Mo w) (A.deeper (envOf qual scope L' f cdv)) (execs body (envOf qual scope L' f cdv))
        (fun fl s' => LeaveK h₀ L m g R (match fl with | .ret v => v | _ => .none) s')
        (fun e s' => wpAny (Mo w) (A.deeper (envOf qual scope L' f cdv)) (leaving (envOf qual scope L' f cdv) e) (fun _ s'' => R (.error e) s'') (fun e' s'' => R (.error e') s'') s')
        { s with heap := h₁, toks := s.toks + binds.length }) :
    codeAny (Mo w) A (.call (.ref f) args) R s :=
  code_def S.B F S.X N S.T r.fr S.hf S.hk ho hcd r.room hbind hloc
    (fun g L' h₁ FG F' N' B' X' T' => h g L' h₁ FG F' N' ⟨B', X', T', rfl, hk⟩ r.deeper) hco hgen hk hcell

theorem news_sub {h : Heap} {ν' : List (Addr × Obj)} (N : News h₀ L h ν) (hs : ∀ p ∈ ν', p ∈ ν) : News h₀ L h ν' := fun p hp => N p (hs p hp)
theorem ne_of_obj {h : Heap} {a b : Addr} {o o' : Obj} (x : h.get? a = some o) (y : h.get? b = some o') (hne : o ≠ o') : a ≠ b := fun e => hne (by subst e; rw [x] at y; exact Option.some.inj y)
end
end
section

structure CD where
  sig : Int
  ser : Int
  sub : Str
  iss : Str
  kid : Option (Array UInt8)
  aki : Option (Array UInt8)

def kv (o : Option (Array UInt8)) (t : Tok) : Value := match o with
  | none => .none
  | some b => .bytes b t

def NameIn (ν : List (Addr × Obj)) (a : Addr) (x : Str) : Prop :=
  ∃ da es n t, (a, instObj 87 da) ∈ ν ∧ (da, dictOf es n) ∈ ν ∧ getL "hashable" es = some (some (.str x t))

structure CertAt (ν : List (Addr × Obj)) (c : Addr) (d : CD) (dc sa ia : Addr) (es : List DictEntry) (n : Nat) (t1 t2 t3 t4 : Tok) : Prop where
  i : (c, instObj 160 dc) ∈ ν
  e : (dc, dictOf es n) ∈ ν
  sig : getL "signature" es = some (some (.int d.sig t1))
  ser : getL "serial_number" es = some (some (.int d.ser t2))
  sub : getL "subject" es = some (some (.ref sa))
  iss : getL "issuer" es = some (some (.ref ia))
  kid : getL "key_identifier" es = some (some (kv d.kid t3))
  aki : getL "authority_key_identifier" es = some (some (kv d.aki t4))
  hs : NameIn ν sa d.sub
  hi : NameIn ν ia d.iss

def CertIn (ν : List (Addr × Obj)) (c : Addr) (d : CD) : Prop := ∃ dc sa ia es n t1 t2 t3 t4, CertAt ν c d dc sa ia es n t1 t2 t3 t4

theorem NameIn.mono {ν ν' : List (Addr × Obj)} {a : Addr} {x : Str} (h : NameIn ν a x) (hs : ∀ p ∈ ν, p ∈ ν') : NameIn ν' a x :=
  let ⟨da, es, n, t, h1, h2, h3⟩ := h; ⟨da, es, n, t, hs _ h1, hs _ h2, h3⟩
theorem CertIn.mono {ν ν' : List (Addr × Obj)} {c : Addr} {d : CD} (h : CertIn ν c d) (hs : ∀ p ∈ ν, p ∈ ν') : CertIn ν' c d :=
  let ⟨dc, sa, ia, es, n, t1, t2, t3, t4, h⟩ := h
  ⟨dc, sa, ia, es, n, t1, t2, t3, t4, hs _ h.i, hs _ h.e, h.sig, h.ser, h.sub, h.iss, h.kid, h.aki, h.hs.mono hs, h.hi.mono hs⟩

section
variable {P : Params}
theorem kC1 : plainGet (hd.heap_1 P) 160 ("" : Str) = true := by k_is
theorem kC2 : hasDictIn (hd.heap_1 P) 160 = true := by k_is
theorem kCsig : findIn (hd.heap_1 P) (.ref 160) "signature" = some none := by k_is
theorem kCser : findIn (hd.heap_1 P) (.ref 160) "serial_number" = some none := by k_is
theorem kCsub : findIn (hd.heap_1 P) (.ref 160) "subject" = some none := by k_is
theorem kCiss : findIn (hd.heap_1 P) (.ref 160) "issuer" = some none := by k_is
theorem kCkid : findIn (hd.heap_1 P) (.ref 160) "key_identifier" = some none := by k_is
theorem kCaki : findIn (hd.heap_1 P) (.ref 160) "authority_key_identifier" = some none := by k_is
theorem kN1 : plainGet (hd.heap_1 P) 87 ("" : Str) = true := by k_is
theorem kN2 : hasDictIn (hd.heap_1 P) 87 = true := by k_is
theorem kNh : findIn (hd.heap_1 P) (.ref 87) "hashable" = some none := by k_is
end

section
variable {w : World} {A A₀ : Around} {base h₀ : Heap} {outer : List Env} {env : Env} {L : Addr} {mg mb : Str → Option Value} {mean : ExcName → Option Value} {loose : List Str} {m : Str → Option Value} {s : Shared} {ν : List (Addr × Obj)} {n : Nat}
  {R : Result → Shared → Prop} {Q : Value → Shared → Prop} {E : Value → Shared → Prop} {c a : Addr} {d : CD} {x : Str} {b : Bool}

theorem get_sig (S : Sx w A₀ base outer env h₀ L mg mb mean loose) (F : Fr h₀ L s.heap m) (N : News h₀ L s.heap ν) (C : CertIn ν c d) (h : ∀ t tk, Q (.int d.sig t) { s with toks := tk }) :
    wpAny (Mo w) A (getAttr (.ref c) "signature" b) Q E s :=
  let ⟨_, _, _, _, _, _, _, _, _, C⟩ := C
  get_own F S.X (InstAt.of_news N C.i C.e) kC1 kC2 kCsig rfl C.sig rfl (h _ _)
theorem get_ser (S : Sx w A₀ base outer env h₀ L mg mb mean loose) (F : Fr h₀ L s.heap m) (N : News h₀ L s.heap ν) (C : CertIn ν c d) (h : ∀ t tk, Q (.int d.ser t) { s with toks := tk }) :
    wpAny (Mo w) A (getAttr (.ref c) "serial_number" b) Q E s :=
  let ⟨_, _, _, _, _, _, _, _, _, C⟩ := C
  get_own F S.X (InstAt.of_news N C.i C.e) kC1 kC2 kCser rfl C.ser rfl (h _ _)
theorem get_sub (S : Sx w A₀ base outer env h₀ L mg mb mean loose) (F : Fr h₀ L s.heap m) (N : News h₀ L s.heap ν) (C : CertIn ν c d) (h : ∀ a tk, NameIn ν a d.sub → Q (.ref a) { s with toks := tk }) :
    wpAny (Mo w) A (getAttr (.ref c) "subject" b) Q E s :=
  let ⟨_, _, _, _, _, _, _, _, _, C⟩ := C
  get_own F S.X (InstAt.of_news N C.i C.e) kC1 kC2 kCsub rfl C.sub rfl (h _ _ C.hs)
theorem get_iss (S : Sx w A₀ base outer env h₀ L mg mb mean loose) (F : Fr h₀ L s.heap m) (N : News h₀ L s.heap ν) (C : CertIn ν c d) (h : ∀ a tk, NameIn ν a d.iss → Q (.ref a) { s with toks := tk }) :
    wpAny (Mo w) A (getAttr (.ref c) "issuer" b) Q E s :=
  let ⟨_, _, _, _, _, _, _, _, _, C⟩ := C
  get_own F S.X (InstAt.of_news N C.i C.e) kC1 kC2 kCiss rfl C.iss rfl (h _ _ C.hi)
theorem get_kid (S : Sx w A₀ base outer env h₀ L mg mb mean loose) (F : Fr h₀ L s.heap m) (N : News h₀ L s.heap ν) (C : CertIn ν c d) (h : ∀ t tk, Q (kv d.kid t) { s with toks := tk }) :
    wpAny (Mo w) A (getAttr (.ref c) "key_identifier" b) Q E s :=
  let ⟨_, _, _, _, _, _, _, t3, _, C⟩ := C
  get_own F S.X (InstAt.of_news N C.i C.e) kC1 kC2 kCkid rfl C.kid (by unfold kv; cases d.kid <;> rfl) (h _ _)
theorem get_aki (S : Sx w A₀ base outer env h₀ L mg mb mean loose) (F : Fr h₀ L s.heap m) (N : News h₀ L s.heap ν) (C : CertIn ν c d) (h : ∀ t tk, Q (kv d.aki t) { s with toks := tk }) :
    wpAny (Mo w) A (getAttr (.ref c) "authority_key_identifier" b) Q E s :=
  let ⟨_, _, _, _, _, _, _, t3, _, C⟩ := C
  get_own F S.X (InstAt.of_news N C.i C.e) kC1 kC2 kCaki rfl C.aki (by unfold kv; cases d.aki <;> rfl) (h _ _)
theorem get_hashable (S : Sx w A₀ base outer env h₀ L mg mb mean loose) (F : Fr h₀ L s.heap m) (N : News h₀ L s.heap ν) (C : NameIn ν a x) (h : ∀ t tk, Q (.str x t) { s with toks := tk }) :
    wpAny (Mo w) A (getAttr (.ref a) "hashable" b) Q E s :=
  let ⟨_, _, _, _, h1, h2, h3⟩ := C
  get_own F S.X (InstAt.of_news N h1 h2) kN1 kN2 kNh rfl h3 rfl (h _ _)
end
end
section

local macro_rules | `(tactic| walk_at "st") => `(tactic| first
  | with_reducible refine wpAny_execs_cons ?_
  | with_reducible refine wpAny_execs_nil ?_
  | with_reducible refine wpAny_Return_some ?_
  | with_reducible refine Tuple_ ?_
  | ((with_reducible show wpAny _ _ (spliced _) _ _ _); first | refine spliced_more ?_ | refine spliced_none ?_)
  | with_reducible refine Attribute_Name_ ?_
  | with_reducible refine Attribute_any_ ?_)

abbrev tupObj (x y : Value) : Obj := { cls := .type "tuple", data := .seq [x, y].toArray }

theorem kIS {P : Params} : findIn (hd.heap_1 P) (.ref 160) "issuer_serial" = some (some (.ref 134)) := by k_is
theorem kIS2 {P : Params} : specialIn (hd.heap_1 P) (.ref 134) "__get__" = some (some (.builtin "property.__get__")) := by k_is
theorem kIS3 {P : Params} : takesIn (hd.heap_1 P) (.ref 134) = some true := by k_is

section
variable {w : World} {A A₀ : Around} {base h₀ : Heap} {outer : List Env} {env : Env} {L : Addr} {mg mb : Str → Option Value} {mean : ExcName → Option Value} {loose : List Str} {m : Str → Option Value} {s : Shared} {ν : List (Addr × Obj)} {n : Nat}
  {R : Result → Shared → Prop} {Q : Value → Shared → Prop} {E : Value → Shared → Prop} {c a : Addr} {d : CD} {x : Str} {b : Bool}

theorem issuer_serial (S : Sx w A₀ base outer env h₀ L mg mb mean loose) (F : Fr h₀ L s.heap m) (N : News h₀ L s.heap ν) (r : Rm A (env :: outer) 2) (C : CertIn ν c d)
    (k : ∀ t h' tk t1 t2, Fr h₀ L h' m → News h₀ L h' ((t, tupObj (.str d.iss t1) (.int d.ser t2)) :: ν) → (∀ p ∈ ν, p.1 < t) → Q (.ref t) { s with heap := h', toks := tk }) :
    wpAny (Mo w) A (getAttr (.ref c) "issuer_serial" b) Q E s := by
  obtain ⟨dc, sa, ia, es, ne, t1, t2, t3, t4, C'⟩ := id C
  refine get_prop F S.X (InstAt.of_news N C'.i C'.e) kC1 kC2 kIS kIS2 kIS3 (by k_is) ?_
  refine call_def (binds := [("self", .ref c)]) S F N r.in1 (by k_is) (by k_is) (BindsTo.of_eq rfl) (locs rfl) rfl rfl rfl (by decide) ?_
  intro g L' h₁ FG F' N' S' r'
  walk_at "st"
  walk_at "st"
  walk_at "st"
  walk_at "st"
  walk_at "st"
  walk_at "st"
  refine ld F' rfl ?_
  refine get_iss S' F' N' C fun ia tk hi => ?_
  refine get_hashable S' F' N' hi fun ta tk => ?_
  walk_at "st"
  walk_at "st"
  refine ld F' rfl ?_
  refine get_ser S' F' N' C fun tb tk => ?_
  walk_at "st"
  refine newTuple_N F' N' fun h₂ F₂ N₂ => ?_
  refine leaveK_ F₂ N₂ fun F₃ N₃ => ?_
  refine handed_on rfl ?_
  exact k _ _ _ _ _ F₃ N₃ fun p hp => Heap.lt_size (N' p hp).1
end
end
section

def mixIs : Str ⊕ Int → Value → Bool
  | .inl x, v => Value.isStrOf x v
  | .inr i, v => Value.isInt i v

theorem mix_shape {k : Str ⊕ Int} {v : Value} (h : mixIs k v = true) : (∃ x t, k = .inl x ∧ v = .str x t) ∨ ∃ i t, k = .inr i ∧ v = .int i t := by
  cases k with
  | inl x => obtain ⟨t, rfl⟩ := Value.isStrOf_shape h; exact .inl ⟨x, t, rfl, rfl⟩
  | inr i => obtain ⟨t, rfl⟩ := Value.isInt_shape h; exact .inr ⟨i, t, rfl, rfl⟩

section
variable {prog : Program} {w : World} {A : Around} {E : Value → Shared → Prop} {s : Shared}
theorem eqB_si {a : Str} {t : Tok} {b : Int} {u : Tok} {Q : Bool → Shared → Prop} (h : Q false s) : wpAny (model prog w) A (eqBool (.str a t) (.int b u)) Q E s := by
  show wpAny _ A (richCompare .Eq (.str a t) (.int b u) >>= fun r => truthOfDropped r) Q E s
  exact wpAny_bind (PySem.EqMixed.eq_str_int (wpAny_truthy_bool h))
theorem eqB_is {a : Int} {t : Tok} {b : Str} {u : Tok} {Q : Bool → Shared → Prop} (h : Q false s) : wpAny (model prog w) A (eqBool (.int a t) (.str b u)) Q E s := by
  show wpAny _ A (richCompare .Eq (.int a t) (.str b u) >>= fun r => truthOfDropped r) Q E s
  exact wpAny_bind (PySem.EqMixed.eq_int_str (wpAny_truthy_bool h))
end

theorem mix_eq {prog : Program} {w : World} {A : Around} {E : Value → Shared → Prop} {s : Shared} {a b : Str ⊕ Int} {u v : Value} {Q : Bool → Shared → Prop} (hu : mixIs a u = true) (hv : mixIs b v = true) (h : Q (decide (a = b)) s) :
    wpAny (model prog w) A (PySem.eqBool u v) Q E s := by
  rcases mix_shape hu with ⟨x, t, rfl, rfl⟩ | ⟨i, t, rfl, rfl⟩ <;> rcases mix_shape hv with ⟨y, t', rfl, rfl⟩ | ⟨j, t', rfl, rfl⟩
  · refine (strKind prog w).eqBool hu hv ?_
    by_cases e : x = y
    · subst e; simpa using h
    · rw [decide_eq_false e]; rwa [decide_eq_false (by simpa using e)] at h
  · refine eqB_si ?_
    rwa [decide_eq_false (by simp)] at h
  · refine eqB_is ?_
    rwa [decide_eq_false (by simp)] at h
  · refine (intKind prog w).eqBool hu hv ?_
    by_cases e : i = j
    · subst e; simpa using h
    · rw [decide_eq_false e]; (rwa [decide_eq_false (by simpa using e)] at h)

def mixKind (prog : Program) (w : World) : KeyKind prog w (Str ⊕ Int) where
  is := mixIs
  hash := fun k => match k with
    | .inl x => (strKind prog w).hash x
    | .inr i => (intKind prog w).hash i
  inj := fun v a b ha hb => by
    rcases mix_shape ha with ⟨x, t, rfl, rfl⟩ | ⟨i, t, rfl, rfl⟩ <;> rcases mix_shape hb with ⟨y, u, rfl, e⟩ | ⟨j, u, rfl, e⟩ <;> cases e <;> rfl
  byValue := fun k v h => by
    rcases mix_shape h with ⟨x, t, rfl, rfl⟩ | ⟨i, t, rfl, rfl⟩ <;> rfl
  pyHash := fun {A E s k v Q} hv h => by
    cases k with
    | inl x => exact (strKind prog w).pyHash hv h
    | inr i => exact (intKind prog w).pyHash hv h
  eqBool := fun hu hv h => mix_eq hu hv h
  «strs» := fun k x t v h => by
    rcases mix_shape h with ⟨y, u, rfl, e⟩ | ⟨i, u, rfl, e⟩
    · cases e; exact (strKind prog w).«strs» x x t v (by simp [PySem.strKind, Value.isStrOf])
    · cases e

/-- a mark: an issuer's text and a serial number -/
abbrev Mark := Str × Int
def mk2 (k : Mark) : List (Str ⊕ Int) := [.inl k.1, .inr k.2]
theorem mk2_inj {a b : Mark} : mk2 a = mk2 b ↔ a = b := by
  constructor
  · intro h; simp [mk2] at h; exact Prod.ext h.1 h.2
  · intro h; rw [h]

abbrev TK (w : World) (h : Heap) (k : Mark) (a : Addr) : Prop := IsTupleKey (mixKind PySem.Challenge.rw_je0005_01.row.prog w) h (mk2 k) a
theorem mhash_ex (w : World) (k : Mark) : ∃ n : Int, tupleKeyHash (mixKind PySem.Challenge.rw_je0005_01.row.prog w) (mk2 k) = n := ⟨_, rfl⟩
noncomputable def mhash (w : World) (k : Mark) : Int := Classical.choose (mhash_ex w k)
theorem mhash_is (w : World) (k : Mark) : tupleKeyHash (mixKind PySem.Challenge.rw_je0005_01.row.prog w) (mk2 k) = mhash w k := Classical.choose_spec (mhash_ex w k)

theorem TK.of {w : World} {h : Heap} {x : Str} {i : Int} {t1 t2 : Tok} {a : Addr} (e : h.get? a = some (tupObj (.str x t1) (.int i t2))) : TK w h (x, i) a :=
  ⟨_, _, _, e, rfl, rfl, .cons (by simp [mixKind, mixIs, Value.isStrOf]) (.cons (by simp [mixKind, mixIs, Value.isInt]) .nil)⟩
end
section
open PySem.SetTable

abbrev setObj (es : Array (Int × Value)) (n : Nat) (t : SetTable) : Obj := { cls := .type "set", data := .set es n t }

def TupIn (ν : List (Addr × Obj)) (a : Addr) (k : Mark) : Prop := ∃ t1 t2, (a, tupObj (.str k.1 t1) (.int k.2 t2)) ∈ ν
theorem TupIn.mono {ν ν' : List (Addr × Obj)} {a : Addr} {k : Mark} (h : TupIn ν a k) (hs : ∀ p ∈ ν, p ∈ ν') : TupIn ν' a k := let ⟨t1, t2, h⟩ := h; ⟨t1, t2, hs _ h⟩

structure SetPre (w : World) (ν : List (Addr × Obj)) (es : Array (Int × Value)) (t : SetTable) (marks : List Mark) : Prop where
  I : TInv t (es.map (·.1))
  size : es.size = marks.length
  four : marks.length ≤ 4
  ent : ∀ (i : Nat) (e : Int × Value), es[i]? = some e → ∃ a k, e = (mhash w k, .ref a) ∧ TupIn ν a k ∧ k ∈ marks
  all : ∀ k ∈ marks, ∃ (i : Nat) (a : Addr), es[i]? = some (mhash w k, .ref a) ∧ TupIn ν a k
  inj : ∀ (i j : Nat) (h h' : Int) (a b : Addr) (k : Mark), es[i]? = some (h, .ref a) → es[j]? = some (h', .ref b) → TupIn ν a k → TupIn ν b k → i = j
structure SetOk (w : World) (ν : List (Addr × Obj)) (es : Array (Int × Value)) (t : SetTable) (marks : List Mark) : Prop extends SetPre w ν es t marks where
  slack : t.fill * 5 < t.mask * 3

section
variable {M : Model} {A : Around} {E : Value → Shared → Prop} {s : Shared}
theorem wp_setState {a : Addr} {es : Array (Int × Value)} {n : Nat} {t : SetTable} {Q : Array (Int × Value) × Nat × SetTable → Shared → Prop} (ho : s.heap.get? a = some (setObj es n t)) (I : TInv t (es.map (·.1))) (h : Q (es, n, t) s) :
    wpAny M A (setState a) Q E s := by
  unfold setState
  refine wpAny_bind (wpAny_load ho ?_)
  dsimp only
  have e1 : t.place.size = es.size := by have := I.size; simpa using this
  have e2 := I.fit
  have c : (t.place.size != es.size || decide (t.fill > t.mask)) = false := by
    rw [e1]; simp; omega
  rw [if_neg (by rw [c]; exact Bool.false_ne_true)]
  exact wpAny_pure h
end

theorem adv_le {t : SetTable} {p : Probe} (h : p.j + p.more ≤ t.mask) : (t.advance p).j + (t.advance p).more ≤ t.mask := by
  unfold advance
  by_cases c : p.more > 0
  · rw [if_pos c]; show p.j + 1 + (p.more - 1) ≤ t.mask; omega
  · rw [if_neg c]
    have : (p.i * 5 + 1 + p.perturb / 32) % (t.mask + 1) < t.mask + 1 := Nat.mod_lt _ (by omega)
    show (p.i * 5 + 1 + p.perturb / 32) % (t.mask + 1) + (runEnd t.mask ((p.i * 5 + 1 + p.perturb / 32) % (t.mask + 1)) - (p.i * 5 + 1 + p.perturb / 32) % (t.mask + 1)) ≤ t.mask
    unfold runEnd
    split <;> omega
theorem nxt_le {t : SetTable} : ∀ (K : Nat) {p : Probe}, p.j + p.more ≤ t.mask → (nxt t K p).j + (nxt t K p).more ≤ t.mask
  | 0, _, h => h
  | K + 1, _, h => nxt_le K (adv_le h)
theorem place_le (t : SetTable) (h : Int) (K : Nat) : (nxt t K (probeStart t h)).j ≤ t.mask := by
  have : (probeStart t h).j + (probeStart t h).more ≤ t.mask := by
    have : bits h % (t.mask + 1) < t.mask + 1 := Nat.mod_lt _ (by omega)
    show bits h % (t.mask + 1) + (runEnd t.mask (bits h % (t.mask + 1)) - bits h % (t.mask + 1)) ≤ t.mask
    unfold runEnd
    split <;> omega
  have := nxt_le K this
  omega

theorem mask_odd {t : SetTable} (h : MaskOk t.mask) : t.gaveWay = false := by
  unfold SetTable.gaveWay
  rcases h with h | h | h <;> rw [h] <;> decide

section
variable {w : World} {A : Around} {h₀ : Heap} {L : Addr} {s : Shared} {ν : List (Addr × Obj)} {E : Value → Shared → Prop}

theorem TupIn.tk {a : Addr} {k : Mark} (N : News h₀ L s.heap ν) (h : TupIn ν a k) : TK w s.heap k a := let ⟨_, _, h⟩ := h; TK.of (N _ h).1
theorem TupIn.inj {a : Addr} {k k' : Mark} (N : News h₀ L s.heap ν) (h : TupIn ν a k) (h' : TupIn ν a k') : k = k' := by
  obtain ⟨t1, t2, h⟩ := h
  obtain ⟨u1, u2, h'⟩ := h'
  have e := (N _ h).1.symm.trans (N _ h').1
  simp [tupObj] at e
  exact Prod.ext e.1.1 e.2.1

theorem ofAClass {x : Addr} {k : Mark} {Q : Bool → Shared → Prop} (N : News h₀ L s.heap ν) (hx : TupIn ν x k) (h : Q false s) : wpAny (Mo w) A (ofAClassStatement 8 (.ref x)) Q E s := by
  obtain ⟨t1, t2, hx⟩ := hx
  have ho := (N _ hx).1
  unfold ofAClassStatement
  refine wpAny_bind (wpAny_bind (wpAny_loadPart ho (wpAny_pure ?_)))
  refine wpAny_bind (wpAny_pure ?_)
  refine wpAny_bind (wpAny_seqItems ho rfl ?_)
  exact wpAny_of_eq (a := false) (by rfl) h
theorem seen_no {x : Addr} {k : Mark} {l : List Value} {Q : Bool → Shared → Prop} (N : News h₀ L s.heap ν) (hu : A.units < cLine) (hx : TupIn ν x k) (hl : ∀ e ∈ l, ∃ a k', e = .ref a ∧ TupIn ν a k') (h : Q false s) :
    wpAny (Mo w) A (searchCouldBeSeen (.ref x) l) Q E s := by
  unfold searchCouldBeSeen
  refine wpAny_bind ?_
  induction l with
  | nil => exact wpAny_pure (wpAny_pure h)
  | cons y l ih =>
    obtain ⟨a, k', rfl, ha⟩ := hl y (.head _)
    rw [List.forIn_cons]
    refine wpAny_bind ?_
    dsimp only
    have more := ih fun e he => hl e (.tail _ he)
    have hq := fun (b : Addr) (kb : Mark) (Q : Bool → Shared → Prop) => @wpAny_eqIsQuiet_tuple _ w _ _ (mixKind PySem.Challenge.rw_je0005_01.row.prog w) A E s (mk2 kb) b Q
    by_cases c : (x == a || carriedByValue (Value.ref x) && carriedByValue (Value.ref a)) = true
    · rw [if_pos c]
      exact wpAny_pure more
    · rw [if_neg c]
      refine wpAny_bind (hq x k _ (hx.tk N) ?_)
      rw [if_neg (show ¬ (!true) = true from Bool.false_ne_true)]
      refine wpAny_bind (hq a k' _ (ha.tk N) ?_)
      rw [if_neg (show ¬ (!true) = true from Bool.false_ne_true)]
      refine wpAny_bind (ofAClass N hx ?_)
      rw [if_neg Bool.false_ne_true]
      refine wpAny_bind (ofAClass N ha ?_)
      rw [if_neg Bool.false_ne_true]
      exact wpAny_pure more
theorem led_off {b : Bool} {x : Addr} {k : Mark} {l : List Value} {why : String} {K : Sem SetFound} {Q : SetFound → Shared → Prop} (N : News h₀ L s.heap ν) (hu : A.units < cLine) (hx : TupIn ν x k) (hl : ∀ e ∈ l, ∃ a k', e = .ref a ∧ TupIn ν a k') (h : wpAny (Mo w) A K Q E s) :
    wpAny (Mo w) A (if (!b) = true then (do let r ← searchCouldBeSeen (.ref x) l; if r = true then (do let _u ← (unsupported why : Sem PUnit); K) else K) else K) Q E s := by
  cases b with
  | true => exact h
  | false =>
    rw [if_pos (show (!false) = true from rfl)]
    refine wpAny_bind (seen_no N hu hx hl ?_)
    exact h

theorem search_from {es : Array (Int × Value)} {n : Nat} {t : SetTable} {marks : List Mark} {hs x : Addr} {k : Mark} {adding : Bool} {Q : SetFound → Shared → Prop} (N : News h₀ L s.heap ν) (hset : s.heap.get? hs = some (setObj es n t)) (O : SetOk w ν es t marks) (hx : TupIn ν x k) (hu : A.units < cLine)
    (hit : k ∈ marks → ∀ (i : Nat) (a : Addr), es[i]? = some (mhash w k, .ref a) → TupIn ν a k → Q (.there (if adding then none else some i)) s)
    (miss : k ∉ marks → ∀ slot wd, (¬ ∃ i : Nat, t.place[i]? = some slot) → slot ≤ t.mask → (∃ K, (nxt t K (probeStart t (mhash w k))).j = slot ∧ ∀ K', K' < K → Occ t (nxt t K' (probeStart t (mhash w k))).j) → wd = has t.dummies slot → Q (.free slot wd) s)
    (B : Nat) (hB : ¬ Occ t (nxt t B (probeStart t (mhash w k))).j) :
    ∀ (fuel K : Nat) (st : Option Probe), On t (mhash w k) K (st.getD (t.probeStart (mhash w k))) → K ≤ B → B - K < fuel →
      (∀ K' i a, K' < K → t.slot (nxt t K' (probeStart t (mhash w k))).j = .live i → es[i]? = some (mhash w k, .ref a) → ¬ TupIn ν a k) →
      wpAny (Mo w) A (setSearchFrom hs (.ref x) (mhash w k) adding fuel st) Q E s := by
  intro fuel
  induction fuel with
  | zero => intro K st _ _ h; omega
  | succ f ih =>
    intro K st on hK hf hskip
    unfold setSearchFrom
    refine wpAny_bind (wp_setState hset O.I ?_)
    dsimp only
    rw [if_neg (by rw [mask_odd O.I.mok]; exact Bool.false_ne_true)]
    split
    · rename_i met hz
      have q := probe_spec O.I (fun i => (es[i]?.map (·.1)).getD 0) (mhash w k) on
      have hz' : t.probe (fun i => (es[i]?.map (·.1)).getD 0) (mhash w k) (st.getD (t.probeStart (mhash w k))) = some met := hz
      rw [hz'] at q
      cases q with
      | empty K' q hK' o he hn =>
        have nomark : k ∉ marks := fun hm => by
          obtain ⟨i, a, hi, ha⟩ := O.all k hm
          obtain ⟨j, hj⟩ := get_of_lt (xs := t.place) (a := i) (by have := O.I.size; simp at this; rw [this]; exact lt_of_get hi)
          obtain ⟨k0, e0, occ0⟩ := O.I.reach i (mhash w k) j (by rw [Array.getElem?_map, hi]; rfl) hj
          have hl : t.slot (nxt t k0 (probeStart t (mhash w k))).j = .live i := by rw [e0]; exact (slot_live O.I.rp).mpr hj
          have hemp : ¬ Occ t (nxt t K' (probeStart t (mhash w k))).j := by rw [← core_j o.c]; exact (slot_empty O.I.rp O.I.rd).mp he
          have h1 : k0 < K' := by
            rcases Nat.lt_trichotomy k0 K' with z | z | z
            · exact z
            · subst z; exact absurd (.inl ⟨i, by rw [e0]; exact hj⟩) hemp
            · exact absurd (occ0 K' z) hemp
          rcases Nat.lt_or_ge k0 K with z | z
          · exact hskip k0 i a z hl hi ha
          · refine hn k0 i z h1 hl ?_
            show (es[i]?.map (·.1)).getD 0 = _
            rw [hi]; rfl
        dsimp only
        cases hd : q.dummy with
        | none =>
          dsimp only
          refine wpAny_pure (miss nomark _ _ (fun ⟨i, hi⟩ => ?_) ?_ ⟨K', (core_j o.c).symm, o.occ⟩ ?_)
          · exact (slot_empty O.I.rp O.I.rd).mp he (.inl ⟨i, hi⟩)
          · rw [core_j o.c]
            exact place_le t (mhash w k) K'
          · cases c : has t.dummies q.j with
            | false => rfl
            | true => exact absurd (.inr ((has_iff O.I.rd).mp c)) ((slot_empty O.I.rp O.I.rd).mp he)
        | some d =>
          obtain ⟨hsd, kd, hkd, ekd⟩ := o.dm d hd
          dsimp only
          rw [if_neg (by rw [hsd]; simp)]
          obtain ⟨h1, h2⟩ := (slot_dummy O.I.rp O.I.rd).mp hsd
          refine wpAny_pure (miss nomark _ _ h1 (let ⟨i, hi⟩ := h2; O.I.dl i d hi) ⟨kd, ekd, fun K'' hK'' => o.occ K'' (by omega)⟩ ?_)
          exact ((has_iff O.I.rd).mpr h2).symm
      | cand K' q i hK' o hl hh hn =>
        have hpi := (slot_live O.I.rp).mp hl
        obtain ⟨e, he⟩ := get_of_lt (xs := es) (a := i) (by have := O.I.size; simp at this; rw [← this]; exact lt_of_get hpi)
        obtain ⟨a, k', rfl, ha, hk'⟩ := O.ent i e he
        have hocc : Occ t q.j := .inl ⟨i, hpi⟩
        have hKB : K' ≤ B := by
          rcases Nat.lt_or_ge B K' with z | z
          · exact absurd (o.occ B z) hB
          · exact z
        have hne : K' ≠ B := fun e => by subst e; rw [← core_j o.c] at hB; exact hB hocc
        dsimp only
        rw [he]
        dsimp only
        refine led_off N hu hx (fun e he' => ?_) ?_
        · obtain ⟨e0, he0, rfl⟩ := List.mem_map.mp he'
          obtain ⟨i0, hi0⟩ := Array.mem_iff_getElem?.mp (Array.mem_filter.mp (Array.mem_toList_iff.mp he0)).1
          obtain ⟨a0, k0, rfl, ha0, _⟩ := O.ent i0 e0 hi0
          exact ⟨a0, k0, rfl, ha0⟩
        refine wpAny_bind (wpAny_holding (wpAny_eqBool_tuple hu (ha.tk N) (hx.tk N) ?_))
        refine wpAny_bind (wp_setState hset O.I ?_)
        dsimp only
        have hsm : t.sameMemory t.moves t.mask = some true := by unfold sameMemory; rw [if_pos (beq_self_eq_true _)]
        rw [hsm]
        dsimp only
        rw [if_pos rfl, hl]
        dsimp only
        rw [he]
        dsimp only
        by_cases ek : k' = k
        · subst ek
          rw [decide_eq_true rfl]
          have hr := hit hk' i a he ha
          cases adding with
          | true =>
            rw [if_pos (show (true && true) = true from rfl)]
            exact wpAny_pure hr
          | false =>
            rw [if_neg (by decide)]
            refine wpAny_bind (wpAny_isSame_ref_self (wpAny_bind (wpAny_pure ?_)))
            exact wpAny_pure hr
        · rw [decide_eq_false (fun e => ek (mk2_inj.mp e)), Bool.and_false, if_neg Bool.false_ne_true]
          refine wpAny_bind (wpAny_isSame_ref_self (wpAny_bind (wpAny_pure ?_)))
          refine ih (K' + 1) (some (t.advance q)) (o.adv hocc) (by omega) (by omega) fun K'' i'' a'' hK'' hl'' he'' ha'' => ?_
          rcases Nat.lt_trichotomy K'' K' with z | z | z
          · rcases Nat.lt_or_ge K'' K with y | y
            · exact hskip K'' i'' a'' y hl'' he'' ha''
            · refine hn K'' i'' y z hl'' ?_
              show (es[i'']?.map (·.1)).getD 0 = _
              rw [he'']; rfl
          · subst z
            rw [← core_j o.c, hl] at hl''
            cases hl''
            rw [he] at he''
            have e1 := congrArg Prod.snd (Option.some.inj he'')
            have e2 : a = a'' := Value.ref.inj e1
            subst e2
            exact ek (ha.inj N ha'')
          · omega
    · rename_i hz
      exfalso
      cases hq : t.probe (fun i => (es[i]?.map (·.1)).getD 0) (mhash w k) (st.getD (t.probeStart (mhash w k))) with
      | none =>
        have q := probe_spec O.I (fun i => (es[i]?.map (·.1)).getD 0) (mhash w k) on
        rw [hq] at q
        cases q
      | some met => exact hz met hq

theorem search {es : Array (Int × Value)} {n : Nat} {t : SetTable} {marks : List Mark} {hs x : Addr} {k : Mark} {adding : Bool} {Q : SetFound → Shared → Prop} (N : News h₀ L s.heap ν) (hset : s.heap.get? hs = some (setObj es n t)) (O : SetOk w ν es t marks) (hx : TupIn ν x k) (hu : A.units < cLine)
    (hit : k ∈ marks → ∀ (i : Nat) (a : Addr), es[i]? = some (mhash w k, .ref a) → TupIn ν a k → Q (.there (if adding then none else some i)) s)
    (miss : k ∉ marks → ∀ slot wd, (¬ ∃ i : Nat, t.place[i]? = some slot) → slot ≤ t.mask → (∃ K, (nxt t K (probeStart t (mhash w k))).j = slot ∧ ∀ K', K' < K → Occ t (nxt t K' (probeStart t (mhash w k))).j) → wd = has t.dummies slot → Q (.free slot wd) s) :
    wpAny (Mo w) A (setSearch hs (.ref x) (mhash w k) adding) Q E s := by
  obtain ⟨B, hB, hE⟩ := road_end O.I (mhash w k)
  have hm : t.mask ≤ 31 := by rcases O.I.mok with h | h | h <;> omega
  exact search_from N hset O hx hu hit miss B hE 100000 0 none (On.start _ _) (Nat.zero_le _) (by unfold turns at hB; omega) fun K' i a h => absurd h (by omega)
end
end
section
open PySem.SetTable

section
variable {w : World} {A : Around} {h₀ : Heap} {L : Addr} {m : Str → Option Value} {s : Shared} {ν : List (Addr × Obj)} {E : Value → Shared → Prop} {es : Array (Int × Value)} {n : Nat} {t : SetTable} {marks : List Mark} {hs x : Addr} {k : Mark}

theorem wp_setFind {Q : Option Nat → Shared → Prop} (N : News h₀ L s.heap ν) (hset : s.heap.get? hs = some (setObj es n t)) (O : SetOk w ν es t marks) (hx : TupIn ν x k) (hu : A.units < cLine)
    (hit : k ∈ marks → ∀ (i : Nat) (a : Addr), es[i]? = some (mhash w k, .ref a) → TupIn ν a k → Q (some i) s) (miss : k ∉ marks → Q none s) : wpAny (Mo w) A (setFind hs (.ref x) (mhash w k)) Q E s := by
  show wpAny _ _ (setFindIn hs (.ref x) (mhash w k) (99999 + 1)) Q E s
  unfold setFindIn
  refine wpAny_bind (wp_setState hset O.I ?_)
  dsimp only
  rw [if_neg (show ¬ byScan (Value.ref x) es = true from Bool.false_ne_true)]
  refine wpAny_bind (search N hset O hx hu (fun hm i a hi ha => ?_) fun hm slot wd _ _ _ _ => ?_)
  · exact wpAny_pure (hit hm i a hi ha)
  · exact wpAny_pure (miss hm)

theorem wp_hash {Q : Int → Shared → Prop} (N : News h₀ L s.heap ν) (hx : TupIn ν x k) (hu : A.units < cLine) (h : ∀ tk, Q (mhash w k) { s with toks := tk }) : wpAny (Mo w) A (pyHash (.ref x)) Q E s :=
  wpAny_pyHash_tuple hu (hx.tk N) (by rw [mhash_is]; exact h _)

theorem in_set {Q : Value → Shared → Prop} (N : News h₀ L s.heap ν) (hset : s.heap.get? hs = some (setObj es n t)) (O : SetOk w ν es t marks) (hx : TupIn ν x k) (hu : A.units + 1 < cLine)
    (h : ∀ tk, Q (.bool (decide (k ∈ marks))) { s with toks := tk }) : wpAny (Mo w) A (compareOp .In (.ref x) (.ref hs)) Q E s := by
  have hT : s.TypeIs (.ref hs) "set" := ⟨_, hset, rfl⟩
  show wpAny _ _ (do return .bool (← contains (.ref hs) (.ref x))) Q E s
  refine wpAny_bind ?_
  unfold contains
  refine wpAny_holding ?_
  refine wpAny_bind (wpAny_specialOf hT F.slot_set_contains.lookup ?_)
  show wpAny _ _ (if (some (Value.builtin "set.__contains__") == some Value.none) = true then _ else _) _ E s
  rw [if_neg (by rw [beq_builtin_none]; exact Bool.false_ne_true)]
  refine wpAny_bind (wpAny_callSpecialUnlessNone?_slot (name := Str.ofString "__contains__") hT F.slot_set_contains
    (wpAny_call_entry F.slot_set_contains hT entry_set_contains ?_ (F.args_set_contains_2 _ _)))
  unfold Builtin.«frozenset.__contains__» Builtin.Frozenset.oneOther
  simp only [List.isEmpty_nil, bind_assoc]
  unfold Builtin.Frozenset.addrOf Builtin.Frozenset.withSetAsKey setContains
  refine wpAny_bind (wpAny_pure ?_)
  try dsimp only
  refine wpAny_bind (wpAny_pure ?_)
  try dsimp only
  refine wpAny_bind (wpAny_tryCatch ?_)
  refine wpAny_holding ?_
  refine wpAny_bind (wp_hash N hx hu fun tk => ?_)
  refine wpAny_bind (wp_setFind (s := { s with toks := tk }) N hset O hx hu (fun hm i a _ _ => ?_) fun hm => ?_)
  · refine wpAny_pure ?_
    refine wpAny_pure ⟨_, rfl, wpAny_truthy_bool (wpAny_pure ?_)⟩
    have q := h tk; rw [decide_eq_true hm] at q; exact q
  · refine wpAny_pure ?_
    refine wpAny_pure ⟨_, rfl, wpAny_truthy_bool (wpAny_pure ?_)⟩
    have q := h tk; rw [decide_eq_false hm] at q; exact q

theorem wp_storeSet {es' : Array (Int × Value)} {t' : SetTable} {Q : Unit → Shared → Prop} (F : Fr h₀ L s.heap m) (N : News h₀ L s.heap ((hs, setObj es n t) :: ν)) (hoff : ∀ p ∈ ν, p.1 ≠ hs) (hz : es'.size ≤ 100)
    (h : ∀ h', Fr h₀ L h' m → News h₀ L h' ((hs, setObj es' (n + 1) t') :: ν) → Q () { s with heap := h' }) : wpAny (Mo w) A (storeSet hs es' t') Q E s := by
  unfold storeSet
  have ho := (N _ (.head _)).1
  refine wpAny_bind (wpAny_load ho ?_)
  dsimp only
  rw [if_neg (by rw [sizeLine_eq]; omega)]
  obtain ⟨F', N'⟩ := news_upd (pre := []) (o' := setObj es' (n + 1) t') (f := Obj.putSet es' t') F N (fun _ hp => nomatch hp) hoff rfl rfl
  exact wpAny_updatePart ho (h _ F' N')

theorem TInv.alike {t t' : SetTable} {hs : Array Int} (I : TInv t hs) (h1 : t'.mask = t.mask) (h2 : t'.place = t.place) (h3 : t'.dummies = t.dummies) : TInv t' hs := by
  have hocc : ∀ j, Occ t' j ↔ Occ t j := fun j => by unfold Occ; rw [h2, h3]
  refine ⟨h2 ▸ I.size, h2 ▸ I.rp, h3 ▸ I.rd, ?_, ?_, ?_, ?_, h1 ▸ I.mok, fun i h j e1 e2 => ?_⟩
  · show t'.place.size + t'.dummies.size ≤ t'.mask
    rw [h1, h2, h3]; exact I.fit
  · rw [h1, h2]; exact I.pl
  · rw [h1, h3]; exact I.dl
  · rw [h2, h3]; exact I.dis
  · rw [h2] at e2
    obtain ⟨K, a, b⟩ := I.reach i h j e1 e2
    exact ⟨K, by rw [nxt_mask h1, start_mask h1]; exact a, fun k hk => by rw [hocc, nxt_mask h1, start_mask h1]; exact b k hk⟩

theorem SetOk.perm {marks' : List Mark} (O : SetOk w ν es t marks) (hl : marks'.length = marks.length) (hm : ∀ k, k ∈ marks' ↔ k ∈ marks) : SetOk w ν es t marks' :=
  ⟨⟨O.I, O.size.trans hl.symm, hl ▸ O.four, fun i e he => let ⟨a, k, h1, h2, h3⟩ := O.ent i e he; ⟨a, k, h1, h2, (hm k).mpr h3⟩, fun k hk => O.all k ((hm k).mp hk), O.inj⟩, O.slack⟩
theorem SetOk.mono {ν' : List (Addr × Obj)} (O : SetOk w ν es t marks) (hsub : ∀ p ∈ ν, p ∈ ν') (hinj : ∀ a k k', TupIn ν' a k → TupIn ν' a k' → k = k') : SetOk w ν' es t marks := by
  have back : ∀ (i : Nat) (h : Int) (a : Addr) (k : Mark), es[i]? = some (h, .ref a) → TupIn ν' a k → TupIn ν a k := fun i h a k hi ha => by
    obtain ⟨a', k', e, ha', _⟩ := O.ent i _ hi
    have : a = a' := Value.ref.inj (congrArg Prod.snd e)
    subst this
    have := hinj a k k' ha (ha'.mono hsub)
    subst this
    exact ha'
  exact ⟨⟨O.I, O.size, O.four, fun i e he => let ⟨a, k, h1, h2, h3⟩ := O.ent i e he; ⟨a, k, h1, h2.mono hsub, h3⟩, fun k hk => let ⟨i, a, h1, h2⟩ := O.all k hk; ⟨i, a, h1, h2.mono hsub⟩,
    fun i j h h' a b k e1 e2 t1 t2 => O.inj i j h h' a b k e1 e2 (back i h a k e1 t1) (back j h' b k e2 t2)⟩, O.slack⟩

theorem hashByValue_no {Q : Bool → Shared → Prop} (N : News h₀ L s.heap ν) (hx : TupIn ν x k) (h : Q false s) : wpAny (Mo w) A (hashByValue 8 (.ref x)) Q E s := by
  obtain ⟨t1, t2, hx⟩ := hx
  have ho := (N _ hx).1
  have hT : s.TypeIs (.ref x) "tuple" := ⟨_, ho, rfl⟩
  unfold hashByValue
  refine wpAny_bind (wpAny_specialOf hT F.slot_tuple_hash.lookup ?_)
  dsimp only
  refine wpAny_bind (wpAny_seqItems ho rfl ?_)
  exact wpAny_of_eq (a := false) (by rfl) h

theorem wp_relay {ρ : List (Addr × Obj)} {Q : Unit → Shared → Prop} (F : Fr h₀ L s.heap m) (N : News h₀ L s.heap ((hs, setObj es n t) :: ρ)) (hoff : ∀ p ∈ ρ, p.1 ≠ hs) (O : SetPre w ν es t marks) (h1 : 1 ≤ marks.length)
    (h : ∀ es' t' h', Fr h₀ L h' m → News h₀ L h' ((hs, setObj es' (n + 1) t') :: ρ) → SetOk w ν es' t' marks → Q () { s with heap := h' }) :
    wpAny (Mo w) A (setRelay hs (grown es.size)) Q E s := by
  have hset := (N _ (.head _)).1
  have hu := O.size
  have h4 := O.four
  have hg : grown es.size = es.size * 4 := by unfold grown; rw [if_neg (by omega)]
  have hsz : (es.map (·.1)).size = es.size := by simp
  have hmask : MaskOk (sizeAbove (es.size * 4) - 1) ∧ sizeAbove (es.size * 4) ≤ 32 ∧ es.size ≤ sizeAbove (es.size * 4) - 1 ∧ es.size * 5 < (sizeAbove (es.size * 4) - 1) * 3 := by
    have : es.size = 1 ∨ es.size = 2 ∨ es.size = 3 ∨ es.size = 4 := by omega
    rcases this with e | e | e | e <;> rw [e]
    · exact ⟨.inl rfl, by decide, by decide, by decide⟩
    · exact ⟨.inr (.inl rfl), by decide, by decide, by decide⟩
    · exact ⟨.inr (.inl rfl), by decide, by decide, by decide⟩
    · exact ⟨.inr (.inr rfl), by decide, by decide, by decide⟩
  obtain ⟨m1, m2, m3, m4⟩ := hmask
  obtain ⟨t', order, el, em, ef, _, R, I'⟩ := laid_spec m1 (es.map (·.1)) (by rw [hsz]; exact m3) t.finger (t.movedTo (sizeAbove (es.size * 4) - 1)) t.led t.plain
  rw [hsz] at R
  obtain ⟨r1, r2⟩ := reord_es R es rfl
  unfold setRelay
  refine wpAny_bind (wp_setState hset O.I ?_)
  dsimp only
  rw [hg, if_neg (by rw [sizeLine_eq]; omega)]
  have er : t.relaid (es.map (·.1)) (es.size * 4) = some (t', order) := el
  rw [er]
  refine wpAny_bind (wpAny_of_eq (a := (order.filterMap (es[·]?), t')) ?_ ?_)
  · show (if ((order.filterMap (es[·]?)).size != es.size) = true then _ else _) = _
    rw [if_neg (by rw [r1]; simp)]
  · dsimp only
    refine wp_storeSet F N hoff (by rw [r1]; omega) fun h' F' N' => h _ _ h' F' N' ?_
    have got : ∀ (i : Nat) (e : Int × Value), (order.filterMap (es[·]?))[i]? = some e → ∃ c : Nat, order[i]? = some c ∧ es[c]? = some e := fun i e he => by
      obtain ⟨c, hc⟩ := get_of_lt (xs := order) (a := i) (by have := lt_of_get he; rw [r1] at this; rw [R.sz]; exact this)
      exact ⟨c, hc, by rw [← r2 i c hc]; exact he⟩
    have hashes : (order.filterMap (es[·]?)).map (·.1) = order.map fun c => (es.map (·.1)).getD c 0 := by
      apply Array.ext_getElem?
      intro i
      rw [Array.getElem?_map, Array.getElem?_map]
      by_cases hi : i < order.size
      · obtain ⟨c, hc⟩ := get_of_lt hi
        rw [r2 i c hc, hc]
        obtain ⟨e, he⟩ := get_of_lt (xs := es) (a := c) (R.lt i c hc)
        rw [he]
        simp only [Option.map_some]
        rw [Array.getD_eq_getD_getElem?, Array.getElem?_map, he]
        rfl
      · rw [Array.getElem?_eq_none (by rw [r1, ← R.sz]; omega), Array.getElem?_eq_none (by omega)]
        rfl
    refine ⟨⟨by rw [hashes]; exact I', r1.trans hu, h4, fun i e he => ?_, fun k hk => ?_, fun i j x y a b k e1 e2 t1 t2 => ?_⟩, by rw [ef, em, hsz]; exact m4⟩
    · obtain ⟨c, _, hc⟩ := got i e he
      exact O.ent c e hc
    · obtain ⟨c, a, hc, ha⟩ := O.all k hk
      obtain ⟨i, hi⟩ := R.all c (lt_of_get hc)
      exact ⟨i, a, by rw [r2 i c hi]; exact hc, ha⟩
    · obtain ⟨c, hc, e1⟩ := got i _ e1
      obtain ⟨c', hc', e2⟩ := got j _ e2
      have := O.inj c c' x y a b k e1 e2 t1 t2
      subst this
      exact R.inj i j c hc hc'

theorem wp_setAdd {ρ : List (Addr × Obj)} {Q : Bool → Shared → Prop} (F : Fr h₀ L s.heap m) (N : News h₀ L s.heap ((hs, setObj es n t) :: ρ)) (hoff : ∀ p ∈ ρ, p.1 ≠ hs) (hsub : ∀ p ∈ ν, p ∈ ρ) (O : SetOk w ν es t marks) (hx : TupIn ν x k) (hu : A.units < cLine) (hk : k ∉ marks) (h3 : marks.length ≤ 3)
    (h : ∀ es' n' t' h', Fr h₀ L h' m → News h₀ L h' ((hs, setObj es' n' t') :: ρ) → SetOk w ν es' t' (k :: marks) → Q true { s with heap := h' }) :
    wpAny (Mo w) A (setAddHashed hs (.ref x) (mhash w k)) Q E s := by
  have Nν : News h₀ L s.heap ν := news_sub N fun p hp => .tail _ (hsub p hp)
  have hset := (N _ (.head _)).1
  unfold setAddHashed
  refine wpAny_holding ?_
  show wpAny _ _ (setAddHashedIn hs (.ref x) (mhash w k) (99999 + 1)) Q E s
  unfold setAddHashedIn
  refine wpAny_bind (wp_setState hset O.I ?_)
  dsimp only
  rw [if_neg (show ¬ byScan (Value.ref x) es = true from Bool.false_ne_true)]
  refine wpAny_bind (search Nν hset O hx hu (fun hm => absurd hm hk) fun _ slot wd hns hsm hr hwd => ?_)
  dsimp only
  refine wpAny_bind (wp_setState hset O.I ?_)
  dsimp only
  have hmk : MaskOk t.mask := O.I.mok
  have hm7 : 7 ≤ t.mask := by rcases hmk with e | e | e <;> omega
  have hsl := O.slack
  have hfill := put_fill O.I.rp O.I.rd slot
  have hfit : (t.put slot).1.fill ≤ t.mask := by
    rw [hfill]
    split <;> omega
  have I' := put_inv O.I hns hsm hr hfit
  have hbl : (t.put slot).2 ≤ es.size := by
    have := (below_spec O.I.rp slot).1
    have e := O.I.size
    simp at e
    show below t.place slot ≤ es.size
    omega
  have hget := fun i => ins_get es (t.put slot).2 hbl (mhash w k, Value.ref x) i
  have old : ∀ (i : Nat) (e : Int × Value), (insertAt es (t.put slot).2 (mhash w k, Value.ref x))[i]? = some e → (i = (t.put slot).2 ∧ e = (mhash w k, .ref x)) ∨ ∃ j, es[j]? = some e ∧ j = (if i < (t.put slot).2 then i else i - 1) ∧ i ≠ (t.put slot).2 := fun i e he => by
    rw [hget] at he
    by_cases c : i < (t.put slot).2
    · rw [if_pos c] at he
      exact .inr ⟨i, he, by rw [if_pos c], by omega⟩
    · rw [if_neg c] at he
      by_cases c2 : i = (t.put slot).2
      · rw [if_pos c2] at he
        exact .inl ⟨c2, (Option.some.inj he).symm⟩
      · rw [if_neg c2] at he
        exact .inr ⟨i - 1, he, by rw [if_neg c], c2⟩
  have Pre : ∀ t₂ : SetTable, t₂.mask = (t.put slot).1.mask → t₂.place = (t.put slot).1.place → t₂.dummies = (t.put slot).1.dummies → SetPre w ν (insertAt es (t.put slot).2 (mhash w k, .ref x)) t₂ (k :: marks) := by
    intro t₂ a1 a2 a3
    refine ⟨?_, ?_, ?_, fun i e he => ?_, fun k' hk' => ?_, fun i j x1 x2 a b k' e1 e2 t1 t2 => ?_⟩
    · rw [ins_map]; exact TInv.alike I' a1 a2 a3
    · rw [ins_size _ _ hbl, O.size]; rfl
    · simp; omega
    · rcases old i e he with ⟨_, rfl⟩ | ⟨j, hj, _⟩
      · exact ⟨x, k, rfl, hx, .head _⟩
      · obtain ⟨a, k', h1, h2, h3⟩ := O.ent j e hj
        exact ⟨a, k', h1, h2, .tail _ h3⟩
    · rcases List.mem_cons.mp hk' with rfl | hm
      · exact ⟨(t.put slot).2, x, by rw [hget, if_neg (Nat.lt_irrefl _), if_pos rfl], hx⟩
      · obtain ⟨j, a, hj, ha⟩ := O.all k' hm
        by_cases c : j < (t.put slot).2
        · exact ⟨j, a, by rw [hget, if_pos c]; exact hj, ha⟩
        · exact ⟨j + 1, a, by rw [hget, if_neg (by omega), if_neg (by omega), Nat.add_sub_cancel]; exact hj, ha⟩
    · have fromOld : ∀ (j : Nat) (h : Int) (a : Addr), es[j]? = some (h, .ref a) → ∀ kk, TupIn ν a kk → kk ∈ marks := fun j h a hj kk ha => by
        obtain ⟨a', k'', e, h2, h3⟩ := O.ent j _ hj
        have : a = a' := Value.ref.inj (congrArg Prod.snd e)
        subst this
        rw [ha.inj Nν h2]; exact h3
      rcases old i _ e1 with ⟨i1, q1⟩ | ⟨j1, hj1, ej1, ne1⟩ <;> rcases old j _ e2 with ⟨i2, q2⟩ | ⟨j2, hj2, ej2, ne2⟩
      · rw [i1, i2]
      · have : a = x := Value.ref.inj (congrArg Prod.snd q1)
        subst this
        have := fromOld j2 _ _ hj2 k' t2
        rw [t1.inj Nν hx] at this
        exact absurd this hk
      · have : b = x := Value.ref.inj (congrArg Prod.snd q2)
        subst this
        have := fromOld j1 _ _ hj1 k' t1
        rw [t2.inj Nν hx] at this
        exact absurd this hk
      · have := O.inj j1 j2 _ _ a b k' hj1 hj2 t1 t2
        rw [ej1, ej2] at this
        split at this <;> split at this <;> omega
  have rest : ∀ t₂ : SetTable, t₂.mask = (t.put slot).1.mask → t₂.place = (t.put slot).1.place → t₂.dummies = (t.put slot).1.dummies →
      wpAny (Mo w) A (storeSet hs (insertAt es (t.put slot).2 (mhash w k, .ref x)) t₂) (fun _ s₁ => wpAny (Mo w) A (if (!wd && t₂.tooFull) = true then (do setRelay hs (grown (es.size + 1)); pure true) else pure true) Q E s₁) E s := by
    intro t₂ a1 a2 a3
    have hf2 : t₂.fill = (t.put slot).1.fill := by
      show t₂.place.size + t₂.dummies.size = (t.put slot).1.place.size + (t.put slot).1.dummies.size
      rw [a2, a3]
    have P := Pre t₂ a1 a2 a3
    have hsz : (insertAt es (t.put slot).2 (mhash w k, Value.ref x)).size = es.size + 1 := ins_size _ _ hbl _
    refine wp_storeSet F N hoff (by rw [hsz, O.size]; omega) fun h' F' N' => ?_
    by_cases c : (!wd && t₂.tooFull) = true
    · rw [if_pos c, ← hsz]
      refine wpAny_bind (wp_relay (s := { s with heap := h' }) F' N' hoff P (by simp) fun es' t' h'' F'' N'' O'' => ?_)
      exact wpAny_pure (h _ _ _ _ F'' N'' O'')
    · rw [if_neg c]
      refine wpAny_pure (h _ _ _ _ F' N' ⟨P, ?_⟩)
      rw [a1]
      show t₂.fill * 5 < t.mask * 3
      rw [hf2, hfill]
      cases hw : wd with
      | true =>
        rw [hw] at hwd
        rw [if_pos hwd.symm]; exact hsl
      | false =>
        rw [hw] at c
        have c2 : t₂.tooFull = false := by cases z : t₂.tooFull with
          | false => rfl
          | true => rw [z] at c; exact absurd rfl c
        unfold tooFull at c2
        have c3 := of_decide_eq_false c2
        rw [hf2, hfill, a1] at c3
        have c4 : (t.put slot).1.mask = t.mask := rfl
        rw [c4] at c3
        omega
  by_cases hp : (t.put slot).1.plain = true
  · rw [if_pos hp]
    refine wpAny_bind (hashByValue_no Nν hx ?_)
    simp only [Bool.false_eq_true, if_false]
    exact wpAny_bind (rest { (t.put slot).1 with plain := false } rfl rfl rfl)
  · rw [if_neg hp]
    refine wpAny_bind (wpAny_pure ?_)
    simp only [if_true]
    exact wpAny_bind (rest (t.put slot).1 rfl rfl rfl)
end
end
section
open PySem.SetTable

section
variable {w : World} {A : Around} {h₀ : Heap} {L : Addr} {m : Str → Option Value} {s : Shared} {ν : List (Addr × Obj)} {E : Value → Shared → Prop} {es : Array (Int × Value)} {n : Nat} {t : SetTable} {marks : List Mark} {hs x : Addr} {k : Mark}

theorem set_typeIs (hset : s.heap.get? hs = some (setObj es n t)) : s.TypeIs (.ref hs) "set" := ⟨_, hset, rfl⟩
theorem set_noDict (hset : s.heap.get? hs = some (setObj es n t)) : ∀ b, Value.ref hs = .ref b → ∃ ob, s.heap.get? b = some ob ∧ ob.dict = none := fun b e => by
  have := Value.ref.inj e
  subst this
  exact ⟨_, hset, rfl⟩
theorem meth_set_add {pl : Sem Bool} {Q : Value × List Value → Shared → Prop} (hset : s.heap.get? hs = some (setObj es n t)) (h : Q (.builtin "set.add", [.ref hs]) s) : wpAny (Mo w) A (getMethod (.ref hs) "add" pl) Q E s :=
  getMethod_builtin (set_typeIs hset) F.plainAttrs_set F.slot_set_add F.type_set_add (set_noDict hset) h
theorem meth_set_remove {pl : Sem Bool} {Q : Value × List Value → Shared → Prop} (hset : s.heap.get? hs = some (setObj es n t)) (h : Q (.builtin "set.remove", [.ref hs]) s) : wpAny (Mo w) A (getMethod (.ref hs) "remove" pl) Q E s :=
  getMethod_builtin (set_typeIs hset) F.plainAttrs_set F.slot_set_remove F.type_set_remove (set_noDict hset) h
theorem meth_set_copy {pl : Sem Bool} {Q : Value × List Value → Shared → Prop} (hset : s.heap.get? hs = some (setObj es n t)) (h : Q (.builtin "set.copy", [.ref hs]) s) : wpAny (Mo w) A (getMethod (.ref hs) "copy" pl) Q E s :=
  getMethod_builtin (set_typeIs hset) F.plainAttrs_set F.slot_set_copy F.type_set_copy (set_noDict hset) h

theorem set_add {ρ : List (Addr × Obj)} {Q : Value → Shared → Prop} (F' : Fr h₀ L s.heap m) (N : News h₀ L s.heap ((hs, setObj es n t) :: ρ)) (hoff : ∀ p ∈ ρ, p.1 ≠ hs) (hsub : ∀ p ∈ ν, p ∈ ρ) (O : SetOk w ν es t marks) (hx : TupIn ν x k) (hu : A.units + 1 < cLine) (hk : k ∉ marks) (h3 : marks.length ≤ 3)
    (h : ∀ es' n' t' h' tk, Fr h₀ L h' m → News h₀ L h' ((hs, setObj es' n' t') :: ρ) → SetOk w ν es' t' (k :: marks) → Q .none { s with heap := h', toks := tk }) :
    wpAny (Mo w) A (call (.builtin "set.add") [.ref hs, .ref x]) Q E s := by
  have hset := (N _ (.head _)).1
  have Nν : News h₀ L s.heap ν := news_sub N fun p hp => .tail _ (hsub p hp)
  refine wpAny_call_entry F.slot_set_add (set_typeIs hset) F.entry_set_add ?_ (F.args_set_add_2 _ _)
  unfold Builtin.«set.add» Builtin.Frozenset.oneOther
  simp only [List.isEmpty_nil, bind_assoc]
  unfold Builtin.Frozenset.addrOf setAdd
  refine wpAny_bind (wpAny_pure ?_)
  try dsimp only
  refine wpAny_bind (wpAny_pure ?_)
  try dsimp only
  refine wpAny_bind ?_
  refine wpAny_holding ?_
  refine wpAny_bind (wp_hash Nν hx hu fun tk => ?_)
  refine wp_setAdd (s := { s with toks := tk }) F' N hoff hsub O hx hu hk h3 fun es' n' t' h' F₁ N₁ O₁ => ?_
  exact wpAny_pure ⟨_, rfl, h es' n' t' h' tk F₁ N₁ O₁⟩

theorem set_remove {ρ : List (Addr × Obj)} {Q : Value → Shared → Prop} (F' : Fr h₀ L s.heap m) (N : News h₀ L s.heap ((hs, setObj es n t) :: ρ)) (hoff : ∀ p ∈ ρ, p.1 ≠ hs) (hsub : ∀ p ∈ ν, p ∈ ρ) (O : SetOk w ν es t marks) (hx : TupIn ν x k) (hu : A.units + 1 < cLine) (hk : k ∈ marks)
    {marks' : List Mark} (hl : marks'.length + 1 = marks.length) (hm : ∀ y, y ∈ marks' ↔ y ∈ marks ∧ y ≠ k)
    (h : ∀ es' n' t' h' tk, Fr h₀ L h' m → News h₀ L h' ((hs, setObj es' n' t') :: ρ) → SetOk w ν es' t' marks' → Q .none { s with heap := h', toks := tk }) :
    wpAny (Mo w) A (call (.builtin "set.remove") [.ref hs, .ref x]) Q E s := by
  have hset := (N _ (.head _)).1
  have Nν : News h₀ L s.heap ν := news_sub N fun p hp => .tail _ (hsub p hp)
  refine wpAny_call_entry F.slot_set_remove (set_typeIs hset) F.entry_set_remove ?_ (F.args_set_remove_2 _ _)
  unfold Builtin.«set.remove» Builtin.Frozenset.oneOther
  simp only [List.isEmpty_nil, bind_assoc]
  unfold Builtin.Frozenset.addrOf Builtin.Frozenset.withSetAsKey setDiscard
  refine wpAny_bind (wpAny_pure ?_)
  try dsimp only
  refine wpAny_bind (wpAny_pure ?_)
  try dsimp only
  refine wpAny_bind (wpAny_tryCatch ?_)
  refine wpAny_holding ?_
  refine wpAny_bind (wp_hash Nν hx hu fun tk => ?_)
  unfold setDiscardHashed
  refine wpAny_bind (wp_setFind (s := { s with toks := tk }) Nν hset O hx hu (fun _ i a hi ha => ?_) fun hm => absurd hk hm)
  dsimp only
  refine wpAny_bind (wp_setState (s := { s with toks := tk }) hset O.I ?_)
  dsimp only
  have hil := lt_of_get hi
  have hsz : (SetTable.eraseAt es i).size = es.size - 1 := era_size es i hil
  have hes := O.size
  have h4 := O.four
  refine wpAny_bind (wp_storeSet (s := { s with toks := tk }) F' N hoff (by rw [hsz]; omega) fun h' F₁ N₁ => ?_)
  refine wpAny_bind (wpAny_point ?_)
  refine wpAny_pure ?_
  rw [if_neg (show ¬ (!true) = true from Bool.false_ne_true)]
  refine wpAny_pure ⟨_, rfl, h _ _ _ h' tk F₁ N₁ ?_⟩
  have hil' : i < (es.map (·.1)).size := by simpa using hil
  obtain ⟨j, hj⟩ := get_of_lt (xs := t.place) (a := i) (by rw [O.I.size]; exact hil')
  have hget := fun j => era_get es i hil j
  have got : ∀ (j : Nat) (e : Int × Value), (eraseAt es i)[j]? = some e → ∃ j', es[j']? = some e ∧ j' ≠ i ∧ j' = (if j < i then j else j + 1) := fun j e he => by
    rw [hget] at he
    by_cases c : j < i
    · rw [if_pos c] at he; exact ⟨j, he, by omega, by rw [if_pos c]⟩
    · rw [if_neg c] at he; exact ⟨j + 1, he, by omega, by rw [if_neg c]⟩
  refine ⟨⟨by rw [era_map]; exact drop_inv O.I hil', by rw [hsz]; omega, by omega, fun j e he => ?_, fun k' hk' => ?_, fun a b x y c d k' e1 e2 t1 t2 => ?_⟩, ?_⟩
  · obtain ⟨j', hj', hne, _⟩ := got j e he
    obtain ⟨a', k', rfl, h2, h3⟩ := O.ent j' e hj'
    refine ⟨a', k', rfl, h2, (hm k').mpr ⟨h3, fun ek => ?_⟩⟩
    subst ek
    exact hne (O.inj j' i _ _ a' a k' hj' hi h2 ha)
  · obtain ⟨hk1, hk2⟩ := (hm k').mp hk'
    obtain ⟨j', a', hj', ha'⟩ := O.all k' hk1
    have hne : j' ≠ i := fun e => by
      subst e
      rw [hi] at hj'
      have : a = a' := Value.ref.inj (congrArg Prod.snd (Option.some.inj hj'))
      subst this
      exact hk2 (ha'.inj Nν ha)
    by_cases c : j' < i
    · exact ⟨j', a', by rw [hget, if_pos c]; exact hj', ha'⟩
    · exact ⟨j' - 1, a', by rw [hget, if_neg (by omega), show j' - 1 + 1 = j' by omega]; exact hj', ha'⟩
  · obtain ⟨a', ha', _, ea⟩ := got a _ e1
    obtain ⟨b', hb', _, eb⟩ := got b _ e2
    have := O.inj a' b' x y c d k' ha' hb' t1 t2
    rw [ea, eb] at this
    split at this <;> split at this <;> omega
  · rw [drop_fill O.I hj, drop_eq hj]; exact O.slack

theorem reord_pre {order : Array Nat} {t' : SetTable} (O : SetPre w ν es t marks) (R : Reord es.size order) (I' : TInv t' (order.map fun c => (es.map (·.1)).getD c 0)) : SetPre w ν (order.filterMap (es[·]?)) t' marks := by
  obtain ⟨r1, r2⟩ := reord_es R es rfl
  have got : ∀ (i : Nat) (e : Int × Value), (order.filterMap (es[·]?))[i]? = some e → ∃ c : Nat, order[i]? = some c ∧ es[c]? = some e := fun i e he => by
    obtain ⟨c, hc⟩ := get_of_lt (xs := order) (a := i) (by have := lt_of_get he; rw [r1] at this; rw [R.sz]; exact this)
    exact ⟨c, hc, by rw [← r2 i c hc]; exact he⟩
  have hashes : (order.filterMap (es[·]?)).map (·.1) = order.map fun c => (es.map (·.1)).getD c 0 := by
    apply Array.ext_getElem?
    intro i
    rw [Array.getElem?_map, Array.getElem?_map]
    by_cases hi : i < order.size
    · obtain ⟨c, hc⟩ := get_of_lt hi
      rw [r2 i c hc, hc]
      obtain ⟨e, he⟩ := get_of_lt (xs := es) (a := c) (R.lt i c hc)
      rw [he]
      simp only [Option.map_some]
      rw [Array.getD_eq_getD_getElem?, Array.getElem?_map, he]
      rfl
    · rw [Array.getElem?_eq_none (by rw [r1, ← R.sz]; omega), Array.getElem?_eq_none (by omega)]
      rfl
  refine ⟨by rw [hashes]; exact I', r1.trans O.size, O.four, fun i e he => ?_, fun k hk => ?_, fun i j x y a b k e1 e2 t1 t2 => ?_⟩
  · obtain ⟨c, _, hc⟩ := got i e he
    exact O.ent c e hc
  · obtain ⟨c, a, hc, ha⟩ := O.all k hk
    obtain ⟨i, hi⟩ := R.all c (lt_of_get hc)
    exact ⟨i, a, by rw [r2 i c hi]; exact hc, ha⟩
  · obtain ⟨c, hc, e1⟩ := got i _ e1
    obtain ⟨c', hc', e2⟩ := got j _ e2
    have := O.inj c c' x y a b k e1 e2 t1 t2
    subst this
    exact R.inj i j c hc hc'

theorem setOk_nil (led : Bool) : SetOk w ν #[] (.fresh 0 0 led) [] := by
  refine ⟨⟨?_, rfl, Nat.zero_le _, fun i e h => ?_, fun k h => ?_, fun i j h h' a b k e => ?_⟩, ?_⟩
  · have := fresh_inv 0 led
    simpa using this
  · simp at h
  · cases h
  · simp at e
  · show 0 * 5 < 7 * 3
    decide

theorem set_new {Q : Value → Shared → Prop} (F' : Fr h₀ L s.heap m) (N : News h₀ L s.heap ν)
    (h : ∀ hs es n t h', Fr h₀ L h' m → News h₀ L h' ((hs, setObj es n t) :: ν) → SetOk w ν es t [] → (∀ p ∈ ν, p.1 < hs) → Q (.ref hs) { s with heap := h' }) : wpAny (Mo w) A (call (.type "set") []) Q E s :=
  newSet_N F' N fun h' led F₁ N₁ => h _ _ _ _ h' F₁ N₁ (setOk_nil led) fun p hp => Heap.lt_size (N p hp).1

theorem set_copy {ρ : List (Addr × Obj)} {Q : Value → Shared → Prop} (F' : Fr h₀ L s.heap m) (N : News h₀ L s.heap ((hs, setObj es n t) :: ρ)) (O : SetOk w ν es t marks)
    (h : ∀ r es' n' t' h', Fr h₀ L h' m → News h₀ L h' ((r, setObj es' n' t') :: (hs, setObj es n t) :: ρ) → SetOk w ν es' t' marks → (∀ p ∈ ((hs, setObj es n t) :: ρ), p.1 < r) → Q (.ref r) { s with heap := h' }) :
    wpAny (Mo w) A (call (.builtin "set.copy") [.ref hs]) Q E s := by
  have hset := (N _ (.head _)).1
  refine wpAny_call_entry F.slot_set_copy (set_typeIs hset) F.entry_set_copy ?_ (F.args_set_copy_1 _)
  unfold Builtin.«set.copy» Builtin.Frozenset.noArgs
  simp only [List.isEmpty_nil, bind_assoc]
  unfold Builtin.Frozenset.addrOf Builtin.Frozenset.copyOf
  refine wpAny_bind (wpAny_pure ?_)
  refine wpAny_bind ?_
  unfold Builtin.Frozenset.baseOf
  refine wpAny_bind (wpAny_bind (wpAny_isInstance (set_typeIs hset) (T := "set") (b := true) (by rw [isSubtype_type]; kernel_rfl) ?_))
  refine wpAny_pure ?_
  unfold newSet setsByText
  refine wpAny_bind (wpAny_bind (wpAny_bind (wpAny_askSetting ?_)))
  refine wpAny_pure ?_
  generalize (model Challenge.rw_je0005_01.row.prog w).w.params.followText "set-order" = bt
  show wpAny (Mo w) A.in1 (newObj (.type "set") (.set #[] 0 (SetTable.fresh 0 0 !bt))) _ E s
  refine wpAny_newObj_type ?_ (by show (0 : Nat) ≤ sizeLine; omega)
  refine wpAny_bind (wpAny_pure ?_)
  obtain ⟨hh, g, d, tk, os⟩ := s
  have F₁ := F'.push (setObj #[] 0 (SetTable.fresh 0 0 !bt))
  have N₁ := N.push F' (setObj #[] 0 (SetTable.fresh 0 0 !bt))
  have hlt : ∀ p ∈ ((hs, setObj es n t) :: ρ), p.1 < hh.objs.size := fun p hp => Heap.lt_size (N p hp).1
  have hr1 := (N₁ _ (.head _)).1
  have hs1 := (N₁ _ (.tail _ (.head _))).1
  have hne : hs ≠ hh.objs.size := Nat.ne_of_lt (hlt _ (.head _))
  have Of := setOk_nil (w := w) (ν := ν) (!bt)
  have done : ∀ es' t' h', Fr h₀ L h' m → News h₀ L h' ((hh.objs.size, setObj es' 1 t') :: (hs, setObj es n t) :: ρ) → SetOk w ν es' t' marks →
      wpAny (Mo w) A.in1 (pure (Value.ref hh.objs.size)) (fun a s' => wpAny (Mo w) A.in1 (ret a) (fun fin s' => ∃ v, fin = Fin.done (Flow.ret v) ∧ Q v s') E s') E ⟨h', g, d, tk, os⟩ :=
    fun es' t' h' F₂ N₂ O₂ => wpAny_pure (wpAny_pure ⟨_, rfl, h _ _ _ _ h' F₂ N₂ O₂ hlt⟩)
  unfold setMerge
  refine wpAny_bind ?_
  rw [if_neg (show ¬ (hh.objs.size == hs) = true from fun e => hne (eq_of_beq e).symm)]
  refine wpAny_bind (wp_setState hs1 O.I ?_)
  dsimp only
  have hes := O.size
  have h4 := O.four
  by_cases hz : es.isEmpty = true
  · rw [if_pos hz]
    have hes0 : es = #[] := by simpa using hz
    subst hes0
    have hm0 : marks = [] := List.length_eq_zero_iff.mp (by rw [← hes]; rfl)
    subst hm0
    refine wpAny_pure ?_
    exact wpAny_pure (wpAny_pure ⟨_, rfl, h _ _ _ _ _ F₁ N₁ Of hlt⟩)
  · rw [if_neg hz]
    unfold setRoomFor
    refine wpAny_bind (wpAny_bind (wp_setState hr1 Of.I ?_))
    dsimp only
    have hroom : (SetTable.fresh 0 0 !bt).roomFor es.size = none := by
      unfold SetTable.roomFor
      rw [if_neg]
      show ¬ ((0 + es.size) * 5 ≥ 7 * 3)
      omega
    rw [hroom]
    refine wpAny_pure ?_
    refine wpAny_bind (wp_setState hr1 Of.I ?_)
    dsimp only
    have hoff : ∀ p ∈ ((hs, setObj es n t) :: ρ), p.1 ≠ hh.objs.size := fun p hp => Nat.ne_of_lt (hlt p hp)
    by_cases c : (t.mask == 7 && t.dummies.isEmpty) = true
    · have hroad : (SetTable.fresh 0 0 !bt).road t = .slotForSlot := by
        obtain ⟨c1, c2⟩ := Bool.and_eq_true_iff.mp c
        unfold SetTable.road
        rw [if_neg (show ¬ ((SetTable.fresh 0 0 !bt).fill != 0) = true from fun e => absurd e (show ¬ ((0 : Nat) != 0) = true by decide)), if_pos (by rw [c2, Bool.and_true]; rw [eq_of_beq c1]; rfl)]
      rw [hroad]
      dsimp only
      refine wp_storeSet (s := ⟨hh.push (setObj #[] 0 (SetTable.fresh 0 0 !bt)), g, d, tk, os⟩) F₁ N₁ hoff (by omega) fun h' F₂ N₂ => ?_
      exact done _ _ h' F₂ N₂ ⟨⟨TInv.alike O.I rfl rfl rfl, O.size, O.four, O.ent, O.all, O.inj⟩, O.slack⟩
    · have hroad : (SetTable.fresh 0 0 !bt).road t = .clean := by
        unfold SetTable.road
        rw [if_neg (show ¬ ((SetTable.fresh 0 0 !bt).fill != 0) = true from fun e => absurd e (show ¬ ((0 : Nat) != 0) = true by decide)), if_neg]
        intro e
        refine c ?_
        obtain ⟨c1, c2⟩ := Bool.and_eq_true_iff.mp e
        rw [c2, Bool.and_true]
        have : 7 = t.mask := eq_of_beq c1
        rw [← this]; rfl
      rw [hroad]
      dsimp only
      have hsz : (es.map (·.1)).size = es.size := by simp
      obtain ⟨t', order, el, em, ef, _, R, I'⟩ := laid_spec (.inl rfl : MaskOk 7) (es.map (·.1)) (by rw [hsz]; omega) 0 0 (!bt && t.led) (true && t.plain)
      rw [hsz] at R
      obtain ⟨r1, r2⟩ := reord_es R es rfl
      have er : SetTable.laid (SetTable.fresh 0 0 !bt).mask (SetTable.fresh 0 0 !bt).finger (SetTable.fresh 0 0 !bt).moves ((SetTable.fresh 0 0 !bt).led && t.led) ((SetTable.fresh 0 0 !bt).plain && t.plain) (es.map (·.1)) = some (t', order) := el
      rw [er]
      refine wpAny_bind (wpAny_of_eq (a := (order.filterMap (es[·]?), t')) ?_ ?_)
      · show (if ((order.filterMap (es[·]?)).size != es.size) = true then _ else _) = _
        rw [if_neg (by rw [r1]; simp)]
      · dsimp only
        refine wp_storeSet (s := ⟨hh.push (setObj #[] 0 (SetTable.fresh 0 0 !bt)), g, d, tk, os⟩) F₁ N₁ hoff (by rw [r1]; omega) fun h' F₂ N₂ => ?_
        exact done _ _ h' F₂ N₂ ⟨reord_pre O.toSetPre R I' , by rw [ef, em, hsz]; omega⟩
end
end
section

local macro_rules | `(tactic| walk_at "st") => `(tactic| first
  | with_reducible refine wpAny_execs_cons ?_
  | with_reducible refine wpAny_execs_nil ?_
  | with_reducible refine wpAny_Return_some ?_
  | with_reducible refine wpAny_If ?_
  | with_reducible refine wpAny_Assign_Name ?_
  | ((with_reducible show wpAny _ _ (exec (Stmt.Expr _ _) _) _ _ _); refine wpAny_Expr ?_)
  | with_reducible refine Tuple_ ?_
  | with_reducible refine isTrue_not ?_
  | with_reducible refine wpAny_isTrue_Compare1 ?_
  | ((with_reducible show wpAny _ _ (isTrue (Expr.Call _ _ _ _) _ _) _ _ _); refine isTrue_plain ?_)
  | with_reducible refine wpAny_truthy_bool ?_
  | ((with_reducible show wpAny _ _ (spliced _) _ _ _); first | refine spliced_more ?_ | refine spliced_none ?_)
  | with_reducible refine Attribute_Name_ ?_
  | with_reducible refine Attribute_any_ ?_
  | ((with_reducible show wpAny _ _ (eval (Expr.Call (Expr.Attribute _ _ _) _ _ _) _) _ _ _); refine MethodCall_ ?_)
  | ((with_reducible show wpAny _ _ (eval (Expr.Call _ _ _ _) _) _ _ _); refine Call_ ?_)
  | ((with_reducible show wpAny _ _ (callWith _ (Value.builtin _) [] (backTo _ (starEach (_ :: _) _)) []) _ _ _); refine PyProof.Rows.callWith_builtin1 ?_)
  | ((with_reducible show wpAny _ _ (callWith _ (Value.builtin _) _ (backTo _ (starEach (_ :: _) _)) []) _ _ _); refine callWith_method1 ?_)
  | ((with_reducible show wpAny _ _ (callWith _ (Value.builtin _) _ (backTo _ (starEach [] _)) []) _ _ _); refine callWith_method0 ?_)
  | ((with_reducible show wpAny _ _ (eval (Expr.Name _ _) _) _ _ _); first
      | refine ld (by assumption) rfl ?_
      | refine name_K (by assumption) (Sx.X (by assumption)) (topRead_of (Sx.T (by assumption))) (by k_is) ?_
      | refine name_B (by assumption) (Sx.X (by assumption)) (topRead_of (Sx.T (by assumption))) (by k_is) (by boot_by_name) (by decide) ?_))

abbrev Row := List (Addr × CD)
def items (row : Row) : Array Value := (row.map fun p => Value.ref p.1).toArray
def mark (d : CD) : Mark := (d.iss, d.ser)
def marks (row : Row) : List Mark := row.map fun p => mark p.2

def PathIn (ν : List (Addr × Obj)) (p l hs : Addr) : Prop :=
  ∃ dp t1 t2 x1 x2 n, (p, instObj 292 dp) ∈ ν ∧ (dp, dictOf [⟨x1, .str "_certs" t1, .ref l⟩, ⟨x2, .str "_cert_hashes" t2, .ref hs⟩] n) ∈ ν
theorem PathIn.mono {ν ν' : List (Addr × Obj)} {p l hs : Addr} (h : PathIn ν p l hs) (hs' : ∀ q ∈ ν, q ∈ ν') : PathIn ν' p l hs :=
  let ⟨dp, t1, t2, x1, x2, n, h1, h2⟩ := h; ⟨dp, t1, t2, x1, x2, n, hs' _ h1, hs' _ h2⟩

section
variable {P : Params}
theorem kP1 : plainGet (hd.heap_1 P) 292 ("" : Str) = true := by k_is
theorem kP2 : hasDictIn (hd.heap_1 P) 292 = true := by k_is
theorem kPc : findIn (hd.heap_1 P) (.ref 292) "_certs" = some (some .none) := by k_is
theorem kPh : findIn (hd.heap_1 P) (.ref 292) "_cert_hashes" = some (some .none) := by k_is
theorem kPn : noGet (hd.heap_1 P) (some .none) = true := by k_is
theorem kIsC : isIn (hd.heap_1 P) (.ref 160) 160 = true := by k_is
end
theorem g_certs {x1 x2 : Int} {t1 t2 : Tok} {a b : Value} : getL "_certs" [⟨x1, .str "_certs" t1, a⟩, ⟨x2, .str "_cert_hashes" t2, b⟩] = some (some a) := rfl
theorem g_hashes {x1 x2 : Int} {t1 t2 : Tok} {a b : Value} : getL "_cert_hashes" [⟨x1, .str "_certs" t1, a⟩, ⟨x2, .str "_cert_hashes" t2, b⟩] = some (some b) := rfl

section
variable {w : World} {A A₀ : Around} {base h₀ : Heap} {outer : List Env} {env : Env} {L : Addr} {mg mb : Str → Option Value} {mean : ExcName → Option Value} {loose : List Str} {m : Str → Option Value} {s : Shared} {ν : List (Addr × Obj)} {n : Nat}
  {R : Result → Shared → Prop} {Q : Value → Shared → Prop} {E : Value → Shared → Prop} {c a p l hs : Addr} {d : CD} {x : Str} {b : Bool} {es : Array (Int × Value)} {n1 n2 : Nat} {t : SetTable} {row : Row}

theorem get_certs {ν' : List (Addr × Obj)} (S : Sx w A₀ base outer env h₀ L mg mb mean loose) (F : Fr h₀ L s.heap m) (N : News h₀ L s.heap ν') (P : PathIn ν p l hs) (hsub : ∀ q ∈ ν, q ∈ ν') (h : ∀ tk, Q (.ref l) { s with toks := tk }) :
    wpAny (Mo w) A (getAttr (.ref p) "_certs" b) Q E s :=
  let ⟨_, _, _, _, _, _, h1, h2⟩ := P
  get_own F S.X (InstAt.of_news N (hsub _ h1) (hsub _ h2)) kP1 kP2 kPc kPn g_certs rfl (h _)
theorem get_hashes {ν' : List (Addr × Obj)} (S : Sx w A₀ base outer env h₀ L mg mb mean loose) (F : Fr h₀ L s.heap m) (N : News h₀ L s.heap ν') (P : PathIn ν p l hs) (hsub : ∀ q ∈ ν, q ∈ ν') (h : ∀ tk, Q (.ref hs) { s with toks := tk }) :
    wpAny (Mo w) A (getAttr (.ref p) "_cert_hashes" b) Q E s :=
  let ⟨_, _, _, _, _, _, h1, h2⟩ := P
  get_own F S.X (InstAt.of_news N (hsub _ h1) (hsub _ h2)) kP1 kP2 kPh kPn g_hashes rfl (h _)
theorem is_cert (S : Sx w A₀ base outer env h₀ L mg mb mean loose) (F : Fr h₀ L s.heap m) (N : News h₀ L s.heap ν) (C : CertIn ν c d) (h : Q (.bool true) s) : wpAny (Mo w) A (call (.builtin "isinstance") [.ref c, .ref 160]) Q E s := by
  obtain ⟨_, _, _, _, _, _, _, _, _, C⟩ := C
  exact isi_call (S.X.keeps F.keep) (fun M => (InstAt.of_news N C.i C.e).type) kIsC (fun e => by cases e) h

theorem set_ne_list {its : Array Value} : setObj es n2 t ≠ listOf its n1 := fun e => by have := congrArg Obj.data e; cases this
theorem items_size : (items row).size = row.length := by simp [items]
theorem tup_inj {h : Heap} (N : News h₀ L h ν) : ∀ (a : Addr) (k k' : Mark), TupIn ν a k → TupIn ν a k' → k = k' := fun a k k' ⟨t1, t2, x⟩ ⟨u1, u2, y⟩ => by
  have e := (N _ x).1.symm.trans (N _ y).1
  injection e with e
  injection e with _ _ e
  injection e with e
  have e := Array.toList_inj.mpr e
  simp only [List.cons.injEq, Value.str.injEq, Value.int.injEq] at e
  exact Prod.ext e.1.1 e.2.1.1

end
end
section
set_option compiler.extract_closed false in
local macro_rules | `(tactic| walk_at "st") => `(tactic| first
  | with_reducible refine wpAny_execs_cons ?_
  | with_reducible refine wpAny_execs_nil ?_
  | with_reducible refine wpAny_Return_some ?_
  | with_reducible refine wpAny_If ?_
  | ((with_reducible show wpAny _ _ (exec (Stmt.Assign [Expr.Name _ _] _ _) _) _ _ _); refine wpAny_Assign_Name ?_)
  | ((with_reducible show wpAny _ _ (exec (Stmt.Assign [Expr.Attribute _ _ _] _ _) _) _ _ _); refine plainObj_wpAny_Assign_Attribute ?_)
  | with_reducible refine wpAny_Break ?_
  | ((with_reducible show wpAny _ _ (exec (Stmt.Expr _ _) _) _ _ _); refine wpAny_Expr_any ?_)
  | with_reducible refine Tuple_ ?_
  | with_reducible refine wpAny_Constant_int ?_
  | with_reducible refine Calls.Constant_str ?_
  | with_reducible refine Constant_none ?_
  | with_reducible refine Constant_bool ?_
  | with_reducible refine Constant_bytes ?_
  | with_reducible refine IfExp_ ?_
  | with_reducible refine UnaryOp_ ?_
  | with_reducible refine not_of ?_
  | with_reducible refine BoolOp_one ?_
  | with_reducible refine BoolOp_and ?_
  | with_reducible refine BoolOp_or ?_
  | with_reducible refine isTrue_not ?_
  | with_reducible refine isTrue_IfExp ?_
  | with_reducible refine isTrue_and_nil ?_
  | with_reducible refine isTrue_or_nil ?_
  | with_reducible refine isTrue_and ?_
  | with_reducible refine isTrue_or ?_
  | with_reducible refine wpAny_isTrue_Compare1 ?_
  | with_reducible refine wpAny_Compare1 ?_
  | with_reducible refine wpAny_BinOp ?_
  | ((with_reducible show wpAny _ _ (isTrue (Expr.Call _ _ _ _) _ _) _ _ _); refine isTrue_plain ?_)
  | ((with_reducible show wpAny _ _ (isTrue (Expr.Name _ _) _ _) _ _ _); refine isTrue_plain ?_)
  | ((with_reducible show wpAny _ _ (isTrue (Expr.Attribute _ _ _) _ _) _ _ _); refine isTrue_plain ?_)
  | with_reducible refine wpAny_truthy_bool ?_
  | with_reducible refine truthy_none ?_
  | with_reducible refine truthy_int ?_
  | ((with_reducible show wpAny _ _ (spliced _) _ _ _); first | refine spliced_more ?_ | refine spliced_none ?_)
  | with_reducible refine Attribute_Name_ ?_
  | with_reducible refine Attribute_any_ ?_
  | ((with_reducible show wpAny _ _ (eval (Expr.Call (Expr.Attribute _ _ _) _ _ _) _) _ _ _); refine MethodCall_ ?_)
  | ((with_reducible show wpAny _ _ (eval (Expr.Call _ _ _ _) _) _ _ _); refine Call_ ?_)
  | ((with_reducible show wpAny _ _ (callWith _ (Value.builtin _) [] (backTo _ (starEach (_ :: _) _)) []) _ _ _); refine PyProof.Rows.callWith_builtin1 ?_)
  | ((with_reducible show wpAny _ _ (callWith _ (Value.builtin _) _ (backTo _ (starEach (_ :: _) _)) []) _ _ _); refine callWith_method1 ?_)
  | ((with_reducible show wpAny _ _ (callWith _ (Value.builtin _) _ (backTo _ (starEach [] _)) []) _ _ _); refine callWith_method0 ?_)
  | ((with_reducible show wpAny _ _ (callWith _ (Value.type _) [] (backTo _ (starEach [] _)) []) _ _ _); refine PyProof.Rows.callWith_type0 ?_)
  | ((with_reducible show wpAny _ _ (callWith _ (Value.type _) [] (backTo _ (starEach (_ :: _) _)) []) _ _ _); refine PyProof.Rows.callWith_type1 ?_)
  | with_reducible refine List_ ?_
  | ((with_reducible show wpAny _ _ (eval (Expr.Subscript _ _ _) _) _ _ _); refine Subscript_ ?_)
  | with_reducible refine wpAny_Slice ?_
  | with_reducible refine evalPart_none_step ?_
  | with_reducible refine evalPart_some_step ?_
  | ((with_reducible show wpAny _ _ (binaryOp Operator.Add (Value.int _ _) (Value.int _ _)) _ _ _); refine PyProof.Rows.add_int ?_)
  | ((with_reducible show wpAny _ _ (binaryOp Operator.Sub (Value.int _ _) (Value.int _ _)) _ _ _); refine PyProof.Rows.sub_int ?_)
  | ((with_reducible show wpAny _ _ (compareOp _ (Value.int _ _) (Value.int _ _)) _ _ _); first | with_reducible refine PyProof.Rows.lt_int ?_ | with_reducible refine PyProof.Rows.gt_int ?_ | with_reducible refine PyProof.Rows.le_int ?_ | with_reducible refine PyProof.Rows.ge_int ?_ | with_reducible refine PyProof.Rows.eq_int ?_ | with_reducible refine PyProof.Rows.ne_int ?_)
  | with_reducible refine is_none_none ?_
  | with_reducible refine isnot_none_none ?_
  | with_reducible refine is_int_none ?_
  | with_reducible refine isnot_int_none ?_
  | with_reducible refine is_ref_none ?_
  | with_reducible refine isnot_ref_none ?_
  | ((with_reducible show wpAny _ _ (eval (Expr.Name _ _) _) _ _ _); first
      | refine ld (by assumption) rfl ?_
      | refine name_K (by assumption) (Sx.X (by assumption)) (topRead_of (Sx.T (by assumption))) (by k_is) ?_
      | refine name_B (by assumption) (Sx.X (by assumption)) (topRead_of (Sx.T (by assumption))) (by k_is) (by boot_by_name) (by decide) ?_
      | refine nameX_L (by assumption) rfl ?_
      | refine nameX_K (by assumption) (Sx.X (by assumption)) (topRead_of (Sx.T (by assumption))) (by k_is) ?_
      | refine nameX_B (by assumption) (Sx.X (by assumption)) (topRead_of (Sx.T (by assumption))) (by k_is) (by boot_by_name) (by decide) ?_))

variable {w : World} {A A₀ : Around} {base h₀ : Heap} {outer : List Env} {env : Env} {L : Addr} {mg mb : Str → Option Value} {mean : ExcName → Option Value} {loose : List Str} {m : Str → Option Value} {s : Shared} {ν : List (Addr × Obj)} {n : Nat}
  {R : Result → Shared → Prop} {Q : Value → Shared → Prop} {E : Value → Shared → Prop} {c a p l hs : Addr} {d : CD} {x : Str} {b : Bool} {es : Array (Int × Value)} {n1 n2 : Nat} {t : SetTable} {row : Row}

theorem gen_post {α : Type} {W : Model} {A : Around} {x : Sem α} {Q : α → Shared → Prop} {E : Value → Shared → Prop} {s : Shared} (h : ∀ Q' : α → Shared → Prop, (∀ v s', Q v s' → Q' v s') → wpAny W A x Q' E s) : wpAny W A x Q E s := h Q fun _ _ x => x
theorem gen_both {α : Type} {W : Model} {A : Around} {x : Sem α} {Q : α → Shared → Prop} {E : Value → Shared → Prop} {s : Shared} (h : ∀ (Q' : α → Shared → Prop) (E' : Value → Shared → Prop), (∀ v s', Q v s' → Q' v s') → (∀ v s', E v s' → E' v s') → wpAny W A x Q' E' s) : wpAny W A x Q E s := h Q E (fun _ _ x => x) fun _ _ x => x
theorem append_ok (S : Sx w A₀ base outer env h₀ L mg mb mean loose) (F : Fr h₀ L s.heap m) (N : News h₀ L s.heap ((l, listOf (items row) n1) :: (hs, setObj es n2 t) :: ν)) (ofl : ∀ q ∈ ν, q.1 ≠ l) (ofh : ∀ q ∈ ν, q.1 ≠ hs)
    (P : PathIn ν p l hs) (C : CertIn ν c d) (O : SetOk w ν es t (marks row)) (hk : mark d ∉ marks row) (hlen : row.length ≤ 3) (r : Rm A (env :: outer) 6)
    (k : ∀ ν' n1' es' n2' t' h' tk, (∀ q ∈ ν, q ∈ ν') → (∀ q ∈ ν', q.1 ≠ l) → (∀ q ∈ ν', q.1 ≠ hs) → Fr h₀ L h' m → News h₀ L h' ((l, listOf (items (row ++ [(c, d)])) n1') :: (hs, setObj es' n2' t') :: ν') → SetOk w ν' es' t' (marks (row ++ [(c, d)])) →
      R (.ok (.ret (.ref p))) { s with heap := h', toks := tk }) : codeAny (Mo w) A (.call (.ref 254) ⟨[.ref p, .ref c], []⟩) R s := by
  have sub2 : ∀ q ∈ ν, q ∈ ((l, listOf (items row) n1) :: (hs, setObj es n2 t) :: ν) := fun q hq => .tail _ (.tail _ hq)
  refine call_def (binds := [("self", .ref p), ("cert", .ref c)]) S F N r (by k_is) (by k_is) (BindsTo.of_eq rfl) (locs rfl) rfl rfl rfl (by decide) ?_
  intro g L' h₁ FG F' N' S' r'
  refine gen_both fun Q0 E0 hQ0 hE0 => ?_
  have C₁ := C.mono sub2
  repeat walk_at "st"
  refine is_cert S' F' N' C₁ ?_
  walk_at "st"
  refine ite_neg (by decide) ?_
  repeat walk_at "st"
  refine issuer_serial S' F' N' r'.le C₁ fun t₁ h₂ tk t1 t2 F₂ N₂ hlt₁ => ?_
  repeat walk_at "st"
  refine get_hashes S' F₂ N₂ P (fun q hq => .tail _ (sub2 q hq)) fun tk => ?_
  have N₃ : News g L' h₂ ((t₁, tupObj (.str d.iss t1) (.int d.ser t2)) :: ν) := news_sub N₂ (List.forall_mem_cons.mpr ⟨.head _, fun q hq => .tail _ (.tail _ (.tail _ hq))⟩)
  have O₁ : SetOk w ((t₁, tupObj (.str d.iss t1) (.int d.ser t2)) :: ν) es t (marks row) := O.mono (fun q hq => .tail _ hq) (tup_inj N₃)
  have x₁ : TupIn ((t₁, tupObj (.str d.iss t1) (.int d.ser t2)) :: ν) t₁ (mark d) := ⟨_, _, .head _⟩
  refine in_set N₃ (N₂ _ (.tail _ (.tail _ (.head _)))).1 O₁ x₁ (r'.u1) fun tk => ?_
  walk_at "st"
  refine ite_neg (by simpa using hk) ?_
  repeat walk_at "st"
  refine get_hashes S' F₂ N₂ P (fun q hq => .tail _ (sub2 q hq)) fun tk => ?_
  refine meth_set_add (N₂ _ (.tail _ (.tail _ (.head _)))).1 ?_
  repeat walk_at "st"
  refine issuer_serial S' F₂ N₂ r'.le (C₁.mono fun q hq => .tail _ hq) fun t₂ h₃ tk t3 t4 F₄ N₄ hlt₂ => ?_
  have hlh : hs ≠ l := ne_of_obj (N' _ (.tail _ (.head _))).1 (N' _ (.head _)).1 set_ne_list
  generalize eν : (t₂, tupObj (.str d.iss t3) (.int d.ser t4)) :: (t₁, tupObj (.str d.iss t1) (.int d.ser t2)) :: ν = ν₂
  have hνν : ∀ q ∈ ν, q ∈ ν₂ := fun q hq => eν ▸ .tail _ (.tail _ hq)
  have x₂ : TupIn ν₂ t₂ (mark d) := ⟨t3, t4, eν ▸ .head _⟩
  have off : ∀ q ∈ ν₂, q.1 ≠ l ∧ q.1 ≠ hs := by
    subst eν
    exact List.forall_mem_cons.mpr ⟨⟨Nat.ne_of_gt (hlt₂ _ (.tail _ (.head _))), Nat.ne_of_gt (hlt₂ _ (.tail _ (.tail _ (.head _))))⟩,
      List.forall_mem_cons.mpr ⟨⟨Nat.ne_of_gt (hlt₁ _ (.head _)), Nat.ne_of_gt (hlt₁ _ (.tail _ (.head _)))⟩, fun q hq => ⟨ofl q hq, ofh q hq⟩⟩⟩
  have N₅ : News g L' h₃ ((hs, setObj es n2 t) :: (l, listOf (items row) n1) :: ν₂) := by
    subst eν
    exact news_sub N₄ (List.forall_mem_cons.mpr ⟨.tail _ (.tail _ (.tail _ (.head _))), List.forall_mem_cons.mpr ⟨.tail _ (.tail _ (.head _)), List.forall_mem_cons.mpr ⟨.head _, List.forall_mem_cons.mpr ⟨.tail _ (.head _), fun q hq => .tail _ (.tail _ (.tail _ (.tail _ hq)))⟩⟩⟩⟩)
  have O₂ : SetOk w ν₂ es t (marks row) := O.mono hνν (tup_inj (news_sub N₅ fun q hq => .tail _ (.tail _ hq)))
  repeat walk_at "st"
  refine set_add (ρ := (l, listOf (items row) n1) :: ν₂) F₄ N₅ (List.forall_mem_cons.mpr ⟨Ne.symm hlh, fun q hq => (off q hq).2⟩) (fun q hq => .tail _ hq) O₂ x₂ r'.u1 hk (by simpa [marks] using hlen) fun es' n2' t' h₄ tk F₅ N₆ O₃ => ?_
  repeat walk_at "st"
  refine get_certs S' F₅ N₆ P (fun q hq => .tail _ (.tail _ (hνν q hq))) fun tk => ?_
  refine kl_method N₆ (.tail _ (.head _)) PySem.F.slot_list_append PySem.F.type_list_append ?_
  repeat walk_at "st"
  refine append_K F₅ N₆ (.tail hlh (.head fun q hq => (off q hq).1)) (fun h₅ F₆ N₇ => ?_) (by rw [items_size, sizeLine_eq]; omega)
  repeat walk_at "st"
  have eit : (items row).push (.ref c) = items (row ++ [(c, d)]) := by simp [items]
  rw [eit] at N₇
  have N₈ : News g L' h₅ ((l, listOf (items (row ++ [(c, d)])) (n1 + 1)) :: (hs, setObj es' n2' t') :: ν₂) := news_sub N₇ (List.forall_mem_cons.mpr ⟨.tail _ (.head _), List.forall_mem_cons.mpr ⟨.head _, fun q hq => .tail _ (.tail _ hq)⟩⟩)
  refine hQ0 _ _ ?_
  refine leaveK_ F₆ N₈ fun F₇ N₉ => ?_
  refine k ν₂ _ _ _ _ _ _ hνν (fun q hq => (off q hq).1) (fun q hq => (off q hq).2) F₇ N₉ (O₃.perm ?_ ?_)
  · simp [marks]
  · intro y; simp [marks, or_comm]
theorem append_dup (S : Sx w A₀ base outer env h₀ L mg mb mean loose) (F : Fr h₀ L s.heap m) (N : News h₀ L s.heap ((l, listOf (items row) n1) :: (hs, setObj es n2 t) :: ν))
    (P : PathIn ν p l hs) (C : CertIn ν c d) (O : SetOk w ν es t (marks row)) (hk : mark d ∈ marks row) (r : Rm A (env :: outer) 6)
    (k : ∀ g' e te h' tk, Fr h₀ L g' m → g'.UpToSlots h' → RaisedK base (env :: outer) e (.ref 187) te [] ((l, listOf (items row) n1) :: (hs, setObj es n2 t) :: ν) h' →
      R (.error (.ref e)) { s with heap := h', toks := tk }) : codeAny (Mo w) A (.call (.ref 254) ⟨[.ref p, .ref c], []⟩) R s := by
  have sub2 : ∀ q ∈ ν, q ∈ ((l, listOf (items row) n1) :: (hs, setObj es n2 t) :: ν) := fun q hq => .tail _ (.tail _ hq)
  refine call_def (binds := [("self", .ref p), ("cert", .ref c)]) S F N r (by k_is) (by k_is) (BindsTo.of_eq rfl) (locs rfl) rfl rfl rfl (by decide) ?_
  intro g L' h₁ FG F' N' S' r'
  refine gen_both fun Q0 E0 hQ0 hE0 => ?_
  have C₁ := C.mono sub2
  repeat walk_at "st"
  refine is_cert S' F' N' C₁ ?_
  walk_at "st"
  refine ite_neg (by decide) ?_
  repeat walk_at "st"
  refine issuer_serial S' F' N' r'.le C₁ fun t₁ h₂ tk t1 t2 F₂ N₂ hlt₁ => ?_
  repeat walk_at "st"
  refine get_hashes S' F₂ N₂ P (fun q hq => .tail _ (sub2 q hq)) fun tk => ?_
  have N₃ : News g L' h₂ ((t₁, tupObj (.str d.iss t1) (.int d.ser t2)) :: ν) := news_sub N₂ (List.forall_mem_cons.mpr ⟨.head _, fun q hq => .tail _ (.tail _ (.tail _ hq))⟩)
  have O₁ : SetOk w ((t₁, tupObj (.str d.iss t1) (.int d.ser t2)) :: ν) es t (marks row) := O.mono (fun q hq => .tail _ hq) (tup_inj N₃)
  have x₁ : TupIn ((t₁, tupObj (.str d.iss t1) (.int d.ser t2)) :: ν) t₁ (mark d) := ⟨_, _, .head _⟩
  refine in_set N₃ (N₂ _ (.tail _ (.tail _ (.head _)))).1 O₁ x₁ (r'.u1) fun tk => ?_
  walk_at "st"
  refine ite_pos (by simpa using hk) ?_
  walk_at "st"
  refine Raise_own0 F₂ (topRead_of S'.T).g (own_of_in (bmB := [.type "Exception", .type "BaseException", .type "object"]) (newId := "Exception.__new__") S'.X (topRead_of S'.T) (by k_is) (by k_exc)) PySem.F.excBase_Exception r'.hh fun h' e hx => ?_
  refine hE0 _ _ ?_
  exact leave_raiseK S'.B hx F₂ (news_sub N₂ fun q hq => .tail _ hq) fun h'' te Rk U => k g _ te _ _ FG U Rk

theorem prepend_ok (S : Sx w A₀ base outer env h₀ L mg mb mean loose) (F : Fr h₀ L s.heap m) (N : News h₀ L s.heap ((l, listOf (items row) n1) :: (hs, setObj es n2 t) :: ν)) (ofl : ∀ q ∈ ν, q.1 ≠ l) (ofh : ∀ q ∈ ν, q.1 ≠ hs)
    (P : PathIn ν p l hs) (C : CertIn ν c d) (O : SetOk w ν es t (marks row)) (hk : mark d ∉ marks row) (hlen : row.length ≤ 3) (r : Rm A (env :: outer) 6)
    (k : ∀ ν' n1' es' n2' t' h' tk, (∀ q ∈ ν, q ∈ ν') → (∀ q ∈ ν', q.1 ≠ l) → (∀ q ∈ ν', q.1 ≠ hs) → Fr h₀ L h' m → News h₀ L h' ((l, listOf (items ((c, d) :: row)) n1') :: (hs, setObj es' n2' t') :: ν') → SetOk w ν' es' t' (marks ((c, d) :: row)) →
      R (.ok (.ret (.ref p))) { s with heap := h', toks := tk }) : codeAny (Mo w) A (.call (.ref 261) ⟨[.ref p, .ref c], []⟩) R s := by
  have sub2 : ∀ q ∈ ν, q ∈ ((l, listOf (items row) n1) :: (hs, setObj es n2 t) :: ν) := fun q hq => .tail _ (.tail _ hq)
  refine call_def (binds := [("self", .ref p), ("cert", .ref c)]) S F N r (by k_is) (by k_is) (BindsTo.of_eq rfl) (locs rfl) rfl rfl rfl (by decide) ?_
  intro g L' h₁ FG F' N' S' r'
  refine gen_both fun Q0 E0 hQ0 hE0 => ?_
  have C₁ := C.mono sub2
  repeat walk_at "st"
  refine is_cert S' F' N' C₁ ?_
  walk_at "st"
  refine ite_neg (by decide) ?_
  repeat walk_at "st"
  refine issuer_serial S' F' N' r'.le C₁ fun t₁ h₂ tk t1 t2 F₂ N₂ hlt₁ => ?_
  repeat walk_at "st"
  refine get_hashes S' F₂ N₂ P (fun q hq => .tail _ (sub2 q hq)) fun tk => ?_
  have N₃ : News g L' h₂ ((t₁, tupObj (.str d.iss t1) (.int d.ser t2)) :: ν) := news_sub N₂ (List.forall_mem_cons.mpr ⟨.head _, fun q hq => .tail _ (.tail _ (.tail _ hq))⟩)
  have O₁ : SetOk w ((t₁, tupObj (.str d.iss t1) (.int d.ser t2)) :: ν) es t (marks row) := O.mono (fun q hq => .tail _ hq) (tup_inj N₃)
  have x₁ : TupIn ((t₁, tupObj (.str d.iss t1) (.int d.ser t2)) :: ν) t₁ (mark d) := ⟨_, _, .head _⟩
  refine in_set N₃ (N₂ _ (.tail _ (.tail _ (.head _)))).1 O₁ x₁ (r'.u1) fun tk => ?_
  walk_at "st"
  refine ite_neg (by simpa using hk) ?_
  repeat walk_at "st"
  refine get_hashes S' F₂ N₂ P (fun q hq => .tail _ (sub2 q hq)) fun tk => ?_
  refine meth_set_add (N₂ _ (.tail _ (.tail _ (.head _)))).1 ?_
  repeat walk_at "st"
  refine issuer_serial S' F₂ N₂ r'.le (C₁.mono fun q hq => .tail _ hq) fun t₂ h₃ tk t3 t4 F₄ N₄ hlt₂ => ?_
  have hlh : hs ≠ l := ne_of_obj (N' _ (.tail _ (.head _))).1 (N' _ (.head _)).1 set_ne_list
  generalize eν : (t₂, tupObj (.str d.iss t3) (.int d.ser t4)) :: (t₁, tupObj (.str d.iss t1) (.int d.ser t2)) :: ν = ν₂
  have hνν : ∀ q ∈ ν, q ∈ ν₂ := fun q hq => eν ▸ .tail _ (.tail _ hq)
  have x₂ : TupIn ν₂ t₂ (mark d) := ⟨t3, t4, eν ▸ .head _⟩
  have off : ∀ q ∈ ν₂, q.1 ≠ l ∧ q.1 ≠ hs := by
    subst eν
    exact List.forall_mem_cons.mpr ⟨⟨Nat.ne_of_gt (hlt₂ _ (.tail _ (.head _))), Nat.ne_of_gt (hlt₂ _ (.tail _ (.tail _ (.head _))))⟩,
      List.forall_mem_cons.mpr ⟨⟨Nat.ne_of_gt (hlt₁ _ (.head _)), Nat.ne_of_gt (hlt₁ _ (.tail _ (.head _)))⟩, fun q hq => ⟨ofl q hq, ofh q hq⟩⟩⟩
  have N₅ : News g L' h₃ ((hs, setObj es n2 t) :: (l, listOf (items row) n1) :: ν₂) := by
    subst eν
    exact news_sub N₄ (List.forall_mem_cons.mpr ⟨.tail _ (.tail _ (.tail _ (.head _))), List.forall_mem_cons.mpr ⟨.tail _ (.tail _ (.head _)), List.forall_mem_cons.mpr ⟨.head _, List.forall_mem_cons.mpr ⟨.tail _ (.head _), fun q hq => .tail _ (.tail _ (.tail _ (.tail _ hq)))⟩⟩⟩⟩)
  have O₂ : SetOk w ν₂ es t (marks row) := O.mono hνν (tup_inj (news_sub N₅ fun q hq => .tail _ (.tail _ hq)))
  repeat walk_at "st"
  refine set_add (ρ := (l, listOf (items row) n1) :: ν₂) F₄ N₅ (List.forall_mem_cons.mpr ⟨Ne.symm hlh, fun q hq => (off q hq).2⟩) (fun q hq => .tail _ hq) O₂ x₂ r'.u1 hk (by simpa [marks] using hlen) fun es' n2' t' h₄ tk F₅ N₆ O₃ => ?_
  repeat walk_at "st"
  refine get_certs S' F₅ N₆ P (fun q hq => .tail _ (.tail _ (hνν q hq))) fun tk => ?_
  refine kl_method N₆ (.tail _ (.head _)) PySem.F.slot_list_insert PySem.F.type_list_insert ?_
  repeat walk_at "st"
  have U : Upd l (listOf (items row) n1) (listOf (items ((c, d) :: row)).toList.toArray (n1 + 1)) ((hs, setObj es' n2' t') :: (l, listOf (items row) n1) :: ν₂) ((hs, setObj es' n2' t') :: (l, listOf (items ((c, d) :: row)).toList.toArray (n1 + 1)) :: ν₂) := .tail hlh (.head fun q hq => (off q hq).1)
  refine kl_insert (l := (items ((c, d) :: row)).toList) F₅ N₆ rfl (by show kl_ins (items row).toList 0 (.ref c) = (items ((c, d) :: row)).toList; simp [items, kl_ins]) U (by have := items_size (row := row); simp only [Array.length_toList]; rw [this, sizeLine_eq]; omega) fun h₅ F₆ N₇ => ?_
  repeat walk_at "st"
  rw [Array.toArray_toList] at N₇
  have N₈ : News g L' h₅ ((l, listOf (items ((c, d) :: row)) (n1 + 1)) :: (hs, setObj es' n2' t') :: ν₂) := news_sub N₇ (List.forall_mem_cons.mpr ⟨.tail _ (.head _), List.forall_mem_cons.mpr ⟨.head _, fun q hq => .tail _ (.tail _ hq)⟩⟩)
  refine hQ0 _ _ ?_
  refine leaveK_ F₆ N₈ fun F₇ N₉ => ?_
  refine k ν₂ _ _ _ _ _ _ hνν (fun q hq => (off q hq).1) (fun q hq => (off q hq).2) F₇ N₉ (O₃.perm ?_ ?_)
  · simp [marks]
  · intro y; simp [marks, or_comm]
theorem prepend_dup (S : Sx w A₀ base outer env h₀ L mg mb mean loose) (F : Fr h₀ L s.heap m) (N : News h₀ L s.heap ((l, listOf (items row) n1) :: (hs, setObj es n2 t) :: ν))
    (P : PathIn ν p l hs) (C : CertIn ν c d) (O : SetOk w ν es t (marks row)) (hk : mark d ∈ marks row) (r : Rm A (env :: outer) 6)
    (k : ∀ g' e te h' tk, Fr h₀ L g' m → g'.UpToSlots h' → RaisedK base (env :: outer) e (.ref 187) te [] ((l, listOf (items row) n1) :: (hs, setObj es n2 t) :: ν) h' →
      R (.error (.ref e)) { s with heap := h', toks := tk }) : codeAny (Mo w) A (.call (.ref 261) ⟨[.ref p, .ref c], []⟩) R s := by
  have sub2 : ∀ q ∈ ν, q ∈ ((l, listOf (items row) n1) :: (hs, setObj es n2 t) :: ν) := fun q hq => .tail _ (.tail _ hq)
  refine call_def (binds := [("self", .ref p), ("cert", .ref c)]) S F N r (by k_is) (by k_is) (BindsTo.of_eq rfl) (locs rfl) rfl rfl rfl (by decide) ?_
  intro g L' h₁ FG F' N' S' r'
  refine gen_both fun Q0 E0 hQ0 hE0 => ?_
  have C₁ := C.mono sub2
  repeat walk_at "st"
  refine is_cert S' F' N' C₁ ?_
  walk_at "st"
  refine ite_neg (by decide) ?_
  repeat walk_at "st"
  refine issuer_serial S' F' N' r'.le C₁ fun t₁ h₂ tk t1 t2 F₂ N₂ hlt₁ => ?_
  repeat walk_at "st"
  refine get_hashes S' F₂ N₂ P (fun q hq => .tail _ (sub2 q hq)) fun tk => ?_
  have N₃ : News g L' h₂ ((t₁, tupObj (.str d.iss t1) (.int d.ser t2)) :: ν) := news_sub N₂ (List.forall_mem_cons.mpr ⟨.head _, fun q hq => .tail _ (.tail _ (.tail _ hq))⟩)
  have O₁ : SetOk w ((t₁, tupObj (.str d.iss t1) (.int d.ser t2)) :: ν) es t (marks row) := O.mono (fun q hq => .tail _ hq) (tup_inj N₃)
  have x₁ : TupIn ((t₁, tupObj (.str d.iss t1) (.int d.ser t2)) :: ν) t₁ (mark d) := ⟨_, _, .head _⟩
  refine in_set N₃ (N₂ _ (.tail _ (.tail _ (.head _)))).1 O₁ x₁ (r'.u1) fun tk => ?_
  walk_at "st"
  refine ite_pos (by simpa using hk) ?_
  walk_at "st"
  refine Raise_own0 F₂ (topRead_of S'.T).g (own_of_in (bmB := [.type "Exception", .type "BaseException", .type "object"]) (newId := "Exception.__new__") S'.X (topRead_of S'.T) (by k_is) (by k_exc)) PySem.F.excBase_Exception r'.hh fun h' e hx => ?_
  refine hE0 _ _ ?_
  exact leave_raiseK S'.B hx F₂ (news_sub N₂ fun q hq => .tail _ hq) fun h'' te Rk U => k g _ te _ _ FG U Rk

theorem kl_last_app : ∀ (q : List Value) (y : Value), kl_last (q ++ [y]) = some (q, y)
  | [], y => rfl
  | z :: q, y => by rw [List.cons_append]; unfold kl_last; rw [kl_last_app q y]

theorem pop_ok (S : Sx w A₀ base outer env h₀ L mg mb mean loose) (F : Fr h₀ L s.heap m) (N : News h₀ L s.heap ((l, listOf (items (row ++ [(c, d)])) n1) :: (hs, setObj es n2 t) :: ν)) (ofl : ∀ q ∈ ν, q.1 ≠ l) (ofh : ∀ q ∈ ν, q.1 ≠ hs)
    (P : PathIn ν p l hs) (C : CertIn ν c d) (O : SetOk w ν es t (marks (row ++ [(c, d)]))) (hk : mark d ∉ marks row) (hlen : row.length ≤ 4) (r : Rm A (env :: outer) 6)
    (k : ∀ ν' n1' es' n2' t' h' tk, (∀ q ∈ ν, q ∈ ν') → (∀ q ∈ ν', q.1 ≠ l) → (∀ q ∈ ν', q.1 ≠ hs) → Fr h₀ L h' m → News h₀ L h' ((l, listOf (items row) n1') :: (hs, setObj es' n2' t') :: ν') → SetOk w ν' es' t' (marks row) →
      R (.ok (.ret (.ref p))) { s with heap := h', toks := tk }) : codeAny (Mo w) A (.call (.ref 247) ⟨[.ref p], []⟩) R s := by
  have sub2 : ∀ q ∈ ν, q ∈ ((l, listOf (items (row ++ [(c, d)])) n1) :: (hs, setObj es n2 t) :: ν) := fun q hq => .tail _ (.tail _ hq)
  refine call_def (binds := [("self", .ref p)]) S F N r (by k_is) (by k_is) (BindsTo.of_eq rfl) (locs rfl) rfl rfl rfl (by decide) ?_
  intro g L' h₁ FG F' N' S' r'
  refine gen_both fun Q0 E0 hQ0 hE0 => ?_
  have C₁ := C.mono sub2
  repeat walk_at "st"
  refine get_certs S' F' N' P sub2 fun tk => ?_
  refine kl_method N' (.head _) PySem.F.slot_list_pop PySem.F.type_list_pop ?_
  repeat walk_at "st"
  have hlh : hs ≠ l := ne_of_obj (N' _ (.tail _ (.head _))).1 (N' _ (.head _)).1 set_ne_list
  refine kl_pop (p := (items row).toList) (y := .ref c) F' N' (by show kl_last (items (row ++ [(c, d)])).toList = _; simp [items, kl_last_app]) (.head (List.forall_mem_cons.mpr ⟨hlh, ofl⟩)) (by have := items_size (row := row ++ [(c, d)]); simp only [Array.length_toList]; rw [this, sizeLine_eq, List.length_append]; simp; omega) fun h₂ F₂ N₂ => ?_
  rw [Array.toArray_toList] at N₂
  refine stN F₂ N₂ fun h₃ F₃ N₃ => ?_
  repeat walk_at "st"
  refine get_hashes S' F₃ N₃ P (fun q hq => .tail _ (.tail _ hq)) fun tk => ?_
  refine meth_set_remove (N₃ _ (.tail _ (.head _))).1 ?_
  repeat walk_at "st"
  refine issuer_serial S' F₃ N₃ r'.le (C.mono fun q hq => .tail _ (.tail _ hq)) fun t₂ h₄ tk t3 t4 F₄ N₄ hlt₂ => ?_
  repeat walk_at "st"
  generalize eν : (t₂, tupObj (.str d.iss t3) (.int d.ser t4)) :: ν = ν₂
  have hνν : ∀ q ∈ ν, q ∈ ν₂ := fun q hq => eν ▸ .tail _ hq
  have x₂ : TupIn ν₂ t₂ (mark d) := ⟨t3, t4, eν ▸ .head _⟩
  have off : ∀ q ∈ ν₂, q.1 ≠ l ∧ q.1 ≠ hs := by
    subst eν
    exact List.forall_mem_cons.mpr ⟨⟨Nat.ne_of_gt (hlt₂ _ (.head _)), Nat.ne_of_gt (hlt₂ _ (.tail _ (.head _)))⟩, fun q hq => ⟨ofl q hq, ofh q hq⟩⟩
  have N₅ : News g L' h₄ ((hs, setObj es n2 t) :: (l, listOf (items row) (n1 + 1)) :: ν₂) := by
    subst eν
    exact news_sub N₄ (List.forall_mem_cons.mpr ⟨.tail _ (.tail _ (.head _)), List.forall_mem_cons.mpr ⟨.tail _ (.head _), List.forall_mem_cons.mpr ⟨.head _, fun q hq => .tail _ (.tail _ (.tail _ hq))⟩⟩⟩)
  have O₂ : SetOk w ν₂ es t (marks (row ++ [(c, d)])) := O.mono hνν (tup_inj (news_sub N₅ fun q hq => .tail _ (.tail _ hq)))
  have hmk : marks (row ++ [(c, d)]) = marks row ++ [mark d] := by simp [marks]
  refine set_remove (marks' := marks row) (ρ := (l, listOf (items row) (n1 + 1)) :: ν₂) F₄ N₅ (List.forall_mem_cons.mpr ⟨Ne.symm hlh, fun q hq => (off q hq).2⟩) (fun q hq => .tail _ hq) O₂ x₂ r'.u1 (by rw [hmk]; simp) (by rw [hmk]; simp) (fun y => ?_) fun es' n2' t' h₅ tk F₅ N₆ O₃ => ?_
  · rw [hmk]
    simp only [List.mem_append, List.mem_singleton]
    constructor
    · intro hy; exact ⟨.inl hy, fun e => hk (e ▸ hy)⟩
    · rintro ⟨hy | hy, hn⟩
      · exact hy
      · exact absurd hy hn
  repeat walk_at "st"
  have N₈ : News g L' h₅ ((l, listOf (items row) (n1 + 1)) :: (hs, setObj es' n2' t') :: ν₂) := news_sub N₆ (List.forall_mem_cons.mpr ⟨.tail _ (.head _), List.forall_mem_cons.mpr ⟨.head _, fun q hq => .tail _ (.tail _ hq)⟩⟩)
  refine hQ0 _ _ ?_
  refine leaveK_ F₅ N₈ fun F₇ N₉ => ?_
  exact k ν₂ _ _ _ _ _ _ hνν (fun q hq => (off q hq).1) (fun q hq => (off q hq).2) F₇ N₉ O₃
section
variable {P : Params}
theorem kPlen : findIn (hd.heap_1 P) (.ref 292) "__len__" = some (some (.ref 268)) := by k_is
theorem kPlenF : isFn (hd.heap_1 P) (.ref 268) = true := by k_is
theorem kPitem : findIn (hd.heap_1 P) (.ref 292) "__getitem__" = some (some (.ref 275)) := by k_is
theorem kPitemF : isFn (hd.heap_1 P) (.ref 275) = true := by k_is
theorem kPitemN : fnIn (hd.heap_1 P) 275 = true := by k_is
theorem kPf : findIn (hd.heap_1 P) (.ref 292) "first" = some (some (.ref 212)) := by k_is
theorem kPf2 : specialIn (hd.heap_1 P) (.ref 212) "__get__" = some (some (.builtin "property.__get__")) := by k_is
theorem kPf3 : takesIn (hd.heap_1 P) (.ref 212) = some true := by k_is
theorem kNeq : findIn (hd.heap_1 P) (.ref 87) "__eq__" = some (some (.ref 77)) := by k_is
theorem kNeqF : isFn (hd.heap_1 P) (.ref 77) = true := by k_is
theorem kIsN : isIn (hd.heap_1 P) (.ref 87) 87 = true := by k_is
theorem kNnf : notFirst (hd.heap_1 P) 87 (.ref 87) = true := by k_is
end

theorem is_list {ν' : List (Addr × Obj)} (N : News h₀ L s.heap ν') (hm : (l, listOf (items row) n1) ∈ ν') : s.heap.IsList l (items row) := ⟨_, (N _ hm).1, rfl, _, rfl⟩

theorem len_path (S : Sx w A₀ base outer env h₀ L mg mb mean loose) (F : Fr h₀ L s.heap m) (N : News h₀ L s.heap ν) (hm : (l, listOf (items row) n1) ∈ ν) (P : PathIn ν p l hs) (hlen : row.length ≤ 100) (r : Rm A (env :: outer) 4)
    (k : ∀ h' tk u, Fr h₀ L h' m → News h₀ L h' ν → Q (.int (row.length : Nat) u) { s with heap := h', toks := tk }) : wpAny (Mo w) A (call (.builtin "len") [.ref p]) Q E s := by
  obtain ⟨dp, t1, t2, x1, x2, n, h1, h2⟩ := id P
  refine len_K F S.X (InstAt.of_news N h1 h2) kPlen kPlenF (wpAny_call ?_)
  refine call_def (binds := [("self", .ref p)]) S F N r.in1 (by k_is) (by k_is) (BindsTo.of_eq rfl) (locs rfl) rfl rfl rfl (by decide) ?_
  intro g L' h₁ FG F' N' S' r'
  repeat walk_at "st"
  refine get_certs S' F' N' P (fun q hq => hq) fun tk => ?_
  repeat walk_at "st"
  refine len_list (is_list N' hm) (by rw [items_size]; omega) ?_
  refine leaveK_ F' N' fun F₃ N₃ => ?_
  refine ⟨⟨Int.natCast_nonneg _, by rw [items_size]; omega⟩, ?_⟩
  rw [items_size]
  exact k _ _ _ F₃ N₃

theorem items_get {i : Nat} {e : Addr × CD} (h : row[i]? = some e) : (items row)[i]? = some (.ref e.1) := by simp [items, h]

theorem item_path {vn sn : Str} {vp sp : Pos} {i : Nat} {u : Tok} {e : Addr × CD} (S : Sx w A₀ base outer env h₀ L mg mb mean loose) (F : Fr h₀ L s.heap m) (N : News h₀ L s.heap ν) (hm : (l, listOf (items row) n1) ∈ ν) (P : PathIn ν p l hs) (hi : row[i]? = some e) (h100 : i < 100) (r : Rm A (env :: outer) 4)
    (k : ∀ h' tk, Fr h₀ L h' m → News h₀ L h' ν → Q (.ref e.1) { s with heap := h', toks := tk }) : wpAny (Mo w) A (subscriptTail (.Name vn vp) (.Name sn sp) (.ref p) (.int (i : Nat) u)) Q E s := by
  obtain ⟨dp, t1, t2, x1, x2, n, h1, h2⟩ := id P
  refine sub_K F S.X (InstAt.of_news N h1 h2) kPitem kPitemN kPitemF (wpAny_call ?_)
  refine call_def (binds := [("self", .ref p), ("key", .int (i : Nat) u)]) S F N r.in1 (by k_is) (by k_is) (BindsTo.of_eq rfl) (locs rfl) rfl rfl rfl (by decide) ?_
  intro g L' h₁ FG F' N' S' r'
  repeat walk_at "st"
  refine get_certs S' F' N' P (fun q hq => hq) fun tk => ?_
  repeat walk_at "st"
  refine item_litK (vs := row.map fun p => .ref p.1) (is_list N' hm) (Int.natCast_nonneg _) (by omega) (by rw [Int.toNat_natCast, List.getElem?_map, hi]; rfl) ?_
  refine leaveK_ F' N' fun F₃ N₃ => ?_
  exact k _ _ F₃ N₃

theorem first_path {e : Addr × CD} (S : Sx w A₀ base outer env h₀ L mg mb mean loose) (F : Fr h₀ L s.heap m) (N : News h₀ L s.heap ν) (hm : (l, listOf (items row) n1) ∈ ν) (P : PathIn ν p l hs) (hi : row[0]? = some e) (r : Rm A (env :: outer) 4)
    (k : ∀ h' tk, Fr h₀ L h' m → News h₀ L h' ν → Q (.ref e.1) { s with heap := h', toks := tk }) : wpAny (Mo w) A (getAttr (.ref p) "first" b) Q E s := by
  obtain ⟨dp, t1, t2, x1, x2, n, h1, h2⟩ := id P
  refine get_prop F S.X (InstAt.of_news N h1 h2) kP1 kP2 kPf kPf2 kPf3 (by k_is) ?_
  refine call_def (binds := [("self", .ref p)]) S F N r.in1 (by k_is) (by k_is) (BindsTo.of_eq rfl) (locs rfl) rfl rfl rfl (by decide) ?_
  intro g L' h₁ FG F' N' S' r'
  repeat walk_at "st"
  refine get_certs S' F' N' P (fun q hq => hq) fun tk => ?_
  repeat walk_at "st"
  refine item_litK (vs := row.map fun p => .ref p.1) (is_list N' hm) (by decide) (by decide) (by show (row.map _)[0]? = _; rw [List.getElem?_map, hi]; rfl) ?_
  refine leaveK_ F' N' fun F₃ N₃ => ?_
  refine handed_on rfl ?_
  exact k _ _ F₃ N₃

theorem name_eq {y : Str} {a' : Addr} (S : Sx w A₀ base outer env h₀ L mg mb mean loose) (F : Fr h₀ L s.heap m) (N : News h₀ L s.heap ν) (Ha : NameIn ν a x) (Hb : NameIn ν a' y) (r : Rm A (env :: outer) 4)
    (k : ∀ h' tk, Fr h₀ L h' m → News h₀ L h' ν → Q (.bool (x == y)) { s with heap := h', toks := tk }) : wpAny (Mo w) A (compareOp .Eq (.ref a) (.ref a')) Q E s := by
  obtain ⟨da, es, n, ta, h1, h2, h3⟩ := id Ha
  obtain ⟨da', es', n', ta', h1', h2', h3'⟩ := id Hb
  refine cmp_K (op := .Eq) r.units F S.X (InstAt.of_news N h1 h2) (InstAt.of_news N h1' h2').type kNnf kNeq kNeqF (wpAny_call ?_)
  refine call_def (binds := [("self", .ref a), ("other", .ref a')]) S F N r (by k_is) (by k_is) (BindsTo.of_eq rfl) (locs rfl) rfl rfl rfl (by decide) ?_
  intro g L' h₁ FG F' N' S' r'
  repeat walk_at "st"
  refine isi_call (S'.X.keeps F'.keep) (fun M => (InstAt.of_news N' h1' h2').type) kIsN (fun e => by cases e) ?_
  repeat walk_at "st"
  refine ite_pos rfl ?_
  repeat walk_at "st"
  refine get_hashable S' F' N' Ha fun tu tk => ?_
  repeat walk_at "st"
  refine get_hashable S' F' N' Hb fun tv tk => ?_
  refine PyProof.Rows.eq_str ?_
  refine leaveK_ F' N' fun F₃ N₃ => ?_
  exact k _ _ F₃ N₃
theorem Rm.under {A : Around} {fr : List Env} {n : Nat} {C : Addr} {vals : List Value} (r : Rm A fr (n + 1)) : Rm (A.under (.builtin "type.__call__" ⟨.ref C :: vals, []⟩)) fr n :=
  ⟨r.fr, by have := r.d; show A.depth + 1 + n ≤ 900; omega, by have := r.u; show A.units + 1 + 10 * n ≤ 9000; omega, r.hh⟩

section
variable {P : Params}
theorem kPmk : makesIn (hd.heap_1 P) 292 = true := by k_is
theorem kPin : findIn (hd.heap_1 P) (.ref 292) "__init__" = some (some (.ref 204)) := by k_is
theorem kPinF : isFn (hd.heap_1 P) (.ref 204) = true := by k_is
theorem kPkeep : keepIn (hd.heap_1 P) (.ref 292) = true := by k_is
theorem kCb : findIn (hd.heap_1 P) (.ref 160) "__bool__" = some none := by k_is
theorem kCl : findIn (hd.heap_1 P) (.ref 160) "__len__" = some none := by k_is
theorem kPpre : findIn (hd.heap_1 P) (.ref 292) "prepend" = some (some (.ref 261)) := by k_is
theorem kPpreF : isFn (hd.heap_1 P) (.ref 261) = true := by k_is
theorem kPpreK : keepIn (hd.heap_1 P) (.ref 261) = true := by k_is
theorem kPset : findIn (hd.heap_1 P) (.ref 292) "__setattr__" = some (some (.builtin "object.__setattr__")) := by k_is
theorem kPpo : plainOver (hd.heap_1 P) 292 = true := by k_is
theorem kPt1 : takerIn (hd.heap_1 P) 292 "_certs" = some none := by k_is
theorem kPt2 : takerIn (hd.heap_1 P) 292 "_cert_hashes" = some none := by k_is
end

theorem SetOk.nil_any {ν' : List (Addr × Obj)} (O : SetOk w ν es t []) : SetOk w ν' es t [] := by
  have : es = #[] := by simpa using O.size
  subst this
  exact ⟨⟨O.I, O.size, O.four, fun i e h => (by simp at h), fun k h => (by cases h), fun i j h h' a b k e => (by simp at e)⟩, O.slack⟩
abbrev pathD (x1 x2 : Int) (t1 t2 : Tok) (l hs : Addr) (n : Nat) : Obj := dictOf [⟨x1, .str "_certs" t1, .ref l⟩, ⟨x2, .str "_cert_hashes" t2, .ref hs⟩] n

theorem path_new (S : Sx w A₀ base outer env h₀ L mg mb mean loose) (F : Fr h₀ L s.heap m) (N : News h₀ L s.heap ν) (r : Rm A (env :: outer) 6)
    (k : ∀ p dp l hs es t n1 n2 nn x1 x2 t1 t2 h' tk, (∀ q ∈ ν, q.1 < dp) → dp < p → p < l → l < hs → Fr h₀ L h' m → News h₀ L h' ((l, listOf (items []) n1) :: (hs, setObj es n2 t) :: (p, instObj 292 dp) :: (dp, pathD x1 x2 t1 t2 l hs nn) :: ν) → (∀ ν', SetOk w ν' es t []) →
      Q (.ref p) { s with heap := h', toks := tk }) : wpAny (Mo w) A (call (.ref 292) []) Q E s := by
  refine call_cls F S.X N kPmk kPin kPinF fun p dp h₁ F₁ N₁ l1 l2 => ?_
  refine call_def (binds := [("self", .ref p), ("end_entity_cert", .none)]) S F₁ N₁ r.under (by k_is) (by k_is) (binds_K (S.X.keeps F₁.keep) rfl (by k_is) rfl rfl rfl) (locs rfl) rfl rfl rfl (by decide) ?_
  intro g L' h₂ FG F' N' S' r'
  refine gen_both fun Q0 E0 hQ0 hE0 => ?_
  repeat walk_at "st"
  have pne : p ≠ dp := Nat.ne_of_gt l2
  refine newList_K F' N' fun l h₃ F₂ N₂ hl => ?_
  repeat walk_at "st"
  refine set_dict F₂ S'.X N₂ (InstAt.of_news N₂ (.tail _ (.head _)) (.tail _ (.tail _ (.head _)))) rfl kPset kPpo kPt1 kP2 rfl rfl (.tail (Nat.ne_of_gt (hl _ (.tail _ (.head _)))) (.tail pne (.head fun q hq => Nat.ne_of_lt (l1 q hq)))) (by show (1 : Nat) ≤ 1000; decide) fun h₄ F₃ N₃ => ?_
  repeat walk_at "st"
  refine set_new F₃ N₃ fun hs es n2 t h₅ F₄ N₄ O hls => ?_
  repeat walk_at "st"
  refine set_dict F₄ S'.X N₄ (InstAt.of_news N₄ (.tail _ (.tail _ (.head _))) (.tail _ (.tail _ (.tail _ (.head _))))) rfl kPset kPpo kPt2 kP2 rfl rfl (.tail (Nat.ne_of_gt (hls _ (.tail _ (.tail _ (.head _))))) (.tail (Nat.ne_of_gt (hl _ (.tail _ (.head _)))) (.tail pne (.head fun q hq => Nat.ne_of_lt (l1 q hq))))) (by show (2 : Nat) ≤ 1000; decide) fun h₆ F₅ N₅ => ?_
  repeat walk_at "st"
  have hdd : ∃ t1 t2 x1 x2 nn, News g L' h₆ ((hs, setObj es n2 t) :: (l, listOf (items []) 0) :: (p, instObj 292 dp) :: (dp, dictOf [⟨x1, .str "_certs" t1, .ref l⟩, ⟨x2, .str "_cert_hashes" t2, .ref hs⟩] nn) :: ν) := ⟨_, _, _, _, _, N₅⟩
  obtain ⟨t1, t2, x1, x2, nn, N₅⟩ := hdd
  have N₆ : News g L' h₆ ((l, listOf (items []) 0) :: (hs, setObj es n2 t) :: (p, instObj 292 dp) :: (dp, pathD x1 x2 t1 t2 l hs nn) :: ν) := news_sub N₅ (List.forall_mem_cons.mpr ⟨.tail _ (.head _), List.forall_mem_cons.mpr ⟨.head _, fun q hq => .tail _ (.tail _ hq)⟩⟩)
  refine ite_neg (by decide) ?_
  repeat walk_at "st"
  refine hQ0 _ _ ?_
  refine leaveK_ F₅ N₆ fun F₇ N₇ => ?_
  exact ⟨rfl, k p dp l hs es t _ _ nn x1 x2 t1 t2 _ _ l1 l2 (hl _ (.head _)) (hls _ (.head _)) F₇ N₇ fun ν' => O.nil_any⟩

theorem path_new1 (S : Sx w A₀ base outer env h₀ L mg mb mean loose) (F : Fr h₀ L s.heap m) (N : News h₀ L s.heap ν) (r : Rm A (env :: outer) 12)
    (C : CertIn ν c d)
    (k : ∀ p l hs es t n1 n2 ν' h' tk, (∀ q ∈ ν, q ∈ ν') → (∀ q ∈ ν', q.1 ≠ l) → (∀ q ∈ ν', q.1 ≠ hs) → PathIn ν' p l hs → Fr h₀ L h' m → News h₀ L h' ((l, listOf (items [(c, d)]) n1) :: (hs, setObj es n2 t) :: ν') → SetOk w ν' es t (marks [(c, d)]) →
      Q (.ref p) { s with heap := h', toks := tk }) : wpAny (Mo w) A (call (.ref 292) [.ref c]) Q E s := by
  refine call_cls F S.X N kPmk kPin kPinF fun p dp h₁ F₁ N₁ l1 l2 => ?_
  refine call_def (binds := [("self", .ref p), ("end_entity_cert", .ref c)]) S F₁ N₁ r.under (by k_is) (by k_is) (binds_K (S.X.keeps F₁.keep) rfl (by k_is) rfl rfl rfl) (locs rfl) rfl rfl rfl (by decide) ?_
  intro g L' h₂ FG F' N' S' r'
  refine gen_both fun Q0 E0 hQ0 hE0 => ?_
  repeat walk_at "st"
  have pne : p ≠ dp := Nat.ne_of_gt l2
  refine newList_K F' N' fun l h₃ F₂ N₂ hl => ?_
  repeat walk_at "st"
  refine set_dict F₂ S'.X N₂ (InstAt.of_news N₂ (.tail _ (.head _)) (.tail _ (.tail _ (.head _)))) rfl kPset kPpo kPt1 kP2 rfl rfl (.tail (Nat.ne_of_gt (hl _ (.tail _ (.head _)))) (.tail pne (.head fun q hq => Nat.ne_of_lt (l1 q hq)))) (by show (1 : Nat) ≤ 1000; decide) fun h₄ F₃ N₃ => ?_
  repeat walk_at "st"
  refine set_new F₃ N₃ fun hs es n2 t h₅ F₄ N₄ O hls => ?_
  repeat walk_at "st"
  refine set_dict F₄ S'.X N₄ (InstAt.of_news N₄ (.tail _ (.tail _ (.head _))) (.tail _ (.tail _ (.tail _ (.head _))))) rfl kPset kPpo kPt2 kP2 rfl rfl (.tail (Nat.ne_of_gt (hls _ (.tail _ (.tail _ (.head _))))) (.tail (Nat.ne_of_gt (hl _ (.tail _ (.head _)))) (.tail pne (.head fun q hq => Nat.ne_of_lt (l1 q hq))))) (by show (2 : Nat) ≤ 1000; decide) fun h₆ F₅ N₅ => ?_
  repeat walk_at "st"
  have hdd : ∃ t1 t2 x1 x2 nn, News g L' h₆ ((hs, setObj es n2 t) :: (l, listOf (items []) 0) :: (p, instObj 292 dp) :: (dp, dictOf [⟨x1, .str "_certs" t1, .ref l⟩, ⟨x2, .str "_cert_hashes" t2, .ref hs⟩] nn) :: ν) := ⟨_, _, _, _, _, N₅⟩
  obtain ⟨t1, t2, x1, x2, nn, N₅⟩ := hdd
  have N₆ : News g L' h₆ ((l, listOf (items []) 0) :: (hs, setObj es n2 t) :: (p, instObj 292 dp) :: (dp, pathD x1 x2 t1 t2 l hs nn) :: ν) := news_sub N₅ (List.forall_mem_cons.mpr ⟨.tail _ (.head _), List.forall_mem_cons.mpr ⟨.head _, fun q hq => .tail _ (.tail _ hq)⟩⟩)
  have C' : CertIn ((p, instObj 292 dp) :: (dp, pathD x1 x2 t1 t2 l hs nn) :: ν) c d := C.mono fun q hq => .tail _ (.tail _ hq)
  obtain ⟨dc, _, _, _, _, _, _, _, _, Cx⟩ := id C'
  have Nν := news_sub N₆ fun q hq => .tail _ (.tail _ hq)
  refine truthy_K0 F₅ S'.X (InstAt.of_news Nν Cx.i Cx.e) kCb kCl ?_
  refine ite_pos rfl ?_
  repeat walk_at "st"
  refine method_inst F₅ S'.X (InstAt.of_news N₅ (.tail _ (.tail _ (.head _))) (.tail _ (.tail _ (.tail _ (.head _))))) kP1 kPpre kPpreF rfl ?_
  refine callWith_K S'.X kPpreK ?_
  repeat walk_at "st"
  refine ⟨S'.X.keeps F₅.keep, ?_⟩
  refine wpAny_call ?_
  refine prepend_ok (row := []) S' F₅ N₆ ?_ ?_ ⟨dp, t1, t2, x1, x2, nn, .head _, .tail _ (.head _)⟩ C' O.nil_any (by simp [marks]) (by simp) r'.le fun ν' n1' es' n2' t' h₇ tk hsub o1 o2 F₆ N₇ O' => ?_
  · exact List.forall_mem_cons.mpr ⟨Nat.ne_of_lt (hl _ (.head _)), List.forall_mem_cons.mpr ⟨Nat.ne_of_lt (show dp < l from hl _ (.tail _ (.head _))), fun q hq => Nat.ne_of_lt (hl q (.tail _ (.tail _ hq)))⟩⟩
  · exact List.forall_mem_cons.mpr ⟨Nat.ne_of_lt (hls _ (.tail _ (.head _))), List.forall_mem_cons.mpr ⟨Nat.ne_of_lt (show dp < hs from hls _ (.tail _ (.tail _ (.head _)))), fun q hq => Nat.ne_of_lt (hls q (.tail _ (.tail _ (.tail _ hq))))⟩⟩
  have hpp := hsub _ (.head _)
  repeat walk_at "st"
  refine hQ0 _ _ ?_
  refine leaveK_ F₆ N₇ fun F₇ N₈ => ?_
  exact ⟨rfl, k p l hs es' t' _ _ ν' _ _ (fun q hq => hsub q (.tail _ (.tail _ hq))) o1 o2 ⟨dp, t1, t2, x1, x2, nn, hsub _ (.head _), hsub _ (.tail _ (.head _))⟩ F₇ N₈ O'⟩

theorem slice_any {value slice : Expr} {its : Array Value} {vl vu : Value} {lo hi : Option Int} (F : Fr h₀ L s.heap m) (N : News h₀ L s.heap ν) (hl : s.heap.IsList l its) (pl : IsPart vl lo) (pu : IsPart vu hi)
    (h : ∀ D h', Fr h₀ L h' m → News h₀ L h' ((D, listOf (slicePick its lo hi none) 0) :: ν) → (∀ q ∈ ν, q.1 < D) → Q (.ref D) { s with heap := h' })
    (hs : subscripted slice false (.ref l) (.ref s.heap.objs.size) = operate [.ref s.heap.objs.size, .ref l] (getItem (.ref l) (.ref s.heap.objs.size))) (hz : its.size ≤ sizeLine) :
    wpAny (Mo w) A (subscriptTail value slice (.ref l) (.ref s.heap.objs.size)) Q E { s with heap := s.heap.push { cls := .type "slice", data := .fields #[vl, vu, .none] } } := by
  refine tail_any (Heap.IsList.typeIs (s := { s with heap := s.heap.push { cls := .type "slice", data := .fields #[vl, vu, .none] } }) (hl.push _)) list_getitem_lookup
    (wpAny_getItem_list_slice (hl.push _) (Heap.IsSliceOf.new ..) pl pu .none (by simp) ?_ hz) hs
  have N1 := News.push (F.push { cls := .type "slice", data := .fields #[vl, vu, .none] }) (N.grown fun _ _ e => Heap.get?_push_of_some _ e) { cls := .type "list", data := .seq (slicePick its lo hi none) }
  rw [Heap.size_push] at N1
  show Q (.ref (s.heap.push _).objs.size) _
  rw [Heap.size_push]
  exact h _ _ ((F.push _).push _) N1 fun p hp => Nat.lt_succ_of_lt (Heap.lt_size (N p hp).1)

theorem pick_all (its : Array Value) : slicePick its none none none = its := by
  have e : sliceBounds none none none its.size = (((0 : Nat) : Int), ((its.size : Nat) : Int), 1) := by
    simp only [sliceBounds, Option.getD_none, show (1 : Int) > 0 by decide, if_true]
    rfl
  rw [kmk_pick_nat _ e, List.drop_zero, List.take_of_length_le (by simp), Array.toArray_toList]

theorem copy_ok (S : Sx w A₀ base outer env h₀ L mg mb mean loose) (F : Fr h₀ L s.heap m) (N : News h₀ L s.heap ((l, listOf (items row) n1) :: (hs, setObj es n2 t) :: ν))
    (P : PathIn ν p l hs) (O : SetOk w ν es t (marks row)) (hlen : row.length ≤ 4) (r : Rm A (env :: outer) 10)
    (k : ∀ p' l' hs' es' t' n1' n2' ν' h' tk, (∀ q ∈ ((l, listOf (items row) n1) :: (hs, setObj es n2 t) :: ν), q ∈ ν') → (∀ q ∈ ν', q.1 ≠ l') → (∀ q ∈ ν', q.1 ≠ hs') → PathIn ν' p' l' hs' → (∀ q ∈ ν, q.1 ≠ p') → Fr h₀ L h' m →
      News h₀ L h' ((l', listOf (items row) n1') :: (hs', setObj es' n2' t') :: ν') → SetOk w ν' es' t' (marks row) → R (.ok (.ret (.ref p'))) { s with heap := h', toks := tk }) : codeAny (Mo w) A (.call (.ref 240) ⟨[.ref p], []⟩) R s := by
  have sub2 : ∀ q ∈ ν, q ∈ ((l, listOf (items row) n1) :: (hs, setObj es n2 t) :: ν) := fun q hq => .tail _ (.tail _ hq)
  refine call_def (binds := [("self", .ref p)]) S F N r (by k_is) (by k_is) (BindsTo.of_eq rfl) (locs rfl) rfl rfl rfl (by decide) ?_
  intro g L' h₁ FG F' N' S' r'
  refine gen_both fun Q0 E0 hQ0 hE0 => ?_
  repeat walk_at "st"
  refine callWith_K0 (S'.X.keeps F'.keep) kPkeep ?_
  refine path_new S' F' N' r'.le fun p' dp' l1 hs1 es1 t1 n3 n4 nn x1 x2 u1 u2 h₂ tk o1 o2 o3 o4 F₂ N₂ O₁ => ?_
  refine stN F₂ N₂ fun h₃ F₃ N₃ => ?_
  repeat walk_at "st"
  refine get_certs S' F₃ N₃ P (fun q hq => .tail _ (.tail _ (.tail _ (.tail _ (sub2 q hq))))) fun tk => ?_
  repeat walk_at "st"
  refine slice_any (s := ⟨h₃, _, _, _, _⟩) F₃ N₃ ⟨_, (N₃ _ (.tail _ (.tail _ (.tail _ (.tail _ (.head _)))))).1, rfl, _, rfl⟩ .none .none (fun l' h₄ F₄ N₄ hl' => ?_) (by with_unfolding_all rfl) (by rw [items_size, sizeLine_eq]; omega)
  rw [pick_all] at N₄
  repeat walk_at "st"
  have pd : p' ≠ dp' := Nat.ne_of_gt o2
  have l1d : l1 ≠ dp' := Nat.ne_of_gt (Nat.lt_trans o2 o3)
  have h1d : hs1 ≠ dp' := Nat.ne_of_gt (Nat.lt_trans o2 (Nat.lt_trans o3 o4))
  have νd : ∀ q ∈ ((l, listOf (items row) n1) :: (hs, setObj es n2 t) :: ν), q.1 ≠ dp' := fun q hq => Nat.ne_of_lt (o1 q hq)
  refine set_dict (es' := [⟨x1, .str "_certs" u1, .ref l'⟩, ⟨x2, .str "_cert_hashes" u2, .ref hs1⟩]) F₄ S'.X N₄ (InstAt.of_news N₄ (.tail _ (.tail _ (.tail _ (.head _)))) (.tail _ (.tail _ (.tail _ (.tail _ (.head _)))))) rfl kPset kPpo kPt1 kP2 rfl rfl (.tail (Nat.ne_of_gt (hl' _ (.tail _ (.tail _ (.tail _ (.head _)))))) (.tail l1d (.tail h1d (.tail pd (.head νd))))) (by show (2 : Nat) ≤ 1000; decide) fun h₅ F₅ N₅ => ?_
  repeat walk_at "st"
  refine get_hashes S' F₅ N₅ P (fun q hq => .tail _ (.tail _ (.tail _ (.tail _ (.tail _ (sub2 q hq)))))) fun tk => ?_
  refine meth_set_copy (N₅ _ (.tail _ (.tail _ (.tail _ (.tail _ (.tail _ (.tail _ (.head _)))))))).1 ?_
  repeat walk_at "st"
  generalize eD : putN ("_certs" : Str) [⟨x1, .str "_certs" u1, .ref l1⟩, ⟨x2, .str "_cert_hashes" u2, .ref hs1⟩] nn = nn' at N₅
  have N₆ : News g L' h₅ ((hs, setObj es n2 t) :: (l', listOf (items row) 0) :: (p', instObj 292 dp') :: (dp', pathD x1 x2 u1 u2 l' hs1 nn') :: (l, listOf (items row) n1) :: ν) :=
    news_sub N₅ (List.forall_mem_cons.mpr ⟨.tail _ (.tail _ (.tail _ (.tail _ (.tail _ (.tail _ (.head _)))))), List.forall_mem_cons.mpr ⟨.head _, List.forall_mem_cons.mpr ⟨.tail _ (.tail _ (.tail _ (.head _))), List.forall_mem_cons.mpr ⟨.tail _ (.tail _ (.tail _ (.tail _ (.head _)))), List.forall_mem_cons.mpr ⟨.tail _ (.tail _ (.tail _ (.tail _ (.tail _ (.head _))))), fun q hq => .tail _ (.tail _ (.tail _ (.tail _ (.tail _ (.tail _ (.tail _ hq))))))⟩⟩⟩⟩⟩)
  refine set_copy (ν := ν) F₅ N₆ O fun hs' es' n2' t' h₆ F₆ N₇ O₂ hr => ?_
  repeat walk_at "st"
  have νd' : ∀ q ∈ ν, q.1 ≠ dp' := fun q hq => νd q (.tail _ (.tail _ hq))
  refine set_dict (es' := [⟨x1, .str "_certs" u1, .ref l'⟩, ⟨x2, .str "_cert_hashes" u2, .ref hs'⟩]) F₆ S'.X N₇ (InstAt.of_news N₇ (.tail _ (.tail _ (.tail _ (.head _)))) (.tail _ (.tail _ (.tail _ (.tail _ (.head _)))))) rfl kPset kPpo kPt2 kP2 rfl rfl (.tail (Nat.ne_of_gt (hr _ (.tail _ (.tail _ (.tail _ (.head _)))))) (.tail (νd _ (.tail _ (.head _))) (.tail (Nat.ne_of_gt (hl' _ (.tail _ (.tail _ (.tail _ (.head _)))))) (.tail pd (.head (List.forall_mem_cons.mpr ⟨νd _ (.head _), νd'⟩)))))) (by show (2 : Nat) ≤ 1000; decide) fun h₇ F₇ N₈ => ?_
  repeat walk_at "st"
  generalize eD2 : putN ("_cert_hashes" : Str) [⟨x1, .str "_certs" u1, .ref l'⟩, ⟨x2, .str "_cert_hashes" u2, .ref hs1⟩] nn' = nn2 at N₈
  have N₉ : News g L' h₇ ((l', listOf (items row) 0) :: (hs', setObj es' n2' t') :: (p', instObj 292 dp') :: (dp', pathD x1 x2 u1 u2 l' hs' nn2) :: (l, listOf (items row) n1) :: (hs, setObj es n2 t) :: ν) :=
    news_sub N₈ (List.forall_mem_cons.mpr ⟨.tail _ (.tail _ (.head _)), List.forall_mem_cons.mpr ⟨.head _, List.forall_mem_cons.mpr ⟨.tail _ (.tail _ (.tail _ (.head _))), List.forall_mem_cons.mpr ⟨.tail _ (.tail _ (.tail _ (.tail _ (.head _)))), List.forall_mem_cons.mpr ⟨.tail _ (.tail _ (.tail _ (.tail _ (.tail _ (.head _))))), List.forall_mem_cons.mpr ⟨.tail _ (.head _), fun q hq => .tail _ (.tail _ (.tail _ (.tail _ (.tail _ (.tail _ hq)))))⟩⟩⟩⟩⟩⟩)
  have hdl : dp' < l' := hl' _ (.tail _ (.tail _ (.tail _ (.head _))))
  have hpl : p' < l' := hl' _ (.tail _ (.tail _ (.head _)))
  have hdh : dp' < hs' := hr _ (.tail _ (.tail _ (.tail _ (.head _))))
  have hph : p' < hs' := hr _ (.tail _ (.tail _ (.head _)))
  refine hQ0 _ _ ?_
  refine leaveK_ F₇ N₉ fun F₈ Na => ?_
  refine k p' l' hs' es' t' _ _ _ _ _ (fun q hq => .tail _ (.tail _ hq)) ?_ ?_ ⟨dp', u1, u2, x1, x2, nn2, .head _, .tail _ (.head _)⟩ (fun q hq => Nat.ne_of_lt (Nat.lt_trans (o1 q (sub2 q hq)) o2)) F₈ Na (O₂.mono (fun q hq => .tail _ (.tail _ (sub2 q hq))) (tup_inj (news_sub Na fun q hq => .tail _ (.tail _ hq))))
  · exact List.forall_mem_cons.mpr ⟨Nat.ne_of_lt hpl, List.forall_mem_cons.mpr ⟨Nat.ne_of_lt hdl, fun q hq => Nat.ne_of_lt (Nat.lt_trans (o1 q hq) hdl)⟩⟩
  · exact List.forall_mem_cons.mpr ⟨Nat.ne_of_lt hph, List.forall_mem_cons.mpr ⟨Nat.ne_of_lt hdh, fun q hq => Nat.ne_of_lt (Nat.lt_trans (o1 q hq) hdh)⟩⟩
theorem nsOk_of {K : Frag} {N : Addr} {es : Array DictEntry} {c : Value} {dd : Option Addr} {sl : Array (Option Value)} {n : Nat} (ho : K.lookup N = some ⟨c, dd, .dict es n, sl⟩) (h : (es.toList.all fun e => match e.key with | .str _ _ => true | _ => false) = true) : nsOkIn K N = true := by
  unfold nsOkIn; rw [ho]; dsimp only; rw [← Array.all_toList]; exact h
theorem cmp_of_in {K : Frag} {h : Heap} {C x N : Addr} {o : Obj} {nm q : Str} {bs : List Value} {hdct : Bool} {sn : List Str} {sub : List Value} {ab : Bool} {col : Option Bool} {dd : Option Addr} {k0 k1 k2 k3 k5 : Option Value} {nid : String}
    (X : K.In h) (ho : K.lookup C = some (excClassObj nm q C N bs [.type "object"] hdct sn sub ab col dd k0 k1 k2 k3 k5 nid)) (hok : nsOkIn K N = true) (he : nsIn K N "__eq__" = some none) (hne : nsIn K N "__ne__" = some none)
    (hx : h.get? x = some o) (hc : o.cls = .ref C) : h.CmpInst x C [.type "object"] :=
  ⟨o, _, _, N, _, _, _, _, _, _, _, _, _, _, _, _, _, _, hx, hc, X _ _ ho, .of_isNs (isNs_of_in X hok), nsMap_none_of_in X hok he, nsMap_none_of_in X hok hne⟩
section
variable {P : Params}
theorem kPeq : findIn (hd.heap_1 P) (.ref 292) "__eq__" = some (some (.ref 289)) := by k_is
theorem kPeqF : isFn (hd.heap_1 P) (.ref 289) = true := by k_is
theorem kPnf : notFirst (hd.heap_1 P) 292 (.ref 292) = true := by k_is
theorem kCns : nsOkIn (hd.heap_1 P) 159 = true := nsOk_of (by k_is) (by rfl)
theorem kCcmp {h : Heap} {x : Addr} {o : Obj} (X : (hd.heap_1 P).In h) (hx : h.get? x = some o) (hc : o.cls = .ref 160) : h.CmpInst x 160 [.type "object"] :=
  cmp_of_in (N := 159) X (by k_is) kCns (by k_is) (by k_is) hx hc
end

theorem cert_eqAt {h : Heap} {c c' : Addr} {d d' : CD} (X : (hd.heap_1 w.params).In s.heap) (N : News h L s.heap ν) (C : CertIn ν c d) (C' : CertIn ν c' d') (hu : A.units < cLine) : SeqAt.EqAt A s (.ref c) (.ref c') (c == c') := by
  by_cases e : c = c'
  · subst e
    rw [beq_self_eq_true]
    exact SeqAt.EqAt.same _
  · rw [beq_eq_false_iff_ne.mpr e]
    obtain ⟨dc, _, _, _, _, _, _, _, _, Cx⟩ := C
    obtain ⟨dc', _, _, _, _, _, _, _, _, Cy⟩ := C'
    refine SeqAt.EqAt.of_refs e fun prog w' E Q hq => ?_
    exact richCompare_eq_other F.cmp_object F.cmp_object (kCcmp X (N _ Cx.i).1 rfl) (kCcmp X (N _ Cy.i).1 rfl) e hu hq

theorem at_row (j : Nat) (h : j < row.length) : ∃ e, row[j]? = some e := ⟨row[j], List.getElem?_eq_getElem h⟩
theorem path_eq {p' l' hs' : Addr} {row' : Row} {n1' : Nat} (S : Sx w A₀ base outer env h₀ L mg mb mean loose) (F : Fr h₀ L s.heap m) (N : News h₀ L s.heap ν) (hm : (l, listOf (items row) n1) ∈ ν) (hm' : (l', listOf (items row') n1') ∈ ν) (P : PathIn ν p l hs) (P' : PathIn ν p' l' hs')
    (HC : ∀ e ∈ row, CertIn ν e.1 e.2) (HC' : ∀ e ∈ row', CertIn ν e.1 e.2) (r : Rm A (env :: outer) 4)
    (k : ∀ h' tk, Fr h₀ L h' m → News h₀ L h' ν → Q (.bool (decide (row.map (·.1) = row'.map (·.1)))) { s with heap := h', toks := tk }) : wpAny (Mo w) A (compareOp .Eq (.ref p) (.ref p')) Q E s := by
  obtain ⟨dp, t1, t2, x1, x2, n, h1, h2⟩ := id P
  obtain ⟨dp', t1', t2', x1', x2', n', h1', h2'⟩ := id P'
  refine cmp_K (op := .Eq) r.units F S.X (InstAt.of_news N h1 h2) (InstAt.of_news N h1' h2').type kPnf kPeq kPeqF (wpAny_call ?_)
  refine call_def (binds := [("self", .ref p), ("other", .ref p')]) S F N r (by k_is) (by k_is) (BindsTo.of_eq rfl) (locs rfl) rfl rfl rfl (by decide) ?_
  intro g L' h₁ FG F' N' S' r'
  repeat walk_at "st"
  refine get_certs S' F' N' P (fun q hq => hq) fun tk => ?_
  repeat walk_at "st"
  refine get_certs S' F' N' P' (fun q hq => hq) fun tk => ?_
  by_cases hlen : row.length = row'.length
  · refine SeqAt.eq_listAt (is_list N' hm) (is_list N' hm') (by rw [items_size, items_size, hlen]) r'.units (e := fun j => (row.map (·.1))[j]? == (row'.map (·.1))[j]?) (fun j j1 j2 => ?_) ?_
    · obtain ⟨e, he⟩ := at_row (row := row) j (by rw [items_size] at j1; exact j1)
      obtain ⟨e', he'⟩ := at_row (row := row') j (by rw [items_size] at j2; exact j2)
      have x : (items row)[j] = .ref e.1 := by have := items_get he; rw [Array.getElem?_eq_getElem j1] at this; exact Option.some.inj this
      have x' : (items row')[j] = .ref e'.1 := by have := items_get he'; rw [Array.getElem?_eq_getElem j2] at this; exact Option.some.inj this
      rw [x, x', List.getElem?_map, List.getElem?_map, he, he']
      show SeqAt.EqAt _ _ _ _ (some e.1 == some e'.1)
      have : (some e.1 == some e'.1) = (e.1 == e'.1) := rfl
      rw [this]
      exact cert_eqAt (h := g) (S'.X.keeps F'.keep) N' (HC e (List.mem_of_getElem? he)) (HC' e' (List.mem_of_getElem? he')) r'.u1
    · refine leaveK_ F' N' fun F₃ N₃ => ?_
      have : ((List.range (items row).size).all fun j => (row.map (·.1))[j]? == (row'.map (·.1))[j]?) = decide (row.map (·.1) = row'.map (·.1)) := by
        rw [items_size, Bool.eq_iff_iff, decide_eq_true_iff, List.all_eq_true]
        constructor
        · intro h
          apply List.ext_getElem?
          intro i
          by_cases hi : i < row.length
          · exact eq_of_beq (h i (List.mem_range.mpr hi))
          · rw [List.getElem?_eq_none (by rw [List.length_map]; omega), List.getElem?_eq_none (by rw [List.length_map]; omega)]
        · intro h i _
          rw [h]; exact beq_self_eq_true _
      show Q _ _
      rw [this]
      exact k _ _ F₃ N₃
  · refine SeqAt.eq_list_lengthsAt (is_list N' hm) (is_list N' hm') (by rw [items_size, items_size]; simpa using hlen) r'.units ?_
    refine leaveK_ F' N' fun F₃ N₃ => ?_
    have : false = decide (row.map (·.1) = row'.map (·.1)) := by
      symm; rw [decide_eq_false_iff_not]; intro e; exact hlen (by simpa using congrArg List.length e)
    show Q _ _
    rw [this]
    exact k _ _ F₃ N₃
/-- no exception stands behind e -/
def NoCtx (e : Addr) (h : Heap) : Prop := ∃ oe vs, h.get? e = some oe ∧ oe.data = .fields vs ∧ vs[2]? = some .none

section
variable {M : Model} {Q : Unit → Shared → Prop} {ls : List Env} {e : Addr} {cls a0 fl : Value}
theorem upd_frame {h : Heap} {T : Addr} {oT : Obj} {ts : Array Value} (f : Obj → Obj) (hkb : base.StaysIn h) (hl : h.FunFrames base ls) (hT : h.get? T = some oT) (hd : oT.data = .fields ts) (hn : base.get? T = none) :
    base.StaysIn (h.update T f) ∧ (h.update T f).FunFrames base ls ∧ (∀ b, b ≠ T → (h.update T f).get? b = h.get? b) ∧ h.UpToSlots (h.update T f) := by
  have other : ∀ b, b ≠ T → (h.update T f).get? b = h.get? b := fun b hb => Heap.get?_update_other _ _ (Ne.symm hb)
  have nr : ∀ b o, h.get? b = some o → (∀ vs, o.data ≠ .fields vs) → b ≠ T := fun b o hb hnf q => by
    rw [q, hT] at hb
    exact hnf ts (Option.some.inj hb ▸ hd)
  exact ⟨fun b o hbo => (other b fun q => by rw [q, hn] at hbo; cases hbo).trans (hkb b o hbo), hl.of_keeps fun b o hb hnf => ⟨o, (other b (nr b o hb hnf)).trans hb, rfl⟩, other, fun b o hb hnf => ⟨o.slots, (other b (nr b o hb hnf)).trans hb⟩⟩

theorem flight_c (hkb : base.StaysIn s.heap) (hl : s.heap.FunFrames base ls) (ht : s.heap.TracedAtW base e cls a0 fl) (hc : NoCtx e s.heap)
    (h : ∀ h', base.StaysIn h' → h'.FunFrames base ls → h'.TracedW base e cls a0 → s.heap.UpToSlots h' → NoCtx e h' → Q () { s with heap := h' }) : wpAny M A (setFlight (.ref e) none) Q E s := by
  obtain ⟨oe, vs, T, oT, ts, he, hcls, hd, h1, hnT, hTe, hT, hdT, h3⟩ := ht
  have hsz := (Array.getElem?_eq_some_iff.mp h3).1
  obtain ⟨u1, u2, u3, u4⟩ := upd_frame (Obj.mapFields (·.setIfInBounds 3 ((none : Option Addr).elim Value.none fun f => rawInt f))) hkb hl hT hdT hnT
  unfold setFlight
  refine wpAny_bind (wpAny_field he hd h1 ?_)
  rw [if_pos (show (Value.ref T != Value.none) = true by simp)]
  refine wpAny_setField hT hdT hsz (h _ u1 u2 ?_ u4 ?_)
  · exact ⟨oe, vs, T, _, _, (u3 e (Ne.symm hTe)).trans he, hcls, hd, h1, hnT, hTe, Heap.get?_update_self _ hT (Obj.isFreed_of_fields (Obj.data_mapFields hdT _)), Obj.data_mapFields hdT _, by simp [hsz]⟩
  · obtain ⟨oe', vs', a, b, c⟩ := hc
    exact ⟨oe', vs', (u3 e (Ne.symm hTe)).trans a, b, c⟩

theorem entry_c {oe : Obj} {vs : Array Value} {head : Value} {hadNext : Bool} {F : Addr} (hfr : A.frames = some (env :: outer)) (hl : s.heap.FunFrames base (env :: outer)) (hf : env.frame = some F)
    (he : s.heap.get? e = some oe) (hkb : base.StaysIn s.heap) (hen : base.get? e = none) (hd : oe.data = .fields vs) (hsz : 1 < vs.size) (h0 : vs[0]? = some a0) (h2 : vs[2]? = some .none)
    (h : ∀ h', base.StaysIn h' → h'.FunFrames base (env :: outer) → h'.TracedAtW base e oe.cls a0 (rawInt F) → s.heap.UpToSlots h' → NoCtx e h' → Q () { s with heap := h' }) :
    wpAny M A (do let a ← frameOf env; let pl ← entryPlaceOf F hadNext; let b ← EntryCells.newEntry head a .none (rawInt F) .none pl; setField (.ref e) 1 b) Q E s := by
  have nin : e ∉ (env :: outer).filterMap (·.frame) := fun hm => by
    obtain ⟨_, o, ho, hnf⟩ := hl.mem hm
    exact hnf vs (Option.some.inj (he.symm.trans ho) ▸ hd)
  refine wpAny_bind (wpAny_frameOf_fun hfr hl hf fun h₁ so => ?_)
  refine wpAny_bind (wpAny_entryPlaceOf fun pl hpl => ?_)
  unfold EntryCells.newEntry newFields
  refine wpAny_bind (wpAny_newObj_type ?_ (hpl.sizeOk5 _ _ _ _ _))
  have he₁ : h₁.get? e = some oe := (so.2.1 e nin).trans he
  have kb₁ : base.StaysIn h₁ := fun b o hbo => (so.2.1 b fun hm => by rw [(hl.mem hm).1] at hbo; cases hbo).trans (hkb b o hbo)
  have fr₁ : h₁.FunFrames base (env :: outer) := hl.of_slotsOnly so
  generalize hh₂ : h₁.push { cls := .type "traceback", dict := none, data := .fields ([head, .ref F, .none, rawInt F, .none] ++ (if pl.isEmpty then List.replicate 6 Value.none else pl)).toArray } = h₂
  have old : ∀ b o, h₁.get? b = some o → h₂.get? b = some o := fun b o q => hh₂ ▸ Heap.get?_push_of_some _ q
  have tb : h₂.get? h₁.objs.size = some { cls := .type "traceback", dict := none, data := .fields ([head, .ref F, .none, rawInt F, .none] ++ (if pl.isEmpty then List.replicate 6 Value.none else pl)).toArray } := hh₂ ▸ Heap.get?_push_size h₁ rfl
  have ne : h₁.objs.size ≠ e := Nat.ne_of_gt (Heap.lt_size he₁)
  obtain ⟨u1, u2, u3, u4⟩ := upd_frame (Obj.mapFields (·.setIfInBounds 1 (Value.ref h₁.objs.size))) (fun b o q => old b o (kb₁ b o q)) (fr₁.of_keeps fun b o q _ => ⟨o, old b o q, rfl⟩) (old e oe he₁) hd hen
  have hdm := Obj.data_mapFields hd (·.setIfInBounds 1 (Value.ref h₁.objs.size))
  have hem := Heap.get?_update_self (Obj.mapFields (·.setIfInBounds 1 (Value.ref h₁.objs.size))) (old e oe he₁) (Obj.isFreed_of_fields hdm)
  refine wpAny_setField (s := { s with heap := h₂ }) (old e oe he₁) hd hsz (h _ u1 u2 ?_ ?_ ?_)
  · exact ⟨_, _, h₁.objs.size, _, _, hem, ⟨Obj.cls_mapFields _ _, by rw [Array.getElem?_setIfInBounds_ne (by decide)]; exact h0⟩, hdm, by simp [hsz], kb₁.fresh, ne, (u3 _ ne).trans tb, rfl, by first | (simp; done) | (rcases hpl with rfl | ⟨_, _, _, _, _, _, _, rfl⟩ <;> simp)⟩
  · intro b o q hnf
    obtain ⟨sl, hq⟩ := so.2.2 b o q
    obtain ⟨sl', hq'⟩ := u4 b _ (old b _ hq) hnf
    exact ⟨sl', hq'⟩
  · exact ⟨_, _, hem, hdm, by rw [Array.getElem?_setIfInBounds_ne (by decide)]; exact h2⟩

theorem looks_c {F : Addr} (hfr : A.frames = some (env :: outer)) (hf : env.frame = some F) (hfl : Heap.FlyingW base (env :: outer) e cls a0 s.heap) (hc : NoCtx e s.heap)
    (hQ : ∀ h', Heap.HeldW base (env :: outer) e cls a0 F h' → s.heap.UpToSlots h' → NoCtx e h' → Q () { s with heap := h' }) : wpAny M A (noteFrame (.ref e) env) Q E s := by
  obtain ⟨f1, f2, f3, oe, vs, T, oT, ts, he, ⟨hcls, h0⟩, hd, h1, hnT, hTe, hT, hdT, h3⟩ := hfl
  subst hcls
  obtain ⟨oe', vs', a, b, c⟩ := hc
  rw [he] at a
  cases a
  rw [hd] at b
  cases b
  obtain ⟨u1, u2, u3, u4⟩ := upd_frame (Obj.mapFields (·.setIfInBounds 3 Value.none)) f1 f3 hT hdT hnT
  unfold noteFrame
  simp only [hf]
  refine wpAny_bind (wpAny_field he hd h1 ?_)
  rw [if_pos (show (Value.ref T != Value.none) = true by simp)]
  refine wpAny_bind (wpAny_field hT hdT h3 ?_)
  rw [if_neg (show ¬ ((Value.none == rawInt F) = true) by simp [rawInt])]
  refine wpAny_bind (wpAny_setField hT hdT (Array.getElem?_eq_some_iff.mp h3).1 ?_)
  exact entry_c hfr u2 hf ((u3 e (Ne.symm hTe)).trans he) u1 f2 hd (Array.getElem?_eq_some_iff.mp h1).1 h0 c fun h' x1 x2 x3 x4 x5 => hQ h' ⟨x1, f2, x2, x3⟩ (u4.trans x4) x5

theorem lands_c (f1 : base.StaysIn s.heap) (f2 : base.get? e = none) (f3 : s.heap.FunFrames base ls) (f4 : s.heap.TracedAtW base e cls a0 fl) (hc : NoCtx e s.heap)
    (hQ : ∀ h', Heap.FlyingW base ls e cls a0 h' → s.heap.UpToSlots h' → NoCtx e h' → Q () { s with heap := h' }) : wpAny M A (setFlight (.ref e) none) Q E s :=
  flight_c f1 f3 f4 hc fun h' k1 k2 k3 k4 k5 => hQ h' ⟨k1, f2, k2, k3⟩ k4 k5

theorem leaves_c {h : Heap} {F : Addr} {args : List Value} (hfr : A.frames = some (env :: outer)) (hf : env.frame = some F) (hkb : base.StaysIn h) (hl : h.FunFrames base (env :: outer)) (hx : Heap.MadeExcOf h s.heap e cls args)
    (hQ : ∀ h' t, Heap.FlyingW base outer e cls (.ref t) h' → h'.TupAt t args → base.get? t = none → s.heap.UpToSlots h' → NoCtx e h' → Q () { s with heap := h' }) : wpAny M A (leaving env (.ref e)) Q E s := by
  obtain ⟨t, he, htn, ht⟩ := hx.there
  have hen : base.get? e = none := by
    cases q : base.get? e with
    | none => rfl
    | some o => have z := hx.new; rw [hkb e o q] at z; cases z
  have hnt : base.get? t = none := by
    cases q : base.get? t with
    | none => rfl
    | some o => rw [hkb t o q] at htn; cases htn
  unfold leaving noteFrame
  simp only [hf]
  refine wpAny_bind (wpAny_bind (wpAny_field he rfl (x := .none) rfl ?_))
  rw [if_neg (by decide)]
  refine entry_c (a0 := .ref t) hfr (hl.of_keeps fun b o q _ => ⟨o, hx.keeps b o q, rfl⟩) hf he (fun b o q => hx.keeps b o (hkb b o q)) hen rfl (by simp) rfl rfl fun h₁ x1 x2 x3 x4 x5 => ?_
  refine flight_c x1 x2 x3 x5 fun h₂ y1 y2 y3 y4 y5 => ?_
  exact hQ h₂ t ⟨y1, hen, y2.2.2, y3⟩ (Heap.TupAt.of_slots ⟨_, _, ht, rfl, rfl⟩ (x4.trans y4)) hnt (x4.trans y4) y5

theorem leave_raiseC {g h : Heap} {name : Str} {scope : Scope} {cd : Value} {vs : List Value} {news : List (Addr × Obj)} (K : Below A base outer g) (hx : Heap.MadeExcOf h s.heap e cls vs) (F : Fr g L h m) (N : News g L h news)
    (hQ : ∀ h' t, RaisedK base outer e cls t vs news h' → g.UpToSlots h' → NoCtx e h' → Q () { s with heap := h' }) (hk : scope.kind = .function := by rfl) :
    wpAny M (A.deeper (envOf name scope L a cd)) (leaving (envOf name scope L a cd) (.ref e)) Q E s := by
  have K' := K.push (name := name) (a := a) (cd := cd) F hk
  have hin : ∀ env ∈ (envOf name scope L a cd :: outer), ∀ b, env.frame = some b → b ∈ (envOf name scope L a cd :: outer).filterMap (·.frame) := fun env he b hb => List.mem_filterMap.mpr ⟨env, he, hb⟩
  have st : base.StaysIn (hideAll h ((envOf name scope L a cd :: outer).filterMap (·.frame))) := fun b o q => hideAll_get _ (K'.stays b o q) fun hm => by
    rw [(K'.frames.mem hm).1] at q; cases q
  have hl : ∀ q ∈ news, (hideAll h ((envOf name scope L a cd :: outer).filterMap (·.frame))).get? q.1 = some q.2 ∧ base.get? q.1 = none := fun q hq => by
    refine ⟨hideAll_get _ (N q hq).1 fun hm => ?_, fresh_of_stays K.stays (N q hq).2.2⟩
    obtain ⟨env, he, hf⟩ := List.mem_filterMap.mp hm
    rcases List.mem_cons.mp he with rfl | he
    · exact (N q hq).2.1 (Option.some.inj hf).symm
    · obtain ⟨o, ho, _⟩ := (K.frames.mem (List.mem_filterMap.mpr ⟨env, he, hf⟩)).2
      rw [(N q hq).2.2] at ho; cases ho
  have st2 : (hideAll h ((envOf name scope L a cd :: outer).filterMap (·.frame))).StaysIn h := fun b o q => of_hideAll _ q
  exact leaves_c K'.stack rfl st2 (funFrames_hide K'.frames hin) hx fun h' t x1 x2 x3 x4 x5 =>
    hQ h' t ⟨⟨_, st, hl, x1, x3⟩, x2⟩ (((Heap.UpToSlots.of_keeps F.keep).trans (Heap.UpToSlots.of_keeps hx.keeps)).trans x4) x5
end
section
variable {M : Model} {RR : GenEnd} {Y : Protocol} {k : Nat} {s₀ : Shared} {cc : Code} {fs : List Frame} {K : Flow → Sem Fin} {H : Value → Sem Fin} {gd : Bool → Bool} {lv : List Value → List Value}

def backK (env : Env) (K : Flow → Sem Fin) (H : Value → Sem Fin) (gd : Bool → Bool) (lv : List Value → List Value) (r : Result) : Sem Fin :=
  ((match r with | .ok f => (.pure f : Sem Flow) | .error e => .raise e).onRaise fun (x : Value) => do
    if (← field x 1) == Value.none then unsupported "frame.own-activation:exception-without-traceback"
    setFlight x env.frame).wrap K H gd lv

theorem seg_For {target iter : Expr} {body orelse : List Stmt} {pos : Pos}
    (h : wpAny M (A.over cc fs) (eval iter env) (fun x s₁ => wpAny M (A.over cc fs) (pyIter x) (fun it s₂ =>
      ∀ p, Seg M A RR Y k s₀ (.forLoop target it body orelse env) (M.den (.forLoop target it body orelse env)) (.ret (backK env K H gd lv) none (gd false) (lv []) cc p [] :: fs) s₂) (fun _ _ => False) s₁) (fun _ _ => False) s)
    (hs : ∀ x, foldedSetIterable iter env x = pure x := by intro _; rfl) :
    Seg M A RR Y k s₀ cc ((exec (.For target iter body orelse pos) env).wrap K H gd lv) fs s := by
  rw [exec_For]
  refine seg_bind_wrap (wpAny_standAt ?_)
  refine seg_bind_wrap (wpAny_mono h (fun x s₁ h₁ => ?_) fun _ _ f => f.elim)
  rw [hs]
  refine seg_bind_wrap (wpAny_pure ?_)
  refine seg_bind_wrap (wpAny_standAt ?_)
  refine seg_bind_wrap (wpAny_holding (wpAny_mono h₁ (fun it s₂ h₂ => ?_) fun _ _ f => f.elim))
  exact seg_call h₂

theorem seg_forLoop {prog : Program} {target : Expr} {it : Value} {body orelse : List Stmt}
    (h : wpAny (model prog w) (A.over (.forLoop target it body orelse env) fs) (pyNext it) (fun r s' => match r with
      | none => Seg (model prog w) A RR Y k s₀ (.forLoop target it body orelse env) (.pure (.again (.block orelse env))) fs s'
      | some v => wpAny (model prog w) (A.over (.forLoop target it body orelse env) fs) (assign target env v) (fun _ s₂ =>
          Seg (model prog w) A RR Y k s₀ (.forLoop target it body orelse env) ((execs body env).wrap (fun f => (match f with
            | .next | .cont => (.pure (.again (.forLoop target it body orelse env)) : Sem Fin)
            | .brk => .pure (.done .next)
            | .ret v => .pure (.done (.ret v))).wrap .pure (fun e => (do noteFrame e env; theTreesLotGoes e : Sem Unit).bind fun _ => .raise e) id id)
            (fun e => (do noteFrame e env; theTreesLotGoes e : Sem Unit).bind fun _ => .raise e) id id) fs s₂) (fun _ _ => False) s') (fun _ _ => False) s)
    (ht : ∀ v, letOwnedTupleGo target it v = pure () := by intro _; rfl) :
    Seg (model prog w) A RR Y k s₀ (.forLoop target it body orelse env) ((model prog w).den (.forLoop target it body orelse env)) fs s := by
  show Seg _ A RR Y k s₀ _ ((forTurn target it body orelse env).onRaise (fun x => do noteFrame x env; theTreesLotGoes x)) fs s
  rw [Sem.onRaise_eq_wrap]
  unfold forTurn
  refine seg_bind_wrap (wpAny_standAt ?_)
  refine seg_bind_wrap (wpAny_onRaise (wpAny_mono h (fun r s₁ h₁ => ?_) fun _ _ f => f.elim))
  cases r with
  | none => exact h₁
  | some v =>
    dsimp only
    rw [ht]
    refine seg_bind_wrap (wpAny_pure ?_)
    refine seg_bind_wrap (wpAny_mono h₁ (fun _ s₂ h₂ => ?_) fun _ _ f => f.elim)
    rw [Sem.bind_eq_wrap', Sem.wrap_wrap]
    exact h₂
end
def isIt (o : Obj) : Prop := ∃ (l : Addr) (i : Int), o.data = .fields #[.ref l, .int i 0]
def Since (a Lg : Addr) (h h' : Heap) : Prop := ∀ b o, b ≠ Lg → h.get? b = some o → (b ≤ a ∨ ¬ isIt o) → h'.get? b = some o
theorem Since.refl (a Lg : Addr) (h : Heap) : Since a Lg h h := fun _ _ _ e _ => e
theorem Since.trans {a Lg : Addr} {h h' h'' : Heap} (x : Since a Lg h h') (y : Since a Lg h' h'') : Since a Lg h h'' := fun b o n e c => y b o n (x b o n e c) c
def SinceS (a Lg : Addr) (s₀ s₁ : Shared) : Prop := ∃ h' tk, s₁ = { s₀ with heap := h', toks := tk } ∧ Since a Lg s₀.heap h'
def genR (a Lg : Addr) : GenEnd := fun n s₀ r s₁ => r = .ok (.ret .none) ∧ (n = 0 ∧ SinceS a Lg s₀ s₁)
def genY (h₀ : Heap) (a Lg l : Addr) (its : Array Value) (n1 : Nat) : Protocol := fun k s₀ v s₁ kap =>
  k < its.size ∧ its[its.size - 1 - k]? = some v ∧ SinceS a Lg s₀ s₁ ∧ ∃ it oIt oNs, a < it ∧ isIt oIt ∧ s₁.heap.get? it = some oIt ∧ s₁.heap.get? Lg = some oNs ∧
   ∀ s'', (∀ b o, h₀.get? b = some o → s''.heap.get? b = some o) → s''.heap.get? it = some oIt → s''.heap.get? Lg = some oNs → s''.heap.get? l = some (listOf its n1) → kap (.send .none) s''

theorem SinceS.step {a Lg : Addr} {s₀ s₁ : Shared} (x : SinceS a Lg s₀ s₁) {h' : Heap} {tk : Nat} (y : Since a Lg s₁.heap h') : SinceS a Lg s₀ { s₁ with heap := h', toks := tk } := by
  obtain ⟨h₁, tk₁, rfl, z⟩ := x
  exact ⟨h', tk, rfl, z.trans y⟩

theorem ldl {x nm : Str} {pos : Pos} {v : Value} {scope : Scope} {f : Addr} {cd : Value} {M : Model} (F : Fr h₀ L s.heap m) (hv : m x = some v) (hk : scope.kind = .function) (hl : (envOf nm scope L f cd).kindOf x = some .local) (hd : (x == ("__debug__" : Str)) = false) (h : Q v s) :
    wpAny M A (eval (.Name x pos) (envOf nm scope L f cd)) Q E s := ld F hv h hk hl hd

theorem gen_loop {x nm : Str} {px py yp ep : Pos} {scope : Scope} {f Lg it : Addr} {cd : Value} {its : Array Value} {K : Flow → Sem Fin} {H : Value → Sem Fin} {gd : Bool → Bool} {lv : List Value → List Value} {cc : Code}
    (hh : A.handled = none) (hk : scope.kind = .function) (hco : scope.isCoroutine = false) (hl : (envOf nm scope Lg f cd).kindOf x = some .local) (hd : (x == ("__debug__" : Str)) = false) (hint : interactive (envOf nm scope Lg f cd) = false) (ha : a < it) (hL : Lg < a) (hla : l < Lg) (hgd : gd false = false) (h1e6 : its.size ≤ 100)
    (hK : ∀ s₀ s, SinceS a Lg s₀ s → Seg (Mo w) A (genR a Lg) (genY h₀ a Lg l its n1) 0 s₀ cc (K .next) [] s) :
    ∀ (k j : Nat) (s₀ s : Shared) (m : Str → Option Value) (p : Pos), its.size - j = k → j ≤ its.size → s.heap.IsListIter it l j → s.heap.get? l = some (listOf its n1) → Fr h₀ Lg s.heap m → SinceS a Lg s₀ s →
      Seg (Mo w) A (genR a Lg) (genY h₀ a Lg l its n1) k s₀ (.forLoop (.Name x px) (.ref it) [.Expr (.Yield (some (.Name x py)) yp) ep] [] (envOf nm scope Lg f cd))
        ((Mo w).den (.forLoop (.Name x px) (.ref it) [.Expr (.Yield (some (.Name x py)) yp) ep] [] (envOf nm scope Lg f cd))) [.ret (backK (envOf nm scope Lg f cd) K H gd lv) none (gd false) (lv []) cc p []] s := by
  intro k
  induction k with
  | zero =>
    intro j s₀ s m p hkj hj hit hlst F hs
    have hjn : its[j]? = none := Array.getElem?_eq_none (by omega)
    have il : s.heap.IsList l its := ⟨_, hlst, rfl, _, rfl⟩
    refine seg_forLoop (wpAny_pyNext_list_end hh hit il hjn fun h' hx => ?_)
    refine seg_again rfl ?_
    show Seg _ A _ _ 0 s₀ _ ((execs [] (envOf nm scope Lg f cd)).onRaise _ >>= _) _ _
    refine seg_bind (wpAny_pure ?_)
    refine seg_leaf (.ok .next) ?_
    refine hK _ _ (hs.step (tk := s.toks) fun b o hb e hc => ?_)
    have : b ≠ it := fun e' => by
      subst e'
      obtain ⟨o', ho', _, hc'⟩ := hit
      rw [ho'] at e
      cases e
      rcases hc with hc | hc
      · exact Nat.not_le_of_lt ha hc
      · exact hc ⟨_, _, hc'⟩
    exact hx b o this e
  | succ k ih =>
    intro j s₀ s m p hkj hj hit hlst F hs
    have hjlt : j < its.size := by omega
    have hjn : its[j]? = some its[j] := Array.getElem?_eq_getElem hjlt
    have il : s.heap.IsList l its := ⟨_, hlst, rfl, _, rfl⟩
    have hLit : Lg < it := Nat.lt_trans hL ha
    refine seg_forLoop (wpAny_pyNext_list_item hit il hjn fun h' hit' hsb => ?_)
    have F' : Fr h₀ Lg h' m := F.change hsb (Nat.ne_of_gt hLit) (by
      cases q : h₀.get? it with
      | none => rfl
      | some o => exact absurd (Nat.lt_of_lt_of_le (Heap.lt_size q) (Nat.le_trans F.above (Nat.le_of_lt hLit))) (Nat.lt_irrefl _))
    refine wpAny_assign_Name (stNK (s := { s with heap := h' }) F' (news := []) (fun _ hp => nomatch hp) (fun h₂ F₂ _ hsb₂ _ => ?_) hk hl)
    have hs₂ : SinceS a Lg s₀ { s with heap := h₂, toks := s.toks + 1 } := hs.step fun b o hb e hc => by
      have hbi : b ≠ it := fun e' => by
        subst e'
        obtain ⟨o', ho', _, hc'⟩ := hit
        rw [ho'] at e
        cases e
        rcases hc with hc | hc
        · exact Nat.not_le_of_lt ha hc
        · exact hc ⟨_, _, hc'⟩
      exact (hsb₂.2 b hb).trans ((hsb.2 b hbi).trans e)
    refine seg_execs_cons ?_
    refine seg_Expr_Yield rfl rfl (by simp [Frame.guarded, hgd]) ?_ hco hint
    refine ldl (v := its[j]) F₂ (if_pos rfl) hk hl hd ?_
    intro kap hkap
    obtain ⟨oNs, _, _, hNs, _⟩ := id F₂.ns
    have hit₂ : h₂.IsListIter it l (j + 1) := hit'.extBut hsb₂.extBut (Nat.ne_of_gt hLit)
    obtain ⟨oIt, hoIt, hoc, hod⟩ := id hit₂
    refine ⟨by omega, ?_, hs₂, it, oIt, oNs, ha, ⟨_, _, hod⟩, hoIt, hNs, fun s'' hk'' e1 e2 e3 => hkap .none s'' ?_⟩
    · have : its.size - 1 - k = j := by omega
      rw [this]; exact hjn
    · show Seg _ A _ _ k s'' _ ((execs [] _).wrap _ _ _ _) _ s''
      refine seg_execs_nil ?_
      refine seg_again rfl ?_
      have F'' : Fr h₀ Lg s''.heap _ := ⟨by obtain ⟨o, q1, q2, qo, q3⟩ := F₂.ns; exact ⟨o, q1, q2, e2.trans (hNs.symm.trans qo), q3⟩, hk'', F₂.above⟩
      exact ih (j + 1) s'' s'' _ p (by omega) (by omega) ⟨oIt, e1, hoc, hod⟩ e3 F'' ⟨s''.heap, s''.toks, rfl, Since.refl _ _ _⟩
abbrev genObj (g : Nat) (x y : Value) : Obj := { cls := .type "generator", data := .fields #[.int g 0, x, y] }
theorem gen_start {nm : Str} {x : Str} {px py yp ep fp ip sp : Pos} {scope : Scope} {f Lg dp : Addr} {cd gx gy : Value} {its : Array Value} {x1 x2 : Int} {t1 t2 : Tok} {g nn : Nat}
    (hh : A.handled = none) (hk : scope.kind = .function) (hco : scope.isCoroutine = false) (hl : (envOf nm scope Lg f cd).kindOf x = some .local) (hsl : (envOf nm scope Lg f cd).kindOf "self" = some .local) (hdx : (x == ("__debug__" : Str)) = false) (hint : interactive (envOf nm scope Lg f cd) = false)
    (hL : Lg < a) (hla : l < Lg) (h1e6 : its.size ≤ 100) (X : (hd.heap_1 w.params).In h₀) (F : Fr h₀ Lg s.heap m) (hms : m "self" = some (.ref p))
    (N : News h₀ Lg s.heap [(a, genObj g gx gy), (p, instObj 292 dp), (dp, pathD x1 x2 t1 t2 l hs nn), (l, listOf its n1)]) :
    Seg (Mo w) A (genR a Lg) (genY h₀ a Lg l its n1) its.size s (.func [.For (.Name x px) (.Attribute (.Name "self" sp) "_certs" ip) [.Expr (.Yield (some (.Name x py)) yp) ep] [] fp] (envOf nm scope Lg f cd))
      ((Mo w).den (.func [.For (.Name x px) (.Attribute (.Name "self" sp) "_certs" ip) [.Expr (.Yield (some (.Name x py)) yp) ep] [] fp] (envOf nm scope Lg f cd))) [] s := by
  refine seg_func ?_
  refine seg_execs_cons ?_
  refine seg_For ?_
  refine Attribute_Name_ ?_
  refine ldl F hms hk hsl (by decide) ?_
  have hP : PathIn [(a, genObj g gx gy), (p, instObj 292 dp), (dp, pathD x1 x2 t1 t2 l hs nn), (l, listOf its n1)] p l hs := ⟨dp, t1, t2, x1, x2, nn, .tail _ (.head _), .tail _ (.tail _ (.head _))⟩
  refine get_own F X (InstAt.of_news N (.tail _ (.head _)) (.tail _ (.tail _ (.head _)))) kP1 kP2 kPc kPn g_certs rfl ?_
  have hlo := (N _ (.tail _ (.tail _ (.tail _ (.head _))))).1
  refine wpAny_pyIter_list ⟨_, hlo, rfl, _, rfl⟩ ?_
  intro pp
  have hsz : a < s.heap.objs.size := Heap.lt_size (N _ (.head _)).1
  refine gen_loop hh hk hco hl hdx hint hsz hL hla rfl h1e6 (fun s₀ s' hs' => ?_) its.size 0 _ _ m pp (Nat.sub_zero _) (Nat.zero_le _) ⟨_, Heap.get?_push_size _ rfl, rfl, rfl⟩ (Heap.get?_push_of_some _ hlo) (F.push _) ⟨_, _, rfl, fun b o hb e hc => Heap.get?_push_of_some _ e⟩
  refine seg_execs_nil ?_
  exact seg_end (.ok (.ret .none)) ⟨rfl, rfl, hs'⟩

theorem pyNext_genQ {g k : Nat} {gs : GenState} {P : Nat → Shared → Shared → Prop} {Y : Protocol} {Q : Option Value → Shared → Prop} (hh : A.handled = none)
    (hlim : s.heap.NoLimit) (hroom : A.depth < recursionLimit) (hg : s.heap.IsGen a g) (hgs : s.gens[g]? = some gs)
    (hgo : gs.Goes (Mo w) A.in1 (fun n s₀ r s₁ => r = .ok (.ret .none) ∧ P n s₀ s₁) Y k (.send .none) (s.setGen g .running))
    (hY : ∀ v s₁ gs', gs'.bare = true → Y (k - 1) (s.setGen g .running) v s₁ (fun r' s'' => match k with
        | 0 => False
        | k' + 1 => gs'.Goes (Mo w) A.in1 (fun n s₀ r s₁ => r = .ok (.ret .none) ∧ P n s₀ s₁) Y k' r' s'') → Q (some v) (s₁.setGen g gs'))
    (hP : ∀ s₁, P k (s.setGen g .running) s₁ → ∀ h', (∀ b o, s₁.heap.get? b = some o → h'.get? b = some o) → Q none { s₁.setGen g .finished with heap := h' }) :
    wpAny (Mo w) A (pyNext (.ref a)) Q E s := by
  unfold pyNext
  refine wpAny_bind (wpAny_attempt (wpAny_callSpecial?_slot (name := Str.ofString "__next__") hg.typeIs slot_gen_next
    (wpAny_call_entry slot_gen_next hg.typeIs entry_gen_next ?_ (args_gen_next _))))
  show wpAny _ A.in1 (Builtin.Generator.genWake (.ref a) (.send .none)) _ _ s
  unfold Builtin.Generator.genWake
  refine wpAny_bind (wpAny_holding (wpAny_genNumber hg (wpAny_bind (wpAny_genState hgs ?_))))
  cases gs with
  | running => exact hgo.elim
  | finished => exact hgo.elim
  | _ =>
    refine wpAny_bind (wpAny_roomToWake hlim hroom ?_)
    show wpAny _ A.in1 (.resume g (.send .none) [] _) _ _ s
    refine wpAny_resumeQ hgs hgo (fun x s₁ hx => ?_) (fun v s₁ gs' hb hv => wpAny_pure ⟨v, rfl, wpAny_pure (hY v s₁ gs' hb hv)⟩)
    obtain ⟨rfl, hp⟩ := hx
    show wpAny _ A.in1 (newExc (.type "StopIteration") [] >>= _) _ _ _
    refine wpAny_bind ?_
    simp only [newExc, newTuple]
    refine wpAny_bind (wpAny_newObj_type ?_ (by size_fits))
    refine wpAny_bind (m := firstArgMember _ _) (wpAny_of_eq (a := Value.none) (by first | rfl | (simp only [firstArgMember]; rfl)) ?_)
    refine wpAny_newObj_type ?_ (by size_fits)
    simp only [raiseNew]
    refine wpAny_bind (wpAny_bind (wpAny_handled ?_))
    rw [show A.in1.handled = none from hh]
    refine wpAny_throw ?_
    refine wpAny_bind (wpAny_isInstance (T := "StopIteration") (b := true) ⟨_, Heap.get?_push_size _ rfl, rfl⟩ isSubtype_stop ?_)
    exact wpAny_pure (hP s₁ hp _ fun b o hb => Heap.get?_push_of_some _ (Heap.get?_push_of_some _ hb))
def GenSt (w : World) (A : Around) (h₀ : Heap) (a Lg l : Addr) (its : Array Value) (n1 g k : Nat) (own : List (Addr × Obj)) (gens : Array GenState) : Prop :=
  ∃ gs, gens[g]? = some gs ∧ ∀ s'' : Shared, (∀ b o, h₀.get? b = some o → s''.heap.get? b = some o) → (∀ q ∈ own, s''.heap.get? q.1 = some q.2) → gs.Goes (Mo w) A (genR a Lg) (genY h₀ a Lg l its n1) k (.send .none) s''

def Bare (G G' : Array GenState) : Prop := (∀ y ∈ G, y.bare = true) → ∀ y ∈ G', y.bare = true

theorem gen_next {g k Lg : Nat} {gx gy : Value} {its : Array Value} {own : List (Addr × Obj)} {Q : Option Value → Shared → Prop} (hh : A.handled = none) (hroom : A.depth < recursionLimit) (hlim : h₀.NoLimit) (F : Fr h₀ L s.heap m)
    (N : News h₀ L s.heap (own ++ ν)) (hν : ∀ q ∈ ν, q.1 ≠ Lg ∧ (q.1 ≤ a ∨ ¬ isIt q.2)) (hL : L < Lg) (hLa : Lg < a) (ha : (a, genObj g gx gy) ∈ ν) (hl : (l, listOf its n1) ∈ ν) (hla : l ≤ a ∨ isIt (listOf its n1)) (G : GenSt w A.in1 h₀ a Lg l its n1 g k own s.gens)
    (some_ : ∀ k' v own' h' gens' tk, k = k' + 1 → k' < its.size → its[its.size - 1 - k']? = some v → Fr h₀ L h' m → News h₀ L h' (own' ++ ν) → GenSt w A.in1 h₀ a Lg l its n1 g k' own' gens' → Bare s.gens gens' → (∀ q ∈ own', q.1 ≤ a ∨ isIt q.2) → Q (some v) { s with heap := h', gens := gens', toks := tk })
    (none_ : k = 0 → ∀ h' gens' tk, Fr h₀ L h' m → News h₀ L h' ν → Bare s.gens gens' → Q none { s with heap := h', gens := gens', toks := tk }) :
    wpAny (Mo w) A (pyNext (.ref a)) Q E s := by
  obtain ⟨gs, hgs, hgo⟩ := G
  have Nν : News h₀ L s.heap ν := news_sub N fun q hq => List.mem_append_right _ hq
  have keepν : ∀ {h' : Heap}, Since a Lg s.heap h' → Fr h₀ L h' m ∧ News h₀ L h' ν := fun {h'} hs => by
    refine ⟨⟨?_, fun b o e => ?_, F.above⟩, fun q hq => ⟨hs q.1 q.2 (hν q hq).1 (Nν q hq).1 (hν q hq).2, (Nν q hq).2⟩⟩
    · obtain ⟨o, q1, q2, qo, q3⟩ := F.ns
      exact ⟨o, q1, q2, hs L o (Nat.ne_of_lt hL) qo (.inl (Nat.le_of_lt (Nat.lt_trans hL hLa))), q3⟩
    · have hb : b < L := Nat.lt_of_lt_of_le (Heap.lt_size e) F.above
      exact hs b o (Nat.ne_of_lt (Nat.lt_trans hb hL)) (F.keep b o e) (.inl (Nat.le_of_lt (Nat.lt_trans hb (Nat.lt_trans hL hLa))))
  have fresh : ∀ b, L ≤ b → h₀.get? b = none := fun b hb => by
    cases q : h₀.get? b with
    | none => rfl
    | some o => exact absurd (Nat.lt_of_lt_of_le (Heap.lt_size q) (Nat.le_trans F.above hb)) (Nat.lt_irrefl _)
  have hbare : ∀ gs' : GenState, gs'.bare = true → ∀ s₁ : Shared, s₁.gens = (s.setGen g .running).gens → Bare s.gens (s₁.setGen g gs').gens := fun gs' hb s₁ e => by
    have x : GenOnlyQ g s.gens (s₁.setGen g gs').gens := by
      refine GenOnlyQ.of (y := gs') ((GenOnly.setGen s g .running).trans ?_) (setGen_self (gs := .running) (by rw [e]; exact setGen_self hgs)) hb
      rw [← e]; exact GenOnly.setGen s₁ g gs'
    exact fun h => x.bare h
  refine pyNext_genQ (P := fun n s₀ s₁ => n = 0 ∧ SinceS a Lg s₀ s₁) hh (hlim.keeps F.keep) hroom ⟨_, _, _, (Nν _ ha).1, rfl, rfl, rfl⟩ hgs (hgo (s.setGen g .running) F.keep fun q hq => (N q (List.mem_append_left _ hq)).1) (fun v s₁ gs' hb hv => ?_) fun s₁ hp h' hk => ?_
  · obtain ⟨hk, hit, ⟨h₁, tk, rfl, hs⟩, it, oIt, oNs, hai, hoc, e1, e2, kap⟩ := hv
    cases k with
    | zero => exact (kap s (fun b o e => F.keep b o e) (by exact False.elim (kap ⟨h₁, s.gens, s.drawn, tk, s.os⟩ (fun b o e => (keepν hs).1.keep b o e) e1 e2 ((keepν hs).2 _ hl).1)) (by exact False.elim (kap ⟨h₁, s.gens, s.drawn, tk, s.os⟩ (fun b o e => (keepν hs).1.keep b o e) e1 e2 ((keepν hs).2 _ hl).1)) (Nν _ hl).1).elim
    | succ k' =>
      obtain ⟨F', N'⟩ := keepν hs
      refine some_ k' v [(it, oIt), (Lg, oNs), (l, listOf its n1)] h₁ _ tk rfl hk hit F' ?_ ⟨gs', setGen_self (gs := .running) (setGen_self hgs), fun s'' hk'' ho => ?_⟩ (hbare gs' hb _ rfl) (List.forall_mem_cons.mpr ⟨.inr hoc, List.forall_mem_cons.mpr ⟨.inl (Nat.le_of_lt hLa), List.forall_mem_cons.mpr ⟨hla, fun _ h => nomatch h⟩⟩⟩)
      · refine List.forall_mem_append.mpr ⟨?_, N'⟩
        refine List.forall_mem_cons.mpr ⟨⟨e1, Nat.ne_of_gt (Nat.lt_trans hL (Nat.lt_trans hLa hai)), fresh it (Nat.le_of_lt (Nat.lt_trans hL (Nat.lt_trans hLa hai)))⟩, List.forall_mem_cons.mpr ⟨⟨e2, Nat.ne_of_gt hL, fresh Lg (Nat.le_of_lt hL)⟩, List.forall_mem_cons.mpr ⟨N' _ hl, fun _ h => nomatch h⟩⟩⟩
      · exact kap s'' hk'' (ho _ (.head _)) (ho _ (.tail _ (.head _))) (ho _ (.tail _ (.tail _ (.head _))))
  · obtain ⟨hk0, h₁, tk, rfl, hs⟩ := hp
    obtain ⟨F', N'⟩ := keepν hs
    exact none_ hk0 h' _ tk ⟨by obtain ⟨o, q1, q2, qo, q3⟩ := F'.ns; exact ⟨o, q1, q2, hk _ _ qo, q3⟩, fun b o e => hk _ _ (F'.keep b o e), F'.above⟩ (fun q hq => ⟨hk _ _ (N' q hq).1, (N' q hq).2⟩) (hbare _ rfl _ rfl)
section
variable {P : Params}
theorem kPit : findIn (hd.heap_1 P) (.ref 292) "__iter__" = some (some (.ref 282)) := by k_is
theorem kPitF : isFn (hd.heap_1 P) (.ref 282) = true := by k_is
end

theorem call_gen {name qual : Str} {params : Arguments} {body : List Stmt} {scope : Scope} {dV kV doc pm cdv ct oc : Value} {an od : Option Addr} {osl : Array (Option Value)} {f : Addr} {args : Args} {binds : List (Str × Value)}
    (S : Sx w A₀ base outer env h₀ L mg mb mean loose) (F : Fr h₀ L s.heap m) (N : News h₀ L s.heap ν) (r : Rm A (env :: outer) 3)
    (ho : (hd.heap_1 w.params).lookup f = some ⟨oc, od, .func (fnOf name qual params body scope dV kV doc pm an cdv ct), osl⟩) (hcd : codeIn (hd.heap_1 w.params) cdv qual = true)
    (hbind : BindsTo s (fnOf name qual params body scope dV kV doc pm an cdv ct) args binds) (hloc : ∀ y ∈ binds, scope.names.lookup y.1 = some .local)
    (hco : scope.isCoroutine = false) (hgen : scope.isGenerator = true) (hk : scope.kind = .function) (hcell : ∀ x ∈ scope.names, x.2 ≠ .cell)
    (h : ∀ h₁ h' tk gx gy, Fr h₀ L h₁ m → (∀ b o, s.heap.get? b = some o → h₁.get? b = some o) → h₁.Ns s.heap.objs.size (fun y => binds.reverse.lookup y) → h₁.objs.size = s.heap.objs.size + 1 →
      h' = h₁.push (genObj s.gens.size gx gy) → R (.ok (.ret (.ref h₁.objs.size))) { s with heap := h', gens := s.gens.push (.fresh (.func body (envOf qual scope s.heap.objs.size f cdv))), toks := tk }) :
    codeAny (Mo w) A (.call (.ref f) args) R s := by
  have X := S.X.keeps F.keep
  have hlim := S.T.nolimit.keeps F.keep
  refine codeAny_call_generator r.room (X _ _ ho) rfl hco hgen rfl (codeRec_of X hcd) (hbind _ _ _ _ ?_)
  refine wpAny_newFunctionEnv hcell hloc (fun h₁ hns hsb => ?_) hk
  have hk₁ : ∀ b o, s.heap.get? b = some o → h₁.get? b = some o := fun b o e => hsb.extBut b o (Nat.ne_of_lt (Heap.lt_size e)) (Heap.get?_push_of_some _ e)
  have hsz : h₁.objs.size = s.heap.objs.size + 1 := by rw [hsb.1, Heap.size_push]
  refine ⟨hlim.keeps hk₁, h h₁ _ _ _ _ ⟨?_, fun b o e => hk₁ b o (F.keep b o e), F.above⟩ hk₁ hns hsz rfl⟩
  obtain ⟨o, q1, q2, qo, q3⟩ := F.ns
  exact ⟨o, q1, q2, hk₁ _ _ qo, q3⟩

theorem iter_path (S : Sx w A₀ base outer env h₀ L mg mb mean loose) (F : Fr h₀ L s.heap m) (N : News h₀ L s.heap ν) (hm : (l, listOf (items row) n1) ∈ ν) (P : PathIn ν p l hs) (hlen : row.length ≤ 100) (r : Rm A (env :: outer) 3)
    (k : ∀ a Lg own g gx gy h' gens' tk, L < Lg → Lg < a → (∀ q ∈ ν, q.1 < Lg) → Fr h₀ L h' m → News h₀ L h' (own ++ ((a, genObj g gx gy) :: ν)) → (∀ A' : Around, A'.handled = none → GenSt w A' h₀ a Lg l (items row) n1 g row.length own gens') → Bare s.gens gens' → (∀ q ∈ own, q.1 ≤ a) → Q (.ref a) { s with heap := h', gens := gens', toks := tk }) :
    wpAny (Mo w) A (pyIter (.ref p)) Q E s := by
  obtain ⟨dp, t1, t2, x1, x2, n, h1, h2⟩ := id P
  refine owit_iter F S.X (InstAt.of_news N h1 h2) kPit kPitF (wpAny_call ?_)
  refine call_gen (binds := [("self", .ref p)]) S F N r (by k_is) (by k_is) (BindsTo.of_eq rfl) (locs rfl) rfl rfl rfl (by decide) fun h₁ h' tk gx gy F₁ hk₁ hns hsz eh => ?_
  have hlt : ∀ q ∈ ν, q.1 < s.heap.objs.size := fun q hq => Heap.lt_size (N q hq).1
  have hL : L < s.heap.objs.size := by obtain ⟨o, q1, q2, qo, q3⟩ := F.ns; exact Heap.lt_size qo
  have hLa : s.heap.objs.size < h₁.objs.size := by rw [hsz]; exact Nat.lt_succ_self _
  have hk' : ∀ b o, h₁.get? b = some o → h'.get? b = some o := fun b o e => eh ▸ Heap.get?_push_of_some _ e
  have fresh : ∀ b, L ≤ b → h₀.get? b = none := fun b hb => by
    cases q : h₀.get? b with
    | none => rfl
    | some o => exact absurd (Nat.lt_of_lt_of_le (Heap.lt_size q) (Nat.le_trans F.above hb)) (Nat.lt_irrefl _)
  obtain ⟨oNs, _, _, hNs, _⟩ := id hns
  have F' : Fr h₀ L h' m := ⟨by obtain ⟨o, q1, q2, qo, q3⟩ := F₁.ns; exact ⟨o, q1, q2, hk' _ _ qo, q3⟩, fun b o e => hk' _ _ (F₁.keep b o e), F₁.above⟩
  have hga : h'.get? h₁.objs.size = some (genObj s.gens.size gx gy) := by rw [eh]; exact Heap.get?_push_size _ rfl
  have N' : News h₀ L h' ν := fun q hq => ⟨hk' _ _ (hk₁ _ _ (N q hq).1), (N q hq).2⟩
  have Na : News h₀ L h' ((h₁.objs.size, genObj s.gens.size gx gy) :: ν) := List.forall_mem_cons.mpr ⟨⟨hga, Nat.ne_of_gt (Nat.lt_trans hL hLa), fresh _ (Nat.le_of_lt (Nat.lt_trans hL hLa))⟩, N'⟩
  show OwitIt (Mo w) A Q E (.ref h₁.objs.size) _
  unfold OwitIt
  refine wpAny_specialOf ⟨_, hga, rfl⟩ slot_gen_next.lookup ?_
  refine k h₁.objs.size s.heap.objs.size [(s.heap.objs.size, oNs), (h₁.objs.size, genObj s.gens.size gx gy), (p, instObj 292 dp), (dp, pathD x1 x2 t1 t2 l hs n), (l, listOf (items row) n1)] s.gens.size gx gy h' _ tk hL hLa hlt F' ?_ ?_ ?_ ?_
  · refine List.forall_mem_append.mpr ⟨?_, Na⟩
    exact List.forall_mem_cons.mpr ⟨⟨hk' _ _ hNs, Nat.ne_of_gt hL, fresh _ (Nat.le_of_lt hL)⟩, List.forall_mem_cons.mpr ⟨Na _ (.head _), List.forall_mem_cons.mpr ⟨N' _ h1, List.forall_mem_cons.mpr ⟨N' _ h2, List.forall_mem_cons.mpr ⟨N' _ hm, fun _ h => nomatch h⟩⟩⟩⟩⟩
  · intro A' hh
    refine ⟨_, Array.getElem?_push_size .., fun s'' hk'' ho => ?_⟩
    refine ⟨rfl, ?_⟩
    rw [show row.length = (items row).size from items_size.symm]
    refine gen_start (n1 := n1) (g := s.gens.size) (its := items row) (x := "cert") (gx := gx) (gy := gy) hh rfl rfl rfl rfl rfl rfl hLa (hlt _ hm) (by rw [items_size]; exact hlen) S.X (m := fun y => [(("self" : Str), Value.ref p)].reverse.lookup y) (s := s'') (h₀ := h₀) ⟨by obtain ⟨o, q1, q2, qo, q3⟩ := hns; exact ⟨o, q1, q2, (ho _ (.head _)).trans (by rw [← hNs]; exact qo), q3⟩, hk'', Nat.le_trans F.above (Nat.le_of_lt hL)⟩ rfl
      (List.forall_mem_cons.mpr ⟨⟨ho _ (.tail _ (.head _)), Nat.ne_of_gt hLa, (Na _ (.head _)).2.2⟩, List.forall_mem_cons.mpr ⟨⟨ho _ (.tail _ (.tail _ (.head _))), Nat.ne_of_lt (hlt _ h1), (N' _ h1).2.2⟩, List.forall_mem_cons.mpr ⟨⟨ho _ (.tail _ (.tail _ (.tail _ (.head _)))), Nat.ne_of_lt (hlt _ h2), (N' _ h2).2.2⟩, List.forall_mem_cons.mpr ⟨⟨ho _ (.tail _ (.tail _ (.tail _ (.tail _ (.head _))))), Nat.ne_of_lt (hlt _ hm), (N' _ hm).2.2⟩, fun _ h => nomatch h⟩⟩⟩⟩)
  · intro hb y hy
    rcases Array.mem_push.mp hy with hy | rfl
    · exact hb y hy
    · rfl
  · exact List.forall_mem_cons.mpr ⟨Nat.le_of_lt hLa, List.forall_mem_cons.mpr ⟨Nat.le_refl _, List.forall_mem_cons.mpr ⟨Nat.le_of_lt (Nat.lt_trans (hlt _ h1) hLa), List.forall_mem_cons.mpr ⟨Nat.le_of_lt (Nat.lt_trans (hlt _ h2) hLa), List.forall_mem_cons.mpr ⟨Nat.le_of_lt (Nat.lt_trans (hlt _ hm) hLa), fun _ h => nomatch h⟩⟩⟩⟩⟩

abbrev Rm.ar {A : Around} {fr : List Env} {n : Nat} (_ : Rm A fr n) : Around := A
def tr (o : Option (Array UInt8)) : Bool := match o with | some b => (b.size : Int) != 0 | none => false
def isIss (e d : CD) : Bool := e.sub == d.iss && (if tr e.kid && tr d.aki then decide (e.kid = d.aki) else true)
def small (d : CD) : Prop := (∀ b, d.kid = some b → b.size ≤ 1000) ∧ (∀ b, d.aki = some b → b.size ≤ 1000)

theorem truthy_kv {o : Option (Array UInt8)} {u : Tok} {Q : Bool → Shared → Prop} (ho : ∀ b, o = some b → b.size ≤ 1000) (h : ∀ tk, Q (tr o) { s with toks := tk }) : wpAny (Mo w) A (truthy (kv o u)) Q E s := by
  cases o with
  | none => exact truthy_none (h s.toks)
  | some b => exact truthy_bytes (Nat.le_trans (ho b rfl) (by decide)) (h _)
theorem eq_kv {a b : Option (Array UInt8)} {u v : Tok} (ha : tr a = true) (hb : tr b = true) (h : Q (.bool (decide (a = b))) s) : wpAny (Mo w) A (compareOp .Eq (kv a u) (kv b v)) Q E s := by
  cases a with
  | none => exact absurd ha Bool.false_ne_true
  | some a =>
    cases b with
    | none => exact absurd hb Bool.false_ne_true
    | some b =>
      refine eq_bytes ?_
      have : (a.toList == b.toList) = decide (some a = some b) := by
        rw [Bool.eq_iff_iff, decide_eq_true_iff, beq_iff_eq, Option.some.injEq]
        exact Array.toList_inj
      rw [this]; exact h

theorem find_ok (S : Sx w A₀ base outer env h₀ L mg mb mean loose) (F : Fr h₀ L s.heap m) (N : News h₀ L s.heap ν) (hm : (l, listOf (items row) n1) ∈ ν) (P : PathIn ν p l hs) (hlen : row.length ≤ 100)
    (HC : ∀ e ∈ row, CertIn ν e.1 e.2) (C : CertIn ν c d) (Hs : ∀ e ∈ row, small e.2) (Cs : small d) (r : Rm A (env :: outer) 6)
    (kf : ∀ (i : Nat) e h' G tk, row[i]? = some e → isIss e.2 d = true → (∀ (j : Nat) e', j < i → row[j]? = some e' → isIss e'.2 d = false) → Fr h₀ L h' m → News h₀ L h' ν → Bare s.gens G → R (.ok (.ret (.ref e.1))) { s with heap := h', gens := G, toks := tk })
    (kn : (∀ (j : Nat) e', row[j]? = some e' → isIss e'.2 d = false) → ∀ g' e te vs h' G tk, Fr h₀ L g' m → g'.UpToSlots h' → RaisedK base (env :: outer) e (.type "LookupError") te vs ν h' → NoCtx e h' → Bare s.gens G → R (.error (.ref e)) { s with heap := h', gens := G, toks := tk }) :
    codeAny (Mo w) A (.call (.ref 219) ⟨[.ref p, .ref c], []⟩) R s := by
  refine call_def (binds := [("self", .ref p), ("cert", .ref c)]) S F N r (by k_is) (by k_is) (BindsTo.of_eq rfl) (locs rfl) rfl rfl rfl (by decide) ?_
  intro g L' h₁ FG F' N' S' r'
  refine gen_both fun Q0 E0 hQ0 hE0 => ?_
  walk_at "st"
  refine wpAny_For ?_
  walk_at "st"
  refine iter_path S' F' N' hm P hlen r'.le fun a Lg own gn gx gy h₂ G₂ tk hL hLa hlt F₂ N₂ GS hb _ => ?_
  have hν : ∀ q ∈ ((a, genObj gn gx gy) :: ν), q.1 ≠ Lg ∧ (q.1 ≤ a ∨ ¬ isIt q.2) := List.forall_mem_cons.mpr ⟨⟨Nat.ne_of_gt hLa, .inl (Nat.le_refl _)⟩, fun q hq => ⟨Nat.ne_of_lt (hlt q hq), .inl (Nat.le_of_lt (Nat.lt_trans (hlt q hq) hLa))⟩⟩
  refine codeAny_forLoop (fun k s₁ => ∃ own h G tk mm, s₁ = { s with heap := h, gens := G, toks := tk } ∧ Fr g L' h mm ∧ mm "self" = some (.ref p) ∧ mm "cert" = some (.ref c) ∧ News g L' h (own ++ ((a, genObj gn gx gy) :: ν)) ∧ GenSt w r'.ar.in1 g a Lg l (items row) n1 gn k own G ∧ Bare s.gens G ∧ k ≤ row.length ∧ ∀ (j : Nat) e', j < row.length - k → row[j]? = some e' → isIss e'.2 d = false) (fun k s₁ hI => ?_) row.length
    ⟨own, h₂, G₂, tk, _, rfl, F₂, rfl, rfl, N₂, GS _ r'.hh, hb, Nat.le_refl _, fun j e' hj => by omega⟩
  obtain ⟨own, h₃, G₃, tk₃, mm, rfl, F₃, ms, mc, N₃, GS₃, hb₃, hkl, hno⟩ := hI
  refine gen_next r'.hh r'.room S'.T.nolimit F₃ N₃ hν hL hLa (.head _) (.tail _ hm) (.inl (Nat.le_of_lt (Nat.lt_trans (hlt _ hm) hLa))) GS₃ (fun k' v own' h₄ G₄ tk₄ ek hk' hit F₄ N₄ GS₄ hb₄ _ => ?_) fun ek h₄ G₄ tk₄ F₄ N₄ hb₄ => ?_
  · refine wpAny_assign_Name (stN F₄ N₄ fun h₅ F₅ N₅ => ?_)
    obtain ⟨e, he⟩ := at_row (row := row) (row.length - 1 - k') (by omega)
    have hv : v = .ref e.1 := by rw [items_size] at hit; rw [items_get he] at hit; exact (Option.some.inj hit).symm
    subst hv
    have ms' : (fun y => if y = ("entry" : Str) then some (Value.ref e.1) else mm y) "self" = some (.ref p) := ms
    have mc' : (fun y => if y = ("entry" : Str) then some (Value.ref e.1) else mm y) "cert" = some (.ref c) := mc
    generalize emm : (fun y => if y = ("entry" : Str) then some (Value.ref e.1) else mm y) = mm' at F₅ ms' mc'
    have me' : mm' "entry" = some (.ref e.1) := by rw [← emm]; rfl
    have hem := List.mem_of_getElem? he
    have Ce : CertIn (own' ++ ((a, genObj gn gx gy) :: ν)) e.1 e.2 := (HC e hem).mono fun q hq => List.mem_append_right _ (.tail _ hq)
    have Cc : CertIn (own' ++ ((a, genObj gn gx gy) :: ν)) c d := C.mono fun q hq => List.mem_append_right _ (.tail _ hq)
    refine gen_post fun Q' hQ => ?_
    walk_at "st"
    walk_at "st"
    walk_at "st"
    refine Attribute_Name_ (ld F₅ me' ?_)
    refine get_sub S' F₅ N₅ Ce fun a1 tk H1 => ?_
    refine Attribute_Name_ (ld F₅ mc' ?_)
    refine get_iss S' F₅ N₅ Cc fun a2 tk H2 => ?_
    refine name_eq S' F₅ N₅ H1 H2 r'.le fun h₆ tk F₆ N₆ => ?_
    walk_at "st"
    have eb : Bare s.gens G₄ := fun h => hb₄ (hb₃ h)
    have cont : ∀ h tk, Fr g L' h mm' → News g L' h (own' ++ ((a, genObj gn gx gy) :: ν)) → isIss e.2 d = false → ∃ m', m' < k ∧ ∃ own h' G tk' mm, ({ s with heap := h, gens := G₄, toks := tk } : Shared) = { s with heap := h', gens := G, toks := tk' } ∧ Fr g L' h' mm ∧ mm "self" = some (.ref p) ∧ mm "cert" = some (.ref c) ∧ News g L' h' (own ++ ((a, genObj gn gx gy) :: ν)) ∧ GenSt w r'.ar.in1 g a Lg l (items row) n1 gn m' own G ∧ Bare s.gens G ∧ m' ≤ row.length ∧ ∀ (j : Nat) e', j < row.length - m' → row[j]? = some e' → isIss e'.2 d = false := fun h tk F N hx => by
      refine ⟨k', by omega, own', h, G₄, tk, mm', rfl, F, ms', mc', N, GS₄, eb, by omega, fun j e' hj hje => ?_⟩
      by_cases hjk : j < row.length - k
      · exact hno j e' hjk hje
      · have : j = row.length - 1 - k' := by omega
        subst this
        rw [he] at hje
        cases hje
        exact hx
    have found : ∀ h tk, Fr g L' h mm' → News g L' h (own' ++ ((a, genObj gn gx gy) :: ν)) → isIss e.2 d = true → LeaveK h₀ L m g R (.ref e.1) { s with heap := h, gens := G₄, toks := tk } := fun h tk F N hx => by
      refine leaveK_ F (news_sub N fun q hq => List.mem_append_right _ (.tail _ hq)) fun F₈ N₈ => ?_
      exact kf _ e _ G₄ tk he hx (fun j e' hj hje => hno j e' (by omega) hje) F₈ N₈ eb
    cases hsub : (e.2.sub == d.iss) with
    | false =>
      refine ite_neg Bool.false_ne_true ?_
      repeat walk_at "st"
      exact hQ _ _ (cont _ _ F₆ N₆ (by unfold isIss; rw [hsub]; rfl))
    | true =>
      refine ite_pos rfl ?_
      walk_at "st"
      walk_at "st"
      walk_at "st"
      walk_at "st"
      refine Attribute_Name_ (ld F₆ me' ?_)
      refine get_kid S' F₆ N₆ Ce fun u1 tk => ?_
      refine truthy_kv (Hs e hem).1 fun tk => ?_
      cases hk1 : tr e.2.kid with
      | false =>
        refine ite_neg Bool.false_ne_true ?_
        refine ite_neg Bool.false_ne_true ?_
        walk_at "st"
        walk_at "st"
        refine ld F₆ me' ?_
        exact hQ _ _ (hQ0 _ _ (found _ _ F₆ N₆ (by unfold isIss; rw [hsub, hk1]; rfl)))
      | true =>
        refine ite_pos rfl ?_
        walk_at "st"
        walk_at "st"
        refine Attribute_Name_ (ld F₆ mc' ?_)
        refine get_aki S' F₆ N₆ Cc fun u2 tk => ?_
        refine truthy_kv Cs.2 fun tk => ?_
        cases hk2 : tr d.aki with
        | false =>
          refine ite_neg Bool.false_ne_true ?_
          refine ite_neg Bool.false_ne_true ?_
          walk_at "st"
          walk_at "st"
          refine ld F₆ me' ?_
          exact hQ _ _ (hQ0 _ _ (found _ _ F₆ N₆ (by unfold isIss; rw [hsub, hk1, hk2]; rfl)))
        | true =>
          refine ite_pos rfl ?_
          walk_at "st"
          refine ite_pos rfl ?_
          walk_at "st"
          walk_at "st"
          walk_at "st"
          refine Attribute_Name_ (ld F₆ me' ?_)
          refine get_kid S' F₆ N₆ Ce fun u3 tk => ?_
          refine Attribute_Name_ (ld F₆ mc' ?_)
          refine get_aki S' F₆ N₆ Cc fun u4 tk => ?_
          refine eq_kv hk1 hk2 ?_
          walk_at "st"
          have hiss : isIss e.2 d = decide (e.2.kid = d.aki) := by unfold isIss; rw [hsub, hk1, hk2]; rfl
          cases hq : decide (e.2.kid = d.aki) with
          | true =>
            refine ite_pos rfl ?_
            walk_at "st"
            walk_at "st"
            refine ld F₆ me' ?_
            exact hQ _ _ (hQ0 _ _ (found _ _ F₆ N₆ (hiss.trans hq)))
          | false =>
            refine ite_neg Bool.false_ne_true ?_
            repeat walk_at "st"
            exact hQ _ _ (cont _ _ F₆ N₆ (hiss.trans hq))
  · have eb : Bare s.gens G₄ := fun h => hb₄ (hb₃ h)
    walk_at "st"
    walk_at "st"
    refine Raise_madeB PySem.F.excCall_LookupError PySem.F.excRaise_LookupError r'.hh (name_B F₄ S'.X (topRead_of S'.T) (by k_is) (by boot_by_name) (by decide) ⟨rfl, ?_⟩)
    repeat walk_at "st"
    refine ⟨by show (1 : Nat) ≤ sizeLine; rw [sizeLine_eq]; omega, fun h' e hx => ?_⟩
    refine hE0 _ _ ?_
    exact leave_raiseC S'.B (Heap.MadeExc.of hx) F₄ (news_sub N₄ fun q hq => .tail _ hq) fun h'' te Rk U Cx => kn (fun j e' hje => hno j e' (by have := (List.getElem?_eq_some_iff.mp hje).1; omega) hje) g _ te _ _ G₄ _ FG U Rk Cx eb
theorem nextOf_genQ {g k : Nat} {gs : GenState} {P : Nat → Shared → Shared → Prop} {Y : Protocol} {Q : Value → Shared → Prop} (hh : A.handled = none)
    (hlim : s.heap.NoLimit) (hroom : A.depth < recursionLimit) (hg : s.heap.IsGen a g) (hgs : s.gens[g]? = some gs)
    (hgo : gs.Goes (Mo w) A.in1 (fun n s₀ r s₁ => r = .ok (.ret .none) ∧ P n s₀ s₁) Y k (.send .none) (s.setGen g .running))
    (hY : ∀ v s₁ gs', gs'.bare = true → Y (k - 1) (s.setGen g .running) v s₁ (fun r' s'' => match k with
        | 0 => False
        | k' + 1 => gs'.Goes (Mo w) A.in1 (fun n s₀ r s₁ => r = .ok (.ret .none) ∧ P n s₀ s₁) Y k' r' s'') → Q v (s₁.setGen g gs'))
    (hP : ∀ s₁, P k (s.setGen g .running) s₁ → ∀ h', (∀ b o, s₁.heap.get? b = some o → h'.get? b = some o) → ∀ e, (∃ o, h'.get? e = some o ∧ o.cls = .type "StopIteration") → E (.ref e) { s₁.setGen g .finished with heap := h' }) :
    wpAny (Mo w) A (Builtin.SmallTypes.nextOf (.ref a)) Q E s := by
  unfold Builtin.SmallTypes.nextOf
  refine wpAny_bind (wpAny_callSpecial?_slot (name := Str.ofString "__next__") hg.typeIs slot_gen_next
    (wpAny_call_entry slot_gen_next hg.typeIs entry_gen_next ?_ (args_gen_next _)))
  show wpAny _ A.in1 (Builtin.Generator.genWake (.ref a) (.send .none)) _ _ s
  unfold Builtin.Generator.genWake
  refine wpAny_bind (wpAny_holding (wpAny_genNumber hg (wpAny_bind (wpAny_genState hgs ?_))))
  cases gs with
  | running => exact hgo.elim
  | finished => exact hgo.elim
  | _ =>
    refine wpAny_bind (wpAny_roomToWake hlim hroom ?_)
    show wpAny _ A.in1 (.resume g (.send .none) [] _) _ _ s
    refine wpAny_resumeQ hgs hgo (fun x s₁ hx => ?_) (fun v s₁ gs' hb hv => wpAny_pure ⟨v, rfl, wpAny_pure (hY v s₁ gs' hb hv)⟩)
    obtain ⟨rfl, hp⟩ := hx
    show wpAny _ A.in1 (newExc (.type "StopIteration") [] >>= _) _ _ _
    refine wpAny_bind ?_
    simp only [newExc, newTuple]
    refine wpAny_bind (wpAny_newObj_type ?_ (by size_fits))
    refine wpAny_bind (m := firstArgMember _ _) (wpAny_of_eq (a := Value.none) (by first | rfl | (simp only [firstArgMember]; rfl)) ?_)
    refine wpAny_newObj_type ?_ (by size_fits)
    simp only [raiseNew]
    refine wpAny_bind (wpAny_bind (wpAny_handled ?_))
    rw [show A.in1.handled = none from hh]
    refine wpAny_throw ?_
    exact hP s₁ hp _ (fun b o hb => Heap.get?_push_of_some _ (Heap.get?_push_of_some _ hb)) _ ⟨_, Heap.get?_push_size _ rfl, rfl⟩

theorem gen_nextOf {g k Lg : Nat} {gx gy : Value} {its : Array Value} {own : List (Addr × Obj)} {Q : Value → Shared → Prop} (hh : A.handled = none) (hroom : A.depth < recursionLimit) (hlim : h₀.NoLimit) (F : Fr h₀ L s.heap m)
    (N : News h₀ L s.heap (own ++ ν)) (hν : ∀ q ∈ ν, q.1 ≠ Lg ∧ (q.1 ≤ a ∨ ¬ isIt q.2)) (hL : L < Lg) (hLa : Lg < a) (ha : (a, genObj g gx gy) ∈ ν) (hl : (l, listOf its n1) ∈ ν) (hla : l ≤ a ∨ isIt (listOf its n1)) (G : GenSt w A.in1 h₀ a Lg l its n1 g k own s.gens)
    (some_ : ∀ k' v own' h' gens' tk, k = k' + 1 → k' < its.size → its[its.size - 1 - k']? = some v → Fr h₀ L h' m → News h₀ L h' (own' ++ ν) → GenSt w A.in1 h₀ a Lg l its n1 g k' own' gens' → Bare s.gens gens' → (∀ q ∈ own', q.1 ≤ a ∨ isIt q.2) → Q v { s with heap := h', gens := gens', toks := tk })
    (none_ : k = 0 → ∀ h' gens' tk, Fr h₀ L h' m → News h₀ L h' ν → Bare s.gens gens' → ∀ e, (∃ o, h'.get? e = some o ∧ o.cls = .type "StopIteration") → E (.ref e) { s with heap := h', gens := gens', toks := tk }) :
    wpAny (Mo w) A (Builtin.SmallTypes.nextOf (.ref a)) Q E s := by
  obtain ⟨gs, hgs, hgo⟩ := G
  have Nν : News h₀ L s.heap ν := news_sub N fun q hq => List.mem_append_right _ hq
  have keepν : ∀ {h' : Heap}, Since a Lg s.heap h' → Fr h₀ L h' m ∧ News h₀ L h' ν := fun {h'} hs => by
    refine ⟨⟨?_, fun b o e => ?_, F.above⟩, fun q hq => ⟨hs q.1 q.2 (hν q hq).1 (Nν q hq).1 (hν q hq).2, (Nν q hq).2⟩⟩
    · obtain ⟨o, q1, q2, qo, q3⟩ := F.ns
      exact ⟨o, q1, q2, hs L o (Nat.ne_of_lt hL) qo (.inl (Nat.le_of_lt (Nat.lt_trans hL hLa))), q3⟩
    · have hb : b < L := Nat.lt_of_lt_of_le (Heap.lt_size e) F.above
      exact hs b o (Nat.ne_of_lt (Nat.lt_trans hb hL)) (F.keep b o e) (.inl (Nat.le_of_lt (Nat.lt_trans hb (Nat.lt_trans hL hLa))))
  have fresh : ∀ b, L ≤ b → h₀.get? b = none := fun b hb => by
    cases q : h₀.get? b with
    | none => rfl
    | some o => exact absurd (Nat.lt_of_lt_of_le (Heap.lt_size q) (Nat.le_trans F.above hb)) (Nat.lt_irrefl _)
  have hbare : ∀ gs' : GenState, gs'.bare = true → ∀ s₁ : Shared, s₁.gens = (s.setGen g .running).gens → Bare s.gens (s₁.setGen g gs').gens := fun gs' hb s₁ e => by
    have x : GenOnlyQ g s.gens (s₁.setGen g gs').gens := by
      refine GenOnlyQ.of (y := gs') ((GenOnly.setGen s g .running).trans ?_) (setGen_self (gs := .running) (by rw [e]; exact setGen_self hgs)) hb
      rw [← e]; exact GenOnly.setGen s₁ g gs'
    exact fun h => x.bare h
  refine nextOf_genQ (P := fun n s₀ s₁ => n = 0 ∧ SinceS a Lg s₀ s₁) hh (hlim.keeps F.keep) hroom ⟨_, _, _, (Nν _ ha).1, rfl, rfl, rfl⟩ hgs (hgo (s.setGen g .running) F.keep fun q hq => (N q (List.mem_append_left _ hq)).1) (fun v s₁ gs' hb hv => ?_) fun s₁ hp h' hk e he => ?_
  · obtain ⟨hk, hit, ⟨h₁, tk, rfl, hs⟩, it, oIt, oNs, hai, hoc, e1, e2, kap⟩ := hv
    cases k with
    | zero => exact (kap s (fun b o e => F.keep b o e) (by exact False.elim (kap ⟨h₁, s.gens, s.drawn, tk, s.os⟩ (fun b o e => (keepν hs).1.keep b o e) e1 e2 ((keepν hs).2 _ hl).1)) (by exact False.elim (kap ⟨h₁, s.gens, s.drawn, tk, s.os⟩ (fun b o e => (keepν hs).1.keep b o e) e1 e2 ((keepν hs).2 _ hl).1)) (Nν _ hl).1).elim
    | succ k' =>
      obtain ⟨F', N'⟩ := keepν hs
      refine some_ k' v [(it, oIt), (Lg, oNs), (l, listOf its n1)] h₁ _ tk rfl hk hit F' ?_ ⟨gs', setGen_self (gs := .running) (setGen_self hgs), fun s'' hk'' ho => ?_⟩ (hbare gs' hb _ rfl) (List.forall_mem_cons.mpr ⟨.inr hoc, List.forall_mem_cons.mpr ⟨.inl (Nat.le_of_lt hLa), List.forall_mem_cons.mpr ⟨hla, fun _ h => nomatch h⟩⟩⟩)
      · refine List.forall_mem_append.mpr ⟨?_, N'⟩
        refine List.forall_mem_cons.mpr ⟨⟨e1, Nat.ne_of_gt (Nat.lt_trans hL (Nat.lt_trans hLa hai)), fresh it (Nat.le_of_lt (Nat.lt_trans hL (Nat.lt_trans hLa hai)))⟩, List.forall_mem_cons.mpr ⟨⟨e2, Nat.ne_of_gt hL, fresh Lg (Nat.le_of_lt hL)⟩, List.forall_mem_cons.mpr ⟨N' _ hl, fun _ h => nomatch h⟩⟩⟩
      · exact kap s'' hk'' (ho _ (.head _)) (ho _ (.tail _ (.head _))) (ho _ (.tail _ (.tail _ (.head _))))
  · obtain ⟨hk0, h₁, tk, rfl, hs⟩ := hp
    obtain ⟨F', N'⟩ := keepν hs
    exact none_ hk0 h' _ tk ⟨by obtain ⟨o, q1, q2, qo, q3⟩ := F'.ns; exact ⟨o, q1, q2, hk _ _ qo, q3⟩, fun b o e => hk _ _ (F'.keep b o e), F'.above⟩ (fun q hq => ⟨hk _ _ (N' q hq).1, (N' q hq).2⟩) (hbare _ rfl _ rfl) e he

theorem meets_enum {p : Addr} : MeetsIn (PySem.Challenge.rw_je0005_01.row.prog) w (Builtin.«enumerate.__new__» ⟨[.type "enumerate", .ref p], []⟩) (fun A R s => wpAny (Mo w) A.in1 (pyIter (.ref p)) (fun it s₁ => s₁.TypeIs it "generator" ∧
    R (.ok (.ret (.ref s₁.heap.objs.size))) { s₁ with heap := s₁.heap.push { cls := .type "enumerate", data := .fields #[.none, .bool false, it, rawInt 0, .none, .none] } }) (fun e s' => R (.error e) s') s) :=
  .of_wp fun A R s h => by
    obtain ⟨hp, g, d, tk, os⟩ := s
    have hsub := sub_enumerate
    have hI : ∀ {Q : Value → Shared → Prop}, (∀ it s₁, (s₁.TypeIs it "generator" ∧ R (.ok (.ret (.ref s₁.heap.objs.size))) { s₁ with heap := s₁.heap.push { cls := .type "enumerate", data := .fields #[.none, .bool false, it, rawInt 0, .none, .none] } }) → Q it s₁) →
        wpAny (Mo w) A.in1 (pyIter (.ref p)) Q (fun e s' => R (.error e) s') ⟨hp, g, d, tk, os⟩ := fun q => wpAny_mono h q fun _ _ x => x
    wp_walk
    refine wpAny_stack_any fun st => wpAny_pure ?_
    split
    · rename_i c _ _ _ _ _
      cases (c == Value.type "enumerate")
      · wp_walk using hI
        rintro it s₁ ⟨_, h₁⟩
        wp_walk
        exact ⟨_, rfl, h₁⟩
      · wp_walk using hI
        rintro it s₁ ⟨_, h₁⟩
        wp_walk
        exact ⟨_, rfl, h₁⟩
    · wp_walk using hI
      rintro it s₁ ⟨_, h₁⟩
      wp_walk
      exact ⟨_, rfl, h₁⟩

theorem call_enum (h : wpAny (Mo w) A.in1.in1 (pyIter (.ref p)) (fun it s₁ => s₁.TypeIs it "generator" ∧ Q (.ref s₁.heap.objs.size) { s₁ with heap := s₁.heap.push { cls := .type "enumerate", data := .fields #[.none, .bool false, it, rawInt 0, .none, .none] } }) E s) :
    wpAny (Mo w) A (call (.type "enumerate") [.ref p]) Q E s := by
  refine callType_newIn F.called_enumerate (by decide) (F.typeCall_enumerate_1 _) (F.newCall_enumerate_1 _) (fun obj => F.args_object_init_2 obj _) F.entry_enumerate_new meets_enum ?_
  refine wpAny_mono h (fun it s₁ h₁ => ⟨h₁.1, ?_⟩) fun _ _ x => x
  exact ⟨⟨_, Heap.get?_push_size _ rfl, rfl⟩, h₁.2⟩
theorem enum_step {e it : Addr} {i : Nat} {old x : Value} {Q : Value → Shared → Prop} (he : IsEnum s.heap e it i old)
    (hQ : ∀ h' tk u, IsEnumOut h' e it ((i : Int) + 1) x s.heap.objs.size → h'.get? s.heap.objs.size = some (tupObj (.int i u) x) → h'.objs.size = s.heap.objs.size + 1 →
      (∀ b o, b ≠ e → s.heap.get? b = some o → h'.get? b = some o) → Q (.ref s.heap.objs.size) { s with heap := h', toks := tk }) :
    wpAny (Mo w) A (do
      let .int i _ ← field (.ref e) 3 | unsupported "internal:enumerate.__next__"
      let given ← field (.ref e) 4
      let index ← if given == .none then mkInt i else pure given
      setField (.ref e) 3 (rawInt (i + 1)); setField (.ref e) 4 .none
      let result ← newTuple [index, x]
      if ← Builtin.SmallTypes.ownedTupleIsFree (.ref e) then
        rule "enumerate.__next__.owned-tuple-again"
        let old ← field (.ref e) 5
        setField (.ref e) 5 x
        Builtin.SmallTypes.ownedTupleHandOut (.ref e) result
        letGo [old] [result]
      ret result) (fun fin s' => ∃ v, fin = .done (.ret v) ∧ Q v s') E s := by
  obtain ⟨h₁, g, d, tk, os⟩ := s
  have he₁ : IsEnum h₁ e it i old := he
  refine wpAny_bind (wpAny_field he₁ rfl (x := rawInt i) rfl ?_)
  show wpAny _ _ (field (.ref e) 4 >>= _) _ _ ⟨h₁, g, d, tk, os⟩
  refine wpAny_bind (wpAny_field he₁ rfl (x := .none) rfl ?_)
  show wpAny _ _ (mkInt i >>= _) _ _ ⟨h₁, g, d, tk, os⟩
  refine wpAny_bind (wpAny_mkInt ?_)
  show wpAny _ _ (setField (.ref e) 3 (rawInt ((i : Int) + 1)) >>= _) _ _ ⟨h₁, g, d, tk + 1, os⟩
  refine wpAny_bind (wpAny_setField_rec he₁ (by simp) fun h₂ he₂ hs₂ => ?_)
  replace hs₂ : Heap.SameBut e h₁ h₂ := hs₂
  replace he₂ : IsEnum h₂ e it ((i : Int) + 1) old := he₂
  show wpAny _ _ (setField (.ref e) 4 .none >>= _) _ _ ⟨h₂, g, d, tk + 1, os⟩
  refine wpAny_bind (wpAny_setField_rec he₂ (by simp) fun h₃ he₃ hs₃ => ?_)
  replace hs₃ : Heap.SameBut e h₂ h₃ := hs₃
  replace he₃ : IsEnum h₃ e it ((i : Int) + 1) old := he₃
  show wpAny _ _ (newTuple [.int i tk, x] >>= _) _ _ ⟨h₃, g, d, tk + 1, os⟩
  refine wpAny_bind (wpAny_newTuple ?_)
  have he₄ : IsEnum (h₃.push (tupObj (.int i tk) x)) e it ((i : Int) + 1) old := Heap.get?_push_of_some _ he₃
  have hsz : h₃.objs.size = h₁.objs.size := by rw [hs₃.1, hs₂.1]
  have hel : e < h₁.objs.size := Heap.lt_size he₁
  have ht₄ : (h₃.push (tupObj (.int i tk) x)).get? h₁.objs.size = some (tupObj (.int i tk) x) := by rw [← hsz]; exact Heap.get?_push_size _ rfl
  have hz₄ : (h₃.push (tupObj (.int i tk) x)).objs.size = h₁.objs.size + 1 := by rw [Heap.size_push, hsz]
  have hk₄ : ∀ b o, b ≠ e → h₁.get? b = some o → (h₃.push (tupObj (.int i tk) x)).get? b = some o := fun b o hbe hb =>
    Heap.get?_push_of_some _ (hs₃.extBut b o hbe (hs₂.extBut b o hbe hb))
  show wpAny _ _ (Builtin.SmallTypes.ownedTupleIsFree (.ref e) >>= _) _ _ ⟨h₃.push (tupObj (.int i tk) x), g, d, tk + 1, os⟩
  rw [hsz]
  generalize h₃.push (tupObj (.int i tk) x) = h₄ at he₄ ht₄ hz₄ hk₄
  refine wpAny_bind ?_
  unfold Builtin.SmallTypes.ownedTupleIsFree
  refine wpAny_bind (wpAny_field he₄ rfl (x := .none) rfl (wpAny_pure ?_))
  simp only [if_true]
  refine wpAny_bind (wpAny_rule ?_)
  refine wpAny_bind (wpAny_field he₄ rfl (x := old) rfl ?_)
  refine wpAny_bind (wpAny_setField_rec he₄ (by simp) fun h₅ he₅ hs₅ => ?_)
  replace hs₅ : Heap.SameBut e h₄ h₅ := hs₅
  replace he₅ : IsEnum h₅ e it ((i : Int) + 1) x := he₅
  show wpAny _ _ (Builtin.SmallTypes.ownedTupleHandOut (.ref e) (.ref h₁.objs.size) >>= _) _ _ ⟨h₅, g, d, tk + 1, os⟩
  refine wpAny_bind ?_
  unfold Builtin.SmallTypes.ownedTupleHandOut
  refine wpAny_bind (wpAny_setField_rec he₅ (by simp) fun h₆ he₆ hs₆ => ?_)
  replace hs₆ : Heap.SameBut e h₅ h₆ := hs₆
  replace he₆ : IsEnumOut h₆ e it ((i : Int) + 1) x h₁.objs.size := he₆
  refine wpAny_setField_rec he₆ (by simp) fun h₇ he₇ hs₇ => ?_
  replace hs₇ : Heap.SameBut e h₆ h₇ := hs₇
  replace he₇ : IsEnumOut h₇ e it ((i : Int) + 1) x h₁.objs.size := he₇
  refine wpAny_bind (wpAny_letGo (wpAny_pure ⟨_, rfl, hQ h₇ (tk + 1) tk he₇ ?_ ?_ ?_⟩))
  · exact hs₇.extBut _ _ (Nat.ne_of_gt hel) (hs₆.extBut _ _ (Nat.ne_of_gt hel) (hs₅.extBut _ _ (Nat.ne_of_gt hel) ht₄))
  · show h₇.objs.size = h₁.objs.size + 1
    rw [hs₇.1, hs₆.1, hs₅.1, hz₄]
  · exact fun b o hbe hb => hs₇.extBut b o hbe (hs₆.extBut b o hbe (hs₅.extBut b o hbe (hk₄ b o hbe hb)))

theorem enum_next {e it : Addr} {i : Nat} {old : Value} {Q : Option Value → Shared → Prop} (he : IsEnum s.heap e it i old)
    (h : wpAny (Mo w) A.in1 (Builtin.SmallTypes.nextOf (.ref it)) (fun x s₁ => IsEnum s₁.heap e it i old ∧ ∀ h' tk u, IsEnumOut h' e it ((i : Int) + 1) x s₁.heap.objs.size → h'.get? s₁.heap.objs.size = some (tupObj (.int i u) x) →
      h'.objs.size = s₁.heap.objs.size + 1 → (∀ b o, b ≠ e → s₁.heap.get? b = some o → h'.get? b = some o) → Q (some (.ref s₁.heap.objs.size)) { s₁ with heap := h', toks := tk }) (fun x s₁ => s₁.TypeIs x "StopIteration" ∧ Q none s₁) s) :
    wpAny (Mo w) A (pyNext (.ref e)) Q E s := by
  have hT : s.TypeIs (.ref e) "enumerate" := ⟨_, he, rfl⟩
  unfold pyNext
  refine wpAny_bind (wpAny_attempt (wpAny_callSpecial?_slot (name := Str.ofString "__next__") hT F.slot_enumerate_next
    (wpAny_call_entry F.slot_enumerate_next hT F.entry_enumerate_next ?_ (F.args_enumerate_next_1 _))))
  show wpAny _ _ (field (.ref e) 2 >>= _) _ _ _
  refine wpAny_bind (wpAny_field he rfl (x := .ref it) rfl ?_)
  refine wpAny_bind (wpAny_mono h (fun x s₁ h₁ => ?_) fun x s₁ h₁ => ?_)
  · exact enum_step h₁.1 fun h' tk u a b c d => wpAny_pure (h₁.2 h' tk u a b c d)
  · refine wpAny_bind (wpAny_isInstance (T := "StopIteration") (b := true) h₁.1 isSubtype_stop ?_)
    exact wpAny_pure h₁.2
abbrev enumO (a : Addr) (i : Int) (old : Value) : Obj := { cls := .type "enumerate", dict := none, data := .fields #[.none, .bool false, .ref a, rawInt i, .none, old], slots := #[] }

theorem not_it {a : Addr} {i : Int} {old : Value} : ¬ isIt (enumO a i old) := by
  rintro ⟨l, j, e⟩
  injection e with e
  have := congrArg Array.size e
  simp at this

theorem enum_turn {nm xi xv : Str} {pi pv pt : Pos} {kx : Nat} {scope : Scope} {f : Addr} {cd : Value} {g k Lg e i : Nat} {gx gy old : Value} {its : Array Value} {own : List (Addr × Obj)} {QS : Unit → Shared → Prop} {QN : Shared → Prop} (hh : A.handled = none) (hroom : A.depth < recursionLimit) (hlim : h₀.NoLimit)
    (hk : scope.kind = .function) (hi : (envOf nm scope L f cd).kindOf xi = some .local) (hv : (envOf nm scope L f cd).kindOf xv = some .local) (F : Fr h₀ L s.heap m)
    (N : News h₀ L s.heap (own ++ ((e, enumO a i old) :: (a, genObj g gx gy) :: ν))) (hν : ∀ q ∈ ν, q.1 < Lg) (hL : L < Lg) (hLa : Lg < a) (hae : a < e) (hl : (l, listOf its n1) ∈ ν) (G : GenSt w A.in1.in1 h₀ a Lg l its n1 g k own s.gens)
    (some_ : ∀ k' v own' h' gens' tk u, k = k' + 1 → k' < its.size → its[its.size - 1 - k']? = some v → Fr h₀ L h' (fun z => if z = xv then some v else if z = xi then some (.int i u) else m z) → News h₀ L h' (own' ++ ((e, enumO a ((i : Int) + 1) v) :: (a, genObj g gx gy) :: ν)) →
      GenSt w A.in1.in1 h₀ a Lg l its n1 g k' own' gens' → Bare s.gens gens' → (∀ q ∈ own', q.1 ≤ a ∨ isIt q.2) → QS () { s with heap := h', gens := gens', toks := tk })
    (none_ : k = 0 → ∀ h' gens' tk, Fr h₀ L h' m → News h₀ L h' ν → Bare s.gens gens' → QN { s with heap := h', gens := gens', toks := tk }) :
    wpAny (Mo w) A (pyNext (.ref e)) (fun r s₁ => match r with
      | none => QN s₁
      | some v => wpAny (Mo w) A (letOwnedTupleGo (.Tuple [.Name xi pi, .Name xv pv] kx pt) (.ref e) v) (fun _ s₁' => wpAny (Mo w) A (assign (.Tuple [.Name xi pi, .Name xv pv] kx pt) (envOf nm scope L f cd) v) QS E s₁') E s₁) E s := by
  have he := (N _ (List.mem_append_right _ (.head _))).1
  have hν₂ : ∀ q ∈ ((e, enumO a i old) :: (a, genObj g gx gy) :: ν), q.1 ≠ Lg ∧ (q.1 ≤ a ∨ ¬ isIt q.2) :=
    List.forall_mem_cons.mpr ⟨⟨Nat.ne_of_gt (Nat.lt_trans hLa hae), .inr not_it⟩, List.forall_mem_cons.mpr ⟨⟨Nat.ne_of_gt hLa, .inl (Nat.le_refl _)⟩, fun q hq => ⟨Nat.ne_of_lt (hν q hq), .inl (Nat.le_of_lt (Nat.lt_trans (hν q hq) hLa))⟩⟩⟩
  refine enum_next he (gen_nextOf hh hroom hlim F N hν₂ hL hLa (.tail _ (.head _)) (.tail _ (.tail _ hl)) (.inl (Nat.le_of_lt (Nat.lt_trans (hν _ hl) hLa))) G (fun k' v own' h₁ G₁ tk₁ ek hk' hit F₁ N₁ GS₁ hb₁ ho₁ => ?_) fun ek h₁ G₁ tk₁ F₁ N₁ hb₁ x hx => ?_)
  · refine ⟨(N₁ _ (List.mem_append_right _ (.head _))).1, fun h₂ tk₂ u a1 a2 a3 a4 => ?_⟩
    have hLe : L < e := Nat.lt_trans hL (Nat.lt_trans hLa hae)
    have ne1 : ∀ q ∈ own', q.1 ≠ e := fun q hq eq => by
      have e1 := (N₁ q (List.mem_append_left _ hq)).1
      rw [eq] at e1
      have e2 := (N₁ _ (List.mem_append_right _ (.head _))).1
      rw [e2] at e1
      rcases ho₁ q hq with c | c
      · rw [eq] at c; exact Nat.not_le_of_lt hae c
      · have := (Option.some.inj e1); rw [← this] at c; exact not_it c
    have ne2 : ∀ q ∈ ((a, genObj g gx gy) :: ν), q.1 ≠ e := List.forall_mem_cons.mpr ⟨Nat.ne_of_lt hae, fun q hq => Nat.ne_of_lt (Nat.lt_trans (hν q hq) (Nat.lt_trans hLa hae))⟩
    have eL : L < h₁.objs.size := by obtain ⟨o, _, _, qo, _⟩ := F₁.ns; exact Heap.lt_size qo
    have fresh : ∀ b, L ≤ b → h₀.get? b = none := fun b hb => by
      cases q : h₀.get? b with
      | none => rfl
      | some o => exact absurd (Nat.lt_of_lt_of_le (Heap.lt_size q) (Nat.le_trans F.above hb)) (Nat.lt_irrefl _)
    have F₂ : Fr h₀ L h₂ m := ⟨by obtain ⟨o, q1, q2, qo, q3⟩ := F₁.ns; exact ⟨o, q1, q2, a4 L o (Nat.ne_of_lt hLe) qo, q3⟩, fun b o e' => a4 b o (fun q => by rw [q, fresh e (Nat.le_of_lt hLe)] at e'; cases e') (F₁.keep b o e'), F₁.above⟩
    have N₂ : News h₀ L h₂ ((e, { cls := .type "enumerate", dict := none, data := .fields #[rawInt h₁.objs.size, .bool false, .ref a, rawInt ((i : Int) + 1), .none, v], slots := #[] }) :: (h₁.objs.size, tupObj (.int i u) v) :: own' ++ ((a, genObj g gx gy) :: ν)) := by
      refine List.forall_mem_cons.mpr ⟨⟨a1, Nat.ne_of_gt hLe, fresh e (Nat.le_of_lt hLe)⟩, List.forall_mem_cons.mpr ⟨⟨a2, Nat.ne_of_gt eL, fresh _ (Nat.le_of_lt eL)⟩, List.forall_mem_append.mpr ⟨fun q hq => ⟨a4 _ _ (ne1 q hq) (N₁ q (List.mem_append_left _ hq)).1, (N₁ q (List.mem_append_left _ hq)).2⟩, fun q hq => ⟨a4 _ _ (ne2 q hq) (N₁ q (List.mem_append_right _ (.tail _ hq))).1, (N₁ q (List.mem_append_right _ (.tail _ hq))).2⟩⟩⟩⟩
    refine wpAny_letOwnedTupleGo_enum (s := ⟨h₂, G₁, s.drawn, tk₂, s.os⟩) a1 fun h₃ b1 b2 => ?_
    have te : h₁.objs.size ≠ e := Nat.ne_of_gt (Heap.lt_size (N₁ _ (List.mem_append_right _ (.head _))).1)
    have F₃ : Fr h₀ L h₃ m := F₂.change b2 (Nat.ne_of_gt hLe) (fresh e (Nat.le_of_lt hLe))
    have N₃ : News h₀ L h₃ ((e, enumO a ((i : Int) + 1) v) :: (h₁.objs.size, tupObj (.int i u) v) :: own' ++ ((a, genObj g gx gy) :: ν)) := by
      have keep : ∀ q ∈ ((h₁.objs.size, tupObj (.int i u) v) :: own' ++ ((a, genObj g gx gy) :: ν)), q.1 ≠ e := List.forall_mem_cons.mpr ⟨te, List.forall_mem_append.mpr ⟨ne1, ne2⟩⟩
      refine List.forall_mem_cons.mpr ⟨⟨b1, Nat.ne_of_gt hLe, fresh e (Nat.le_of_lt hLe)⟩, fun q hq => ⟨(b2.2 q.1 (keep q hq)).trans (N₂ q (.tail _ hq)).1, (N₂ q (.tail _ hq)).2⟩⟩
    refine unpackN_ (s := ⟨h₃, G₁, s.drawn, tk₂, s.os⟩) F₃ N₃ ⟨_, (N₃ _ (.tail _ (.head _))).1, rfl, _, rfl⟩ hh rfl rfl fun h₄ F₄ N₄ => ?_
    show wpAny (Mo w) A (assignInOrder [assign (.Name xi pi) (envOf nm scope L f cd), assign (.Name xv pv) (envOf nm scope L f cd)] [.int i u, v]) _ _ _
    refine wpAny_bind (wpAny_holding (wpAny_assign_Name (stN F₄ N₄ (fun h₅ F₅ N₅ => ?_) hk hi)))
    refine wpAny_bind (wpAny_holding (wpAny_assign_Name (stN F₅ N₅ (fun h₆ F₆ N₆ => ?_) hk hv)))
    refine wpAny_pure ?_
    refine some_ k' v own' h₆ G₁ _ u ek hk' hit F₆ ?_ GS₁ hb₁ ho₁
    exact List.forall_mem_append.mpr ⟨fun q hq => N₆ q (.tail _ (.tail _ (List.mem_append_left _ hq))), List.forall_mem_cons.mpr ⟨N₆ _ (.head _), fun q hq => N₆ q (.tail _ (.tail _ (List.mem_append_right _ hq)))⟩⟩
  · exact ⟨hx, none_ ek h₁ G₁ tk₁ F₁ (news_sub N₁ fun q hq => .tail _ (.tail _ hq)) hb₁⟩
section
variable {P : Params}
theorem kPpop : findIn (hd.heap_1 P) (.ref 292) "pop" = some (some (.ref 247)) := by k_is
theorem kPpopF : isFn (hd.heap_1 P) (.ref 247) = true := by k_is
theorem kPpopK : keepIn (hd.heap_1 P) (.ref 247) = true := by k_is
end
def sameMark (e d : CD) : Bool := decide (mark e = mark d)

theorem marks_eq {h : Heap} {t₁ t₂ : Addr} {x y : Str} {i j : Int} {u1 u2 u3 u4 : Tok} (N : News h L s.heap ν) (h1 : (t₁, tupObj (.str x u1) (.int i u2)) ∈ ν) (h2 : (t₂, tupObj (.str y u3) (.int j u4)) ∈ ν) (hu : A.units + 1 < cLine)
    (k : Q (.bool (decide ((x, i) = (y, j)))) s) : wpAny (Mo w) A (compareOp .Eq (.ref t₁) (.ref t₂)) Q E s := by
  refine SeqAt.eq_tupleAt (e := fun q => if q = 0 then x == y else i == j) ⟨_, (N _ h1).1, rfl, _, rfl⟩ ⟨_, (N _ h2).1, rfl, _, rfl⟩ (Nat.lt_of_succ_lt hu) (fun q q1 q2 => ?_) ?_
  · match q, q1, q2 with
    | 0, _, _ => exact SeqAt.EqAt.str_str x u1 y u3
    | 1, _, _ => exact SeqAt.EqAt.int_int i u2 j u4
    | q + 2, q1, _ => exact absurd q1 (by simp)
  · have : ((List.range (min ([Value.str x u1, .int i u2].toArray.size) ([Value.str y u3, .int j u4].toArray.size))).all (fun q => if q = 0 then x == y else i == j) && [Value.str x u1, .int i u2].toArray.size == [Value.str y u3, .int j u4].toArray.size) = decide ((x, i) = (y, j)) := by
      rw [Bool.eq_iff_iff, decide_eq_true_iff]
      simp [List.range_succ, List.range_zero]
    rw [this]; exact k

theorem cut_to (S : Sx w A₀ base outer env h₀ L mg mb mean loose) (F : Fr h₀ L s.heap m) (N : News h₀ L s.heap ((l, listOf (items row) n1) :: (hs, setObj es n2 t) :: ν)) (ofl : ∀ q ∈ ν, q.1 ≠ l) (ofh : ∀ q ∈ ν, q.1 ≠ hs)
    (P : PathIn ν p l hs) (hlen : row.length ≤ 4)
    (HC : ∀ e ∈ row, CertIn ν e.1 e.2) (C : CertIn ν c d) (O : SetOk w ν es t (marks row)) (hnd : (marks row).Nodup) (r : Rm A (env :: outer) 12)
    (kf : ∀ (i : Nat) e ν' n1' es' n2' t' h' G tk, row[i]? = some e → sameMark e.2 d = true → (∀ (j : Nat) e', j < i → row[j]? = some e' → sameMark e'.2 d = false) → (∀ q ∈ ν, q ∈ ν') → (∀ q ∈ ν', q.1 ≠ l) → (∀ q ∈ ν', q.1 ≠ hs) → Fr h₀ L h' m →
      News h₀ L h' ((l, listOf (items (row.take (i + 1))) n1') :: (hs, setObj es' n2' t') :: ν') → SetOk w ν' es' t' (marks (row.take (i + 1))) → Bare s.gens G → R (.ok (.ret (.ref p))) { s with heap := h', gens := G, toks := tk })
    (kn : (∀ (j : Nat) e', row[j]? = some e' → sameMark e'.2 d = false) → ∀ g' e te vs h' G tk, Fr h₀ L g' m → g'.UpToSlots h' → RaisedK base (env :: outer) e (.type "LookupError") te vs ((l, listOf (items row) n1) :: (hs, setObj es n2 t) :: ν) h' → NoCtx e h' → Bare s.gens G → R (.error (.ref e)) { s with heap := h', gens := G, toks := tk }) :
    codeAny (Mo w) A (.call (.ref 226) ⟨[.ref p, .ref c], []⟩) R s := by
  have sub2 : ∀ q ∈ ν, q ∈ ((l, listOf (items row) n1) :: (hs, setObj es n2 t) :: ν) := fun q hq => .tail _ (.tail _ hq)
  refine call_def (binds := [("self", .ref p), ("cert", .ref c)]) S F N r (by k_is) (by k_is) (BindsTo.of_eq rfl) (locs rfl) rfl rfl rfl (by decide) ?_
  intro g L' h₁ FG F' N' S' r'
  refine gen_both fun Q0 E0 hQ0 hE0 => ?_
  generalize eν₀ : ((l, listOf (items row) n1) :: (hs, setObj es n2 t) :: ν) = ν₀ at N' kn
  have sub3 : ∀ q ∈ ν, q ∈ ν₀ := fun q hq => eν₀ ▸ sub2 q hq
  have hm₀ : (l, listOf (items row) n1) ∈ ν₀ := eν₀ ▸ .head _
  repeat walk_at "st"
  refine stN F' N' fun h₂ F₂ N₂ => ?_
  walk_at "st"
  refine wpAny_For ?_
  repeat walk_at "st"
  refine call_enum ?_
  refine iter_path (A := (r'.ar).in1.in1) S' F₂ N₂ hm₀ (P.mono sub3) (by omega) r'.in1.in1.le fun a Lg own gn gx gy h₃ G₃ tk hL hLa hlt F₃ N₃ GS hb _ => ?_
  refine ⟨⟨_, (N₃ _ (List.mem_append_right _ (.head _))).1, rfl⟩, ?_⟩
  have hae : a < h₃.objs.size := Heap.lt_size (N₃ _ (List.mem_append_right _ (.head _))).1
  have Fp := F₃.push (enumO a 0 .none)
  have Np := N₃.push F₃ (enumO a 0 .none)
  refine wpAny_pyIter_enum (e := h₃.objs.size) (it := a) (i := 0) (old := .none) (Np _ (.head _)).1 ?_
  generalize h₃.objs.size = ee at hae Np
  generalize h₃.push (enumO a 0 .none) = h₃' at Fp Np
  have Np' : News g L' h₃' (own ++ ((ee, enumO a ((0 : Nat) : Int) .none) :: (a, genObj gn gx gy) :: ν₀)) := List.forall_mem_append.mpr ⟨fun q hq => Np q (.tail _ (List.mem_append_left _ hq)), List.forall_mem_cons.mpr ⟨Np _ (.head _), fun q hq => Np q (.tail _ (List.mem_append_right _ hq))⟩⟩
  refine codeAny_forLoop_any (fun k s₁ => ∃ own h G tk mm i old, s₁ = { s with heap := h, gens := G, toks := tk } ∧ Fr g L' h mm ∧ mm "self" = some (.ref p) ∧ mm "cert" = some (.ref c) ∧ mm "cert_index" = some .none ∧ News g L' h (own ++ ((ee, enumO a ((i : Nat) : Int) old) :: (a, genObj gn gx gy) :: ν₀)) ∧ GenSt w r'.ar.in1.in1 g a Lg l (items row) n1 gn k own G ∧ Bare s.gens G ∧ k + i = row.length ∧ ∀ (j : Nat) e', j < i → row[j]? = some e' → sameMark e'.2 d = false) (fun k s₁ hI => ?_) row.length
    ⟨own, h₃', G₃, tk, _, 0, .none, rfl, Fp, rfl, rfl, rfl, Np', GS _ r'.hh, hb, rfl, fun j e' hj => by omega⟩
  obtain ⟨own, h₃, G₃, tk₃, mm, i, old, rfl, F₃, ms, mc, mi, N₃, GS₃, hb₃, hkl, hno⟩ := hI
  refine enum_turn r'.hh r'.room S'.T.nolimit rfl rfl rfl F₃ N₃ hlt hL hLa hae hm₀ GS₃ (fun k' v own' h₄ G₄ tk₄ u ek hk' hit F₄ N₄ GS₄ hb₄ _ => ?_) fun ek h₄ G₄ tk₄ F₄ N₄ hb₄ => ?_
  · obtain ⟨e, he⟩ := at_row (row := row) i (by omega)
    have hv : v = .ref e.1 := by
      rw [items_size, show row.length - 1 - k' = i by omega, items_get he] at hit
      exact (Option.some.inj hit).symm
    subst hv
    have ms' : (fun z => if z = ("entry" : Str) then some (Value.ref e.1) else if z = "index" then some (.int (i : Nat) u) else mm z) "self" = some (.ref p) := ms
    have mc' : (fun z => if z = ("entry" : Str) then some (Value.ref e.1) else if z = "index" then some (.int (i : Nat) u) else mm z) "cert" = some (.ref c) := mc
    have mi' : (fun z => if z = ("entry" : Str) then some (Value.ref e.1) else if z = "index" then some (.int (i : Nat) u) else mm z) "cert_index" = some .none := mi
    generalize emm : (fun z => if z = ("entry" : Str) then some (Value.ref e.1) else if z = "index" then some (.int (i : Nat) u) else mm z) = mm' at F₄ ms' mc' mi'
    have me' : mm' "entry" = some (.ref e.1) := by rw [← emm]; rfl
    have mx' : mm' "index" = some (.int (i : Nat) u) := by rw [← emm]; rfl
    have hem := List.mem_of_getElem? he
    have sub4 : ∀ q ∈ ν, q ∈ (own' ++ ((ee, enumO a ((i : Nat) + 1 : Int) (.ref e.1)) :: (a, genObj gn gx gy) :: ν₀)) := fun q hq => List.mem_append_right _ (.tail _ (.tail _ (sub3 q hq)))
    refine gen_post fun Q' hQ => ?_
    walk_at "st"
    walk_at "st"
    walk_at "st"
    refine Attribute_Name_ (ld F₄ me' ?_)
    refine issuer_serial S' F₄ N₄ r'.le ((HC e hem).mono sub4) fun t₁ h₅ tk t1 t2 F₅ N₅ l5 => ?_
    refine Attribute_Name_ (ld F₅ mc' ?_)
    refine issuer_serial S' F₅ N₅ r'.le (C.mono fun q hq => .tail _ (sub4 q hq)) fun t₂ h₆ tk t3 t4 F₆ N₆ l6 => ?_
    refine marks_eq N₆ (.tail _ (.head _)) (.head _) r'.u1 ?_
    walk_at "st"
    have eb : Bare s.gens G₄ := fun h => hb₄ (hb₃ h)
    cases hq : sameMark e.2 d with
    | false =>
      refine ite_neg (by show ¬ sameMark e.2 d = true; rw [hq]; exact Bool.false_ne_true) ?_
      repeat walk_at "st"
      refine hQ _ _ ?_
      refine ⟨k', by omega, own', h₆, G₄, _, mm', i + 1, .ref e.1, rfl, F₆, ms', mc', mi', ?_, GS₄, eb, by omega, fun j e' hj hje => ?_⟩
      · exact news_sub N₆ fun q hq => .tail _ (.tail _ hq)
      · by_cases hji : j < i
        · exact hno j e' hji hje
        · have : j = i := by omega
          subst this
          rw [he] at hje
          cases hje
          exact hq
    | true =>
      refine ite_pos hq ?_
      walk_at "st"
      walk_at "st"
      refine ld F₆ mx' ?_
      refine stN F₆ N₆ fun h₇ F₇ N₇ => ?_
      repeat walk_at "st"
      refine hQ _ _ ?_
      repeat walk_at "st"
      refine ite_neg Bool.false_ne_true ?_
      repeat walk_at "st"
      refine wpAny_While ?_
      have N₇' : News g L' h₇ ((l, listOf (items row) n1) :: (hs, setObj es n2 t) :: ν) := news_sub N₇ fun q hq => .tail _ (.tail _ (List.mem_append_right _ (.tail _ (.tail _ (eν₀ ▸ hq)))))
      have mi7 : (fun y => if y = ("cert_index" : Str) then some (Value.int (i : Nat) u) else mm' y) "cert_index" = some (.int (i : Nat) u) := rfl
      have ms7 : (fun y => if y = ("cert_index" : Str) then some (Value.int (i : Nat) u) else mm' y) "self" = some (.ref p) := ms'
      generalize (fun y => if y = ("cert_index" : Str) then some (Value.int (i : Nat) u) else mm' y) = m7 at F₇ mi7 ms7
      have hil : i < row.length := (List.getElem?_eq_some_iff.mp he).1
      refine codeAny_whileLoop (fun k s₁ => ∃ ν' n1' es' n2' t' h tk, s₁ = { s with heap := h, gens := G₄, toks := tk } ∧ Fr g L' h m7 ∧ News g L' h ((l, listOf (items (row.take k)) n1') :: (hs, setObj es' n2' t') :: ν') ∧ (∀ q ∈ ν, q ∈ ν') ∧ (∀ q ∈ ν', q.1 ≠ l) ∧ (∀ q ∈ ν', q.1 ≠ hs) ∧ SetOk w ν' es' t' (marks (row.take k)) ∧ i + 1 ≤ k ∧ k ≤ row.length) (fun k s₁ hI => ?_) row.length
        ⟨ν, n1, es, n2, t, h₇, _, rfl, F₇, by rw [List.take_length]; exact N₇', fun q hq => hq, ofl, ofh, by rw [List.take_length]; exact O, hil, Nat.le_refl _⟩
      obtain ⟨ν', n1', es', n2', t', h₈, tk₈, rfl, F₈, N₈, hsub8, o1, o2, O₈, hik, hkr⟩ := hI
      have hrl : (row.take k).length = k := by rw [List.length_take]; omega
      have sub8 : ∀ q ∈ ν, q ∈ ((l, listOf (items (row.take k)) n1') :: (hs, setObj es' n2' t') :: ν') := fun q hq => .tail _ (.tail _ (hsub8 q hq))
      refine gen_post fun Qw hQw => ?_
      refine wpAny_isTrue_Compare1 ?_
      refine Call_ ?_
      walk_at "st"
      walk_at "st"
      walk_at "st"
      refine ld F₈ ms7 ?_
      walk_at "st"
      refine len_path S' F₈ N₈ (.head _) (P.mono sub8) (by omega) r'.le fun h₉ tk u9 F₉ N₉ => ?_
      rw [hrl]
      walk_at "st"
      refine ld F₉ mi7 ?_
      repeat walk_at "st"
      refine hQw _ _ ?_
      by_cases hc : i + 1 < k
      · refine ite_pos (by simpa using (by omega : ((i : Int) + 1 < (k : Int)))) ?_
        refine gen_post fun Qb hQb => ?_
        obtain ⟨e9, he9⟩ := at_row (row := row) (k - 1) (by omega)
        have ek9 : row.take k = row.take (k - 1) ++ [e9] := by
          have := List.take_succ (l := row) (i := k - 1)
          rw [he9, show k - 1 + 1 = k by omega] at this
          simpa using this
        rw [ek9] at N₉ O₈
        have hnotin : mark e9.2 ∉ marks (row.take (k - 1)) := by
          have h1 : (marks (row.take k)).Nodup := by unfold marks at hnd ⊢; rw [List.map_take]; exact hnd.sublist (List.take_sublist _ _)
          rw [ek9] at h1
          unfold marks at h1 ⊢
          rw [List.map_append, List.nodup_append] at h1
          intro hm
          exact h1.2.2 _ hm _ (by simp) rfl
        repeat walk_at "st"
        refine ld F₉ ms7 ?_
        obtain ⟨dp, t1', t2', x1, x2, nn, hp1, hp2⟩ := id (P.mono sub8)
        have Pν := P.mono hsub8
        obtain ⟨dp, t1', t2', x1, x2, nn, hp1, hp2⟩ := id Pν
        refine method_inst F₉ S'.X (InstAt.of_news N₉ (.tail _ (.tail _ hp1)) (.tail _ (.tail _ hp2))) kP1 kPpop kPpopF rfl ?_
        refine callWith_K0 (S'.X.keeps F₉.keep) kPpopK ?_
        refine wpAny_call ?_
        refine pop_ok S' F₉ N₉ o1 o2 Pν ((HC e9 (List.mem_of_getElem? he9)).mono hsub8) O₈ hnotin (by rw [List.length_take]; omega) r'.le fun ν'' n1'' es'' n2'' t'' h10 tk10 s10 o3 o4 F10 N10 O10 => ?_
        repeat walk_at "st"
        refine hQb _ _ ?_
        refine ⟨k - 1, by omega, ν'', n1'', es'', n2'', t'', h10, tk10, rfl, F10, N10, fun q hq => s10 q (hsub8 q hq), o3, o4, O10, by omega, by omega⟩
      · refine ite_neg (by simpa using (by omega : ¬ ((i : Int) + 1 < (k : Int)))) ?_
        repeat walk_at "st"
        refine ld F₉ ms7 ?_
        have ek : k = i + 1 := by omega
        subst ek
        refine hQ0 _ _ ?_
        refine leaveK_ F₉ N₉ fun F10 N10 => ?_
        exact kf i e ν' n1' es' n2' t' _ G₄ _ he hq hno hsub8 o1 o2 F10 N10 O₈ eb
  · have eb : Bare s.gens G₄ := fun h => hb₄ (hb₃ h)
    walk_at "st"
    walk_at "st"
    walk_at "st"
    walk_at "st"
    refine ld F₄ mi ?_
    repeat walk_at "st"
    refine ite_pos rfl ?_
    walk_at "st"
    refine Raise_madeB PySem.F.excCall_LookupError PySem.F.excRaise_LookupError r'.hh (name_B F₄ S'.X (topRead_of S'.T) (by k_is) (by boot_by_name) (by decide) ⟨rfl, ?_⟩)
    repeat walk_at "st"
    refine ⟨by show (1 : Nat) ≤ sizeLine; rw [sizeLine_eq]; omega, fun h' e hx => ?_⟩
    refine hE0 _ _ ?_
    exact leave_raiseC S'.B (Heap.MadeExc.of hx) F₄ N₄ fun h'' te Rk U Cx => kn (fun j e' hje => hno j e' (by have := (List.getElem?_eq_some_iff.mp hje).1; omega) hje) g _ te _ _ G₄ _ FG U Rk Cx eb
theorem share2 {G : Prop} {I : Heap → Nat → Prop} {α : Type} {W : Model} {A : Around} {x : Sem α} {Q : α → Shared → Prop} {E : Value → Shared → Prop} {st : Heap → Nat → Shared}
    (hm : (∀ h tk, I h tk → wpAny W A x Q E (st h tk)) → G) (hf : ∀ h tk, I h tk → wpAny W A x Q E (st h tk)) : G := hm hf
theorem cut_iss (S : Sx w A₀ base outer env h₀ L mg mb mean loose) (F : Fr h₀ L s.heap m) (N : News h₀ L s.heap ((l, listOf (items row) n1) :: (hs, setObj es n2 t) :: ν)) (ofl : ∀ q ∈ ν, q.1 ≠ l) (ofh : ∀ q ∈ ν, q.1 ≠ hs)
    (P : PathIn ν p l hs) (hlen : row.length ≤ 4)
    (HC : ∀ e ∈ row, CertIn ν e.1 e.2) (C : CertIn ν c d) (Hs : ∀ e ∈ row, small e.2) (Cs : small d) (O : SetOk w ν es t (marks row)) (hnd : (marks row).Nodup) (r : Rm A (env :: outer) 12)
    (kf : ∀ (i : Nat) e ν' n1' es' n2' t' h' G tk, row[i]? = some e → isIss e.2 d = true → (∀ (j : Nat) e', j < i → row[j]? = some e' → isIss e'.2 d = false) → (∀ q ∈ ν, q ∈ ν') → (∀ q ∈ ν', q.1 ≠ l) → (∀ q ∈ ν', q.1 ≠ hs) → Fr h₀ L h' m →
      News h₀ L h' ((l, listOf (items (row.take (i + 1))) n1') :: (hs, setObj es' n2' t') :: ν') → SetOk w ν' es' t' (marks (row.take (i + 1))) → Bare s.gens G → R (.ok (.ret (.ref p))) { s with heap := h', gens := G, toks := tk })
    (kn : (∀ (j : Nat) e', row[j]? = some e' → isIss e'.2 d = false) → ∀ g' e te vs h' G tk, Fr h₀ L g' m → g'.UpToSlots h' → RaisedK base (env :: outer) e (.type "LookupError") te vs ((l, listOf (items row) n1) :: (hs, setObj es n2 t) :: ν) h' → NoCtx e h' → Bare s.gens G → R (.error (.ref e)) { s with heap := h', gens := G, toks := tk }) :
    codeAny (Mo w) A (.call (.ref 233) ⟨[.ref p, .ref c], []⟩) R s := by
  have sub2 : ∀ q ∈ ν, q ∈ ((l, listOf (items row) n1) :: (hs, setObj es n2 t) :: ν) := fun q hq => .tail _ (.tail _ hq)
  refine call_def (binds := [("self", .ref p), ("cert", .ref c)]) S F N r (by k_is) (by k_is) (BindsTo.of_eq rfl) (locs rfl) rfl rfl rfl (by decide) ?_
  intro g L' h₁ FG F' N' S' r'
  refine gen_both fun Q0 E0 hQ0 hE0 => ?_
  generalize eν₀ : ((l, listOf (items row) n1) :: (hs, setObj es n2 t) :: ν) = ν₀ at N' kn
  have sub3 : ∀ q ∈ ν, q ∈ ν₀ := fun q hq => eν₀ ▸ sub2 q hq
  have hm₀ : (l, listOf (items row) n1) ∈ ν₀ := eν₀ ▸ .head _
  repeat walk_at "st"
  refine stN F' N' fun h₂ F₂ N₂ => ?_
  walk_at "st"
  refine wpAny_For ?_
  repeat walk_at "st"
  refine call_enum ?_
  refine iter_path (A := (r'.ar).in1.in1) S' F₂ N₂ hm₀ (P.mono sub3) (by omega) r'.in1.in1.le fun a Lg own gn gx gy h₃ G₃ tk hL hLa hlt F₃ N₃ GS hb _ => ?_
  refine ⟨⟨_, (N₃ _ (List.mem_append_right _ (.head _))).1, rfl⟩, ?_⟩
  have hae : a < h₃.objs.size := Heap.lt_size (N₃ _ (List.mem_append_right _ (.head _))).1
  have Fp := F₃.push (enumO a 0 .none)
  have Np := N₃.push F₃ (enumO a 0 .none)
  refine wpAny_pyIter_enum (e := h₃.objs.size) (it := a) (i := 0) (old := .none) (Np _ (.head _)).1 ?_
  generalize h₃.objs.size = ee at hae Np
  generalize h₃.push (enumO a 0 .none) = h₃' at Fp Np
  have Np' : News g L' h₃' (own ++ ((ee, enumO a ((0 : Nat) : Int) .none) :: (a, genObj gn gx gy) :: ν₀)) := List.forall_mem_append.mpr ⟨fun q hq => Np q (.tail _ (List.mem_append_left _ hq)), List.forall_mem_cons.mpr ⟨Np _ (.head _), fun q hq => Np q (.tail _ (List.mem_append_right _ hq))⟩⟩
  refine codeAny_forLoop_any (fun k s₁ => ∃ own h G tk mm i old, s₁ = { s with heap := h, gens := G, toks := tk } ∧ Fr g L' h mm ∧ mm "self" = some (.ref p) ∧ mm "cert" = some (.ref c) ∧ mm "issuer_index" = some .none ∧ News g L' h (own ++ ((ee, enumO a ((i : Nat) : Int) old) :: (a, genObj gn gx gy) :: ν₀)) ∧ GenSt w r'.ar.in1.in1 g a Lg l (items row) n1 gn k own G ∧ Bare s.gens G ∧ k + i = row.length ∧ ∀ (j : Nat) e', j < i → row[j]? = some e' → isIss e'.2 d = false) (fun k s₁ hI => ?_) row.length
    ⟨own, h₃', G₃, tk, _, 0, .none, rfl, Fp, rfl, rfl, rfl, Np', GS _ r'.hh, hb, rfl, fun j e' hj => by omega⟩
  obtain ⟨own, h₃, G₃, tk₃, mm, i, old, rfl, F₃, ms, mc, mi, N₃, GS₃, hb₃, hkl, hno⟩ := hI
  refine enum_turn r'.hh r'.room S'.T.nolimit rfl rfl rfl F₃ N₃ hlt hL hLa hae hm₀ GS₃ (fun k' v own' h₄ G₄ tk₄ u ek hk' hit F₄ N₄ GS₄ hb₄ _ => ?_) fun ek h₄ G₄ tk₄ F₄ N₄ hb₄ => ?_
  · obtain ⟨e, he⟩ := at_row (row := row) i (by omega)
    have hv : v = .ref e.1 := by
      rw [items_size, show row.length - 1 - k' = i by omega, items_get he] at hit
      exact (Option.some.inj hit).symm
    subst hv
    have ms' : (fun z => if z = ("entry" : Str) then some (Value.ref e.1) else if z = "index" then some (.int (i : Nat) u) else mm z) "self" = some (.ref p) := ms
    have mc' : (fun z => if z = ("entry" : Str) then some (Value.ref e.1) else if z = "index" then some (.int (i : Nat) u) else mm z) "cert" = some (.ref c) := mc
    have mi' : (fun z => if z = ("entry" : Str) then some (Value.ref e.1) else if z = "index" then some (.int (i : Nat) u) else mm z) "issuer_index" = some .none := mi
    generalize emm : (fun z => if z = ("entry" : Str) then some (Value.ref e.1) else if z = "index" then some (.int (i : Nat) u) else mm z) = mm' at F₄ ms' mc' mi'
    have me' : mm' "entry" = some (.ref e.1) := by rw [← emm]; rfl
    have mx' : mm' "index" = some (.int (i : Nat) u) := by rw [← emm]; rfl
    have hem := List.mem_of_getElem? he
    have sub4 : ∀ q ∈ ν, q ∈ (own' ++ ((ee, enumO a ((i : Nat) + 1 : Int) (.ref e.1)) :: (a, genObj gn gx gy) :: ν₀)) := fun q hq => List.mem_append_right _ (.tail _ (.tail _ (sub3 q hq)))
    refine gen_post fun Q' hQ => ?_
    walk_at "st"
    walk_at "st"
    walk_at "st"
    refine Attribute_Name_ (ld F₄ me' ?_)
    have Ce := (HC e hem).mono sub4
    have Cc := C.mono sub4
    refine get_sub S' F₄ N₄ Ce fun a1 tk H1 => ?_
    refine Attribute_Name_ (ld F₄ mc' ?_)
    refine get_iss S' F₄ N₄ Cc fun a2 tk H2 => ?_
    refine name_eq S' F₄ N₄ H1 H2 r'.le fun h₆ tk F₆ N₆ => ?_
    walk_at "st"
    have eb : Bare s.gens G₄ := fun h => hb₄ (hb₃ h)
    refine' share2 (I := fun h tk => Fr g L' h (fun y => if y = ("issuer_index" : Str) then some (Value.int (i : Nat) u) else mm' y) ∧ News g L' h (own' ++ ((ee, enumO a ((i : Nat) + 1 : Int) (.ref e.1)) :: (a, genObj gn gx gy) :: ν₀)) ∧ isIss e.2 d = true) (W := Mo w) (st := fun h tk => { s with heap := h, gens := G₄, toks := tk }) (fun fin => ?main) ?fin
    case main =>
      cases hsub : (e.2.sub == d.iss) with
      | false =>
        refine ite_neg Bool.false_ne_true ?_
        have hqq : isIss e.2 d = false := by unfold isIss; rw [hsub]; rfl
        repeat walk_at "st"
        refine hQ _ _ ?_
        refine ⟨k', by omega, own', h₆, G₄, _, mm', i + 1, .ref e.1, rfl, F₆, ms', mc', mi', N₆, GS₄, eb, by omega, fun j e' hj hje => ?_⟩
        by_cases hji : j < i
        · exact hno j e' hji hje
        · have : j = i := by omega
          subst this
          rw [he] at hje
          cases hje
          exact hqq

      | true =>
        refine ite_pos rfl ?_
        walk_at "st"
        walk_at "st"
        walk_at "st"
        walk_at "st"
        refine Attribute_Name_ (ld F₆ me' ?_)
        refine get_kid S' F₆ N₆ Ce fun u1 tk => ?_
        refine truthy_kv (Hs e hem).1 fun tk => ?_
        cases hk1 : tr e.2.kid with
        | false =>
          refine ite_neg Bool.false_ne_true ?_
          refine ite_neg Bool.false_ne_true ?_
          have hq : isIss e.2 d = true := by unfold isIss; rw [hsub, hk1]; rfl
          walk_at "st"
          walk_at "st"
          refine ld F₆ mx' ?_
          refine stN F₆ N₆ fun h₇ F₇ N₇ => ?_
          repeat walk_at "st"
          refine hQ _ _ ?_
          repeat walk_at "st"
          refine ite_neg Bool.false_ne_true ?_
          repeat walk_at "st"
          exact fin _ _ ⟨F₇, N₇, hq⟩

        | true =>
          refine ite_pos rfl ?_
          walk_at "st"
          walk_at "st"
          refine Attribute_Name_ (ld F₆ mc' ?_)
          refine get_aki S' F₆ N₆ Cc fun u2 tk => ?_
          refine truthy_kv Cs.2 fun tk => ?_
          cases hk2 : tr d.aki with
          | false =>
            refine ite_neg Bool.false_ne_true ?_
            refine ite_neg Bool.false_ne_true ?_
            have hq : isIss e.2 d = true := by unfold isIss; rw [hsub, hk1, hk2]; rfl
            walk_at "st"
            walk_at "st"
            refine ld F₆ mx' ?_
            refine stN F₆ N₆ fun h₇ F₇ N₇ => ?_
            repeat walk_at "st"
            refine hQ _ _ ?_
            repeat walk_at "st"
            refine ite_neg Bool.false_ne_true ?_
            repeat walk_at "st"
            exact fin _ _ ⟨F₇, N₇, hq⟩

          | true =>
            refine ite_pos rfl ?_
            walk_at "st"
            refine ite_pos rfl ?_
            walk_at "st"
            walk_at "st"
            walk_at "st"
            refine Attribute_Name_ (ld F₆ me' ?_)
            refine get_kid S' F₆ N₆ Ce fun u3 tk => ?_
            refine Attribute_Name_ (ld F₆ mc' ?_)
            refine get_aki S' F₆ N₆ Cc fun u4 tk => ?_
            refine eq_kv hk1 hk2 ?_
            walk_at "st"
            have hiss : isIss e.2 d = decide (e.2.kid = d.aki) := by unfold isIss; rw [hsub, hk1, hk2]; rfl
            cases hqd : decide (e.2.kid = d.aki) with
            | true =>
              refine ite_pos rfl ?_
              have hq : isIss e.2 d = true := hiss.trans hqd
              walk_at "st"
              walk_at "st"
              refine ld F₆ mx' ?_
              refine stN F₆ N₆ fun h₇ F₇ N₇ => ?_
              repeat walk_at "st"
              refine hQ _ _ ?_
              repeat walk_at "st"
              refine ite_neg Bool.false_ne_true ?_
              repeat walk_at "st"
              exact fin _ _ ⟨F₇, N₇, hq⟩

            | false =>
              refine ite_neg Bool.false_ne_true ?_
              have hqq : isIss e.2 d = false := hiss.trans hqd
              repeat walk_at "st"
              refine hQ _ _ ?_
              refine ⟨k', by omega, own', h₆, G₄, _, mm', i + 1, .ref e.1, rfl, F₆, ms', mc', mi', N₆, GS₄, eb, by omega, fun j e' hj hje => ?_⟩
              by_cases hji : j < i
              · exact hno j e' hji hje
              · have : j = i := by omega
                subst this
                rw [he] at hje
                cases hje
                exact hqq
    case fin =>
      intro h₇ tk ⟨F₇, N₇, hq⟩
      refine wpAny_While ?_
      have N₇' : News g L' h₇ ((l, listOf (items row) n1) :: (hs, setObj es n2 t) :: ν) := news_sub N₇ fun q hq => List.mem_append_right _ (.tail _ (.tail _ (eν₀ ▸ hq)))
      have mi7 : (fun y => if y = ("issuer_index" : Str) then some (Value.int (i : Nat) u) else mm' y) "issuer_index" = some (.int (i : Nat) u) := rfl
      have ms7 : (fun y => if y = ("issuer_index" : Str) then some (Value.int (i : Nat) u) else mm' y) "self" = some (.ref p) := ms'
      generalize (fun y => if y = ("issuer_index" : Str) then some (Value.int (i : Nat) u) else mm' y) = m7 at F₇ mi7 ms7
      have hil : i < row.length := (List.getElem?_eq_some_iff.mp he).1
      refine codeAny_whileLoop (fun k s₁ => ∃ ν' n1' es' n2' t' h tk, s₁ = { s with heap := h, gens := G₄, toks := tk } ∧ Fr g L' h m7 ∧ News g L' h ((l, listOf (items (row.take k)) n1') :: (hs, setObj es' n2' t') :: ν') ∧ (∀ q ∈ ν, q ∈ ν') ∧ (∀ q ∈ ν', q.1 ≠ l) ∧ (∀ q ∈ ν', q.1 ≠ hs) ∧ SetOk w ν' es' t' (marks (row.take k)) ∧ i + 1 ≤ k ∧ k ≤ row.length) (fun k s₁ hI => ?_) row.length
        ⟨ν, n1, es, n2, t, h₇, _, rfl, F₇, by rw [List.take_length]; exact N₇', fun q hq => hq, ofl, ofh, by rw [List.take_length]; exact O, hil, Nat.le_refl _⟩
      obtain ⟨ν', n1', es', n2', t', h₈, tk₈, rfl, F₈, N₈, hsub8, o1, o2, O₈, hik, hkr⟩ := hI
      have hrl : (row.take k).length = k := by rw [List.length_take]; omega
      have sub8 : ∀ q ∈ ν, q ∈ ((l, listOf (items (row.take k)) n1') :: (hs, setObj es' n2' t') :: ν') := fun q hq => .tail _ (.tail _ (hsub8 q hq))
      refine gen_post fun Qw hQw => ?_
      refine wpAny_isTrue_Compare1 ?_
      refine Call_ ?_
      walk_at "st"
      walk_at "st"
      walk_at "st"
      refine ld F₈ ms7 ?_
      walk_at "st"
      refine len_path S' F₈ N₈ (.head _) (P.mono sub8) (by omega) r'.le fun h₉ tk u9 F₉ N₉ => ?_
      rw [hrl]
      walk_at "st"
      refine ld F₉ mi7 ?_
      repeat walk_at "st"
      refine hQw _ _ ?_
      by_cases hc : i + 1 < k
      · refine ite_pos (by simpa using (by omega : ((i : Int) + 1 < (k : Int)))) ?_
        refine gen_post fun Qb hQb => ?_
        obtain ⟨e9, he9⟩ := at_row (row := row) (k - 1) (by omega)
        have ek9 : row.take k = row.take (k - 1) ++ [e9] := by
          have := List.take_succ (l := row) (i := k - 1)
          rw [he9, show k - 1 + 1 = k by omega] at this
          simpa using this
        rw [ek9] at N₉ O₈
        have hnotin : mark e9.2 ∉ marks (row.take (k - 1)) := by
          have h1 : (marks (row.take k)).Nodup := by unfold marks at hnd ⊢; rw [List.map_take]; exact hnd.sublist (List.take_sublist _ _)
          rw [ek9] at h1
          unfold marks at h1 ⊢
          rw [List.map_append, List.nodup_append] at h1
          intro hm
          exact h1.2.2 _ hm _ (by simp) rfl
        repeat walk_at "st"
        refine ld F₉ ms7 ?_
        obtain ⟨dp, t1', t2', x1, x2, nn, hp1, hp2⟩ := id (P.mono sub8)
        have Pν := P.mono hsub8
        obtain ⟨dp, t1', t2', x1, x2, nn, hp1, hp2⟩ := id Pν
        refine method_inst F₉ S'.X (InstAt.of_news N₉ (.tail _ (.tail _ hp1)) (.tail _ (.tail _ hp2))) kP1 kPpop kPpopF rfl ?_
        refine callWith_K0 (S'.X.keeps F₉.keep) kPpopK ?_
        refine wpAny_call ?_
        refine pop_ok S' F₉ N₉ o1 o2 Pν ((HC e9 (List.mem_of_getElem? he9)).mono hsub8) O₈ hnotin (by rw [List.length_take]; omega) r'.le fun ν'' n1'' es'' n2'' t'' h10 tk10 s10 o3 o4 F10 N10 O10 => ?_
        repeat walk_at "st"
        refine hQb _ _ ?_
        refine ⟨k - 1, by omega, ν'', n1'', es'', n2'', t'', h10, tk10, rfl, F10, N10, fun q hq => s10 q (hsub8 q hq), o3, o4, O10, by omega, by omega⟩
      · refine ite_neg (by simpa using (by omega : ¬ ((i : Int) + 1 < (k : Int)))) ?_
        repeat walk_at "st"
        refine ld F₉ ms7 ?_
        have ek : k = i + 1 := by omega
        subst ek
        refine hQ0 _ _ ?_
        refine leaveK_ F₉ N₉ fun F10 N10 => ?_
        exact kf i e ν' n1' es' n2' t' _ G₄ _ he hq hno hsub8 o1 o2 F10 N10 O₈ eb

  · have eb : Bare s.gens G₄ := fun h => hb₄ (hb₃ h)
    walk_at "st"
    walk_at "st"
    walk_at "st"
    walk_at "st"
    refine ld F₄ mi ?_
    repeat walk_at "st"
    refine ite_pos rfl ?_
    walk_at "st"
    refine Raise_madeB PySem.F.excCall_LookupError PySem.F.excRaise_LookupError r'.hh (name_B F₄ S'.X (topRead_of S'.T) (by k_is) (by boot_by_name) (by decide) ⟨rfl, ?_⟩)
    repeat walk_at "st"
    refine ⟨by show (1 : Nat) ≤ sizeLine; rw [sizeLine_eq]; omega, fun h' e hx => ?_⟩
    refine hE0 _ _ ?_
    exact leave_raiseC S'.B (Heap.MadeExc.of hx) F₄ N₄ fun h'' te Rk U Cx => kn (fun j e' hje => hno j e' (by have := (List.getElem?_eq_some_iff.mp hje).1; omega) hje) g _ te _ _ G₄ _ FG U Rk Cx eb
section
variable {P : Params}
theorem kNmk : makesIn (hd.heap_1 P) 87 = true := by k_is
theorem kNin : findIn (hd.heap_1 P) (.ref 87) "__init__" = some (some (.ref 70)) := by k_is
theorem kNinF : isFn (hd.heap_1 P) (.ref 70) = true := by k_is
theorem kNkeep : keepIn (hd.heap_1 P) (.ref 87) = true := by k_is
theorem kNset : findIn (hd.heap_1 P) (.ref 87) "__setattr__" = some (some (.builtin "object.__setattr__")) := by k_is
theorem kNpo : plainOver (hd.heap_1 P) 87 = true := by k_is
theorem kNt1 : takerIn (hd.heap_1 P) 87 "hashable" = some none := by k_is
theorem kNt2 : takerIn (hd.heap_1 P) 87 "human_friendly" = some none := by k_is
end

theorem name_new {u : Tok} (S : Sx w A₀ base outer env h₀ L mg mb mean loose) (F : Fr h₀ L s.heap m) (N : News h₀ L s.heap ν) (r : Rm A (env :: outer) 4)
    (k : ∀ a ν' h' tk, (∀ q ∈ ν, q ∈ ν') → NameIn ν' a x → Fr h₀ L h' m → News h₀ L h' ν' → Q (.ref a) { s with heap := h', toks := tk }) : wpAny (Mo w) A (call (.ref 87) [.str x u]) Q E s := by
  refine call_cls F S.X N kNmk kNin kNinF fun a da h₁ F₁ N₁ l1 l2 => ?_
  refine call_def (binds := [("self", .ref a), ("text", .str x u)]) S F₁ N₁ r.under (by k_is) (by k_is) (BindsTo.of_eq rfl) (locs rfl) rfl rfl rfl (by decide) ?_
  intro g L' h₂ FG F' N' S' r'
  have hne : a ≠ da := Nat.ne_of_gt l2
  repeat walk_at "st"
  refine set_dict F' S'.X N' (InstAt.of_news N' (.head _) (.tail _ (.head _))) rfl kNset kNpo kNt1 kN2 rfl rfl (.tail hne (.head fun q hq => Nat.ne_of_lt (l1 q hq))) (by show (1 : Nat) ≤ 1000; decide) fun h₃ F₃ N₃ => ?_
  repeat walk_at "st"
  refine set_dict F₃ S'.X N₃ (InstAt.of_news N₃ (.head _) (.tail _ (.head _))) rfl kNset kNpo kNt2 kN2 rfl rfl (.tail hne (.head fun q hq => Nat.ne_of_lt (l1 q hq))) (by show (2 : Nat) ≤ 1000; decide) fun h₄ F₄ N₄ => ?_
  repeat walk_at "st"
  refine leaveK_ F₄ N₄ fun F₅ N₅ => ?_
  exact ⟨rfl, k a _ _ _ (fun q hq => .tail _ (.tail _ hq)) ⟨da, _, _, _, .head _, .tail _ (.head _), rfl⟩ F₅ N₅⟩

theorem to20 {y : Int} {t u v : Tok} (h0 : 0 ≤ y) (h1 : y < 1000) (h : ∀ (b : Array UInt8) t' tk, Q (.bytes b t') { s with toks := tk }) :
    wpAny (Mo w) A (call (.builtin "int.to_bytes") [.int y t, .int 20 u, .str (PySem.Str.ofString "big") v]) Q E s := by
  refine wpAny_call_entry KTBy.slot (typeIs_int s y t) KTBy.entry ?_ (KTBy.args _ _ _)
  have hb : Builtin.Int.intBits y ≤ 8 * 20 := KTBy.bits_le (k := 20) rfl h0 (Int.lt_of_lt_of_le h1 (by decide))
  show wpAny _ _ (Builtin.Int.intOfSelf (.int y t) >>= fun y => _) _ _ s
  refine wpAny_bind (wpAny_of_eq (a := y) rfl ?_)
  show wpAny _ _ (Builtin.Int.intBindNamed "to_bytes" ["length", "byteorder", "signed"] 0 2 [.int 20 u, .str (PySem.Str.ofString "big") v] [] >>= fun l => _) _ _ s
  refine wpAny_bind (wpAny_of_eq (a := [some (.int 20 u), some (.str (PySem.Str.ofString "big") v), none]) (by kernel_rfl) ?_)
  show wpAny _ _ (Builtin.Int.intIndex "int.to_bytes" (.int 20 u) >>= fun n => _) _ _ s
  refine wpAny_bind (wpAny_of_eq (a := (20 : Int)) rfl ?_)
  refine KTBy.if_not (by decide) ?_
  refine wpAny_bind (wpAny_of_eq (a := PySem.Str.ofString "big") (by kernel_rfl) ?_)
  refine wpAny_bind (wpAny_of_eq (a := false) rfl ?_)
  refine wpAny_bind (wpAny_of_eq (a := false) (by kernel_rfl) ?_)
  refine wpAny_ite_false (by decide) ?_
  refine wpAny_ite_false (by decide) ?_
  refine wpAny_ite_false (decide_eq_false (by rw [sizeLine_eq]; decide)) ?_
  refine KTBy.if_not (by show (decide (y < 0) && !false) = false; rw [decide_eq_false (show ¬ y < 0 by omega)]; rfl) ?_
  refine KTBy.if_not (by show (_ && decide ((Builtin.Int.intBits y : Int) > 8 * (20 : Int))) = false; rw [decide_eq_false (show ¬ ((Builtin.Int.intBits y : Int) > 8 * (20 : Int)) by omega), Bool.and_false]) ?_
  refine wpAny_bind (wpAny_mkBytes (wpAny_pure ⟨_, rfl, h _ _ _⟩) (by show (List.reverse (KTBy.low y (Int.toNat (20 : Int)))).length ≤ sizeLine; rw [List.length_reverse, KTBy.low_length, sizeLine_eq]; decide))

section
variable {P : Params}
theorem kKmk : makesIn (hd.heap_1 P) 108 = true := by k_is
theorem kKin : findIn (hd.heap_1 P) (.ref 108) "__init__" = some (some (.ref 105)) := by k_is
theorem kKinF : isFn (hd.heap_1 P) (.ref 105) = true := by k_is
theorem kKkeep : keepIn (hd.heap_1 P) (.ref 108) = true := by k_is
theorem kKset : findIn (hd.heap_1 P) (.ref 108) "__setattr__" = some (some (.builtin "object.__setattr__")) := by k_is
theorem kKpo : plainOver (hd.heap_1 P) 108 = true := by k_is
theorem kKd : hasDictIn (hd.heap_1 P) 108 = true := by k_is
theorem kKt1 : takerIn (hd.heap_1 P) 108 "number" = some none := by k_is
theorem kKt2 : takerIn (hd.heap_1 P) 108 "sha1" = some none := by k_is
end

theorem key_new {y : Int} {u : Tok} (h0 : 0 ≤ y) (h1 : y < 1000) (S : Sx w A₀ base outer env h₀ L mg mb mean loose) (F : Fr h₀ L s.heap m) (N : News h₀ L s.heap ν) (r : Rm A (env :: outer) 4)
    (k : ∀ a ν' h' tk, (∀ q ∈ ν, q ∈ ν') → Fr h₀ L h' m → News h₀ L h' ν' → Q (.ref a) { s with heap := h', toks := tk }) : wpAny (Mo w) A (call (.ref 108) [.int y u]) Q E s := by
  refine call_cls F S.X N kKmk kKin kKinF fun a da hh1 F₁ N₁ l1 l2 => ?_
  refine call_def (binds := [("self", .ref a), ("number", .int y u)]) S F₁ N₁ r.under (by k_is) (by k_is) (BindsTo.of_eq rfl) (locs rfl) rfl rfl rfl (by decide) ?_
  intro g L' h₂ FG F' N' S' r'
  have hne : a ≠ da := Nat.ne_of_gt l2
  repeat walk_at "st"
  refine set_dict F' S'.X N' (InstAt.of_news N' (.head _) (.tail _ (.head _))) rfl kKset kKpo kKt1 kKd rfl rfl (.tail hne (.head fun q hq => Nat.ne_of_lt (l1 q hq))) (by show (1 : Nat) ≤ 1000; decide) fun h₃ F₃ N₃ => ?_
  repeat walk_at "st"
  refine KTBy.method ?_
  repeat walk_at "st"
  refine to20 h0 h1 fun b t' tk => ?_
  repeat walk_at "st"
  refine set_dict F₃ S'.X N₃ (InstAt.of_news N₃ (.head _) (.tail _ (.head _))) rfl kKset kKpo kKt2 kKd rfl rfl (.tail hne (.head fun q hq => Nat.ne_of_lt (l1 q hq))) (by show (2 : Nat) ≤ 1000; decide) fun h₄ F₄ N₄ => ?_
  repeat walk_at "st"
  refine leaveK_ F₄ N₄ fun F₅ N₅ => ?_
  exact ⟨rfl, k a _ _ _ (fun q hq => .tail _ (.tail _ hq)) F₅ N₅⟩
section
variable {P : Params}
theorem kCmk : makesIn (hd.heap_1 P) 160 = true := by k_is
theorem kCin : findIn (hd.heap_1 P) (.ref 160) "__init__" = some (some (.ref 126)) := by k_is
theorem kCinF : isFn (hd.heap_1 P) (.ref 126) = true := by k_is
theorem kCkeep : keepIn (hd.heap_1 P) (.ref 160) = true := by k_is
theorem kCset : findIn (hd.heap_1 P) (.ref 160) "__setattr__" = some (some (.builtin "object.__setattr__")) := by k_is
theorem kCpo : plainOver (hd.heap_1 P) 160 = true := by k_is
theorem kCt_signature : takerIn (hd.heap_1 P) 160 "signature" = some none := by k_is
theorem kCt_sha1 : takerIn (hd.heap_1 P) 160 "sha1" = some none := by k_is
theorem kCt_sha256 : takerIn (hd.heap_1 P) 160 "sha256" = some none := by k_is
theorem kCt_serial_number : takerIn (hd.heap_1 P) 160 "serial_number" = some none := by k_is
theorem kCt_subject : takerIn (hd.heap_1 P) 160 "subject" = some none := by k_is
theorem kCt_issuer : takerIn (hd.heap_1 P) 160 "issuer" = some none := by k_is
theorem kCt_public_key : takerIn (hd.heap_1 P) 160 "public_key" = some none := by k_is
theorem kCt_signer : takerIn (hd.heap_1 P) 160 "signer" = some none := by k_is
theorem kCt_signature_algo : takerIn (hd.heap_1 P) 160 "signature_algo" = some none := by k_is
theorem kCt_hash_algo : takerIn (hd.heap_1 P) 160 "hash_algo" = some none := by k_is
theorem kCt_not_before : takerIn (hd.heap_1 P) 160 "not_before" = some none := by k_is
theorem kCt_not_after : takerIn (hd.heap_1 P) 160 "not_after" = some none := by k_is
theorem kCt_ca : takerIn (hd.heap_1 P) 160 "ca" = some none := by k_is
theorem kCt_max_path_length : takerIn (hd.heap_1 P) 160 "max_path_length" = some none := by k_is
theorem kCt_key_identifier : takerIn (hd.heap_1 P) 160 "key_identifier" = some none := by k_is
theorem kCt_authority_key_identifier : takerIn (hd.heap_1 P) 160 "authority_key_identifier" = some none := by k_is
theorem kCt_authority_issuer_serial : takerIn (hd.heap_1 P) 160 "authority_issuer_serial" = some none := by k_is
theorem kCt_key_usage_value : takerIn (hd.heap_1 P) 160 "key_usage_value" = some none := by k_is
theorem kCt_extended_key_usage_value : takerIn (hd.heap_1 P) 160 "extended_key_usage_value" = some none := by k_is
theorem kCt_certificate_policies_value : takerIn (hd.heap_1 P) 160 "certificate_policies_value" = some none := by k_is
theorem kCt_policy_mappings_value : takerIn (hd.heap_1 P) 160 "policy_mappings_value" = some none := by k_is
theorem kCt_policy_constraints_value : takerIn (hd.heap_1 P) 160 "policy_constraints_value" = some none := by k_is
theorem kCt_inhibit_any_policy_value : takerIn (hd.heap_1 P) 160 "inhibit_any_policy_value" = some none := by k_is
theorem kCt_critical_extensions : takerIn (hd.heap_1 P) 160 "critical_extensions" = some none := by k_is
end

theorem news_swap {h : Heap} {q q' : Addr × Obj} (N : News h₀ L h (q :: q' :: ν)) : News h₀ L h (q' :: q :: ν) := news_sub N (List.forall_mem_cons.mpr ⟨.tail _ (.head _), List.forall_mem_cons.mpr ⟨.head _, fun x hx => .tail _ (.tail _ hx)⟩⟩)

structure DictIs (es : List DictEntry) (f : Str → Option Value) (k : Nat) : Prop where
  pl : es.any (·.refKey) = false
  len : es.length ≤ k
  get : ∀ x, getL x es = some (f x)
theorem DictIs.nil : DictIs [] (fun _ => none) 0 := ⟨rfl, Nat.le_refl _, fun _ => rfl⟩
theorem isStr_of {v : Value} {x y : Str} (h : v.isStr x = true) : v.isStr y = (x == y) := by
  cases v <;> simp_all [Value.isStr]
theorem put_any (name : Str) (hsh : Int) (tok : Tok) (v : Value) : ∀ es : List DictEntry, (putL name hsh (.str name tok) v es).any (·.refKey) = es.any (·.refKey)
  | [] => rfl
  | e :: r => by
    unfold putL
    split
    · rfl
    · rw [List.any_cons, List.any_cons, put_any name hsh tok v r]
theorem put_len (name : Str) (hsh : Int) (key v : Value) : ∀ es : List DictEntry, (putL name hsh key v es).length ≤ es.length + 1
  | [] => Nat.le_refl _
  | e :: r => by
    unfold putL
    split
    · simp
    · have := put_len name hsh key v r
      simp only [List.length_cons]; omega
theorem put_find (name : Str) (hsh : Int) (tok : Tok) (v : Value) (x : Str) : ∀ es : List DictEntry, ((putL name hsh (.str name tok) v es).find? (·.key.isStr x)).map (·.val) = if x = name then some v else (es.find? (·.key.isStr x)).map (·.val)
  | [] => by
    by_cases hx : x = name
    · subst hx; simp [putL, Value.isStr]
    · have : ¬ name = x := fun e => hx e.symm
      simp [putL, Value.isStr, hx, this]
  | e :: r => by
    unfold putL
    by_cases he : e.key.isStr name = true
    · rw [if_pos he, List.find?_cons, List.find?_cons]
      have := isStr_of (y := x) he
      dsimp only
      rw [this]
      by_cases hx : x = name
      · subst hx; simp
      · have hne : (name == x) = false := by simpa using fun e' => hx e'.symm
        rw [hne, if_neg hx]
    · rw [if_neg he, List.find?_cons, List.find?_cons]
      have ih := put_find name hsh tok v x r
      by_cases hk : e.key.isStr x = true
      · rw [hk]
        have hx : x ≠ name := fun e' => he (e' ▸ hk)
        simp [hx]
      · simp only [hk]
        exact ih
theorem DictIs.put {es : List DictEntry} {f : Str → Option Value} {k : Nat} (D : DictIs es f k) (name : Str) (hsh : Int) (tok : Tok) (v : Value) : DictIs (putL name hsh (.str name tok) v es) (fun x => if x = name then some v else f x) (k + 1) := by
  refine ⟨(put_any ..).trans D.pl, Nat.le_trans (put_len ..) (Nat.add_le_add_right D.len 1), fun x => ?_⟩
  have h1 := put_find name hsh tok v x es
  have h2 := D.get x
  unfold getL at h2 ⊢
  rw [D.pl] at h2
  rw [(put_any ..).trans D.pl]
  revert h1
  cases h3 : (putL name hsh (.str name tok) v es).find? (·.key.isStr x) with
  | none =>
    intro h1
    by_cases hx : x = name
    · rw [if_pos hx] at h1; cases h1
    · rw [if_neg hx] at h1
      cases h4 : es.find? (·.key.isStr x) with
      | none => rw [h4] at h2; simp only [Bool.false_eq_true, if_false] at h2 ⊢; rw [if_neg hx]; exact h2
      | some e => rw [h4] at h1; cases h1
  | some e0 =>
    intro h1
    by_cases hx : x = name
    · rw [if_pos hx] at h1 ⊢; exact congrArg some h1
    · rw [if_neg hx] at h1 ⊢
      cases h4 : es.find? (·.key.isStr x) with
      | none => rw [h4] at h1; cases h1
      | some e => rw [h4] at h1 h2; exact (congrArg some h1).trans h2

theorem cert_set {a dc : Addr} {name : Str} {v : Value} {es : List DictEntry} {nd kk : Nat} {f : Str → Option Value} {Q : Unit → Shared → Prop} (S : Sx w A₀ base outer env h₀ L mg mb mean loose) (F : Fr h₀ L s.heap m) (N : News h₀ L s.heap ((dc, dictOf es nd) :: ν)) (hi : (a, instObj 160 dc) ∈ ν) (off : ∀ q ∈ ν, q.1 ≠ dc)
    (D : DictIs es f kk) (hk : kk ≤ 100) (ht : takerIn (hd.heap_1 w.params) 160 name = some none)
    (h : ∀ es' n' h' tk, Fr h₀ L h' m → News h₀ L h' ((dc, dictOf es' n') :: ν) → DictIs es' (fun x => if x = name then some v else f x) (kk + 1) → Q () { s with heap := h', toks := tk }) :
    wpAny (Mo w) A (setAttr (.ref a) name v) Q E s :=
  set_dict F S.X N (InstAt.of_news N (.tail _ hi) (.head _)) rfl kCset kCpo ht kC2 (by rw [D.get]; rfl) rfl (.head off) (by have := put_len name (PyData.keyHash w.params name) (.str name (s.toks + 1)) v es; have := D.len; omega) fun h' F' N' => h _ _ h' _ F' N' (D.put ..)

theorem cert_new {j : Int} {u v : Tok} {sa ia ka : Addr} (S : Sx w A₀ base outer env h₀ L mg mb mean loose) (F : Fr h₀ L s.heap m) (N : News h₀ L s.heap ν) (r : Rm A (env :: outer) 4)
    (k : ∀ a dc es n o t1 t2 xs f h' tk, DictIs es f 24 → f "signature" = some (.int j t1) → f "serial_number" = some (.int j t2) → f "subject" = some (.ref sa) → f "issuer" = some (.ref ia) → f "key_identifier" = some .none → f "authority_key_identifier" = some .none →
      (∀ q ∈ ν, q.1 < dc) → dc < a → a < xs → Fr h₀ L h' m → News h₀ L h' ((dc, dictOf es n) :: (xs, o) :: (a, instObj 160 dc) :: ν) → Q (.ref a) { s with heap := h', toks := tk }) :
    wpAny (Mo w) A (call (.ref 160) [.int j u, .ref sa, .ref ia, .ref ka, .int 0 v]) Q E s := by
  refine call_cls F S.X N kCmk kCin kCinF fun a dc hh1 F₁ N₁ l1 l2 => ?_
  refine call_def (binds := [("self", .ref a), ("number", .int j u), ("subject", .ref sa), ("issuer", .ref ia), ("public_key", .ref ka), ("signer", .int 0 v)]) S F₁ N₁ r.under (by k_is) (by k_is) (BindsTo.of_eq rfl) (locs rfl) rfl rfl rfl (by decide) ?_
  intro g L' hx FG Fx Nx' S' r'
  refine gen_both fun Q0 E0 hQ0 hE0 => ?_
  have hne : a ≠ dc := Nat.ne_of_gt l2
  have off : ∀ q ∈ ((a, instObj 160 dc) :: ν), q.1 ≠ dc := List.forall_mem_cons.mpr ⟨hne, fun q hq => Nat.ne_of_lt (l1 q hq)⟩
  have Nx : News g L' hx ((dc, dictOf [] 0) :: (a, instObj 160 dc) :: ν) := news_sub Nx' (List.forall_mem_cons.mpr ⟨.tail _ (.head _), List.forall_mem_cons.mpr ⟨.head _, fun q hq => .tail _ (.tail _ hq)⟩⟩)
  have D := DictIs.nil
  repeat walk_at "st"
  refine cert_set S' Fx Nx (.head _) off D (by decide) kCt_signature fun esx nx hx tk Fx Nx D => ?_
  repeat walk_at "st"
  refine cert_set S' Fx Nx (.head _) off D (by decide) kCt_sha1 fun esx nx hx tk Fx Nx D => ?_
  try dsimp only
  repeat walk_at "st"
  refine cert_set S' Fx Nx (.head _) off D (by decide) kCt_sha256 fun esx nx hx tk Fx Nx D => ?_
  repeat walk_at "st"
  refine cert_set S' Fx Nx (.head _) off D (by decide) kCt_serial_number fun esx nx hx tk Fx Nx D => ?_
  try dsimp only
  repeat walk_at "st"
  refine cert_set S' Fx Nx (.head _) off D (by decide) kCt_subject fun esx nx hx tk Fx Nx D => ?_
  repeat walk_at "st"
  refine cert_set S' Fx Nx (.head _) off D (by decide) kCt_issuer fun esx nx hx tk Fx Nx D => ?_
  try dsimp only
  repeat walk_at "st"
  refine cert_set S' Fx Nx (.head _) off D (by decide) kCt_public_key fun esx nx hx tk Fx Nx D => ?_
  repeat walk_at "st"
  refine cert_set S' Fx Nx (.head _) off D (by decide) kCt_signer fun esx nx hx tk Fx Nx D => ?_
  try dsimp only
  repeat walk_at "st"
  refine cert_set S' Fx Nx (.head _) off D (by decide) kCt_signature_algo fun esx nx hx tk Fx Nx D => ?_
  repeat walk_at "st"
  refine cert_set S' Fx Nx (.head _) off D (by decide) kCt_hash_algo fun esx nx hx tk Fx Nx D => ?_
  try dsimp only
  repeat walk_at "st"
  refine cert_set S' Fx Nx (.head _) off D (by decide) kCt_not_before fun esx nx hx tk Fx Nx D => ?_
  repeat walk_at "st"
  refine cert_set S' Fx Nx (.head _) off D (by decide) kCt_not_after fun esx nx hx tk Fx Nx D => ?_
  try dsimp only
  repeat walk_at "st"
  refine cert_set S' Fx Nx (.head _) off D (by decide) kCt_ca fun esx nx hx tk Fx Nx D => ?_
  repeat walk_at "st"
  refine cert_set S' Fx Nx (.head _) off D (by decide) kCt_max_path_length fun esx nx hx tk Fx Nx D => ?_
  try dsimp only
  repeat walk_at "st"
  refine cert_set S' Fx Nx (.head _) off D (by decide) kCt_key_identifier fun esx nx hx tk Fx Nx D => ?_
  repeat walk_at "st"
  refine cert_set S' Fx Nx (.head _) off D (by decide) kCt_authority_key_identifier fun esx nx hx tk Fx Nx D => ?_
  try dsimp only
  repeat walk_at "st"
  refine cert_set S' Fx Nx (.head _) off D (by decide) kCt_authority_issuer_serial fun esx nx hx tk Fx Nx D => ?_
  repeat walk_at "st"
  refine cert_set S' Fx Nx (.head _) off D (by decide) kCt_key_usage_value fun esx nx hx tk Fx Nx D => ?_
  try dsimp only
  repeat walk_at "st"
  refine cert_set S' Fx Nx (.head _) off D (by decide) kCt_extended_key_usage_value fun esx nx hx tk Fx Nx D => ?_
  repeat walk_at "st"
  refine cert_set S' Fx Nx (.head _) off D (by decide) kCt_certificate_policies_value fun esx nx hx tk Fx Nx D => ?_
  try dsimp only
  repeat walk_at "st"
  refine cert_set S' Fx Nx (.head _) off D (by decide) kCt_policy_mappings_value fun esx nx hx tk Fx Nx D => ?_
  repeat walk_at "st"
  refine cert_set S' Fx Nx (.head _) off D (by decide) kCt_policy_constraints_value fun esx nx hx tk Fx Nx D => ?_
  try dsimp only
  repeat walk_at "st"
  refine cert_set S' Fx Nx (.head _) off D (by decide) kCt_inhibit_any_policy_value fun esx nx hx tk Fx Nx D => ?_
  repeat walk_at "st"
  refine set_new Fx Nx fun xs es0 n0 t0 hxs Fx Nx O hls => ?_
  repeat walk_at "st"
  have off2 : ∀ q ∈ ((xs, setObj es0 n0 t0) :: (a, instObj 160 dc) :: ν), q.1 ≠ dc := List.forall_mem_cons.mpr ⟨Nat.ne_of_gt (hls _ (.head _)), off⟩
  have hax : a < xs := hls _ (.tail _ (.head _))
  replace Nx := news_swap Nx
  refine cert_set S' Fx Nx (.tail _ (.head _)) off2 D (by decide) kCt_critical_extensions fun esx nx hx tk Fx Nx D => ?_
  try dsimp only
  repeat walk_at "st"
  refine hQ0 _ _ ?_
  refine leaveK_ Fx Nx fun F₅ N₅ => ?_
  exact ⟨rfl, k a dc _ _ _ _ _ xs _ _ _ D rfl rfl rfl rfl rfl rfl l1 l2 hax F₅ N₅⟩
def NsObj (o : Obj) (f : Str → Option Value) : Prop := ∃ es ep, o.data = .dict es ep ∧ StrKeys es ∧ ∀ name, nsFind es name = f name
theorem NsObj.ns {h : Heap} {C : Addr} {o : Obj} {f : Str → Option Value} (x : NsObj o f) (e : h.get? C = some o) : h.Ns C f := let ⟨es, ep, a, b, c⟩ := x; ⟨o, es, ep, e, a, b, c⟩
theorem ns_obj {h : Heap} {C : Addr} {f : Str → Option Value} (x : h.Ns C f) : ∃ o, h.get? C = some o ∧ NsObj o f := let ⟨o, es, ep, e, a, b, c⟩ := x; ⟨o, e, es, ep, a, b, c⟩

theorem NsObj.noIt {o : Obj} {f : Str → Option Value} (x : NsObj o f) : ¬ isIt o := fun ⟨l, i, e⟩ => let ⟨es, ep, a, _⟩ := x; by rw [a] at e; cases e
theorem upd_mid {D : Addr} {o o' : Obj} : ∀ {pre post : List (Addr × Obj)}, (∀ q ∈ pre, q.1 ≠ D) → (∀ q ∈ post, q.1 ≠ D) → Upd D o o' (pre ++ (D, o) :: post) (pre ++ (D, o') :: post)
  | [], _, _, h => .head h
  | _ :: _, _, h, h' => .tail (h _ (.head _)) (upd_mid (fun q hq => h q (.tail _ hq)) h')
theorem fresh_of {h : Heap} (F : Fr h₀ L h m) : ∀ b, L ≤ b → h₀.get? b = none := fun b hb => by
  cases q : h₀.get? b with
  | none => rfl
  | some o => exact absurd (Nat.lt_of_lt_of_le (Heap.lt_size q) (Nat.le_trans F.above hb)) (Nat.lt_irrefl _)

/-- what a comprehension's source does, turn by turn -/
structure Src (w : World) (A : Around) (h₀ : Heap) (L : Addr) (m : Str → Option Value) (it : Addr) (n : Nat) (val : Nat → Value → Prop) (ok : Addr × Obj → Prop) (bnd : Addr) (J : Nat → List (Addr × Obj) → Array GenState → Prop) : Prop where
  mu : ∀ i μ G, J i μ G → ∀ q ∈ μ, q.1 < bnd ∨ isIt q.2
  nxt : ∀ i μ β (s : Shared) (Q : Option Value → Shared → Prop) (E : Value → Shared → Prop), J i μ s.gens → Fr h₀ L s.heap m → News h₀ L s.heap (μ ++ β) → (∀ q ∈ β, ok q) →
    (i < n → ∀ v μ' G' h' tk, val i v → J (i + 1) μ' G' → Fr h₀ L h' m → News h₀ L h' (μ' ++ β) → Bare s.gens G' → Q (some v) { s with heap := h', gens := G', toks := tk }) →
    (i = n → ∀ G' h' tk, Fr h₀ L h' m → News h₀ L h' β → Bare s.gens G' → Q none { s with heap := h', gens := G', toks := tk }) → wpAny (Mo w) A (pyNext (.ref it)) Q E s
  fin : ∀ i μ G, J i μ G → i ≤ n

def EltOk (w : World) (A : Around) (h₀ : Heap) (L : Addr) (m : Str → Option Value) (x : Str) (n : Nat) (val : Nat → Value → Prop) (ok : Addr × Obj → Prop) (Acc : Nat → Array Value → List (Addr × Obj) → Prop) (ifs : List Expr) (elt : Expr) (ce : Addr → Env) (bnd : Addr) : Prop :=
  ∀ (i : Nat) (v : Value) (C : Addr) (mC : Str → Option Value) (vs : Array Value) (κ ν : List (Addr × Obj)) (s : Shared) (QY : Value → Shared → Prop) (QN : Shared → Prop) (E : Value → Shared → Prop), i < n → bnd ≤ C → (∃ oC, (C, oC) ∈ κ) → Fr h₀ C s.heap mC → val i v → mC x = some v → Fr h₀ L s.heap m → News h₀ L s.heap (κ ++ ν) → Acc i vs ν →
    (∀ y ν' h' tk, Fr h₀ L h' m → News h₀ L h' (κ ++ ν') → (∀ q ∈ ν, q ∈ ν') → (∀ q ∈ ν', q ∈ ν ∨ (ok q ∧ ∀ p ∈ κ, p.1 < q.1)) → Acc (i + 1) (vs.push y) ν' → QY y { s with heap := h', toks := tk }) →
    (∀ ν' h' tk, Fr h₀ L h' m → News h₀ L h' (κ ++ ν') → (∀ q ∈ ν, q ∈ ν') → (∀ q ∈ ν', q ∈ ν ∨ (ok q ∧ ∀ p ∈ κ, p.1 < q.1)) → Acc (i + 1) vs ν' → QN { s with heap := h', toks := tk }) →
    wpAny (Mo w) A (forIn ifs true fun c r => if r = true then do let ok ← isTrue c (ce C) (eval c (ce C)); pure (ForInStep.yield ok) else pure (ForInStep.yield r)) (fun ok s₃ => if ok = true then wpAny (Mo w) A (eval elt (ce C)) QY E s₃ else QN s₃) E s

theorem comp_loop {elt iter : Expr} {x : Str} {px pos : Pos} {ifs : List Expr} {scope : Scope} {cl : List (Str × Addr)} {it C D bnd : Addr} {n : Nat} {val : Nat → Value → Prop} {ok : Addr × Obj → Prop} {J : Nat → List (Addr × Obj) → Array GenState → Prop} {Acc : Nat → Array Value → List (Addr × Obj) → Prop} {μ : List (Addr × Obj)} {oC : Obj} {mC : Str → Option Value} {R : Result → Shared → Prop}
    (hkind : scope.kind = .function) (hx : scope.names.lookup x = some .local) (hn : n ≤ 100) (hsz : ∀ i vs ν, Acc i vs ν → vs.size ≤ i)
    (SR : Src w A h₀ L m it n val ok bnd J) (EL : EltOk w A h₀ L m x n val ok Acc ifs elt (fun C => compEnvC scope cl C env) bnd)
    (F : Fr h₀ L s.heap m) (N : News h₀ L s.heap (μ ++ ((C, oC) :: (D, listOf #[] 0) :: ν))) (hC : NsObj oC mC) (hJ : J 0 μ s.gens) (hA : Acc 0 #[] ν) (hLC : L < C) (hbC : bnd ≤ C) (hbD : bnd ≤ D) (hCD : C ≠ D)
    (hok : ∀ q ∈ ν, ok q ∧ q.1 ≠ C ∧ q.1 ≠ D) (okC : ∀ o, ¬ isIt o → ok (C, o)) (okD : ∀ vs k, ok (D, listOf vs k))
    (hR : ∀ vs nD oC' mC' ν' h' G' tk, NsObj oC' mC' → Fr h₀ L h' m → News h₀ L h' ((C, oC') :: (D, listOf vs nD) :: ν') → (∀ q ∈ ν, q ∈ ν') → (∀ q ∈ ν', q.1 ≠ C ∧ q.1 ≠ D) → Acc n vs ν' → Bare s.gens G' → R (.ok .next) { s with heap := h', gens := G', toks := tk }) :
    codeAny (Mo w) A (.compLoop (.ListComp elt [⟨.Name x px, iter, ifs, 0⟩] scope pos) 0 (.ref it) (.ref D) (compEnvC scope cl C env)) R s := by
  refine codeAny_compLoop_tests (fun k s₁ => ∃ i μ ν' G h tk oC mC vs nD, k = n - i ∧ s₁ = { s with heap := h, gens := G, toks := tk } ∧ Fr h₀ L h m ∧ News h₀ L h (μ ++ ((C, oC) :: (D, listOf vs nD) :: ν')) ∧ NsObj oC mC ∧ J i μ G ∧ Bare s.gens G ∧ (∀ q ∈ ν, q ∈ ν') ∧ (∀ q ∈ ν', ok q ∧ q.1 ≠ C ∧ q.1 ≠ D) ∧ Acc i vs ν') (fun k s₁ hI => ?_) n
    ⟨0, μ, ν, s.gens, s.heap, s.toks, oC, mC, #[], 0, rfl, rfl, F, N, hC, hJ, fun h => h, fun q hq => hq, hok, hA⟩
  obtain ⟨i, μ, ν', G, h, tk, oC, mC, vs, nD, rfl, rfl, F, N, hC, hJ, hb, hsub, hok', hA⟩ := hI
  refine SR.nxt i μ _ _ _ _ hJ F N (List.forall_mem_cons.mpr ⟨okC _ hC.noIt, List.forall_mem_cons.mpr ⟨okD _ _, fun q hq => (hok' q hq).1⟩⟩) (fun hi v μ' G' h' tk' hv hJ' F' N' hb' => ?_) fun hi G' h' tk' F' N' hb' => ?_
  · have NC := (N' _ (List.mem_append_right _ (.head _))).1
    refine wpAny_assign_Name (wpAny_storeName_local (lookup_relabel_local hx) (hC.ns NC) (fun h₂ hn₂ hs₂ => ?_) (by simp [compEnvC, relabel, hkind]))
    dsimp only at hn₂ hs₂
    obtain ⟨oC₂, e₂, hC₂⟩ := ns_obj hn₂
    have fresh := fresh_of F
    have F₂ : Fr h₀ L h₂ m := F'.change hs₂ (Nat.ne_of_gt hLC) (fresh C (Nat.le_of_lt hLC))
    have muC : ∀ q ∈ μ', q.1 ≠ C ∧ q.1 ≠ D := fun q hq => by
      have e1 := (N' q (List.mem_append_left _ hq)).1
      rcases SR.mu _ _ _ hJ' q hq with c | c
      · exact ⟨Nat.ne_of_lt (Nat.lt_of_lt_of_le c hbC), Nat.ne_of_lt (Nat.lt_of_lt_of_le c hbD)⟩
      · refine ⟨fun q' => ?_, fun q' => ?_⟩
        · rw [q', NC] at e1; have := Option.some.inj e1; rw [← this] at c; exact hC.noIt c
        · rw [q', (N' _ (List.mem_append_right _ (.tail _ (.head _)))).1] at e1
          have := Option.some.inj e1
          rw [← this] at c
          obtain ⟨_, _, c⟩ := c
          cases c
    have N₂ : News h₀ L h₂ (μ' ++ ((C, oC₂) :: (D, listOf vs nD) :: ν')) := by
      refine List.forall_mem_append.mpr ⟨fun q hq => ⟨(hs₂.2 q.1 (muC q hq).1).trans (N' q (List.mem_append_left _ hq)).1, (N' q (List.mem_append_left _ hq)).2⟩, List.forall_mem_cons.mpr ⟨⟨e₂, Nat.ne_of_gt hLC, fresh C (Nat.le_of_lt hLC)⟩, fun q hq => ?_⟩⟩
      have hqC : q.1 ≠ C := by
        rcases List.mem_cons.mp hq with rfl | hq
        · exact Ne.symm hCD
        · exact (hok' q hq).2.1
      exact ⟨(hs₂.2 q.1 hqC).trans (N' q (List.mem_append_right _ (.tail _ hq))).1, (N' q (List.mem_append_right _ (.tail _ hq))).2⟩
    have FC : Fr h₀ C h₂ (fun y => if y = x then some v else mC y) := ⟨hC₂.ns e₂, F₂.keep, Nat.le_trans F.above (Nat.le_of_lt hLC)⟩
    have step : ∀ (vs' : Array Value) (ν'' : List (Addr × Obj)) (h₃ : Heap) (tk₃ : Nat), Fr h₀ L h₃ m → News h₀ L h₃ (μ' ++ ((C, oC₂) :: (D, listOf vs' (if vs' = vs then nD else nD + 1)) :: ν'')) → (∀ q ∈ ν', q ∈ ν'') → (∀ q ∈ ν'', ok q ∧ q.1 ≠ C ∧ q.1 ≠ D) → Acc (i + 1) vs' ν'' →
        ∃ m', m' < n - i ∧ ∃ (i : Nat) (μ ν' : List (Addr × Obj)) (G : Array GenState) (hh : Heap) (tk : Nat) (oC : Obj) (mC : Str → Option Value) (vs : Array Value) (nD : Nat), m' = n - i ∧ ({ s with heap := h₃, gens := G', toks := tk₃ } : Shared) = { s with heap := hh, gens := G, toks := tk } ∧ Fr h₀ L hh m ∧ News h₀ L hh (μ ++ ((C, oC) :: (D, listOf vs nD) :: ν')) ∧ NsObj oC mC ∧ J i μ G ∧ Bare s.gens G ∧ (∀ q ∈ ν, q ∈ ν') ∧ (∀ q ∈ ν', ok q ∧ q.1 ≠ C ∧ q.1 ≠ D) ∧ Acc i vs ν' :=
      fun vs' ν'' h₃ tk₃ F₃ N₃ s1 s2 a3 => ⟨n - (i + 1), by omega, i + 1, μ', ν'', G', h₃, tk₃, oC₂, _, vs', _, rfl, rfl, F₃, N₃, hC₂, hJ', fun z => hb' (hb z), fun q hq => s1 q (hsub q hq), s2, a3⟩
    have okν : ∀ ν'' : List (Addr × Obj), (∀ q ∈ ν'', q ∈ ν' ∨ (ok q ∧ ∀ p ∈ (μ' ++ [(C, oC₂), (D, listOf vs nD)]), p.1 < q.1)) → ∀ q ∈ ν'', ok q ∧ q.1 ≠ C ∧ q.1 ≠ D := fun ν'' h q hq => by
      rcases h q hq with c | ⟨c1, c2⟩
      · exact hok' q c
      · exact ⟨c1, Nat.ne_of_gt (c2 (C, oC₂) (List.mem_append_right _ (.head _))), Nat.ne_of_gt (c2 (D, listOf vs nD) (List.mem_append_right _ (.tail _ (.head _))))⟩
    have asc : ∀ ν'' : List (Addr × Obj), (μ' ++ [(C, oC₂), (D, listOf vs nD)]) ++ ν'' = μ' ++ ((C, oC₂) :: (D, listOf vs nD) :: ν'') := fun ν'' => by rw [List.append_assoc]; rfl
    refine wpAny_mono (EL i v C _ vs (μ' ++ [(C, oC₂), (D, listOf vs nD)]) ν' _ (fun y s₄ => wpAny (Mo w) A (call (.builtin "list.append") [.ref D, y]) (fun _ s₅ => _) _ s₄) (fun s₄ => _) _ hi hbC ⟨oC₂, List.mem_append_right _ (.head _)⟩ FC hv (if_pos rfl) F₂ (by rw [asc]; exact N₂) hA (fun y ν'' h₃ tk₃ F₃ N₃ s1 s2 a3 => ?_) fun ν'' h₃ tk₃ F₃ N₃ s1 s2 a3 => ?_) (fun okb s₃ h => h) fun _ _ h => h
    · rw [asc] at N₃
      have hD'' := okν ν'' s2
      have N₃' : News h₀ L h₃ ((μ' ++ [(C, oC₂)]) ++ (D, listOf vs nD) :: ν'') := by rw [List.append_assoc]; exact N₃
      refine append_K F₃ N₃' (upd_mid (fun q hq => ?_) fun q hq => (hD'' q hq).2.2) (fun h₄ F₄ N₄ => ?_) (by have := hsz _ _ _ hA; rw [sizeLine_eq]; omega)
      · rcases List.mem_append.mp hq with hq | hq
        · exact (muC q hq).2
        · rw [List.mem_singleton.mp hq]; exact hCD
      · rw [List.append_assoc] at N₄
        refine step (vs.push y) ν'' h₄ tk₃ F₄ ?_ s1 hD'' a3
        rw [if_neg (fun e => by have := congrArg Array.size e; simp at this)]
        exact N₄
    · rw [asc] at N₃
      refine step vs ν'' h₃ tk₃ F₃ ?_ s1 (okν ν'' s2) a3
      rw [if_pos rfl]
      exact N₃
  · subst hi
    exact hR vs nD oC mC ν' h' G' tk' hC F' N' hsub (fun q hq => (hok' q hq).2) hA fun x => hb' (hb x)
theorem comp_block {elt iter : Expr} {x : Str} {px pos : Pos} {ifs : List Expr} {scope : Scope} {cl : List (Str × Addr)} {it bnd : Addr} {n : Nat} {val : Nat → Value → Prop} {ok : Addr × Obj → Prop} {J : Nat → List (Addr × Obj) → Array GenState → Prop} {Acc : Nat → Array Value → List (Addr × Obj) → Prop} {μ : List (Addr × Obj)} {RR : Value → Addr → Result → Shared → Prop}
    (hcell : ∀ y ∈ scope.names, y.2 ≠ .cell) (hkind : scope.kind = .function) (hx : scope.names.lookup x = some .local) (hn : n ≤ 100) (hsz : ∀ i vs ν, Acc i vs ν → vs.size ≤ i)
    (SR : Src w A h₀ L m it n val ok bnd J) (EL : EltOk w A h₀ L m x n val ok Acc ifs elt (fun C => compEnvC scope cl C env) bnd) (hself : ∀ (s : Shared) (Q : Value → Shared → Prop), J 0 μ s.gens → News h₀ L s.heap μ → Q (.ref it) s → wpAny (Mo w) A (pyIter (.ref it)) Q (fun _ _ => False) s)
    (F : Fr h₀ L s.heap m) (N : News h₀ L s.heap (μ ++ ν)) (hJ : J 0 μ s.gens) (hA : Acc 0 #[] ν) (hb : bnd ≤ s.heap.objs.size)
    (hok : ∀ q ∈ ν, ok q) (okn : ∀ q, bnd ≤ q.1 → ¬ isIt q.2 → ok q)
    (hR : ∀ C D vs nD oC' mC' ν' h' G' tk, s.heap.objs.size ≤ C → NsObj oC' mC' → Fr h₀ L h' m → News h₀ L h' ((C, oC') :: (D, listOf vs nD) :: ν') → (∀ q ∈ ν, q ∈ ν') → (∀ q ∈ ν', q.1 ≠ C ∧ q.1 ≠ D) → D ≠ C → Acc n vs ν' → Bare s.gens G' → RR (.ref D) C (.ok .next) { s with heap := h', gens := G', toks := tk }) :
    wpAny (Mo w) A (newList []) (fun acc s₃ => wpAny (Mo w) A (newFunctionEnv scope env.globals cl [] env.qual none .none (some env)) (fun cenv s₄ =>
      codeAny (Mo w) A (.compStart (.ListComp elt [⟨.Name x px, iter, ifs, 0⟩] scope pos) 0 (.ref it) acc { cenv with scope := relabel scope env }) (RR acc cenv.locals) s₄) E s₃) E s := by
  refine wpAny_newObj_type (wpAny_newFunctionEnv hcell (by intro y hy; simp at hy) (fun h₁ hns₁ hsb₁ => ?_) hkind)
  dsimp only at hns₁ hsb₁ ⊢
  generalize hH2 : s.heap.push { cls := .type "list", dict := none, data := .seq ([] : List Value).toArray } = H2 at hns₁ hsb₁ ⊢
  have hCz : H2.objs.size = s.heap.objs.size + 1 := by rw [← hH2, Heap.size_push]
  have hDC : s.heap.objs.size ≠ H2.objs.size := by rw [hCz]; exact Nat.ne_of_lt (Nat.lt_succ_self _)
  have hL : L < s.heap.objs.size := by obtain ⟨o, q1, q2, qo, q3⟩ := F.ns; exact Heap.lt_size qo
  have hDC' : s.heap.objs.size < H2.objs.size := by rw [hCz]; exact Nat.lt_succ_self _
  have below : ∀ b, b < s.heap.objs.size → b ≠ H2.objs.size := fun b hb => Nat.ne_of_lt (Nat.lt_trans hb hDC')
  have old : ∀ b o, s.heap.get? b = some o → h₁.get? b = some o := fun b o e => hsb₁.extBut b o (below b (Heap.lt_size e)) (Heap.get?_push_of_some _ (hH2 ▸ Heap.get?_push_of_some _ e))
  have hacc : h₁.get? s.heap.objs.size = some (listOf #[] 0) := hsb₁.extBut _ _ hDC (Heap.get?_push_of_some _ (hH2 ▸ Heap.get?_push_size _ rfl))
  obtain ⟨oC, eC, hC⟩ := ns_obj hns₁
  have fresh := fresh_of F
  have F₁ : Fr h₀ L h₁ m := ⟨by obtain ⟨o, q1, q2, qo, q3⟩ := F.ns; exact ⟨o, q1, q2, old _ _ qo, q3⟩, fun b o e => old _ _ (F.keep b o e), F.above⟩
  have hlt : ∀ q ∈ (μ ++ ν), q.1 < s.heap.objs.size := fun q hq => Heap.lt_size (N q hq).1
  have N₁ : News h₀ L h₁ (μ ++ ((H2.objs.size, oC) :: (s.heap.objs.size, listOf #[] 0) :: ν)) :=
    List.forall_mem_append.mpr ⟨fun q hq => ⟨old _ _ (N q (List.mem_append_left _ hq)).1, (N q (List.mem_append_left _ hq)).2⟩, List.forall_mem_cons.mpr ⟨⟨eC, Nat.ne_of_gt (Nat.lt_trans hL hDC'), fresh _ (Nat.le_of_lt (Nat.lt_trans hL hDC'))⟩, List.forall_mem_cons.mpr ⟨⟨hacc, Nat.ne_of_gt hL, fresh _ (Nat.le_of_lt hL)⟩, fun q hq => ⟨old _ _ (N q (List.mem_append_right _ hq)).1, (N q (List.mem_append_right _ hq)).2⟩⟩⟩⟩
  have hνC : ∀ q ∈ ν, ok q ∧ q.1 ≠ H2.objs.size ∧ q.1 ≠ s.heap.objs.size := fun q hq => ⟨hok q hq, below _ (hlt q (List.mem_append_right _ hq)), Nat.ne_of_lt (hlt q (List.mem_append_right _ hq))⟩
  have loop : ∀ s₃ : Shared, s₃ = { s with heap := h₁, toks := s.toks + ([] : List (Str × Value)).length } →
      codeAny (Mo w) A (.compLoop (.ListComp elt [⟨.Name x px, iter, ifs, 0⟩] scope pos) 0 (.ref it) (.ref s.heap.objs.size) (compEnvC scope cl H2.objs.size env))
        (RR (.ref s.heap.objs.size) H2.objs.size) s₃ := by
    rintro s₃ rfl
    refine comp_loop (s := { s with heap := h₁, toks := s.toks + ([] : List (Str × Value)).length }) hkind hx hn hsz SR EL F₁ N₁ hC hJ hA (Nat.lt_trans hL hDC') (Nat.le_trans hb (Nat.le_of_lt hDC')) hb (Ne.symm hDC) hνC (fun o ho => okn _ (Nat.le_trans hb (Nat.le_of_lt hDC')) ho) (fun vs k => okn _ hb (by rintro ⟨_, _, c⟩; cases c)) ?_
    intro vs nD oC' mC' ν' h' G' tk a1 a2 a3 a4 a5 a6 a7
    exact hR _ _ vs nD oC' mC' ν' h' G' tk (Nat.le_of_lt hDC') a1 a2 a3 a4 a5 hDC a6 a7
  refine codeAny_compStart_list (loop _ rfl) (wpAny_mono (hself _ _ hJ (news_sub N₁ fun q hq => List.mem_append_left _ hq) (loop _ rfl)) (fun _ _ h => h) fun _ _ f => f.elim)

theorem comp_run {elt iter : Expr} {x : Str} {px pos : Pos} {ifs : List Expr} {scope : Scope} {cl : List (Str × Addr)} (hclos : closureFor scope env = pure cl) (hcell : ∀ y ∈ scope.names, y.2 ≠ .cell) (hkind : scope.kind = .function)
    (hnames : ∀ y ∈ scope.names, y.2 = .local → scope.names.lookup y.1 = some .local) (hx : scope.names.lookup x = some .local)
    (h : wpAny (Mo w) A (eval iter env) (fun xv s₁ => wpAny (Mo w) A (pyIter xv) (fun itv s₂ => ∃ it bnd n val ok J Acc μ ν, itv = .ref it ∧ n ≤ 100 ∧ (∀ i vs ν, Acc i vs ν → vs.size ≤ i) ∧
      Src w A h₀ L m it n val ok bnd J ∧ EltOk w A h₀ L m x n val ok Acc ifs elt (fun C => compEnvC scope cl C env) bnd ∧ (∀ (s : Shared) (Q : Value → Shared → Prop), J 0 μ s.gens → News h₀ L s.heap μ → Q (.ref it) s → wpAny (Mo w) A (pyIter (.ref it)) Q (fun _ _ => False) s) ∧
      Fr h₀ L s₂.heap m ∧ News h₀ L s₂.heap (μ ++ ν) ∧ J 0 μ s₂.gens ∧ Acc 0 #[] ν ∧ bnd ≤ s₂.heap.objs.size ∧ (∀ q ∈ ν, ok q) ∧ (∀ q, bnd ≤ q.1 → ¬ isIt q.2 → ok q) ∧
      (∀ D vs nD ν' h' G' tk, Fr h₀ L h' m → News h₀ L h' ((D, listOf vs nD) :: ν') → (∀ q ∈ ν, q ∈ ν') → (∀ q ∈ ν', q.1 ≠ D) → Acc n vs ν' → Bare s₂.gens G' → Q (.ref D) { s₂ with heap := h', gens := G', toks := tk })) E s₁) E s)
    (hs : ∀ x, foldedSetIterable iter env x = pure x := by intro _; rfl) :
    wpAny (Mo w) A (eval (.ListComp elt [⟨.Name x px, iter, ifs, 0⟩] scope pos) env) Q E s := by
  rw [eval_ListComp]
  refine wpAny_comprehension_free (use := none) rfl hs hclos hkind hnames (wpAny_mono h (fun xv s₁ h₁ => wpAny_mono h₁ (fun it s₂ h₂ => ?_) fun _ _ e => e) fun _ _ e => e)
  obtain ⟨it, bnd, n, val, ok, J, Acc, μ, ν, rfl, hn, hsz, SR, EL, hself, F, N, hJ, hA, hb, hok, okn, hQ⟩ := h₂
  refine comp_block (RR := fun acc C => compPost (Mo w) A E none Q acc C) hcell hkind hx hn hsz SR EL hself F N hJ hA hb hok okn ?_
  intro C D vs nD oC' mC' ν' h' G' tk a0 a1 a2 a3 a4 a5 a6 a7 a8
  refine ⟨mC', a1.ns (a3 _ (.head _)).1, fun h'' hs'' => ?_⟩
  have F'' : Fr h₀ L h'' m := a2.change hs'' (a3 _ (.head _)).2.1 (a3 _ (.head _)).2.2
  refine hQ D vs nD ν' h'' G' tk F'' (List.forall_mem_cons.mpr ⟨⟨(hs''.2 D a6).trans (a3 _ (.tail _ (.head _))).1, (a3 _ (.tail _ (.head _))).2⟩, fun q hq => ⟨(hs''.2 q.1 (a5 q hq).1).trans (a3 q (.tail _ (.tail _ hq))).1, (a3 q (.tail _ (.tail _ hq))).2⟩⟩) a4 (fun q hq => (a5 q hq).2) a7 a8

theorem comp_use {elt iter : Expr} {x y : Str} {px py pos spos : Pos} {ifs : List Expr} {scope : Scope} {cl : List (Str × Addr)} {Q : Flow → Shared → Prop} (hsw : swapsWith (.ListComp elt [⟨.Name x px, iter, ifs, 0⟩] scope pos) (some (.Name y py)) spos.line env = pure true)
    (hclos : closureFor scope env = pure cl) (hcell : ∀ y ∈ scope.names, y.2 ≠ .cell) (hkind : scope.kind = .function)
    (hnames : ∀ y ∈ scope.names, y.2 = .local → scope.names.lookup y.1 = some .local) (hx : scope.names.lookup x = some .local)
    (h : wpAny (Mo w) A (eval iter env) (fun xv s₁ => wpAny (Mo w) A (pyIter xv) (fun itv s₂ => ∃ it bnd n val ok J Acc μ ν, itv = .ref it ∧ n ≤ 100 ∧ (∀ i vs ν, Acc i vs ν → vs.size ≤ i) ∧
      Src w A h₀ L m it n val ok bnd J ∧ EltOk w A h₀ L m x n val ok Acc ifs elt (fun C => compEnvC scope cl C env) bnd ∧ (∀ (s : Shared) (Q : Value → Shared → Prop), J 0 μ s.gens → News h₀ L s.heap μ → Q (.ref it) s → wpAny (Mo w) A (pyIter (.ref it)) Q (fun _ _ => False) s) ∧
      Fr h₀ L s₂.heap m ∧ News h₀ L s₂.heap (μ ++ ν) ∧ J 0 μ s₂.gens ∧ Acc 0 #[] ν ∧ bnd ≤ s₂.heap.objs.size ∧ (∀ q ∈ ν, ok q) ∧ (∀ q, bnd ≤ q.1 → ¬ isIt q.2 → ok q) ∧
      (∀ C oC D vs nD ν' h' G' tk, s₂.heap.objs.size ≤ C → Fr h₀ L h' m → News h₀ L h' ((C, oC) :: (D, listOf vs nD) :: ν') → (∀ q ∈ ν, q ∈ ν') → (∀ q ∈ ν', q.1 ≠ C ∧ q.1 ≠ D) → D ≠ C → Acc n vs ν' → Bare s₂.gens G' →
        wpAny (Mo w) A (storeName env y (.ref D)) (fun _ s'' => ∃ m'' ν'', Fr h₀ L s''.heap m'' ∧ News h₀ L s''.heap ((C, oC) :: ν'') ∧ (∀ q ∈ ν'', q.1 ≠ C) ∧ ∀ h'', Fr h₀ L h'' m'' → News h₀ L h'' ν'' → Q .next { s'' with heap := h'' }) E { s₂ with heap := h', gens := G', toks := tk })) E s₁) E s)
    (hs : ∀ x, foldedSetIterable iter env x = pure x := by intro _; rfl) :
    wpAny (Mo w) A (exec (.Assign [.Name y py] (.ListComp elt [⟨.Name x px, iter, ifs, 0⟩] scope pos) spos) env) Q E s := by
  rw [exec_Assign_Name_used _ _ _ _ hsw]
  refine wpAny_bind (wpAny_standAt (wpAny_bind ?_))
  show wpAny _ A (do let _ ← comprehension (.ListComp elt [⟨.Name x px, iter, ifs, 0⟩] scope pos) scope env _ (newList []) false (eval iter env) (some (assign (.Name y py) env))) _ _ s
  refine wpAny_bind (wpAny_mono (wpAny_comprehension_free (use := some (assign (.Name y py) env)) (Q := fun _ s' => Q .next s') rfl hs hclos hkind hnames
    (wpAny_mono h (fun xv s₁ h₁ => wpAny_mono h₁ (fun it s₂ h₂ => ?_) fun _ _ e => e) fun _ _ e => e)) (fun _ s' hq => wpAny_pure (wpAny_pure hq)) fun _ _ e => e)
  obtain ⟨it, bnd, n, val, ok, J, Acc, μ, ν, rfl, hn, hsz, SR, EL, hself, F, N, hJ, hA, hb, hok, okn, hQ⟩ := h₂
  refine comp_block (RR := fun acc C => compPost (Mo w) A E (some (assign (.Name y py) env)) (fun _ s' => Q .next s') acc C) hcell hkind hx hn hsz SR EL hself F N hJ hA hb hok okn ?_
  intro C D vs nD oC' mC' ν' h' G' tk a0 a1 a2 a3 a4 a5 a6 a7 a8
  show wpAny _ A (assign (.Name y py) env (.ref D)) _ _ _
  refine wpAny_assign_Name (wpAny_mono (hQ C oC' D vs nD ν' h' G' tk a0 a2 a3 a4 a5 a6 a7 a8) (fun _ s'' h2 => ?_) fun _ _ e => e)
  obtain ⟨m'', ν'', b1, b2, b3, b4⟩ := h2
  refine ⟨mC', a1.ns (b2 _ (.head _)).1, fun h'' hs'' => b4 h'' (b1.change hs'' (b2 _ (.head _)).2.1 (b2 _ (.head _)).2.2) fun q hq => ⟨(hs''.2 q.1 (b3 q hq)).trans (b2 q (.tail _ hq)).1, (b2 q (.tail _ hq)).2⟩⟩
abbrev itObj (l : Addr) (i : Nat) : Obj := { cls := .type "list_iterator", data := .fields #[.ref l, .int i 0] }

theorem src_list {it : Addr} {its : Array Value} (hh : A.handled = none) (hlit : l < it) (hL : L < it) :
    Src w A h₀ L m it its.size (fun i v => its[i]? = some v) (fun q => q.1 ≠ it) (it + 1) (fun i μ _ => ∃ o : Obj, o.cls = .type "list_iterator" ∧ o.data = .fields #[.ref l, .int i 0] ∧ μ = [(it, o), (l, listOf its n1)] ∧ i ≤ its.size) where
  mu := by
    rintro i _ G ⟨o, _, _, rfl, _⟩
    exact List.forall_mem_cons.mpr ⟨.inl (Nat.lt_succ_self _), List.forall_mem_cons.mpr ⟨.inl (Nat.lt_succ_of_lt hlit), fun _ h => nomatch h⟩⟩
  fin := by rintro i _ G ⟨o, _, _, rfl, h⟩; exact h
  nxt := by
    rintro i _ β s Q E ⟨o, hc, hd, rfl, hi⟩ F N hβ hs hn
    have hit : s.heap.IsListIter it l i := ⟨o, (N _ (.head _)).1, hc, hd⟩
    have hl : s.heap.IsList l its := ⟨_, (N _ (.tail _ (.head _))).1, rfl, _, rfl⟩
    have fresh := fresh_of F it (Nat.le_of_lt hL)
    rcases Nat.lt_or_ge i its.size with hlt | hge
    · refine wpAny_pyNext_list_item hit hl (Array.getElem?_eq_getElem hlt) fun h' hit' hsb => ?_
      obtain ⟨o', e', c', d'⟩ := hit'
      refine hs hlt _ [(it, o'), (l, listOf its n1)] s.gens h' s.toks (Array.getElem?_eq_getElem hlt) ⟨o', c', d', rfl, hlt⟩ (F.change hsb (Nat.ne_of_gt hL) fresh) ?_ fun h => h
      refine List.forall_mem_cons.mpr ⟨⟨e', Nat.ne_of_gt hL, fresh⟩, List.forall_mem_cons.mpr ⟨⟨(hsb.2 l (Nat.ne_of_lt hlit)).trans (N _ (.tail _ (.head _))).1, (N _ (.tail _ (.head _))).2⟩, fun q hq => ⟨(hsb.2 q.1 (hβ q hq)).trans (N q (.tail _ (.tail _ hq))).1, (N q (.tail _ (.tail _ hq))).2⟩⟩⟩
    · refine wpAny_pyNext_list_end hh hit hl (Array.getElem?_eq_none hge) fun h' hx => ?_
      refine hn (Nat.le_antisymm hi hge) s.gens h' s.toks ⟨?_, fun b o e => hx b o (fun q => by rw [q, fresh] at e; cases e) (F.keep b o e), F.above⟩ (fun q hq => ⟨hx q.1 q.2 (hβ q hq) (N q (.tail _ (.tail _ hq))).1, (N q (.tail _ (.tail _ hq))).2⟩) fun h => h
      obtain ⟨oL, q1, q2, qo, q3⟩ := F.ns
      exact ⟨oL, q1, q2, hx L oL (Nat.ne_of_lt hL) qo, q3⟩

theorem src_gen {g Lg : Nat} {gx gy : Value} {its : Array Value} (hh : A.handled = none) (hroom : A.depth < recursionLimit) (hlim : h₀.NoLimit) (hL : L < Lg) (hLa : Lg < a) (hla : l ≤ a) (hlg : l ≠ Lg) :
    Src w A h₀ L m a its.size (fun i v => its[i]? = some v) (fun q => q.1 ≠ Lg ∧ (q.1 ≤ a ∨ ¬ isIt q.2)) (a + 1) (fun i μ G => ∃ own, μ = own ++ [(a, genObj g gx gy), (l, listOf its n1)] ∧ (∀ q ∈ own, q.1 ≤ a ∨ isIt q.2) ∧ GenSt w A.in1 h₀ a Lg l its n1 g (its.size - i) own G ∧ i ≤ its.size) where
  mu := by
    rintro i _ G ⟨own, rfl, ho, _, _⟩
    refine List.forall_mem_append.mpr ⟨fun q hq => (ho q hq).imp Nat.lt_succ_of_le id, List.forall_mem_cons.mpr ⟨.inl (Nat.lt_succ_self _), List.forall_mem_cons.mpr ⟨.inl (Nat.lt_succ_of_le hla), fun _ h => nomatch h⟩⟩⟩
  fin := by rintro i _ G ⟨own, rfl, _, _, h⟩; exact h
  nxt := by
    rintro i _ β s Q E ⟨own, rfl, ho, GS, hi⟩ F N hβ hs hn
    rw [List.append_assoc] at N
    refine gen_next (ν := (a, genObj g gx gy) :: (l, listOf its n1) :: β) hh hroom hlim F N (List.forall_mem_cons.mpr ⟨⟨Nat.ne_of_gt hLa, .inl (Nat.le_refl _)⟩, List.forall_mem_cons.mpr ⟨⟨hlg, .inl hla⟩, hβ⟩⟩) hL hLa (.head _) (.tail _ (.head _)) (.inl hla) GS (fun k' v own' h' G' tk ek hk' hit F' N' GS' hb ho' => ?_) fun ek h' G' tk F' N' hb => ?_
    · have hlt : i < its.size := by omega
      refine hs hlt v (own' ++ [(a, genObj g gx gy), (l, listOf its n1)]) G' h' tk ?_ ⟨own', rfl, ho', ?_, hlt⟩ F' (by rw [List.append_assoc]; exact N') hb
      · rw [show its.size - 1 - k' = i by omega] at hit; exact hit
      · rw [show its.size - (i + 1) = k' by omega]; exact GS'
    · exact hn (by omega) G' h' tk F' (fun q hq => N' q (.tail _ (.tail _ hq))) hb
abbrev rgObj (x left step : Int) : Obj := { cls := .type "range_iterator", dict := none, data := .fields #[rawInt x, rawInt left, rawInt step], slots := #[] }

theorem src_range {it : Addr} {n : Nat} (hh : A.handled = none) (hL : L < it) :
    Src w A h₀ L m it n (fun i v => ∃ t, v = .int (i : Nat) t) (fun q => q.1 ≠ it) (it + 1) (fun i μ _ => μ = [(it, rgObj (i : Nat) ((n : Int) - (i : Nat)) 1)] ∧ i ≤ n) where
  mu := by
    rintro i _ G ⟨rfl, _⟩
    exact List.forall_mem_cons.mpr ⟨.inl (Nat.lt_succ_self _), fun _ h => nomatch h⟩
  fin := by rintro i _ G ⟨rfl, h⟩; exact h
  nxt := by
    rintro i _ β s Q E ⟨rfl, hi⟩ F N hβ hs hn
    have fresh := fresh_of F it (Nat.le_of_lt hL)
    have hit := (N _ (.head _)).1
    rcases Nat.lt_or_ge i n with hlt | hge
    · refine wpAny_pyNext_range_item hit (by omega) fun h' hit' hsb => ?_
      refine hs hlt _ [(it, rgObj ((i + 1 : Nat) : Int) ((n : Int) - ((i + 1 : Nat) : Int)) 1)] s.gens h' _ ⟨_, rfl⟩ ⟨rfl, hlt⟩ (F.change hsb (Nat.ne_of_gt hL) fresh) ?_ fun h => h
      refine List.forall_mem_cons.mpr ⟨⟨?_, Nat.ne_of_gt hL, fresh⟩, fun q hq => ⟨(hsb.2 q.1 (hβ q hq)).trans (N q (.tail _ hq)).1, (N q (.tail _ hq)).2⟩⟩
      have e1 : ((i : Nat) : Int) + 1 = ((i + 1 : Nat) : Int) := by omega
      have e2 : (n : Int) - (i : Nat) - 1 = (n : Int) - ((i + 1 : Nat) : Int) := by omega
      rw [e1, e2] at hit'
      exact hit'
    · refine wpAny_pyNext_range_end hh hit (by omega) fun h' hx => ?_
      refine hn (Nat.le_antisymm hi hge) s.gens h' s.toks ⟨?_, fun b o e => hx b o (fun q => by rw [q, fresh] at e; cases e) (F.keep b o e), F.above⟩ (fun q hq => ⟨hx q.1 q.2 (hβ q hq) (N q (.tail _ hq)).1, (N q (.tail _ hq)).2⟩) fun h => h
      obtain ⟨oL, q1, q2, qo, q3⟩ := F.ns
      exact ⟨oL, q1, q2, hx L oL (Nat.ne_of_lt hL) qo, q3⟩

theorem ld_comp {x : Str} {px : Pos} {v : Value} {scope : Scope} {cl : List (Str × Addr)} {C : Addr} {mC : Str → Option Value} {M : Model} (hkind : scope.kind = .function) (hx : scope.names.lookup x = some .local) (hdx : (x == ("__debug__" : Str)) = false) (FC : Fr h₀ C s.heap mC) (hv : mC x = some v) (h : Q v s) :
    wpAny M A (eval (.Name x px) (compEnvC scope cl C env)) Q E s :=
  wpAny_Name (wpAny_loadName_local (env := compEnvC scope cl C env) hkind (lookup_relabel_local hx) FC.ns hv h) hdx

def AccSig (R : Row) (ν₀ : List (Addr × Obj)) (i : Nat) (vs : Array Value) (ν : List (Addr × Obj)) : Prop :=
  vs.size = i ∧ (∀ q ∈ ν₀, q ∈ ν) ∧ ∀ (j : Nat) e, j < i → R[j]? = some e → ∃ t, vs[j]? = some (.int e.2.sig t)
def AccMark (R : Row) (ν₀ : List (Addr × Obj)) (i : Nat) (vs : Array Value) (ν : List (Addr × Obj)) : Prop :=
  vs.size = i ∧ (∀ q ∈ ν₀, q ∈ ν) ∧ ∀ (j : Nat) e, j < i → R[j]? = some e → ∃ t, vs[j]? = some (.ref t) ∧ TupIn ν t (mark e.2)

theorem AccSig.push {R : Row} {ν₀ ν : List (Addr × Obj)} {i : Nat} {vs : Array Value} {e : Addr × CD} {t : Tok} (H : AccSig R ν₀ i vs ν) (he : R[i]? = some e) : AccSig R ν₀ (i + 1) (vs.push (.int e.2.sig t)) ν := by
  obtain ⟨h1, h2, h3⟩ := H
  refine ⟨by rw [Array.size_push, h1], h2, fun j e' hj he' => ?_⟩
  rcases Nat.lt_or_ge j i with c | c
  · obtain ⟨t', ht⟩ := h3 j e' c he'
    exact ⟨t', by rw [Array.getElem?_push, if_neg (by omega)]; exact ht⟩
  · have : j = i := by omega
    subst this
    rw [he] at he'
    cases he'
    exact ⟨t, by rw [Array.getElem?_push, if_pos h1.symm]⟩

theorem elt_sig {x : Str} {px pos : Pos} {scope : Scope} {cl : List (Str × Addr)} {R : Row} {ν₀ : List (Addr × Obj)} {ok : Addr × Obj → Prop} {bnd : Addr} (S : Sx w A₀ base outer env h₀ L mg mb mean loose) (hkind : scope.kind = .function) (hx : scope.names.lookup x = some .local) (hdx : (x == ("__debug__" : Str)) = false)
    (HC : ∀ e ∈ R, CertIn ν₀ e.1 e.2) :
    EltOk w A h₀ L m x R.length (fun i v => (items R)[i]? = some v) ok (AccSig R ν₀) [] (.Attribute (.Name x px) "signature" pos) (fun C => compEnvC scope cl C env) bnd := by
  intro i v C mC vs κ ν s QY QN E hi hb hCk FC hv hm F N H hY hN
  obtain ⟨e, he⟩ := at_row (row := R) i hi
  have : v = .ref e.1 := by rw [items_get he] at hv; exact (Option.some.inj hv).symm
  subst this
  refine wpAny_tests_nil ?_
  rw [if_pos rfl]
  refine Attribute_Name_ (ld_comp hkind hx hdx FC hm ?_)
  refine get_sig S F N ((HC e (List.mem_of_getElem? he)).mono fun q hq => List.mem_append_right _ (H.2.1 q hq)) fun t tk => ?_
  exact hY _ ν _ _ F N (fun q hq => hq) (fun q hq => .inl hq) (H.push he)

theorem elt_mark {x : Str} {px p1 p2 p3 p4 : Pos} {kx : Nat} {scope : Scope} {cl : List (Str × Addr)} {R : Row} {ν₀ : List (Addr × Obj)} {ok : Addr × Obj → Prop} {bnd : Addr} {px' : Pos} (S : Sx w A₀ base outer env h₀ L mg mb mean loose) (hkind : scope.kind = .function) (hx : scope.names.lookup x = some .local) (hdx : (x == ("__debug__" : Str)) = false)
    (HC : ∀ e ∈ R, CertIn ν₀ e.1 e.2) (okn : ∀ q, bnd ≤ q.1 → ¬ isIt q.2 → ok q) :
    EltOk w A h₀ L m x R.length (fun i v => (items R)[i]? = some v) ok (AccMark R ν₀) [] (.Tuple [.Attribute (.Attribute (.Name x px) "issuer" p1) "hashable" p2, .Attribute (.Name x px') "serial_number" p3] kx p4) (fun C => compEnvC scope cl C env) bnd := by
  intro i v C mC vs κ ν s QY QN E hi hb hCk FC hv hm F N H hY hN
  obtain ⟨e, he⟩ := at_row (row := R) i hi
  have : v = .ref e.1 := by rw [items_get he] at hv; exact (Option.some.inj hv).symm
  subst this
  refine wpAny_tests_nil ?_
  rw [if_pos rfl]
  have Ce := (HC e (List.mem_of_getElem? he)).mono fun q hq => List.mem_append_right κ (H.2.1 q hq)
  walk_at "st"
  walk_at "st"
  walk_at "st"
  refine Attribute_Name_ (ld_comp hkind hx hdx FC hm ?_)
  refine get_iss S F N Ce fun a1 tk H1 => ?_
  refine get_hashable S F N H1 fun t1 tk => ?_
  walk_at "st"
  refine Attribute_Name_ (ld_comp (s := { s with toks := tk }) hkind hx hdx FC hm ?_)
  refine get_ser S F N Ce fun t2 tk => ?_
  walk_at "st"
  refine newTuple_N F N fun h₂ F₂ N₂ => ?_
  have hlt : ∀ q ∈ (κ ++ ν), q.1 < s.heap.objs.size := fun q hq => Heap.lt_size (N q hq).1
  have hCs : C < s.heap.objs.size := by obtain ⟨o, q1, q2, qo, q3⟩ := FC.ns; exact Heap.lt_size qo
  refine hY _ ((s.heap.objs.size, tupObj (.str e.2.iss t1) (.int e.2.ser t2)) :: ν) h₂ _ F₂ (List.forall_mem_append.mpr ⟨fun q hq => N₂ q (.tail _ (List.mem_append_left _ hq)), List.forall_mem_cons.mpr ⟨N₂ _ (.head _), fun q hq => N₂ q (.tail _ (List.mem_append_right _ hq))⟩⟩) (fun q hq => .tail _ hq) (List.forall_mem_cons.mpr ⟨.inr ⟨okn _ (Nat.le_trans hb (Nat.le_of_lt hCs)) (by rintro ⟨_, _, c⟩; cases c), fun q hq => hlt q (List.mem_append_left _ hq)⟩, fun q hq => .inl hq⟩) ?_
  obtain ⟨h1, h2, h3⟩ := H
  refine ⟨by rw [Array.size_push, h1], fun q hq => .tail _ (h2 q hq), fun j e' hj he' => ?_⟩
  rcases Nat.lt_or_ge j i with c | c
  · obtain ⟨t', ht, hk⟩ := h3 j e' c he'
    exact ⟨t', by rw [Array.getElem?_push, if_neg (by omega)]; exact ht, hk.mono fun q hq => .tail _ hq⟩
  · have : j = i := by omega
    subst this
    rw [he] at he'
    cases he'
    exact ⟨s.heap.objs.size, by rw [Array.getElem?_push, if_pos h1.symm], ⟨t1, t2, .head _⟩⟩
theorem elt_path {x : Str} {p1 p2 p3 p4 : Pos} {scope : Scope} {cl : List (Str × Addr)} {R : Row} {ν₀ : List (Addr × Obj)} {ok : Addr × Obj → Prop} {bnd cc : Addr} {oc : Obj} (S : Sx w A₀ base outer env h₀ L mg mb mean loose) (r : Rm A (env :: outer) 4) (hkind : scope.kind = .function) (hx : scope.names.lookup x = some .local) (hdx : (x == ("__debug__" : Str)) = false)
    (hp : ∀ C, (compEnvC scope cl C env).kindOf "path" = some .cell) (hc : cl.lookup ("path" : Str) = some cc) (hoc : (cc, oc) ∈ ν₀) (hd : oc.data = .cell (some (.ref p))) (hm₀ : (l, listOf (items R) n1) ∈ ν₀) (P : PathIn ν₀ p l hs) (h100 : R.length ≤ 100)
    (HC : ∀ e ∈ R, CertIn ν₀ e.1 e.2) :
    EltOk w A h₀ L m x R.length (fun i v => ∃ t, v = .int (i : Nat) t) ok (AccSig R ν₀) [] (.Attribute (.Subscript (.Name "path" p1) (.Name x p2) p3) "signature" p4) (fun C => compEnvC scope cl C env) bnd := by
  intro i v C mC vs κ ν s QY QN E hi hb hCk FC hv hm F N H hY hN
  obtain ⟨e, he⟩ := at_row (row := R) i hi
  obtain ⟨t, rfl⟩ := hv
  refine wpAny_tests_nil ?_
  rw [if_pos rfl]
  have sub : ∀ q ∈ ν₀, q ∈ (κ ++ ν) := fun q hq => List.mem_append_right _ (H.2.1 q hq)
  refine Attribute_any_ ?_
  refine Subscript_ ?_
  refine wpAny_Name (wpAny_loadName_cell (env := compEnvC scope cl C env) hkind (hp C) hc ⟨oc, (N _ (sub _ hoc)).1, hd⟩ ?_) (by decide)
  refine ld_comp hkind hx hdx FC hm ?_
  refine item_path S F N (sub _ hm₀) (P.mono sub) he (by omega) r fun h' tk F' N' => ?_
  refine get_sig S F' N' ((HC e (List.mem_of_getElem? he)).mono sub) fun t tk => ?_
  exact hY _ ν _ _ F' N' (fun q hq => hq) (fun q hq => .inl hq) (H.push he)

theorem tup_eqAt {h : Heap} {t₁ t₂ : Addr} {k₁ k₂ : Mark} (N : News h L s.heap ν) (h1 : TupIn ν t₁ k₁) (h2 : TupIn ν t₂ k₂) (hu : A.units < cLine) : SeqAt.EqAt A s (.ref t₁) (.ref t₂) (decide (k₁ = k₂)) := by
  by_cases e : t₁ = t₂
  · subst e
    rw [tup_inj N _ _ _ h1 h2, decide_eq_true rfl]
    exact SeqAt.EqAt.same _
  · obtain ⟨u1, u2, h1⟩ := h1
    obtain ⟨u3, u4, h2⟩ := h2
    refine SeqAt.EqAt.of_refs e ?_
    have := SeqAt.RcAt.tuples (A := A) (e := fun q => if q = 0 then k₁.1 == k₂.1 else k₁.2 == k₂.2) (s := s) ⟨_, (N _ h1).1, rfl, _, rfl⟩ ⟨_, (N _ h2).1, rfl, _, rfl⟩ hu (fun q q1 q2 => by
      match q, q1, q2 with
      | 0, _, _ => exact SeqAt.EqAt.str_str k₁.1 u1 k₂.1 u3
      | 1, _, _ => exact SeqAt.EqAt.int_int k₁.2 u2 k₂.2 u4
      | q + 2, q1, _ => exact absurd q1 (by simp))
    have eq : ((List.range (min ([Value.str k₁.1 u1, .int k₁.2 u2].toArray.size) ([Value.str k₂.1 u3, .int k₂.2 u4].toArray.size))).all (fun q => if q = 0 then k₁.1 == k₂.1 else k₁.2 == k₂.2) && [Value.str k₁.1 u1, .int k₁.2 u2].toArray.size == [Value.str k₂.1 u3, .int k₂.2 u4].toArray.size) = decide (k₁ = k₂) := by
      rw [Bool.eq_iff_iff, decide_eq_true_iff, Prod.ext_iff]
      simp [List.range_succ, List.range_zero]
    rw [eq] at this
    exact this

noncomputable def hasMark (ν : List (Addr × Obj)) (k : Mark) (v : Value) : Bool := by
  classical
  exact decide (∃ t, v = .ref t ∧ TupIn ν t k)
theorem hasMark_iff {k : Mark} {v : Value} : hasMark ν k v = true ↔ ∃ t, v = .ref t ∧ TupIn ν t k := by
  unfold hasMark
  exact @decide_eq_true_iff _ (Classical.propDecidable _)
theorem hasMark_eqAt {h : Heap} {t t₂ : Addr} {k₁ k : Mark} (N : News h L s.heap ν) (h1 : TupIn ν t k₁) (h2 : TupIn ν t₂ k) (hu : A.units < cLine) : SeqAt.EqAt A s (.ref t) (.ref t₂) (hasMark ν k (.ref t)) := by
  have e : hasMark ν k (.ref t) = decide (k₁ = k) := by
    rw [Bool.eq_iff_iff, hasMark_iff, decide_eq_true_iff]
    constructor
    · rintro ⟨t', e, h3⟩
      cases e
      exact tup_inj N _ _ _ h1 h3
    · rintro rfl
      exact ⟨t, rfl, h1⟩
  rw [e]
  exact tup_eqAt N h1 h2 hu
theorem marks_any {h : Heap} {R : Row} {ν₀ : List (Addr × Obj)} {vs : Array Value} {k : Mark} (N : News h L s.heap ν) (H : AccMark R ν₀ R.length vs ν) : vs.any (hasMark ν k) = decide (k ∈ marks R) := by
  obtain ⟨h1, h2, h3⟩ := H
  rw [Bool.eq_iff_iff, decide_eq_true_iff, Array.any_eq_true]
  constructor
  · rintro ⟨j, hj, hm⟩
    obtain ⟨e, he⟩ := at_row (row := R) j (by omega)
    obtain ⟨t, ht, hk⟩ := h3 j e (by omega) he
    rw [Array.getElem?_eq_getElem hj] at ht
    rw [hasMark_iff] at hm
    obtain ⟨t', e', hk'⟩ := hm
    rw [Option.some.inj ht] at e'
    cases e'
    rw [← tup_inj N _ _ _ hk hk']
    exact List.mem_map_of_mem (List.mem_of_getElem? he)
  · intro hk
    obtain ⟨e, he, rfl⟩ := List.mem_map.mp hk
    obtain ⟨j, hj, hje⟩ := List.mem_iff_getElem.mp he
    obtain ⟨t, ht, hkk⟩ := h3 j e hj (by rw [List.getElem?_eq_getElem hj, hje])
    refine ⟨j, by omega, ?_⟩
    have hjs : j < vs.size := by omega
    rw [Array.getElem?_eq_getElem hjs] at ht
    rw [hasMark_iff]
    exact ⟨t, Option.some.inj ht, hkk⟩
theorem marks_ref {R : Row} {ν₀ : List (Addr × Obj)} {vs : Array Value} {y : Value} (H : AccMark R ν₀ R.length vs ν) (hy : y ∈ vs) : ∃ t k, y = .ref t ∧ TupIn ν t k := by
  obtain ⟨h1, h2, h3⟩ := H
  obtain ⟨j, hj, rfl⟩ := Array.mem_iff_getElem.mp hy
  obtain ⟨e, he⟩ := at_row (row := R) j (by omega)
  obtain ⟨t, ht, hk⟩ := h3 j e (by omega) he
  rw [Array.getElem?_eq_getElem hj] at ht
  exact ⟨t, _, Option.some.inj ht, hk⟩
theorem in_marks {h : Heap} {R : Row} {ν₀ : List (Addr × Obj)} {vs : Array Value} {nD : Nat} {t : Addr} {k : Mark} {D : Addr} (N : News h L s.heap ν) (hD : (D, listOf vs nD) ∈ ν) (H : AccMark R ν₀ R.length vs ν) (ht : TupIn ν t k) (hu : A.units + 1 < cLine)
    (hq : Q (.bool (decide (k ∈ marks R))) s) : wpAny (Mo w) A (compareOp .In (.ref t) (.ref D)) Q E s := by
  refine SeqAt.in_listAt (hasMark ν k) ⟨_, (N _ hD).1, rfl, _, rfl⟩ (fun y hy => ?_) (by rw [marks_any N H]; exact hq)
  obtain ⟨t', k', rfl, hk'⟩ := marks_ref H hy
  exact hasMark_eqAt (A := A.in1) N hk' ht hu
theorem notin_marks {h : Heap} {R : Row} {ν₀ : List (Addr × Obj)} {vs : Array Value} {nD : Nat} {t : Addr} {k : Mark} {D : Addr} (N : News h L s.heap ν) (hD : (D, listOf vs nD) ∈ ν) (H : AccMark R ν₀ R.length vs ν) (ht : TupIn ν t k) (hu : A.units + 1 < cLine)
    (hq : Q (.bool (!decide (k ∈ marks R))) s) : wpAny (Mo w) A (compareOp .NotIn (.ref t) (.ref D)) Q E s := by
  refine SeqAt.notIn_listAt (hasMark ν k) ⟨_, (N _ hD).1, rfl, _, rfl⟩ (fun y hy => ?_) (by rw [marks_any N H]; exact hq)
  obtain ⟨t', k', rfl, hk'⟩ := marks_ref H hy
  exact hasMark_eqAt (A := A.in1) N hk' ht hu

theorem index_marks {h : Heap} {R : Row} {ν₀ : List (Addr × Obj)} {vs : Array Value} {nD : Nat} {t : Addr} {k : Mark} {D : Addr} {j : Nat} {e : Addr × CD} (N : News h L s.heap ν) (hD : (D, listOf vs nD) ∈ ν) (H : AccMark R ν₀ R.length vs ν) (ht : TupIn ν t k) (hu : A.units + 1 < cLine) (h100 : R.length ≤ 100)
    (hj : R[j]? = some e) (he : mark e.2 = k) (hno : ∀ (i : Nat) e', i < j → R[i]? = some e' → mark e'.2 ≠ k)
    (hq : ∀ u tk, Q (.int (j : Nat) u) { s with toks := tk }) : wpAny (Mo w) A (call (.builtin "list.index") [.ref D, .ref t]) Q E s := by
  obtain ⟨h1, h2, h3⟩ := id H
  have hjl : j < R.length := (List.getElem?_eq_some_iff.mp hj).1
  have at_ : ∀ (i : Nat) e' (hi : i < vs.size), R[i]? = some e' → ∃ t', vs[i] = .ref t' ∧ TupIn ν t' (mark e'.2) := fun i e' hi he' => by
    obtain ⟨t', a, b⟩ := h3 i e' (by omega) he'
    rw [Array.getElem?_eq_getElem hi] at a
    exact ⟨t', Option.some.inj a, b⟩
  refine call_meets PySem.F.slot_list_index ⟨_, (N _ hD).1, rfl⟩ PySem.F.entry_list_index (PySem.F.args_list_index_2 _ _) (SeqAt.list_indexAt D vs nD none #[] (.ref t) (hasMark ν k) j (by omega) (by omega) ?_ ?_) ⟨(N _ hD).1, fun y hy => ?_, hq _ _⟩
  · obtain ⟨t', a, b⟩ := at_ j e (by omega) hj
    rw [a, hasMark_iff]
    exact ⟨t', rfl, he ▸ b⟩
  · intro i hi hij
    obtain ⟨e', he'⟩ := at_row (row := R) i (by omega)
    obtain ⟨t', a, b⟩ := at_ i e' hi he'
    rw [a, Bool.eq_false_iff]
    intro c
    rw [hasMark_iff] at c
    obtain ⟨t'', c1, c2⟩ := c
    cases c1
    exact hno i e' hij he' (tup_inj N _ _ _ b c2)
  · obtain ⟨t', k', rfl, hk'⟩ := marks_ref H hy
    exact hasMark_eqAt (A := A.in1) N hk' ht hu
def nonnil (d : CD) : Prop := (∀ b, d.kid = some b → b.size ≠ 0) ∧ (∀ b, d.aki = some b → b.size ≠ 0)
theorem tr_of {o : Option (Array UInt8)} (h : ∀ b, o = some b → b.size ≠ 0) : tr o = o.isSome := by
  cases o with
  | none => rfl
  | some b =>
    have := h b rfl
    show ((b.size : Int) != 0) = true
    simp only [bne_iff_ne, ne_eq, Int.natCast_eq_zero]
    exact this
theorem isIss_alt {e d : CD} (he : nonnil e) (hd : nonnil d) : isIss e d = (e.sub == d.iss && (e.kid.isNone || d.aki.isNone || decide (e.kid = d.aki))) := by
  unfold isIss
  rw [tr_of he.1, tr_of hd.2]
  cases e.kid <;> cases d.aki <;> simp
def issIdx (row : Row) (d : CD) : Int := match row.findIdx? (fun e => isIss e.2 d) with | some i => i | none => -1

abbrev rangeO (x y z : Int) (t u v : Tok) : Obj := { cls := .type "range", dict := none, data := .fields #[.int x t, .int y u, .int z v], slots := #[] }
theorem mk_range1 {n : Nat} {t : Tok} (F : Fr h₀ L s.heap m) (N : News h₀ L s.heap ν) (k : ∀ r t1 t2 h' tk, Fr h₀ L h' m → News h₀ L h' ((r, rangeO 0 n 1 t1 t t2) :: ν) → Q (.ref r) { s with heap := h', toks := tk }) : wpAny (Mo w) A (call (.type "range") [.int (n : Nat) t]) Q E s :=
  call_range_1 (k _ _ _ _ _ (F.push _) (N.push F _))
theorem small_of {x y : Int} (hx : 0 ≤ x) (hx2 : x ≤ 1000) (hy : 0 ≤ y) (hy2 : y ≤ 1000) : Builtin.Range.small x y 1 = true := by
  unfold Builtin.Range.small
  rw [rangeSize_one]
  have fit : ∀ z : Int, 0 ≤ z → z ≤ 1000 → Builtin.Range.rangeFitsLong z = true := fun z a b => by
    unfold Builtin.Range.rangeFitsLong
    simp only [Bool.and_eq_true, decide_eq_true_eq]
    omega
  have e1 : (1 : Int) + -1 = 0 := by decide
  split
  · rw [fit x hx hx2, fit y hy hy2, fit 1 (by decide) (by decide), fit (y - x) (by omega) (by omega)]
    simp [fit y hy hy2]
  · rw [fit x hx hx2, fit y hy hy2, fit 1 (by decide) (by decide), fit 0 (by decide) (by decide)]
    rfl
theorem iter_range_k {r : Addr} {n : Nat} {t u v : Tok} (F : Fr h₀ L s.heap m) (N : News h₀ L s.heap ν) (hr : (r, rangeO 0 n 1 t u v) ∈ ν) (hn : n ≤ 1000) (k : ∀ it h', L < it → (∀ q ∈ ν, q.1 < it) → Fr h₀ L h' m → News h₀ L h' ((it, rgObj 0 n 1) :: ν) → h'.objs.size = it + 1 → Q (.ref it) { s with heap := h' }) : wpAny (Mo w) A (pyIter (.ref r)) Q E s := by
  refine wpAny_pyIter_range (N _ hr).1 (small_of (by decide) (by decide) (by omega) (by omega)) ?_
  have hL : L < s.heap.objs.size := by obtain ⟨o, q1, q2, qo, q3⟩ := F.ns; exact Heap.lt_size qo
  have e : Builtin.Range.rangeSize 0 (n : Nat) 1 = (n : Nat) := by rw [rangeSize_one]; split <;> omega
  rw [e]
  exact k s.heap.objs.size _ hL (fun q hq => Heap.lt_size (N q hq).1) (F.push _) (N.push F _) (Heap.size_push ..)

theorem is_none_kv {o : Option (Array UInt8)} {u : Tok} {M : Model} (h : Q (.bool o.isNone) s) : wpAny M A (compareOp .Is (kv o u) .none) Q E s := by
  cases o with
  | none => exact is_none_none h
  | some b => exact is_bytes_none h

theorem rg_next {it : Addr} {i n : Nat} {Q : Option Value → Shared → Prop} (hh : A.handled = none) (hL : L < it) (hi : i ≤ n) (F : Fr h₀ L s.heap m) (N : News h₀ L s.heap ((it, rgObj (i : Nat) ((n : Int) - (i : Nat)) 1) :: ν)) (hν : ∀ q ∈ ν, q.1 ≠ it)
    (hs : i < n → ∀ t h' tk, Fr h₀ L h' m → News h₀ L h' ((it, rgObj ((i + 1 : Nat) : Int) ((n : Int) - ((i + 1 : Nat) : Int)) 1) :: ν) → Q (some (.int (i : Nat) t)) { s with heap := h', toks := tk })
    (hn : i = n → ∀ h', Fr h₀ L h' m → News h₀ L h' ν → Q none { s with heap := h' }) : wpAny (Mo w) A (pyNext (.ref it)) Q E s := by
  have fresh := fresh_of F it (Nat.le_of_lt hL)
  have hit := (N _ (.head _)).1
  rcases Nat.lt_or_ge i n with hlt | hge
  · refine wpAny_pyNext_range_item hit (by omega) fun h' hit' hsb => ?_
    refine hs hlt _ h' _ (F.change hsb (Nat.ne_of_gt hL) fresh) ?_
    refine List.forall_mem_cons.mpr ⟨⟨?_, Nat.ne_of_gt hL, fresh⟩, fun q hq => ⟨(hsb.2 q.1 (hν q hq)).trans (N q (.tail _ hq)).1, (N q (.tail _ hq)).2⟩⟩
    have e1 : ((i : Nat) : Int) + 1 = ((i + 1 : Nat) : Int) := by omega
    have e2 : (n : Int) - (i : Nat) - 1 = (n : Int) - ((i + 1 : Nat) : Int) := by omega
    rw [e1, e2] at hit'
    exact hit'
  · refine wpAny_pyNext_range_end hh hit (by omega) fun h' hx => ?_
    refine hn (Nat.le_antisymm hi hge) h' ⟨?_, fun b o e => hx b o (fun q => by rw [q, fresh] at e; cases e) (F.keep b o e), F.above⟩ (fun q hq => ⟨hx q.1 q.2 (hν q hq) (N q (.tail _ hq)).1, (N q (.tail _ hq)).2⟩)
    obtain ⟨oL, q1, q2, qo, q3⟩ := F.ns
    exact ⟨oL, q1, q2, hx L oL (Nat.ne_of_lt hL) qo, q3⟩

theorem issIdx_some {i : Nat} {e : Addr × CD} (he : row[i]? = some e) (h : isIss e.2 d = true) (hno : ∀ (j : Nat) e', j < i → row[j]? = some e' → isIss e'.2 d = false) : issIdx row d = (i : Nat) := by
  unfold issIdx
  have hi := (List.getElem?_eq_some_iff.mp he).1
  have : row.findIdx? (fun e => isIss e.2 d) = some i := by
    rw [List.findIdx?_eq_some_iff_getElem]
    refine ⟨hi, ?_, fun j hj => ?_⟩
    · rw [(List.getElem?_eq_some_iff.mp he).2]; exact h
    · have := hno j _ hj (List.getElem?_eq_getElem (Nat.lt_trans hj hi))
      rw [this]; exact Bool.false_ne_true
  rw [this]
theorem issIdx_none (hno : ∀ (j : Nat) e', row[j]? = some e' → isIss e'.2 d = false) : issIdx row d = -1 := by
  unfold issIdx
  have : row.findIdx? (fun e => isIss e.2 d) = none := by
    rw [List.findIdx?_eq_none_iff]
    intro e he
    obtain ⟨j, hj, rfl⟩ := List.mem_iff_getElem.mp he
    exact hno j _ (List.getElem?_eq_getElem hj)
  rw [this]

section
variable {name : Str} {scope : Scope} {a e te : Addr} {cd : Value} {cl : List (Str × Addr)} {h : Heap} {s' : Shared} {vs : List Value} {b₀ : Stmt} {suite : List Stmt} {pos np : Pos} {rest : List ExceptHandler} {QF : Flow → Shared → Prop} {news : List (Addr × Obj)} {Cx : Addr} {bmB : List Value} {nid : String} {x : Str} {KF : Frag} {pp : Program}

theorem caughtX_own (K : Below A₀ h₀ outer h₀) (F : Fr h₀ L h m) (hsm : h.UpToSlots s'.heap) (R : RaisedK h₀ (envX name scope L a cd cl :: outer) e (.ref Cx) te vs news s'.heap)
    (X : KF.In h₀) (T : TopRead pp loose mg mb h₀) (ex : nsIn KF mainGlobals x = some (some (.ref Cx))) (q : excIn KF Cx bmB nid = true) (hbase : bmB.contains (.type "BaseException") = true)
    (k : ∀ h', Fr h₀ L h' m → News h₀ L h' news →
      wpAny (Mo w) ((A₀.deeper (envX name scope L a cd cl)).mark (some (.ref e))) (execs (b₀ :: suite) (envX name scope L a cd cl)) QF E { s' with heap := h' })
    (hk : scope.kind = .function := by rfl) (hx : (envX name scope L a cd cl).kindOf x = some .globalImplicit := by rfl) (hd : (x == ("__debug__" : Str)) = false := by decide)
    (hE : PassesOwnAt (Mo w) ((A₀.deeper (envX name scope L a cd cl)).mark (some (.ref e))) (A₀.deeper (envX name scope L a cd cl)) (envX name scope L a cd cl) E := by passes_own) :
    wpAny (Mo w) (A₀.deeper (envX name scope L a cd cl)) (noteFrame (.ref e) (envX name scope L a cd cl))
      (fun _ s₂ => wpAny (Mo w) (A₀.deeper (envX name scope L a cd cl)) (setFlight (.ref e) none) (fun _ s₃ =>
        wpAny (Mo w) (A₀.deeper (envX name scope L a cd cl)) (handleBy (.ref e) (envX name scope L a cd cl) (.ExceptHandler (some (.Name x np)) none (b₀ :: suite) pos :: rest)) QF E s₃) E s₂) E s' := by
  obtain ⟨⟨B, hB, hl, hfl, hnew⟩, htup⟩ := R
  have hL : B.get? L = none := by
    obtain ⟨_, ⟨L', _, hf, hn', _⟩, _⟩ := hfl.2.2.1
    obtain rfl : L = L' := Option.some.inj hf
    exact hn'
  refine wpAny_looks_onW (Around.frames_deeper K.stack) rfl hfl fun h₄ hheld₄ hsm₄ => ?_
  refine wpAny_landsW hheld₄ fun h₅ hheld hsm₅' => ?_
  have hsm₅ := hsm₄.trans hsm₅'
  have hheld' := flyingW_base hB hheld
  have F₅ := F.of_stays hheld'.1 (hsm.trans hsm₅)
  obtain ⟨ob, hob, hobc⟩ := hheld'.there
  refine wpAny_handleBy_cons (codeAny_handlers_test (nameX_K F₅ X T ex ?_ hk hx hd)) (by intro q; cases q)
  obtain ⟨bm, N, nm, qn, bs, hdct, sn, sub, ab, col, dd, k0, k1, k2, k3, k5, mN, hC, hN, hni, TL⟩ := ((own_of_in X T ex q).keeps F₅.keep).obj
  refine wpAny_excMatches_sub_self hC hob hobc (TL.hasType hbase) (codeAny_handlers_suite ?_)
  refine lands_againW hheld fun h₆ hfl₆ hsm₆ => ?_
  have hfl₆' := flyingW_base hB hfl₆
  have F₆ := F.of_stays hfl₆'.1 ((hsm.trans hsm₅).trans hsm₆)
  exact wpAny_passesOwnAt hE (k h₆ F₆ fun q hq => ⟨hfl₆.1 _ _ (hl q hq).1, (fun z => by have := (hl q hq).1; rw [z, hL] at this; cases this), (hl q hq).2⟩)
end
theorem sub_no : isSubtype (.type "LookupError") (.ref 187) = pure false := by rw [show isSubtype (.type "LookupError") (.ref 187) = _ from rfl]; kernel_rfl

section
variable {nm q : Str} {C N e : Addr} {bs bm : List Value} {hdct : Bool} {sn : List Str} {sub : List Value} {ab : Bool} {col : Option Bool} {dd : Option Addr} {k0 k1 k2 k3 k5 : Option Value} {newId : String}
theorem exc_no {h : Heap} {g : Array GenState} {dn : Drawn} {t : Nat} {os : OsState} {M : Model} {oe : Obj} {Q : Bool → Shared → Prop}
    (hC : h.get? 187 = some (excClassObj nm q 187 N bs bm hdct sn sub ab col dd k0 k1 k2 k3 k5 newId)) (he : h.get? e = some oe) (hcls : oe.cls = .type "LookupError") (hbase : bm.contains (.type "BaseException") = true)
    (hq : Q false ⟨h, g, dn, t, os⟩) : wpAny M A (excMatches (.ref e) (.ref 187)) Q E ⟨h, g, dn, t, os⟩ := by
  have hcB : (Value.ref 187 :: bm).contains (.type "BaseException") = true := by rw [List.contains_cons, hbase, Bool.or_true]
  have f := tc_notTuple
  have f2 := sub_no
  unfold excMatches
  repeat (first | (with_reducible refine wpAny_loadPart_at he ?_; rw [hcls]) | with_reducible refine wpAny_loadPart_at hC ?_ | (with_reducible refine wpAny_isSubtype_exc hC ?_; first | rw [hcB]) | wp_step)
  exact hq
end
section
variable {name : Str} {scope : Scope} {a e te : Addr} {cd : Value} {cl : List (Str × Addr)} {h : Heap} {s' : Shared} {vs : List Value} {b₀ b₁ : Stmt} {suite suite₁ : List Stmt} {pos np pos₁ np₁ : Pos} {rest : List ExceptHandler} {QF : Flow → Shared → Prop} {news : List (Addr × Obj)} {bmB : List Value} {nid : String} {x y : Str} {KF : Frag} {pp : Program}


theorem caughtX_look (K : Below A₀ h₀ outer h₀) (F : Fr h₀ L h m) (hsm : h.UpToSlots s'.heap) (R : RaisedK h₀ (envX name scope L a cd cl :: outer) e (.type "LookupError") te vs news s'.heap)
    (X : KF.In h₀) (T : TopRead pp loose mg mb h₀) (ex : nsIn KF mainGlobals x = some (some (.ref 187))) (q : excIn KF 187 bmB nid = true) (hbase : bmB.contains (.type "BaseException") = true) (ey : nsIn KF mainGlobals y = some none) (hv : bootBuiltins y = some (.type "LookupError")) (hyn : y ≠ "__name__")
    (k : ∀ h', Fr h₀ L h' m → News h₀ L h' news →
      wpAny (Mo w) ((A₀.deeper (envX name scope L a cd cl)).mark (some (.ref e))) (execs (b₁ :: suite₁) (envX name scope L a cd cl)) QF E { s' with heap := h' })
    (hk : scope.kind = .function := by rfl) (hx : (envX name scope L a cd cl).kindOf x = some .globalImplicit := by rfl) (hd : (x == ("__debug__" : Str)) = false := by decide) (hy : (envX name scope L a cd cl).kindOf y = some .globalImplicit := by rfl) (hdy : (y == ("__debug__" : Str)) = false := by decide)
    (hE : PassesOwnAt (Mo w) ((A₀.deeper (envX name scope L a cd cl)).mark (some (.ref e))) (A₀.deeper (envX name scope L a cd cl)) (envX name scope L a cd cl) E := by passes_own) :
    wpAny (Mo w) (A₀.deeper (envX name scope L a cd cl)) (noteFrame (.ref e) (envX name scope L a cd cl))
      (fun _ s₂ => wpAny (Mo w) (A₀.deeper (envX name scope L a cd cl)) (setFlight (.ref e) none) (fun _ s₃ =>
        wpAny (Mo w) (A₀.deeper (envX name scope L a cd cl)) (handleBy (.ref e) (envX name scope L a cd cl) (.ExceptHandler (some (.Name x np)) none (b₀ :: suite) pos :: .ExceptHandler (some (.Name y np₁)) none (b₁ :: suite₁) pos₁ :: rest)) QF E s₃) E s₂) E s' := by
  obtain ⟨⟨B, hB, hl, hfl, hnew⟩, htup⟩ := R
  have hL : B.get? L = none := by
    obtain ⟨_, ⟨L', _, hf, hn', _⟩, _⟩ := hfl.2.2.1
    obtain rfl : L = L' := Option.some.inj hf
    exact hn'
  refine wpAny_looks_onW (Around.frames_deeper K.stack) rfl hfl fun h₄ hheld₄ hsm₄ => ?_
  refine wpAny_landsW hheld₄ fun h₅ hheld hsm₅' => ?_
  have hsm₅ := hsm₄.trans hsm₅'
  have hheld' := flyingW_base hB hheld
  have F₅ := F.of_stays hheld'.1 (hsm.trans hsm₅)
  obtain ⟨ob, hob, hobc⟩ := hheld'.there
  refine wpAny_handleBy_cons (codeAny_handlers_test (nameX_K F₅ X T ex ?_ hk hx hd)) (by intro q; cases q)
  obtain ⟨bm, N, nm, qn, bs, hdct, sn, sub, ab, col, dd, k0, k1, k2, k3, k5, mN, hC, hN, hni, TL⟩ := ((own_of_in X T ex q).keeps F₅.keep).obj
  refine exc_no hC hob hobc (TL.hasType hbase) ?_
  refine wpAny_handleBy_builtin (X := "LookupError") (T := "LookupError") (b := true) PySem.F.isExc_LookupError PySem.F.notTuple_LookupError PySem.F.self_LookupError (nameX_B F₅ X T ey hv hyn ⟨rfl, ⟨ob, hob, hobc⟩, ?_⟩ hk hy hdy)
  refine lands_againW hheld fun h₆ hfl₆ hsm₆ => ?_
  have hfl₆' := flyingW_base hB hfl₆
  have F₆ := F.of_stays hfl₆'.1 ((hsm.trans hsm₅).trans hsm₆)
  exact wpAny_passesOwnAt hE (k h₆ F₆ fun q hq => ⟨hfl₆.1 _ _ (hl q hq).1, (fun z => by have := (hl q hq).1; rw [z, hL] at this; cases this), (hl q hq).2⟩)
end
theorem AccMark.mono {R : Row} {ν₀ ν ν' : List (Addr × Obj)} {i : Nat} {vs : Array Value} (H : AccMark R ν₀ i vs ν) (hs : ∀ q ∈ ν, q ∈ ν') : AccMark R ν₀ i vs ν' :=
  ⟨H.1, fun q hq => hs q (H.2.1 q hq), fun j e hj he => let ⟨t, a, b⟩ := H.2.2 j e hj he; ⟨t, a, b.mono hs⟩⟩

def AccSp (pool : Row) (ms : List Mark) (ν₀ : List (Addr × Obj)) (i : Nat) (vs : Array Value) (ν : List (Addr × Obj)) : Prop :=
  (∀ q ∈ ν₀, q ∈ ν) ∧ vs = items ((pool.take i).filter fun e => decide (mark e.2 ∉ ms))

theorem elt_spare {x : Str} {px p1 p2 p3 p4 p5 p6 px2 : Pos} {kx : Nat} {px' : Pos} {scope : Scope} {cl : List (Str × Addr)} {pool R : Row} {ν₀ : List (Addr × Obj)} {ok : Addr × Obj → Prop} {bnd cc D : Addr} {oc : Obj} {hvs : Array Value} {nD : Nat} (S : Sx w A₀ base outer env h₀ L mg mb mean loose) (hu : A.units + 1 < cLine) (hkind : scope.kind = .function) (hx : scope.names.lookup x = some .local) (hdx : (x == ("__debug__" : Str)) = false)
    (hp : ∀ C, (compEnvC scope cl C env).kindOf "held" = some .cell) (hc : cl.lookup ("held" : Str) = some cc) (hoc : (cc, oc) ∈ ν₀) (hd : oc.data = .cell (some (.ref D))) (hD : (D, listOf hvs nD) ∈ ν₀) (HM : AccMark R [] R.length hvs ν₀)
    (HC : ∀ e ∈ pool, CertIn ν₀ e.1 e.2) (okn : ∀ q, bnd ≤ q.1 → ¬ isIt q.2 → ok q) :
    EltOk w A h₀ L m x pool.length (fun i v => (items pool)[i]? = some v) ok (AccSp pool (marks R) ν₀) [.Compare (.Tuple [.Attribute (.Attribute (.Name x px) "issuer" p1) "hashable" p2, .Attribute (.Name x px') "serial_number" p3] kx p4) [.NotIn] [.Name "held" p5] p6] (.Name x px2) (fun C => compEnvC scope cl C env) bnd := by
  intro i v C mC vs κ ν s QY QN E hi hb hCk FC hv hm F N H hY hN
  obtain ⟨e, he⟩ := at_row (row := pool) i hi
  have : v = .ref e.1 := by rw [items_get he] at hv; exact (Option.some.inj hv).symm
  subst this
  refine wpAny_tests_one ?_
  have Ce := (HC e (List.mem_of_getElem? he)).mono fun q hq => List.mem_append_right κ (H.1 q hq)
  refine wpAny_isTrue_Compare1 ?_
  walk_at "st"
  walk_at "st"
  walk_at "st"
  refine Attribute_Name_ (ld_comp hkind hx hdx FC hm ?_)
  refine get_iss S F N Ce fun a1 tk H1 => ?_
  refine get_hashable S F N H1 fun t1 tk => ?_
  walk_at "st"
  refine Attribute_Name_ (ld_comp (s := { s with toks := tk }) hkind hx hdx FC hm ?_)
  refine get_ser S F N Ce fun t2 tk => ?_
  walk_at "st"
  refine newTuple_N F N fun h₂ F₂ N₂ => ?_
  have hlt : ∀ q ∈ (κ ++ ν), q.1 < s.heap.objs.size := fun q hq => Heap.lt_size (N q hq).1
  have hCs : C < s.heap.objs.size := by obtain ⟨o, q1, q2, qo, q3⟩ := FC.ns; exact Heap.lt_size qo
  have sub2 : ∀ q ∈ ν₀, q ∈ ((s.heap.objs.size, tupObj (.str e.2.iss t1) (.int e.2.ser t2)) :: (κ ++ ν)) := fun q hq => .tail _ (List.mem_append_right _ (H.1 q hq))
  refine wpAny_Name (wpAny_loadName_cell (env := compEnvC scope cl C env) hkind (hp C) hc ⟨oc, (N₂ _ (sub2 _ hoc)).1, hd⟩ ?_) (by decide)
  refine notin_marks N₂ (sub2 _ hD) ((HM.mono sub2)) (k := mark e.2) ⟨t1, t2, .head _⟩ hu ?_
  refine wpAny_truthy_bool ?_
  have N₃ : News h₀ L h₂ (κ ++ ((s.heap.objs.size, tupObj (.str e.2.iss t1) (.int e.2.ser t2)) :: ν)) := List.forall_mem_append.mpr ⟨fun q hq => N₂ q (.tail _ (List.mem_append_left _ hq)), List.forall_mem_cons.mpr ⟨N₂ _ (.head _), fun q hq => N₂ q (.tail _ (List.mem_append_right _ hq))⟩⟩
  have okt : ∀ q ∈ ((s.heap.objs.size, tupObj (.str e.2.iss t1) (.int e.2.ser t2)) :: ν), q ∈ ν ∨ (ok q ∧ ∀ p ∈ κ, p.1 < q.1) := List.forall_mem_cons.mpr ⟨.inr ⟨okn _ (Nat.le_trans hb (Nat.le_of_lt hCs)) (by rintro ⟨_, _, c⟩; cases c), fun q hq => hlt q (List.mem_append_left _ hq)⟩, fun q hq => .inl hq⟩
  have htk : pool.take (i + 1) = pool.take i ++ [e] := by rw [List.take_add_one, he]; rfl
  by_cases hin : mark e.2 ∈ marks R
  · refine ite_neg (by simp [hin]) ?_
    refine hN _ h₂ _ F₂ N₃ (fun q hq => .tail _ hq) okt ⟨fun q hq => .tail _ (H.1 q hq), ?_⟩
    rw [H.2, htk, List.filter_append, List.filter_cons_of_neg (by simpa using hin)]
    simp
  · refine ite_pos (by simp [hin]) ?_
    have FC₂ : Fr h₀ C h₂ mC := ⟨by obtain ⟨o, q1, q2, qo, q3⟩ := FC.ns; obtain ⟨oC, hCm⟩ := hCk; exact ⟨o, q1, q2, (N₃ _ (List.mem_append_left _ hCm)).1.trans ((N _ (List.mem_append_left _ hCm)).1.symm.trans qo), q3⟩, F₂.keep, FC.above⟩
    refine ld_comp hkind hx hdx FC₂ hm ?_
    refine hY _ _ h₂ _ F₂ N₃ (fun q hq => .tail _ hq) okt ⟨fun q hq => .tail _ (H.1 q hq), ?_⟩
    rw [H.2, htk, List.filter_append, List.filter_cons_of_pos (by simpa using hin)]
    simp [items]
theorem entry_unchain : entryFor table "proto.unchain" = some Builtin.«proto.unchain» := entryFor_of_fast (by kernel_rfl)
def HOk (A : Around) (h : Heap) : Prop := A.handled = none ∨ ∃ e, A.handled = some (.ref e) ∧ NoCtx e h
def HLed (A : Around) (ν : List (Addr × Obj)) : Prop := A.handled = none ∨ ∃ e oe vs, A.handled = some (.ref e) ∧ (e, oe) ∈ ν ∧ oe.data = .fields vs ∧ vs[2]? = some .none
theorem HLed.ok {h : Heap} (H : HLed A ν) (N : News h₀ L h ν) : HOk A h := H.imp id fun ⟨e, oe, vs, a, b, c, d⟩ => ⟨e, a, oe, vs, (N _ b).1, c, d⟩
theorem HLed.mono {ν' : List (Addr × Obj)} (H : HLed A ν) (hs : ∀ q ∈ ν, q ∈ ν') : HLed A ν' := H.imp id fun ⟨e, oe, vs, a, b, c, d⟩ => ⟨e, oe, vs, a, hs _ b, c, d⟩
theorem HLed.deeper (H : HLed A ν) : HLed (A.deeper env) ν := H
theorem HOk.in1 {h : Heap} (H : HOk A h) : HOk A.in1 h := H

theorem stop_any {α : Type} {Q : α → Shared → Prop} (H : HOk A s.heap) (h : ∀ x h', (∀ b o, s.heap.get? b = some o → h'.get? b = some o) → (∃ o, h'.get? x = some o ∧ o.cls = .type "StopIteration") → E (.ref x) { s with heap := h' }) :
    wpAny (Mo w) A (newExc (.type "StopIteration") [] >>= fun x => (raiseNew x : Sem α)) Q E s := by
  refine wpAny_bind ?_
  simp only [newExc, newTuple]
  refine wpAny_bind (wpAny_newObj_type ?_ (by size_fits))
  refine wpAny_bind (m := firstArgMember _ _) (wpAny_of_eq (a := Value.none) (by first | rfl | (simp only [firstArgMember]; rfl)) ?_)
  refine wpAny_newObj_type ?_ (by size_fits)
  generalize hh1 : s.heap.push { cls := .type "tuple", dict := none, data := .seq ([] : List Value).toArray } = h1
  have old1 : ∀ b o, s.heap.get? b = some o → h1.get? b = some o := fun b o q => hh1 ▸ Heap.get?_push_of_some _ q
  simp only [raiseNew]
  refine wpAny_bind (wpAny_handled ?_)
  rcases H with H | ⟨e, H, oe, vs, he, hd, h2⟩
  · rw [H]
    exact wpAny_bind (wpAny_pure (wpAny_throw (h _ _ (fun b o q => Heap.get?_push_of_some _ (old1 b o q)) ⟨_, Heap.get?_push_size _ rfl, rfl⟩)))
  · rw [H]
    dsimp only
    have ne : e ≠ h1.objs.size := Nat.ne_of_lt (Heap.lt_size (old1 _ _ he))
    rw [if_pos (show (Value.ref e != Value.ref h1.objs.size) = true by simpa using ne)]
    refine wpAny_bind (wpAny_holding (wpAny_runValue (codeAny_builtin entry_unchain ?_)))
    unfold Builtin.«proto.unchain»
    dsimp only
    refine wpAny_bind (wpAny_field (s := { s with heap := h1.push _ }) (Heap.get?_push_of_some _ (old1 _ _ he)) hd h2 ?_)
    rw [if_pos (by rfl)]
    refine wpAny_bind (wpAny_pure ?_)
    refine wpAny_pure ?_
    show wpAny (Mo w) A (setField (.ref h1.objs.size) 2 (Value.ref e) >>= fun _ => (throw (Value.ref h1.objs.size) : Sem α)) Q E _
    refine wpAny_bind (wpAny_setField (Heap.get?_push_size _ rfl) rfl (by simp; omega) (wpAny_throw (h _ _ (fun b o q => ?_) ⟨_, Heap.get?_update_self _ (Heap.get?_push_size _ rfl) (by rfl), by rfl⟩)))
    exact (Heap.get?_update_other _ _ (Nat.ne_of_gt (Heap.lt_size (old1 b o q)))).trans (Heap.get?_push_of_some _ (old1 b o q))

theorem range_end_any {it : Addr} {x left step : Int} {Q : Option Value → Shared → Prop} (H : HOk A s.heap) (hit : IsRangeIter s.heap it x left step) (hleft : left ≤ 0)
    (hQ : ∀ h', Heap.ExtBut it s.heap h' → Q none { s with heap := h' }) : wpAny (Mo w) A (pyNext (.ref it)) Q E s := by
  have hT : s.TypeIs (.ref it) "range_iterator" := ⟨_, hit, rfl⟩
  unfold pyNext
  refine wpAny_bind (wpAny_attempt (wpAny_callSpecial?_slot (name := Str.ofString "__next__") hT PySem.F.slot_range_iterator_next
    (wpAny_call_entry PySem.F.slot_range_iterator_next hT PySem.F.entry_range_iterator_next ?_ (PySem.F.args_range_iterator_next_1 _))))
  show wpAny _ _ (field (.ref it) 0 >>= _) _ _ s
  refine wpAny_bind (wpAny_field hit rfl (x := rawInt x) rfl ?_)
  show wpAny _ _ (field (.ref it) 1 >>= _) _ _ s
  refine wpAny_bind (wpAny_field hit rfl (x := rawInt left) rfl ?_)
  show wpAny _ _ (field (.ref it) 2 >>= _) _ _ s
  refine wpAny_bind (wpAny_field hit rfl (x := rawInt step) rfl ?_)
  show wpAny _ _ (if left ≤ 0 then _ else _) _ _ s
  rw [if_pos hleft]
  refine wpAny_bind (wpAny_rule ?_)
  refine wpAny_bind ?_
  refine stop_any H fun y h' old ⟨o, ho, hc⟩ => ?_
  refine wpAny_bind (wpAny_isInstance (T := "StopIteration") (b := true) ⟨o, ho, hc⟩ isSubtype_stop ?_)
  exact wpAny_pure (hQ _ fun b o _ e => old b o e)

theorem tuple_end_any {it t : Addr} {i : Nat} {its : Array Value} {Q : Option Value → Shared → Prop} (H : HOk A s.heap) (hit : IsTupIter s.heap it t i) (ht : IsTup s.heap t its) (hx : its[i]? = none) (hne : ∀ e, A.handled = some (.ref e) → e ≠ it)
    (hQ : ∀ h', Heap.ExtBut it s.heap h' → Q none { s with heap := h' }) : wpAny (Mo w) A (pyNext (.ref it)) Q E s := by
  obtain ⟨o, ho, hc, hd⟩ := id hit
  obtain ⟨ol, hol, _, nl, hdl⟩ := ht
  unfold pyNext
  refine wpAny_bind (wpAny_attempt (wpAny_callSpecial?_slot (name := Str.ofString "__next__") hit.typeIs slot_tupleiter_next
    (wpAny_call_entry slot_tupleiter_next hit.typeIs entry_tupleiter_next ?_ (args_tupleiter_next _))))
  show wpAny _ _ (field (.ref it) 0 >>= _) _ _ s
  refine wpAny_bind (wpAny_field ho hd (x := .ref t) rfl ?_)
  show wpAny _ _ (if (Value.ref t == Value.none) = true then _ else _) _ _ s
  rw [if_neg (show ¬ ((Value.ref t == Value.none) = true) from Bool.false_ne_true)]
  show wpAny _ _ (field (.ref it) 1 >>= _) _ _ s
  refine wpAny_bind (wpAny_field ho hd (x := .int i 0) rfl ?_)
  show wpAny _ _ (seqItems? (.ref t) >>= _) _ _ s
  refine wpAny_bind (wpAny_seqItems hol hdl ?_)
  simp only [Int.toNat_natCast, hx]
  refine wpAny_bind (wpAny_rule (wpAny_bind (wpAny_setField ho hd (by simp) ?_)))
  refine stop_any ?_ fun y h' old ⟨o', ho', hc'⟩ => ?_
  · refine H.imp id fun ⟨e, a, oe, vs, b, c, d⟩ => ⟨e, a, oe, vs, ?_, c, d⟩
    exact (Heap.get?_update_other _ _ (Ne.symm (hne e a))).trans b
  · refine wpAny_bind (wpAny_isInstance (T := "StopIteration") (b := true) ⟨o', ho', hc'⟩ isSubtype_stop ?_)
    exact wpAny_pure (hQ _ fun b o hb e => old b o ((Heap.get?_update_other _ _ (Ne.symm hb)).trans e))

theorem unpack_any {t : Addr} {its : Array Value} {n : Nat} {Q : List Value → Shared → Prop} (F : Fr h₀ L s.heap m) (N : News h₀ L s.heap ν) (H : HLed A ν) (ht : IsTup s.heap t its)
    (hn : n = its.size) (h : ∀ h', Fr h₀ L h' m → News h₀ L h' ν → Q its.toList { s with heap := h' }) : wpAny (Mo w) A (unpackItems (.ref t) n none) Q E s := by
  subst hn
  have hlt : t ≠ s.heap.objs.size := by obtain ⟨o, ho, _⟩ := ht; exact Nat.ne_of_lt (Heap.lt_size ho)
  have K := H.ok N
  unfold unpackItems
  refine wpAny_bind ?_
  unfold notIterableAtAll
  refine wpAny_bind (wpAny_specialOf ht.typeIs slot_tuple_iter.lookup ?_)
  refine wpAny_pure ?_
  simp only [Bool.false_eq_true, if_false]
  refine wpAny_bind (wpAny_holding (iter_tuple ht ?_))
  refine wpAny_bind (wpAny_holding (draw_tuple hlt its.size 0 _ _ ⟨_, Heap.get?_push_size _ rfl, rfl, rfl⟩ (ht.push _) (by omega) fun h₁ hit₁ hs₁ => ?_))
  have hall : List.take its.size (List.drop 0 its.toList) = its.toList := by
    rw [List.drop_zero]; exact List.take_of_length_le (by simp)
  rw [hall]
  rw [if_neg (by simp)]
  have ht₁ : IsTup h₁ t its := (ht.push _).extBut hs₁.extBut hlt
  have old : ∀ b o, s.heap.get? b = some o → h₁.get? b = some o := fun b o q => hs₁.extBut b o (Nat.ne_of_lt (Heap.lt_size q)) (Heap.get?_push_of_some _ q)
  have K₁ : HOk A h₁ := K.imp id fun ⟨e, a, oe, vs, b, c, d⟩ => ⟨e, a, oe, vs, old _ _ b, c, d⟩
  refine wpAny_bind (wpAny_holding (tuple_end_any K₁ hit₁ ht₁ (by simp) (fun e he q => ?_) fun h₂ he₂ => ?_))
  · rcases K with K | ⟨e', a, oe, vs, b, c, d⟩
    · rw [K] at he; cases he
    · rw [a] at he
      cases he
      exact Nat.ne_of_lt (Heap.lt_size b) q
  · simp only [Option.isSome_none, Bool.false_eq_true, if_false]
    refine wpAny_pure ?_
    have E : Heap.ExtBut s.heap.objs.size s.heap h₂ := fun b o hb e => he₂ b o hb (old b o e)
    exact h h₂ (F.extBut E (Nat.le_refl _)) (N.extBut E (Nat.le_refl _))
structure Rn (A : Around) (fr : List Env) (n : Nat) : Prop where
  fr : A.frames = some fr
  d : A.depth + n ≤ 900
  u : A.units + 10 * n ≤ 9000
theorem Rm.rn {fr : List Env} (r : Rm A fr n) : Rn A fr n := ⟨r.fr, r.d, r.u⟩
theorem Rm.marked {fr : List Env} {e : Value} (r : Rm A fr n) : Rn (A.mark (some e)) fr n := ⟨r.fr, r.d, r.u⟩
theorem Rn.le {fr : List Env} {k : Nat} (r : Rn A fr n) (h : k ≤ n := by decide) : Rn A fr k := ⟨r.fr, by have := r.d; omega, by have := r.u; omega⟩
theorem Rn.deeper {fr : List Env} {env : Env} {n : Nat} (r : Rn A fr (n + 1)) : Rn (A.deeper env) (env :: fr) n :=
  ⟨Around.frames_deeper r.fr, by have := r.d; show A.depth + 1 + n ≤ 900; omega, by have := r.u; show A.units + 3 + 10 * n ≤ 9000; omega⟩
theorem Rn.room {fr : List Env} {n : Nat} (r : Rn A fr n) : A.depth < recursionLimit := by
  have := r.d; show A.depth < 1000; omega
theorem Rn.units {fr : List Env} {n : Nat} (r : Rn A fr n) : A.units < cLine := by
  have := r.u; show A.units < 9900; omega

theorem call_defN {name qual : Str} {params : Arguments} {body : List Stmt} {scope : Scope} {dV kV doc pm cdv ct oc : Value} {an od : Option Addr} {osl : Array (Option Value)} {f : Addr} {args : Args} {binds : List (Str × Value)}
    (S : Sx w A₀ base outer env h₀ L mg mb mean loose) (F : Fr h₀ L s.heap m) (N : News h₀ L s.heap ν) (r : Rn A (env :: outer) (n + 1))
    (ho : (hd.heap_1 w.params).lookup f = some ⟨oc, od, .func (fnOf name qual params body scope dV kV doc pm an cdv ct), osl⟩) (hcd : codeIn (hd.heap_1 w.params) cdv qual = true)
    (hbind : BindsTo s (fnOf name qual params body scope dV kV doc pm an cdv ct) args binds) (hloc : ∀ y ∈ binds, scope.names.lookup y.1 = some .local)
    (hco : scope.isCoroutine = false) (hgen : scope.isGenerator = false) (hk : scope.kind = .function) (hcell : ∀ x ∈ scope.names, x.2 ≠ .cell)
    (h : ∀ g L' h₁, Fr h₀ L g m → Fr g L' h₁ (fun y => binds.reverse.lookup y) → News g L' h₁ ν → Sx w A base (env :: outer) (envOf qual scope L' f cdv) g L' mg mb mean loose →
      Rn (A.deeper (envOf qual scope L' f cdv)) (envOf qual scope L' f cdv :: env :: outer) n →
      wpAny (Mo w) (A.deeper (envOf qual scope L' f cdv)) (execs body (envOf qual scope L' f cdv))
        (fun fl s' => LeaveK h₀ L m g R (match fl with | .ret v => v | _ => .none) s')
        (fun e s' => wpAny (Mo w) (A.deeper (envOf qual scope L' f cdv)) (leaving (envOf qual scope L' f cdv) e) (fun _ s'' => R (.error e) s'') (fun e' s'' => R (.error e') s'') s')
        { s with heap := h₁, toks := s.toks + binds.length }) :
    codeAny (Mo w) A (.call (.ref f) args) R s :=
  code_def S.B F S.X N S.T r.fr S.hf S.hk ho hcd r.room hbind hloc
    (fun g L' h₁ FG F' N' B' X' T' => h g L' h₁ FG F' N' ⟨B', X', T', rfl, hk⟩ r.deeper) hco hgen hk hcell

theorem rg_nextA {it : Addr} {i n : Nat} {Q : Option Value → Shared → Prop} (H : HLed A ν) (hL : L < it) (hi : i ≤ n) (F : Fr h₀ L s.heap m) (N : News h₀ L s.heap ((it, rgObj (i : Nat) ((n : Int) - (i : Nat)) 1) :: ν)) (hν : ∀ q ∈ ν, q.1 ≠ it)
    (hs : i < n → ∀ t h' tk, Fr h₀ L h' m → News h₀ L h' ((it, rgObj ((i + 1 : Nat) : Int) ((n : Int) - ((i + 1 : Nat) : Int)) 1) :: ν) → Q (some (.int (i : Nat) t)) { s with heap := h', toks := tk })
    (hn : i = n → ∀ h', Fr h₀ L h' m → News h₀ L h' ν → Q none { s with heap := h' }) : wpAny (Mo w) A (pyNext (.ref it)) Q E s := by
  have fresh := fresh_of F it (Nat.le_of_lt hL)
  have hit := (N _ (.head _)).1
  rcases Nat.lt_or_ge i n with hlt | hge
  · refine wpAny_pyNext_range_item hit (by omega) fun h' hit' hsb => ?_
    refine hs hlt _ h' _ (F.change hsb (Nat.ne_of_gt hL) fresh) ?_
    refine List.forall_mem_cons.mpr ⟨⟨?_, Nat.ne_of_gt hL, fresh⟩, fun q hq => ⟨(hsb.2 q.1 (hν q hq)).trans (N q (.tail _ hq)).1, (N q (.tail _ hq)).2⟩⟩
    have e1 : ((i : Nat) : Int) + 1 = ((i + 1 : Nat) : Int) := by omega
    have e2 : (n : Int) - (i : Nat) - 1 = (n : Int) - ((i + 1 : Nat) : Int) := by omega
    rw [e1, e2] at hit'
    exact hit'
  · refine range_end_any ((H.mono fun q hq => .tail _ hq).ok N) hit (by omega) fun h' hx => ?_
    refine hn (Nat.le_antisymm hi hge) h' ⟨?_, fun b o e => hx b o (fun q => by rw [q, fresh] at e; cases e) (F.keep b o e), F.above⟩ (fun q hq => ⟨hx q.1 q.2 (hν q hq) (N q (.tail _ hq)).1, (N q (.tail _ hq)).2⟩)
    obtain ⟨oL, q1, q2, qo, q3⟩ := F.ns
    exact ⟨oL, q1, q2, hx L oL (Nat.ne_of_lt hL) qo, q3⟩

theorem law_issuerA {rr : Addr} (S : Sx w A₀ base outer env h₀ L mg mb mean loose) (F : Fr h₀ L s.heap m) (N : News h₀ L s.heap ν) (hm : (rr, listOf (items row) n1) ∈ ν) (hlen : row.length ≤ 100) (HC : ∀ e ∈ row, CertIn ν e.1 e.2) (C : CertIn ν c d) (Hn : ∀ e ∈ row, nonnil e.2) (Cn : nonnil d) (r : Rn A (env :: outer) 6) (H : HLed A ν)
    (k : ∀ h' tk u, Fr h₀ L h' m → News h₀ L h' ν → R (.ok (.ret (.int (issIdx row d) u))) { s with heap := h', toks := tk }) :
    codeAny (Mo w) A (.call (.ref 303) ⟨[.ref rr, .ref c], []⟩) R s := by
  refine call_defN (binds := [("row", .ref rr), ("cert", .ref c)]) S F N r (by k_is) (by k_is) (BindsTo.of_eq rfl) (locs rfl) rfl rfl rfl (by decide) ?_
  intro g L' h₁ FG F' N' S' r'
  refine gen_both fun Q0 E0 hQ0 hE0 => ?_
  walk_at "st"
  refine wpAny_For ?_
  repeat walk_at "st"
  refine len_list (is_list N' hm) (by rw [items_size]; omega) ?_
  repeat walk_at "st"
  refine mk_range1 F' N' fun ro t1 t2 h₂ tk F₂ N₂ => ?_
  refine iter_range_k F₂ N₂ (.head _) (by rw [items_size]; omega) fun it h₃ hL hlt F₃ N₃ _ => ?_
  rw [items_size] at N₃ N₂
  have hν₃ : ∀ q ∈ ν, q.1 ≠ it := fun q hq => Nat.ne_of_lt (hlt q (.tail _ hq))
  refine codeAny_forLoop (fun k s₁ => ∃ (i : Nat) (h : Heap) (tk : Nat) (mm : Str → Option Value) (ν' : List (Addr × Obj)), k = row.length - i ∧ i ≤ row.length ∧ s₁ = { s with heap := h, toks := tk } ∧ Fr g L' h mm ∧ mm "row" = some (.ref rr) ∧ mm "cert" = some (.ref c) ∧ News g L' h ((it, rgObj (i : Nat) ((row.length : Int) - (i : Nat)) 1) :: ν') ∧ (∀ q ∈ ν, q ∈ ν') ∧ (∀ q ∈ ν', q.1 ≠ it) ∧ ∀ (j : Nat) e', j < i → row[j]? = some e' → isIss e'.2 d = false) (fun k s₁ hI => ?_) row.length
    ⟨0, h₃, tk, _, ν, rfl, Nat.zero_le _, rfl, F₃, rfl, rfl, news_sub N₃ (List.forall_mem_cons.mpr ⟨by show (it, rgObj ((0 : Nat) : Int) ((row.length : Int) - ((0 : Nat) : Int)) 1) ∈ _; rw [show ((row.length : Int) - ((0 : Nat) : Int)) = row.length by omega]; exact .head _, fun q hq => .tail _ (.tail _ hq)⟩), fun q hq => hq, hν₃, fun j e' hj => by omega⟩
  obtain ⟨i, h₄, tk₄, mm, ν', rfl, hi, rfl, F₄, mr, mc, N₄, hsub, hne, hno⟩ := hI
  refine rg_nextA ((H.deeper (env := envOf _ _ _ _ _)).mono hsub) hL hi F₄ N₄ hne (fun hlt' u h₅ tk₅ F₅ N₅ => ?_) fun he h₅ F₅ N₅ => ?_
  · refine wpAny_assign_Name (stN F₅ N₅ fun h₆ F₆ N₆ => ?_)
    obtain ⟨e, he⟩ := at_row (row := row) i hlt'
    have mr' : (fun y => if y = ("k" : Str) then some (Value.int (i : Nat) u) else mm y) "row" = some (.ref rr) := mr
    have mc' : (fun y => if y = ("k" : Str) then some (Value.int (i : Nat) u) else mm y) "cert" = some (.ref c) := mc
    generalize emm : (fun y => if y = ("k" : Str) then some (Value.int (i : Nat) u) else mm y) = mm' at F₆ mr' mc'
    have mk' : mm' "k" = some (.int (i : Nat) u) := by rw [← emm]; rfl
    have hem := List.mem_of_getElem? he
    have sub5 : ∀ q ∈ ν, q ∈ ((it, rgObj ((i + 1 : Nat) : Int) ((row.length : Int) - ((i + 1 : Nat) : Int)) 1) :: ν') := fun q hq => .tail _ (hsub q hq)
    have Ce := (HC e hem).mono sub5
    have Cc := C.mono sub5
    refine gen_post fun Q' hQ => ?_
    walk_at "st"
    refine Assign_Tuple_swapped (names := ["one", "two"]) ?_
    walk_at "st"
    walk_at "st"
    refine Attribute_any_ ?_
    refine Subscript_ ?_
    refine ld F₆ mr' ?_
    refine ld F₆ mk' ?_
    refine item_list (is_list N₆ (sub5 _ hm)) (Int.natCast_nonneg _) (by omega) (items_get he) ?_
    refine get_kid S' F₆ N₆ Ce fun u1 tk => ?_
    walk_at "st"
    refine Attribute_Name_ (ld F₆ mc' ?_)
    refine get_aki S' F₆ N₆ Cc fun u2 tk => ?_
    walk_at "st"
    refine newTuple_N F₆ N₆ fun h₇ F₇ N₇ => ?_
    refine unpack_any F₇ N₇ ((H.deeper (env := envOf _ _ _ _ _)).mono fun q hq => .tail _ (sub5 q hq)) ⟨_, (N₇ _ (.head _)).1, rfl, _, rfl⟩ rfl fun h₈ F₈ N₈ => ?_
    show wpAny (Mo w) _ (assignInOrder [bindName _ "two", bindName _ "one"] [kv d.aki u2, kv e.2.kid u1]) _ _ _
    refine wpAny_bind (wpAny_holding (wpAny_bindName (stN F₈ N₈ fun h₉ F₉ N₉ => ?_)))
    refine wpAny_bind (wpAny_holding (wpAny_bindName (stN F₉ N₉ fun h10 F10 N10 => ?_)))
    refine wpAny_pure ?_
    generalize hto : h₆.objs.size = to at N10
    replace N10 := news_sub N10 fun q hq => List.Mem.tail _ hq
    have m1 : (fun y => if y = ("one" : Str) then some (kv e.2.kid u1) else if y = ("two" : Str) then some (kv d.aki u2) else mm' y) "row" = some (.ref rr) := mr'
    have m2 : (fun y => if y = ("one" : Str) then some (kv e.2.kid u1) else if y = ("two" : Str) then some (kv d.aki u2) else mm' y) "cert" = some (.ref c) := mc'
    have m3 : (fun y => if y = ("one" : Str) then some (kv e.2.kid u1) else if y = ("two" : Str) then some (kv d.aki u2) else mm' y) "k" = some (.int (i : Nat) u) := mk'
    have m4 : (fun y => if y = ("one" : Str) then some (kv e.2.kid u1) else if y = ("two" : Str) then some (kv d.aki u2) else mm' y) "one" = some (kv e.2.kid u1) := rfl
    have m5 : (fun y => if y = ("one" : Str) then some (kv e.2.kid u1) else if y = ("two" : Str) then some (kv d.aki u2) else mm' y) "two" = some (kv d.aki u2) := rfl
    generalize (fun y => if y = ("one" : Str) then some (kv e.2.kid u1) else if y = ("two" : Str) then some (kv d.aki u2) else mm' y) = m6 at F10 m1 m2 m3 m4 m5
    have hiss := isIss_alt (Hn e hem) Cn
    have cont : isIss e.2 d = false → ∀ tk, ∃ m', m' < row.length - i ∧ ∃ (i : Nat) (h : Heap) (tk' : Nat) (mm : Str → Option Value) (ν' : List (Addr × Obj)), m' = row.length - i ∧ i ≤ row.length ∧ ({ s with heap := h10, toks := tk } : Shared) = { s with heap := h, toks := tk' } ∧ Fr g L' h mm ∧ mm "row" = some (.ref rr) ∧ mm "cert" = some (.ref c) ∧ News g L' h ((it, rgObj (i : Nat) ((row.length : Int) - (i : Nat)) 1) :: ν') ∧ (∀ q ∈ ν, q ∈ ν') ∧ (∀ q ∈ ν', q.1 ≠ it) ∧ ∀ (j : Nat) e', j < i → row[j]? = some e' → isIss e'.2 d = false := fun hx tk => by
      refine ⟨row.length - (i + 1), by omega, i + 1, h10, tk, m6, ν', rfl, hlt', rfl, F10, m1, m2, N10, hsub, hne, fun j e' hj hje => ?_⟩
      by_cases hji : j < i
      · exact hno j e' hji hje
      · have : j = i := by omega
        subst this
        rw [he] at hje
        cases hje
        exact hx
    walk_at "st"
    walk_at "st"
    refine isTrue_and ?_
    refine wpAny_isTrue_Compare1 ?_
    refine Attribute_any_ ?_
    refine Attribute_any_ ?_
    refine Subscript_ ?_
    refine ld F10 m1 ?_
    refine ld F10 m3 ?_
    refine item_list (is_list N10 (sub5 _ hm)) (Int.natCast_nonneg _) (by omega) (items_get he) ?_
    refine get_sub S' F10 N10 Ce fun a1 tk H1 => ?_
    refine get_hashable S' F10 N10 H1 fun u3 tk => ?_
    refine Attribute_any_ ?_
    refine Attribute_Name_ (ld F10 m2 ?_)
    refine get_iss S' F10 N10 Cc fun a2 tk H2 => ?_
    refine get_hashable S' F10 N10 H2 fun u4 tk => ?_
    refine PyProof.Rows.eq_str ?_
    walk_at "st"
    cases hs1 : (e.2.sub == d.iss) with
    | false =>
      refine ite_neg Bool.false_ne_true ?_
      refine ite_neg Bool.false_ne_true ?_
      repeat walk_at "st"
      exact hQ _ _ (cont (by rw [hiss, hs1]; rfl) _)
    | true =>
      refine ite_pos rfl ?_
      refine isTrue_and ?_
      have found : isIss e.2 d = true → ∀ tk, LeaveK h₀ L m g R (.int (i : Nat) u) { s with heap := h10, toks := tk } := fun hx tk => by
        refine leaveK_ F10 (news_sub N10 sub5) fun F12 N12 => ?_
        have := k _ tk u F12 N12
        rw [issIdx_some he hx hno] at this
        exact this
      refine isTrue_or ?_
      refine wpAny_isTrue_Compare1 ?_
      refine ld F10 m4 ?_
      walk_at "st"
      refine is_none_kv ?_
      walk_at "st"
      by_cases hk1 : e.2.kid.isNone = true
      · refine ite_pos hk1 ?_
        refine ite_pos rfl ?_
        walk_at "st"
        refine ite_pos rfl ?_
        walk_at "st"
        walk_at "st"
        refine ld F10 m3 ?_
        exact hQ _ _ (hQ0 _ _ (found (by rw [hiss, hs1, hk1]; rfl) _))
      · refine ite_neg hk1 ?_
        refine isTrue_or ?_
        refine wpAny_isTrue_Compare1 ?_
        refine ld F10 m5 ?_
        walk_at "st"
        refine is_none_kv ?_
        walk_at "st"
        have hk1' : e.2.kid.isNone = false := Bool.eq_false_iff.mpr hk1
        by_cases hk2 : d.aki.isNone = true
        · refine ite_pos hk2 ?_
          refine ite_pos rfl ?_
          walk_at "st"
          refine ite_pos rfl ?_
          walk_at "st"
          walk_at "st"
          refine ld F10 m3 ?_
          exact hQ _ _ (hQ0 _ _ (found (by rw [hiss, hs1, hk1', hk2]; rfl) _))
        · refine ite_neg hk2 ?_
          have hk2' : d.aki.isNone = false := Bool.eq_false_iff.mpr hk2
          refine isTrue_or ?_
          refine wpAny_isTrue_Compare1 ?_
          refine ld F10 m4 ?_
          refine ld F10 m5 ?_
          refine eq_kv (by rw [tr_of (Hn e hem).1]; revert hk1'; cases e.2.kid <;> simp) (by rw [tr_of Cn.2]; revert hk2'; cases d.aki <;> simp) ?_
          walk_at "st"
          have hx : isIss e.2 d = decide (e.2.kid = d.aki) := by rw [hiss, hs1, hk1', hk2']; rfl
          by_cases hq : decide (e.2.kid = d.aki) = true
          · refine ite_pos hq ?_
            refine ite_pos rfl ?_
            walk_at "st"
            refine ite_pos rfl ?_
            walk_at "st"
            walk_at "st"
            refine ld F10 m3 ?_
            exact hQ _ _ (hQ0 _ _ (found (hx.trans hq) _))
          · refine ite_neg hq ?_
            walk_at "st"
            refine ite_neg Bool.false_ne_true ?_
            refine ite_neg Bool.false_ne_true ?_
            repeat walk_at "st"
            exact hQ _ _ (cont (hx.trans (Bool.eq_false_iff.mpr hq)) _)
  · repeat walk_at "st"
    refine neg_int ?_
    refine hQ0 _ _ ?_
    refine leaveK_ F₅ (news_sub N₅ hsub) fun F12 N12 => ?_
    have K := fun tk u => k _ tk u F12 N12
    rw [issIdx_none fun j e' hje => hno j e' (by have := (List.getElem?_eq_some_iff.mp hje).1; omega) hje] at K
    exact K _ _
section
variable {name : Str} {scope : Scope} {a e te : Addr} {cd : Value} {cl : List (Str × Addr)} {h : Heap} {s' : Shared} {vs : List Value} {b₀ b₁ : Stmt} {suite suite₁ : List Stmt} {pos np pos₁ np₁ : Pos} {rest : List ExceptHandler} {QF : Flow → Shared → Prop} {news : List (Addr × Obj)} {bmB : List Value} {nid : String} {x y : Str} {KF : Frag} {pp : Program}

/-- a LookupError, the first clause another class: the clause behind it runs, the exception in the ledger -/
theorem caughtX_lookC (K : Below A₀ h₀ outer h₀) (F : Fr h₀ L h m) (hsm : h.UpToSlots s'.heap) (R : RaisedK h₀ (envX name scope L a cd cl :: outer) e (.type "LookupError") te vs news s'.heap) (Cx : NoCtx e s'.heap)
    (X : KF.In h₀) (T : TopRead pp loose mg mb h₀) (ex : nsIn KF mainGlobals x = some (some (.ref 187))) (q : excIn KF 187 bmB nid = true) (hbase : bmB.contains (.type "BaseException") = true) (ey : nsIn KF mainGlobals y = some none) (hv : bootBuiltins y = some (.type "LookupError")) (hyn : y ≠ "__name__")
    (k : ∀ h' oe xs, Fr h₀ L h' m → News h₀ L h' ((e, oe) :: news) → oe.data = .fields xs → xs[2]? = some .none →
      wpAny (Mo w) ((A₀.deeper (envX name scope L a cd cl)).mark (some (.ref e))) (execs (b₁ :: suite₁) (envX name scope L a cd cl)) QF E { s' with heap := h' })
    (hk : scope.kind = .function := by rfl) (hx : (envX name scope L a cd cl).kindOf x = some .globalImplicit := by rfl) (hd : (x == ("__debug__" : Str)) = false := by decide) (hy : (envX name scope L a cd cl).kindOf y = some .globalImplicit := by rfl) (hdy : (y == ("__debug__" : Str)) = false := by decide)
    (hE : PassesOwnAt (Mo w) ((A₀.deeper (envX name scope L a cd cl)).mark (some (.ref e))) (A₀.deeper (envX name scope L a cd cl)) (envX name scope L a cd cl) E := by passes_own) :
    wpAny (Mo w) (A₀.deeper (envX name scope L a cd cl)) (noteFrame (.ref e) (envX name scope L a cd cl))
      (fun _ s₂ => wpAny (Mo w) (A₀.deeper (envX name scope L a cd cl)) (setFlight (.ref e) none) (fun _ s₃ =>
        wpAny (Mo w) (A₀.deeper (envX name scope L a cd cl)) (handleBy (.ref e) (envX name scope L a cd cl) (.ExceptHandler (some (.Name x np)) none (b₀ :: suite) pos :: .ExceptHandler (some (.Name y np₁)) none (b₁ :: suite₁) pos₁ :: rest)) QF E s₃) E s₂) E s' := by
  obtain ⟨⟨B, hB, hl, hfl, hnew⟩, htup⟩ := R
  have hL : B.get? L = none := by
    obtain ⟨_, ⟨L', _, hf, hn', _⟩, _⟩ := hfl.2.2.1
    obtain rfl : L = L' := Option.some.inj hf
    exact hn'
  refine looks_c (Around.frames_deeper K.stack) rfl hfl Cx fun h₄ hheld₄ hsm₄ Cx₄ => ?_
  refine lands_c hheld₄.1 hheld₄.2.1 hheld₄.2.2.1 hheld₄.2.2.2 Cx₄ fun h₅ hheld hsm₅' Cx₅ => ?_
  have hsm₅ := hsm₄.trans hsm₅'
  have hheld' := flyingW_base hB hheld
  have F₅ := F.of_stays hheld'.1 (hsm.trans hsm₅)
  obtain ⟨ob, hob, hobc⟩ := hheld'.there
  refine wpAny_handleBy_cons (codeAny_handlers_test (nameX_K F₅ X T ex ?_ hk hx hd)) (by intro q; cases q)
  obtain ⟨bm, N, nm, qn, bs, hdct, sn, sub, ab, col, dd, k0, k1, k2, k3, k5, mN, hC, hN, hni, TL⟩ := ((own_of_in X T ex q).keeps F₅.keep).obj
  refine exc_no hC hob hobc (TL.hasType hbase) ?_
  refine wpAny_handleBy_builtin (X := "LookupError") (T := "LookupError") (b := true) PySem.F.isExc_LookupError PySem.F.notTuple_LookupError PySem.F.self_LookupError (nameX_B F₅ X T ey hv hyn ⟨rfl, ⟨ob, hob, hobc⟩, ?_⟩ hk hy hdy)
  refine lands_c hheld.1 hheld.2.1 hheld.2.2.1 hheld.2.2.2.at Cx₅ fun h₆ hfl₆ hsm₆ Cx₆ => ?_
  have hfl₆' := flyingW_base hB hfl₆
  have F₆ := F.of_stays hfl₆'.1 ((hsm.trans hsm₅).trans hsm₆)
  obtain ⟨oe, xs, hoe, hod, hx2⟩ := Cx₆
  have eL : e ≠ L := fun q => by
    obtain ⟨oL, es, ep, c1, c2, _⟩ := F₆.ns
    rw [q, c1] at hoe
    cases hoe
    rw [c2] at hod
    cases hod
  exact wpAny_passesOwnAt hE (k h₆ oe xs F₆ (List.forall_mem_cons.mpr ⟨⟨hoe, eL, hfl₆'.2.1⟩, fun q hq => ⟨hfl₆.1 _ _ (hl q hq).1, (fun z => by have := (hl q hq).1; rw [z, hL] at this; cases this), (hl q hq).2⟩⟩) hod hx2)
end
theorem lk {K : Frag} {f : Addr} {o : Obj} (h : K.lookup f = some o) : K.lookup f = some o := h
abbrev lawEnv (scope : Scope) (L : Addr) (cd : Value) : Env := envOfC "law" scope L 308 cd
def subs : Stmt → Nat → List Stmt
  | .For _ _ b _ _, 0 => b
  | .If _ b _ _, 0 => b
  | .If _ _ b _, 1 => b
  | .Try b _ _ _ _, 0 => b
  | .Try _ hs _ _ _, k + 1 => match hs[k]? with
    | some (.ExceptHandler _ _ b _) => b
    | none => []
  | _, _ => []
def nav : List Nat → List Stmt → Option Stmt
  | [], _ => none
  | [i], l => l[i]?
  | i :: k :: r, l => match l[i]? with
    | some s => nav r (subs s k)
    | none => none
structure LawIs (w : World) (name qual : Str) (params : Arguments) (body : List Stmt) (scope : Scope) (cdv : Value) : Prop where
  hb : ∃ dV kV doc pm ct oc an od osl, (hd.heap_1 w.params).lookup 308 = some ⟨oc, od, .func (fnOf name qual params body scope dV kV doc pm an cdv ct), osl⟩

/-- an object that no statement of the law changes -/
def Frz (o : Obj) : Prop := (∀ v, o.data ≠ .cell v) ∧ o.cls ≠ .type "list" ∧ o.cls ≠ .type "set" ∧ o.cls ≠ .type "range_iterator" ∧ o.cls ≠ .type "list_iterator"
theorem tne {x y : String} (h : x ≠ y) : Value.type x ≠ Value.type y := fun e => h (Value.type.inj e)
theorem frz_tup {x y : Value} : Frz (tupObj x y) := ⟨fun v e => (by cases e), tne (by decide), tne (by decide), tne (by decide), tne (by decide)⟩
theorem frz_dict {es : List DictEntry} {n : Nat} : Frz (dictOf es n) := ⟨fun v e => (by cases e), tne (by decide), tne (by decide), tne (by decide), tne (by decide)⟩
theorem frz_inst {C d : Addr} : Frz (instObj C d) := ⟨fun v e => (by cases e), (fun e => by cases e), (fun e => by cases e), (fun e => by cases e), (fun e => by cases e)⟩
abbrev Keep (ν ν' : List (Addr × Obj)) : Prop := ∀ q ∈ ν, Frz q.2 → q ∈ ν'

theorem NameIn.frz {ν ν' : List (Addr × Obj)} {a : Addr} {x : Str} (h : NameIn ν a x) (hs : Keep ν ν') : NameIn ν' a x :=
  let ⟨da, es, n, t, h1, h2, h3⟩ := h; ⟨da, es, n, t, hs _ h1 frz_inst, hs _ h2 frz_dict, h3⟩
theorem CertIn.frz {ν ν' : List (Addr × Obj)} {c : Addr} {d : CD} (h : CertIn ν c d) (hs : Keep ν ν') : CertIn ν' c d :=
  let ⟨dc, sa, ia, es, n, t1, t2, t3, t4, h⟩ := h
  ⟨dc, sa, ia, es, n, t1, t2, t3, t4, hs _ h.i frz_inst, hs _ h.e frz_dict, h.sig, h.ser, h.sub, h.iss, h.kid, h.aki, h.hs.frz hs, h.hi.frz hs⟩
theorem PathIn.frz {ν ν' : List (Addr × Obj)} {p l hs : Addr} (h : PathIn ν p l hs) (hs' : Keep ν ν') : PathIn ν' p l hs :=
  let ⟨dp, t1, t2, x1, x2, n, h1, h2⟩ := h; ⟨dp, t1, t2, x1, x2, n, hs' _ h1 frz_inst, hs' _ h2 frz_dict⟩
theorem TupIn.frz {ν ν' : List (Addr × Obj)} {a : Addr} {k : Mark} (h : TupIn ν a k) (hs : Keep ν ν') : TupIn ν' a k := let ⟨t1, t2, h⟩ := h; ⟨t1, t2, hs _ h frz_tup⟩
theorem SetOk.frz {ν' : List (Addr × Obj)} {mk : List Mark} {h : Heap} (O : SetOk w ν es t mk) (hsub : Keep ν ν') (N : News h₀ L h ν') : SetOk w ν' es t mk := by
  have back : ∀ (i : Nat) (h : Int) (a : Addr) (k : Mark), es[i]? = some (h, .ref a) → TupIn ν' a k → TupIn ν a k := fun i h a k hi ha => by
    obtain ⟨a', k', e, ha', _⟩ := O.ent i _ hi
    have : a = a' := Value.ref.inj (congrArg Prod.snd e)
    subst this
    have := tup_inj N a k k' ha (ha'.frz hsub)
    subst this
    exact ha'
  exact ⟨⟨O.I, O.size, O.four, fun i e he => let ⟨a, k, h1, h2, h3⟩ := O.ent i e he; ⟨a, k, h1, h2.frz hsub, h3⟩, fun k hk => let ⟨i, a, h1, h2⟩ := O.all k hk; ⟨i, a, h1, h2.frz hsub⟩,
    fun i j h h' a b k e1 e2 t1 t2 => O.inj i j h h' a b k e1 e2 (back i h a k e1 t1) (back j h' b k e2 t2)⟩, O.slack⟩

structure PoolOk (pool : Row) (ν : List (Addr × Obj)) : Prop where
  c : ∀ e ∈ pool, CertIn ν e.1 e.2
  s : ∀ e ∈ pool, small e.2
  n : ∀ e ∈ pool, nonnil e.2
  g : ∀ (i : Nat) e, pool[i]? = some e → e.2.sig = ((i + 1 : Nat) : Int)
theorem PoolOk.frz {pool : Row} {ν ν' : List (Addr × Obj)} (P : PoolOk pool ν) (hs : Keep ν ν') : PoolOk pool ν' := ⟨fun e he => (P.c e he).frz hs, P.s, P.n, P.g⟩

/-- the ledger without the entries at a -/
noncomputable def wo (a : Addr) (ν : List (Addr × Obj)) : List (Addr × Obj) := ν.filter fun q => decide (q.1 ≠ a)
theorem mem_wo {a : Addr} {q : Addr × Obj} : q ∈ wo a ν ↔ q ∈ ν ∧ q.1 ≠ a := by unfold wo; rw [List.mem_filter, decide_eq_true_iff]
theorem wo_off {a : Addr} : ∀ q ∈ wo a ν, q.1 ≠ a := fun _ hq => (mem_wo.mp hq).2
theorem wo_sub {a : Addr} : ∀ q ∈ wo a ν, q ∈ ν := fun _ hq => (mem_wo.mp hq).1
theorem wo_keep {a : Addr} {o : Obj} {h : Heap} (N : News h₀ L h ν) (ho : h.get? a = some o) (hf : ¬ Frz o) : Keep ν (wo a ν) := fun q hq hz => mem_wo.mpr ⟨hq, fun e => hf (by
  have := (N q hq).1
  rw [e, ho] at this
  rw [Option.some.inj this]; exact hz)⟩
theorem nf_list {its : Array Value} {n : Nat} : ¬ Frz (listOf its n) := fun h => h.2.1 rfl
theorem nf_set : ¬ Frz (setObj es n t) := fun h => h.2.2.1 rfl
theorem nf_cell {o : Obj} {v : Option Value} (h : o.data = .cell v) : ¬ Frz o := fun x => x.1 v h
theorem nf_range {x l z : Int} : ¬ Frz (rgObj x l z) := fun h => h.2.2.2.1 rfl
theorem news_wo {a : Addr} {o : Obj} {h : Heap} (N : News h₀ L h ν) (hm : (a, o) ∈ ν) : News h₀ L h ((a, o) :: wo a ν) := news_sub N (List.forall_mem_cons.mpr ⟨hm, wo_sub⟩)
theorem Keep.refl : Keep ν ν := fun _ h _ => h
theorem Keep.trans {a b c : List (Addr × Obj)} (x : Keep a b) (y : Keep b c) : Keep a c := fun q h z => y q (x q h z) z
theorem Keep.of {a b : List (Addr × Obj)} (x : ∀ q ∈ a, q ∈ b) : Keep a b := fun q h _ => x q h
theorem news_ne {h : Heap} {a b : Addr} {o o' : Obj} (N : News h₀ L h ν) (x : (a, o) ∈ ν) (y : (b, o') ∈ ν) (hne : o ≠ o') : a ≠ b := fun e => hne (by
  subst e; exact Option.some.inj ((N _ x).1.symm.trans (N _ y).1))

/-- the shape that a path's methods ask: its list and its set at the head -/
theorem news_head2 {h : Heap} {lo so : Obj} (N : News h₀ L h ν) (hl : (l, lo) ∈ ν) (hh : (hs, so) ∈ ν) : News h₀ L h ((l, lo) :: (hs, so) :: wo l (wo hs ν)) :=
  news_sub N (List.forall_mem_cons.mpr ⟨hl, List.forall_mem_cons.mpr ⟨hh, fun q hq => wo_sub q (wo_sub q hq)⟩⟩)
theorem keep2 {h : Heap} {lo so : Obj} (N : News h₀ L h ν) (hl : (l, lo) ∈ ν) (hh : (hs, so) ∈ ν) (fl : ¬ Frz lo) (fs : ¬ Frz so) : Keep ν (wo l (wo hs ν)) :=
  (wo_keep N (N _ hh).1 fs).trans (wo_keep (news_sub N wo_sub) (N _ hl).1 fl)

theorem rm_mark {e : Value} {fr : List Env} {n : Nat} (r : Rm A fr n) : (A.mark (some e)).units + 1 < cLine := r.u1
theorem fm_pos {k : Int} (hk : 0 < k) (z : Int) : 0 ≤ z.fmod k ∧ z.fmod k < k := by
  rw [Int.fmod_eq_emod_of_nonneg _ (Int.le_of_lt hk)]
  exact ⟨Int.emod_nonneg _ (Int.ne_of_gt hk), Int.emod_lt_of_pos _ hk⟩
theorem mem_wo_of {h : Heap} {a b : Addr} {o o' : Obj} (N : News h₀ L h ν) (x : (a, o) ∈ ν) (y : (b, o') ∈ ν) (hne : o ≠ o') : (a, o) ∈ wo b ν := mem_wo.mpr ⟨x, news_ne N x y hne⟩
theorem list_ne_cell {o : Obj} {v : Option Value} {its : Array Value} {n : Nat} (h : o.data = .cell v) : listOf its n ≠ o := fun e => by rw [← e] at h; cases h
theorem set_ne_cell {o : Obj} {v : Option Value} (h : o.data = .cell v) : setObj es n2 t ≠ o := fun e => by rw [← e] at h; cases h
theorem inst_ne_cell {o : Obj} {v : Option Value} {C q : Addr} (h : o.data = .cell v) : instObj C q ≠ o := fun e => by rw [← e] at h; cases h
theorem dict_ne_cell {o : Obj} {v : Option Value} {e : List DictEntry} {n : Nat} (h : o.data = .cell v) : dictOf e n ≠ o := fun e => by rw [← e] at h; cases h
theorem range_ne_cell {o : Obj} {v : Option Value} {x y z : Int} (h : o.data = .cell v) : rgObj x y z ≠ o := fun e => by rw [← e] at h; cases h

structure Aft (s s' : Shared) : Prop where
  d : s'.drawn = s.drawn
  o : s'.os = s.os
  g : Bare s.gens s'.gens
theorem Aft.refl : Aft s s := ⟨rfl, rfl, fun h => h⟩
theorem Aft.trans {a b c : Shared} (x : Aft a b) (y : Aft b c) : Aft a c := ⟨y.d.trans x.d, y.o.trans x.o, fun h => y.g (x.g h)⟩
structure LP (w : World) (L : Addr) (pool prow vrow : Row) (ν : List (Addr × Obj)) (pl rr p l hs : Addr) : Prop where
  pool4 : pool.length = 4
  PO : PoolOk pool ν
  pm : ∃ np, (pl, listOf (items pool) np) ∈ ν
  pne : pl ≠ l
  lm : ∃ n1, (l, listOf (items prow) n1) ∈ ν
  hm : ∃ es t n2, (hs, setObj es n2 t) ∈ ν ∧ SetOk w ν es t (marks prow)
  P : PathIn ν p l hs
  rm : ∃ nr, (rr, listOf (items vrow) nr) ∈ ν
  rne : rr ≠ l
  pc : ∃ po, (L + 1, po) ∈ ν ∧ po.data = .cell (some (.ref p))
  hc : ∃ co cv, (L + 2, co) ∈ ν ∧ co.data = .cell cv
  sub : ∀ e ∈ prow, e ∈ pool
  vsub : ∀ e ∈ vrow, e ∈ pool
  nd : (marks prow).Nodup

theorem nodup_le {α : Type} [DecidableEq α] : ∀ {a b : List α}, a.Nodup → (∀ x ∈ a, x ∈ b) → a.length ≤ b.length
  | [], _, _, _ => Nat.zero_le _
  | x :: a, b, h, hs => by
    rw [List.nodup_cons] at h
    have hx := hs x (.head _)
    have := nodup_le (a := a) (b := b.erase x) h.2 fun y hy => (List.mem_erase_of_ne fun e => h.1 (by rw [← e]; exact hy)).mpr (hs y (.tail _ hy))
    rw [List.length_erase_of_mem hx] at this
    have : 0 < b.length := List.length_pos_of_mem hx
    simp only [List.length_cons]
    omega
theorem marks_len {R : Row} : (marks R).length = R.length := by unfold marks; rw [List.length_map]

section
variable {pool prow vrow : Row} {pl rr : Addr}
theorem LP.len (P : LP w L pool prow vrow ν pl rr p l hs) : prow.length ≤ 4 := by
  have := nodup_le P.nd (b := marks pool) fun k hk => by
    obtain ⟨e, he, rfl⟩ := List.mem_map.mp hk
    exact List.mem_map_of_mem (P.sub e he)
  rw [marks_len, marks_len, P.pool4] at this
  exact this
theorem LP.len3 {e : Addr × CD} (P : LP w L pool prow vrow ν pl rr p l hs) (he : e ∈ pool) (hm : mark e.2 ∉ marks prow) : prow.length ≤ 3 := by
  have := nodup_le (a := mark e.2 :: marks prow) (List.nodup_cons.mpr ⟨hm, P.nd⟩) (b := marks pool) fun k hk => by
    rcases List.mem_cons.mp hk with rfl | hk
    · exact List.mem_map_of_mem he
    · obtain ⟨e, he, rfl⟩ := List.mem_map.mp hk
      exact List.mem_map_of_mem (P.sub e he)
  rw [List.length_cons, marks_len, marks_len, P.pool4] at this
  omega
theorem LP.CR (P : LP w L pool prow vrow ν pl rr p l hs) : ∀ e ∈ prow, CertIn ν e.1 e.2 := fun e he => P.PO.c e (P.sub e he)
theorem LP.CV (P : LP w L pool prow vrow ν pl rr p l hs) : ∀ e ∈ vrow, CertIn ν e.1 e.2 := fun e he => P.PO.c e (P.vsub e he)

/-- nothing but new entries -/
theorem LP.more {ν' : List (Addr × Obj)} {h : Heap} (P : LP w L pool prow vrow ν pl rr p l hs) (hsub : ∀ q ∈ ν, q ∈ ν') (N : News h₀ L h ν') : LP w L pool prow vrow ν' pl rr p l hs :=
  ⟨P.pool4, P.PO.frz (Keep.of hsub), let ⟨n, a⟩ := P.pm; ⟨n, hsub _ a⟩, P.pne, let ⟨n, a⟩ := P.lm; ⟨n, hsub _ a⟩, let ⟨es, t, n, a, b⟩ := P.hm; ⟨es, t, n, hsub _ a, b.frz (Keep.of hsub) N⟩, P.P.mono hsub, let ⟨n, a⟩ := P.rm; ⟨n, hsub _ a⟩, P.rne,
    let ⟨po, a, b⟩ := P.pc; ⟨po, hsub _ a, b⟩, let ⟨co, cv, a, b⟩ := P.hc; ⟨co, cv, hsub _ a, b⟩, P.sub, P.vsub, P.nd⟩
/-- another list under the name row -/
theorem LP.setrow {vrow' : Row} {rr' : Addr} {nr : Nat} (P : LP w L pool prow vrow ν pl rr p l hs) (hm : (rr', listOf (items vrow') nr) ∈ ν) (hne : rr' ≠ l) (hv : ∀ e ∈ vrow', e ∈ pool) : LP w L pool prow vrow' ν pl rr' p l hs :=
  { P with rm := ⟨nr, hm⟩, rne := hne, vsub := hv }
/-- the ledger without l and hs -/
theorem LP.rest {lo so : Obj} {h : Heap} (P : LP w L pool prow vrow ν pl rr p l hs) (N : News h₀ L h ν) (hl : (l, lo) ∈ ν) (hh : (hs, so) ∈ ν) (fl : ¬ Frz lo) (fs : ¬ Frz so) (sc : so.cls = .type "set") :
    ∀ q ∈ ν, (Frz q.2 ∨ q.1 = pl ∨ q.1 = rr ∨ q.1 = L + 1 ∨ q.1 = L + 2) → q ∈ wo l (wo hs ν) := by
  have lst : ∀ {a : Addr} {o : Obj}, (a, o) ∈ ν → o.cls ≠ .type "set" → a ≠ hs := fun x y => news_ne N x hh fun e => y (e ▸ sc)
  obtain ⟨np, pm⟩ := P.pm
  obtain ⟨nr, rm⟩ := P.rm
  obtain ⟨po, pc, pd⟩ := P.pc
  obtain ⟨co, cv, hc, cd⟩ := P.hc
  obtain ⟨n1, lm⟩ := P.lm
  obtain ⟨es, t, n2, hm, O⟩ := P.hm
  have elo : lo = listOf (items prow) n1 := Option.some.inj ((N _ hl).1.symm.trans (N _ lm).1)
  have eso : so = setObj es n2 t := Option.some.inj ((N _ hh).1.symm.trans (N _ hm).1)
  rintro ⟨a, o⟩ hq (c | c | c | c | c)
  · exact keep2 N hl hh fl fs _ hq c
  · have e : a = pl := c
    subst e
    exact mem_wo.mpr ⟨mem_wo.mpr ⟨hq, lst pm (tne (by decide))⟩, P.pne⟩
  · have e : a = rr := c
    subst e
    exact mem_wo.mpr ⟨mem_wo.mpr ⟨hq, lst rm (tne (by decide))⟩, P.rne⟩
  · have e : a = L + 1 := c
    subst e
    exact mem_wo.mpr ⟨mem_wo.mpr ⟨hq, fun e => (news_ne N hm pc (set_ne_cell pd)) e.symm⟩, fun e => (news_ne N lm pc (list_ne_cell pd)) e.symm⟩
  · have e : a = L + 2 := c
    subst e
    exact mem_wo.mpr ⟨mem_wo.mpr ⟨hq, fun e => (news_ne N hm hc (set_ne_cell cd)) e.symm⟩, fun e => (news_ne N lm hc (list_ne_cell cd)) e.symm⟩
/-- the path has turned into prow' -/
theorem LP.turn {ν' : List (Addr × Obj)} {prow' : Row} {h h' : Heap} {n1' n2' : Nat} {es' : Array (Int × Value)} {t' : SetTable} {lo so : Obj} (P : LP w L pool prow vrow ν pl rr p l hs) (N : News h₀ L h ν) (hl : (l, lo) ∈ ν) (hh : (hs, so) ∈ ν) (fl : ¬ Frz lo) (fs : ¬ Frz so) (sc : so.cls = .type "set")
    (hsub : ∀ q ∈ wo l (wo hs ν), q ∈ ν') (N' : News h₀ L h' ((l, listOf (items prow') n1') :: (hs, setObj es' n2' t') :: ν')) (O : SetOk w ν' es' t' (marks prow')) (sub : ∀ e ∈ prow', e ∈ pool) (nd : (marks prow').Nodup) :
    LP w L pool prow' vrow ((l, listOf (items prow') n1') :: (hs, setObj es' n2' t') :: ν') pl rr p l hs := by
  have K := P.rest N hl hh fl fs sc
  have kp : Keep ν ((l, listOf (items prow') n1') :: (hs, setObj es' n2' t') :: ν') := fun q hq hz => .tail _ (.tail _ (hsub q (K q hq (.inl hz))))
  obtain ⟨np, pm⟩ := P.pm
  obtain ⟨nr, rm⟩ := P.rm
  obtain ⟨po, pc, pd⟩ := P.pc
  obtain ⟨co, cv, hc, cd⟩ := P.hc
  exact ⟨P.pool4, P.PO.frz kp, ⟨np, .tail _ (.tail _ (hsub _ (K _ pm (.inr (.inl rfl)))))⟩, P.pne, ⟨n1', .head _⟩, ⟨es', t', n2', .tail _ (.head _), O.frz (Keep.of fun q hq => .tail _ (.tail _ hq)) N'⟩, P.P.frz kp,
    ⟨nr, .tail _ (.tail _ (hsub _ (K _ rm (.inr (.inr (.inl rfl))))))⟩, P.rne, ⟨po, .tail _ (.tail _ (hsub _ (K _ pc (.inr (.inr (.inr (.inl rfl))))))), pd⟩, ⟨co, cv, .tail _ (.tail _ (hsub _ (K _ hc (.inr (.inr (.inr (.inr rfl))))))), cd⟩, sub, P.vsub, nd⟩
end
theorem raised_sub {l' : List Env} {x te : Addr} {cls : Value} {vs : List Value} {ν' : List (Addr × Obj)} {h : Heap} (R : RaisedK base l' x cls te vs ν h) (hs : ∀ q ∈ ν', q ∈ ν) : RaisedK base l' x cls te vs ν' h := by
  obtain ⟨⟨B, hB, hl, hfl, hnew⟩, htup⟩ := R
  exact ⟨⟨B, hB, fun q hq => hl q (hs q hq), hfl, hnew⟩, htup⟩
theorem mem_back {h : Heap} {lo so : Obj} (N : News h₀ L h ν) (hl : (l, lo) ∈ ν) (hh : (hs, so) ∈ ν) : ∀ q ∈ ν, q ∈ ((l, lo) :: (hs, so) :: wo l (wo hs ν)) := by
  rintro ⟨a, o⟩ hq
  by_cases ea : a = l
  · subst ea
    have z : o = lo := Option.some.inj ((N _ hq).1.symm.trans (N _ hl).1)
    subst z
    exact .head _
  · by_cases eh : a = hs
    · subst eh
      have z : o = so := Option.some.inj ((N _ hq).1.symm.trans (N _ hh).1)
      subst z
      exact .tail _ (.head _)
    · exact .tail _ (.tail _ (mem_wo.mpr ⟨mem_wo.mpr ⟨hq, eh⟩, ea⟩))
theorem off2 {a b : Addr} : ∀ q ∈ wo a (wo b ν), q.1 ≠ b := fun q hq => wo_off q (wo_sub q hq)
theorem sub_out {lo' so' : Obj} {ν' : List (Addr × Obj)} (hsub : ∀ q ∈ wo l (wo hs ν), q ∈ ν') : ∀ q ∈ ν, q.1 ≠ l → q.1 ≠ hs → q ∈ ((l, lo') :: (hs, so') :: ν') := fun q hq a b => .tail _ (.tail _ (hsub q (mem_wo.mpr ⟨mem_wo.mpr ⟨hq, b⟩, a⟩)))
theorem frz_out {h : Heap} (N : News h₀ L h ν) {lo so : Obj} (hl : (l, lo) ∈ ν) (hh : (hs, so) ∈ ν) (fl : ¬ Frz lo) (fs : ¬ Frz so) : ∀ q ∈ ν, Frz q.2 → q.1 ≠ l ∧ q.1 ≠ hs := fun q hq hz => by
  have := keep2 N hl hh fl fs q hq hz
  exact ⟨wo_off q this, off2 q this⟩

section
variable {pool prow vrow : Row} {pl rr : Addr} {e : Addr × CD}
theorem nodup_app (P : LP w L pool prow vrow ν pl rr p l hs) (hm : mark e.2 ∉ marks prow) : (marks (prow ++ [e])).Nodup := by
  have nd := P.nd
  unfold marks at nd hm ⊢
  rw [List.map_append, List.nodup_append]
  refine ⟨nd, by simp, fun a ha b hb => ?_⟩
  simp only [List.map_cons, List.map_nil, List.mem_singleton] at hb
  subst hb
  exact fun e => hm (e ▸ ha)
theorem lp_append (S : Sx w A₀ base outer env h₀ L mg mb mean loose) (F : Fr h₀ L s.heap m) (N : News h₀ L s.heap ν) (P : LP w L pool prow vrow ν pl rr p l hs) (he : e ∈ pool) (r : Rm A (env :: outer) 6)
    (kok : mark e.2 ∉ marks prow → ∀ ν' s', Aft s s' → (∀ q ∈ ν, q.1 ≠ l → q.1 ≠ hs → q ∈ ν') → Fr h₀ L s'.heap m → News h₀ L s'.heap ν' → LP w L pool (prow ++ [e]) vrow ν' pl rr p l hs → R (.ok (.ret (.ref p))) s')
    (kdup : mark e.2 ∈ marks prow → ∀ g' x te s', Aft s s' → Fr h₀ L g' m → g'.UpToSlots s'.heap → RaisedK base (env :: outer) x (.ref 187) te [] ν s'.heap → R (.error (.ref x)) s') :
    codeAny (Mo w) A (.call (.ref 254) ⟨[.ref p, .ref e.1], []⟩) R s := by
  obtain ⟨n1, lm⟩ := P.lm
  obtain ⟨es, t, n2, hm, O⟩ := P.hm
  have K := keep2 N lm hm nf_list nf_set
  have N1 := news_head2 N lm hm
  have NR : News h₀ L s.heap (wo l (wo hs ν)) := news_sub N fun q hq => wo_sub q (wo_sub q hq)
  have back := mem_back N lm hm
  by_cases hk : mark e.2 ∈ marks prow
  · refine append_dup (d := e.2) S F N1 (P.P.frz K) ((P.PO.c e he).frz K) (O.frz K NR) hk r fun g' x te h' tk FG U Rk => ?_
    exact kdup hk g' x te _ ⟨rfl, rfl, fun h => h⟩ FG U (raised_sub Rk back)
  · refine append_ok (d := e.2) S F N1 wo_off off2 (P.P.frz K) ((P.PO.c e he).frz K) (O.frz K NR) hk (P.len3 he hk) r fun ν' n1' es' n2' t' h' tk s1 o1 o2 F' N' O' => ?_
    refine kok hk _ _ ⟨rfl, rfl, fun h => h⟩ (sub_out s1) F' N' (P.turn N lm hm nf_list nf_set rfl s1 N' O' (fun x hx => ?_) (nodup_app P hk))
    rcases List.mem_append.mp hx with hx | hx
    · exact P.sub x hx
    · rw [List.mem_singleton.mp hx]; exact he
theorem lp_prepend (S : Sx w A₀ base outer env h₀ L mg mb mean loose) (F : Fr h₀ L s.heap m) (N : News h₀ L s.heap ν) (P : LP w L pool prow vrow ν pl rr p l hs) (he : e ∈ pool) (r : Rm A (env :: outer) 6)
    (kok : mark e.2 ∉ marks prow → ∀ ν' s', Aft s s' → (∀ q ∈ ν, q.1 ≠ l → q.1 ≠ hs → q ∈ ν') → Fr h₀ L s'.heap m → News h₀ L s'.heap ν' → LP w L pool (e :: prow) vrow ν' pl rr p l hs → R (.ok (.ret (.ref p))) s')
    (kdup : mark e.2 ∈ marks prow → ∀ g' x te s', Aft s s' → Fr h₀ L g' m → g'.UpToSlots s'.heap → RaisedK base (env :: outer) x (.ref 187) te [] ν s'.heap → R (.error (.ref x)) s') :
    codeAny (Mo w) A (.call (.ref 261) ⟨[.ref p, .ref e.1], []⟩) R s := by
  obtain ⟨n1, lm⟩ := P.lm
  obtain ⟨es, t, n2, hm, O⟩ := P.hm
  have K := keep2 N lm hm nf_list nf_set
  have N1 := news_head2 N lm hm
  have NR : News h₀ L s.heap (wo l (wo hs ν)) := news_sub N fun q hq => wo_sub q (wo_sub q hq)
  have back := mem_back N lm hm
  by_cases hk : mark e.2 ∈ marks prow
  · refine prepend_dup (d := e.2) S F N1 (P.P.frz K) ((P.PO.c e he).frz K) (O.frz K NR) hk r fun g' x te h' tk FG U Rk => ?_
    exact kdup hk g' x te _ ⟨rfl, rfl, fun h => h⟩ FG U (raised_sub Rk back)
  · refine prepend_ok (d := e.2) S F N1 wo_off off2 (P.P.frz K) ((P.PO.c e he).frz K) (O.frz K NR) hk (P.len3 he hk) r fun ν' n1' es' n2' t' h' tk s1 o1 o2 F' N' O' => ?_
    refine kok hk _ _ ⟨rfl, rfl, fun h => h⟩ (sub_out s1) F' N' (P.turn N lm hm nf_list nf_set rfl s1 N' O' (List.forall_mem_cons.mpr ⟨he, P.sub⟩) (List.nodup_cons.mpr ⟨hk, P.nd⟩))
theorem last_out (nd : (marks (prow ++ [e])).Nodup) : mark e.2 ∉ marks prow := fun hm => by
  unfold marks at nd hm
  rw [List.map_append, List.nodup_append] at nd
  exact nd.2.2 _ hm _ (by simp) rfl
theorem nodup_sub {R R' : Row} (h : R.Sublist R') (nd : (marks R').Nodup) : (marks R).Nodup := by
  unfold marks at nd ⊢; exact nd.sublist (h.map _)
theorem lp_pop (S : Sx w A₀ base outer env h₀ L mg mb mean loose) (F : Fr h₀ L s.heap m) (N : News h₀ L s.heap ν) (P : LP w L pool (prow ++ [e]) vrow ν pl rr p l hs) (r : Rm A (env :: outer) 6)
    (k : ∀ ν' s', Aft s s' → (∀ q ∈ ν, q.1 ≠ l → q.1 ≠ hs → q ∈ ν') → Fr h₀ L s'.heap m → News h₀ L s'.heap ν' → LP w L pool prow vrow ν' pl rr p l hs → R (.ok (.ret (.ref p))) s') :
    codeAny (Mo w) A (.call (.ref 247) ⟨[.ref p], []⟩) R s := by
  obtain ⟨n1, lm⟩ := P.lm
  obtain ⟨es, t, n2, hm, O⟩ := P.hm
  have K := keep2 N lm hm nf_list nf_set
  have N1 := news_head2 N lm hm
  have NR : News h₀ L s.heap (wo l (wo hs ν)) := news_sub N fun q hq => wo_sub q (wo_sub q hq)
  have he := P.sub e (by simp)
  have hlen := P.len
  refine pop_ok (c := e.1) (d := e.2) S F N1 wo_off off2 (P.P.frz K) ((P.PO.c e he).frz K) (O.frz K NR) (last_out P.nd) (by simp at hlen; omega) r fun ν' n1' es' n2' t' h' tk s1 o1 o2 F' N' O' => ?_
  exact k _ _ ⟨rfl, rfl, fun h => h⟩ (sub_out s1) F' N' (P.turn N lm hm nf_list nf_set rfl s1 N' O' (fun x hx => P.sub x (List.mem_append_left _ hx)) (nodup_sub (List.sublist_append_left _ _) P.nd))

theorem lp_cut_to (S : Sx w A₀ base outer env h₀ L mg mb mean loose) (F : Fr h₀ L s.heap m) (N : News h₀ L s.heap ν) (P : LP w L pool prow vrow ν pl rr p l hs) (he : e ∈ pool) (r : Rm A (env :: outer) 12)
    (kf : ∀ (i : Nat) e' ν' s', prow[i]? = some e' → sameMark e'.2 e.2 = true → (∀ (j : Nat) e', j < i → prow[j]? = some e' → sameMark e'.2 e.2 = false) → Aft s s' → (∀ q ∈ ν, q.1 ≠ l → q.1 ≠ hs → q ∈ ν') → Fr h₀ L s'.heap m → News h₀ L s'.heap ν' → LP w L pool (prow.take (i + 1)) vrow ν' pl rr p l hs → R (.ok (.ret (.ref p))) s')
    (kn : (∀ (j : Nat) e', prow[j]? = some e' → sameMark e'.2 e.2 = false) → ∀ g' x te vs s', Aft s s' → Fr h₀ L g' m → g'.UpToSlots s'.heap → RaisedK base (env :: outer) x (.type "LookupError") te vs ν s'.heap → NoCtx x s'.heap → R (.error (.ref x)) s') :
    codeAny (Mo w) A (.call (.ref 226) ⟨[.ref p, .ref e.1], []⟩) R s := by
  obtain ⟨n1, lm⟩ := P.lm
  obtain ⟨es, t, n2, hm, O⟩ := P.hm
  have K := keep2 N lm hm nf_list nf_set
  have N1 := news_head2 N lm hm
  have NR : News h₀ L s.heap (wo l (wo hs ν)) := news_sub N fun q hq => wo_sub q (wo_sub q hq)
  have back := mem_back N lm hm
  refine cut_to (d := e.2) S F N1 wo_off off2 (P.P.frz K) P.len (fun e he => (P.CR e he).frz K) ((P.PO.c e he).frz K) (O.frz K NR) P.nd r
    (fun i e' ν' n1' es' n2' t' h' G tk h1 h2 h3 s1 o1 o2 F' N' O' hb => ?_) fun hno g' x te vs h' G tk FG U Rk Cx hb => ?_
  · exact kf i e' _ _ h1 h2 h3 ⟨rfl, rfl, hb⟩ (sub_out s1) F' N' (P.turn N lm hm nf_list nf_set rfl s1 N' O' (fun x hx => P.sub x (List.mem_of_mem_take hx)) (nodup_sub (List.take_sublist _ _) P.nd))
  · exact kn hno g' x te vs _ ⟨rfl, rfl, hb⟩ FG U (raised_sub Rk back) Cx
theorem lp_cut_iss (S : Sx w A₀ base outer env h₀ L mg mb mean loose) (F : Fr h₀ L s.heap m) (N : News h₀ L s.heap ν) (P : LP w L pool prow vrow ν pl rr p l hs) (he : e ∈ pool) (r : Rm A (env :: outer) 12)
    (kf : ∀ (i : Nat) e' ν' s', prow[i]? = some e' → isIss e'.2 e.2 = true → (∀ (j : Nat) e', j < i → prow[j]? = some e' → isIss e'.2 e.2 = false) → Aft s s' → (∀ q ∈ ν, q.1 ≠ l → q.1 ≠ hs → q ∈ ν') → Fr h₀ L s'.heap m → News h₀ L s'.heap ν' → LP w L pool (prow.take (i + 1)) vrow ν' pl rr p l hs → R (.ok (.ret (.ref p))) s')
    (kn : (∀ (j : Nat) e', prow[j]? = some e' → isIss e'.2 e.2 = false) → ∀ g' x te vs s', Aft s s' → Fr h₀ L g' m → g'.UpToSlots s'.heap → RaisedK base (env :: outer) x (.type "LookupError") te vs ν s'.heap → NoCtx x s'.heap → R (.error (.ref x)) s') :
    codeAny (Mo w) A (.call (.ref 233) ⟨[.ref p, .ref e.1], []⟩) R s := by
  obtain ⟨n1, lm⟩ := P.lm
  obtain ⟨es, t, n2, hm, O⟩ := P.hm
  have K := keep2 N lm hm nf_list nf_set
  have N1 := news_head2 N lm hm
  have NR : News h₀ L s.heap (wo l (wo hs ν)) := news_sub N fun q hq => wo_sub q (wo_sub q hq)
  have back := mem_back N lm hm
  refine cut_iss (d := e.2) S F N1 wo_off off2 (P.P.frz K) P.len (fun e he => (P.CR e he).frz K) ((P.PO.c e he).frz K) (fun e he => P.PO.s e (P.sub e he)) (P.PO.s e he) (O.frz K NR) P.nd r
    (fun i e' ν' n1' es' n2' t' h' G tk h1 h2 h3 s1 o1 o2 F' N' O' hb => ?_) fun hno g' x te vs h' G tk FG U Rk Cx hb => ?_
  · exact kf i e' _ _ h1 h2 h3 ⟨rfl, rfl, hb⟩ (sub_out s1) F' N' (P.turn N lm hm nf_list nf_set rfl s1 N' O' (fun x hx => P.sub x (List.mem_of_mem_take hx)) (nodup_sub (List.take_sublist _ _) P.nd))
  · exact kn hno g' x te vs _ ⟨rfl, rfl, hb⟩ FG U (raised_sub Rk back) Cx
theorem lp_find (S : Sx w A₀ base outer env h₀ L mg mb mean loose) (F : Fr h₀ L s.heap m) (N : News h₀ L s.heap ν) (P : LP w L pool prow vrow ν pl rr p l hs) (he : e ∈ pool) (r : Rm A (env :: outer) 6)
    (kf : ∀ (i : Nat) e' s', prow[i]? = some e' → isIss e'.2 e.2 = true → (∀ (j : Nat) e', j < i → prow[j]? = some e' → isIss e'.2 e.2 = false) → Aft s s' → Fr h₀ L s'.heap m → News h₀ L s'.heap ν → R (.ok (.ret (.ref e'.1))) s')
    (kn : (∀ (j : Nat) e', prow[j]? = some e' → isIss e'.2 e.2 = false) → ∀ g' x te vs s', Aft s s' → Fr h₀ L g' m → g'.UpToSlots s'.heap → RaisedK base (env :: outer) x (.type "LookupError") te vs ν s'.heap → NoCtx x s'.heap → R (.error (.ref x)) s') :
    codeAny (Mo w) A (.call (.ref 219) ⟨[.ref p, .ref e.1], []⟩) R s := by
  obtain ⟨n1, lm⟩ := P.lm
  have hlen := P.len
  refine find_ok (d := e.2) S F N lm P.P (by omega) P.CR (P.PO.c e he) (fun e he => P.PO.s e (P.sub e he)) (P.PO.s e he) r
    (fun i e' h' G tk h1 h2 h3 F' N' hb => ?_) fun hno g' x te vs h' G tk FG U Rk Cx hb => ?_
  · exact kf i e' _ h1 h2 h3 ⟨rfl, rfl, hb⟩ F' N'
  · exact kn hno g' x te vs _ ⟨rfl, rfl, hb⟩ FG U Rk Cx
end
section
variable {P : Params}
theorem kPapp : findIn (hd.heap_1 P) (.ref 292) "append" = some (some (.ref 254)) := by k_is
theorem kPappF : isFn (hd.heap_1 P) (.ref 254) = true := by k_is
theorem kPappK : keepIn (hd.heap_1 P) (.ref 254) = true := by k_is
theorem kPcopy : findIn (hd.heap_1 P) (.ref 292) "copy" = some (some (.ref 240)) := by k_is
theorem kPcopyF : isFn (hd.heap_1 P) (.ref 240) = true := by k_is
theorem kPcopyK : keepIn (hd.heap_1 P) (.ref 240) = true := by k_is
theorem kPto : findIn (hd.heap_1 P) (.ref 292) "truncate_to" = some (some (.ref 226)) := by k_is
theorem kPtoF : isFn (hd.heap_1 P) (.ref 226) = true := by k_is
theorem kPtoK : keepIn (hd.heap_1 P) (.ref 226) = true := by k_is
theorem kPti : findIn (hd.heap_1 P) (.ref 292) "truncate_to_issuer" = some (some (.ref 233)) := by k_is
theorem kPtiF : isFn (hd.heap_1 P) (.ref 233) = true := by k_is
theorem kPtiK : keepIn (hd.heap_1 P) (.ref 233) = true := by k_is
theorem kPfi : findIn (hd.heap_1 P) (.ref 292) "find_issuer" = some (some (.ref 219)) := by k_is
theorem kPfiF : isFn (hd.heap_1 P) (.ref 219) = true := by k_is
theorem kPfiK : keepIn (hd.heap_1 P) (.ref 219) = true := by k_is
theorem kLiK : keepIn (hd.heap_1 P) (.ref 303) = true := by k_is
end
theorem AccMark.frz {R : Row} {ν ν' : List (Addr × Obj)} {i : Nat} {vs : Array Value} (H : AccMark R [] i vs ν) (hs : Keep ν ν') : AccMark R [] i vs ν' :=
  ⟨H.1, fun q hq => (nomatch hq), fun j e hj he => let ⟨t, a, b⟩ := H.2.2 j e hj he; ⟨t, a, b.frz hs⟩⟩
abbrev MK (xs : List Str) (m m' : Str → Option Value) : Prop := ∀ y, y ∉ xs → m' y = m y
structure Turn (w : World) (L : Addr) (pool row : Row) (ν : List (Addr × Obj)) (pl rr p l hs : Addr) (m : Str → Option Value) (e : Addr × CD) (D mk : Addr) (hvs : Array Value) (nD : Nat) : Prop where
  P : LP w L pool row row ν pl rr p l hs
  he : e ∈ pool
  mc : m "cert" = some (.ref e.1)
  mr : m "row" = some (.ref rr)
  mm : m "mark" = some (.ref mk)
  tm : TupIn ν mk (mark e.2)
  hD : ∃ co, (L + 2, co) ∈ ν ∧ co.data = .cell (some (.ref D))
  dD : (D, listOf hvs nD) ∈ ν
  dl : D ≠ l
  acc : AccMark row [] row.length hvs ν
theorem pick_row_to {R : Row} {k : Nat} (hk : k ≤ R.length) : slicePick (items R) none (some (k : Int)) none = items (R.take k) := by
  have e : sliceBounds none (some (k : Int)) none (items R).size = (((0 : Nat) : Int), ((k : Nat) : Int), 1) := by
    rw [items_size]
    simp only [sliceBounds, Option.getD_none, show (1 : Int) > 0 by decide, if_true]
    rw [if_neg (by omega)]
    have : max (0 : Int) (min (k : Int) (R.length : Int)) = (k : Int) := by omega
    rw [this]; rfl
  rw [kmk_pick_nat _ e, List.drop_zero, Nat.sub_zero]
  simp [items, List.map_take]
theorem pick_row_m1 {R : Row} {e : Addr × CD} : slicePick (items (R ++ [e])) none (some (-1)) none = items R := by
  have e : sliceBounds none (some (-1 : Int)) none (items (R ++ [e])).size = (((0 : Nat) : Int), ((R.length : Nat) : Int), 1) := by
    rw [items_size, List.length_append]
    simp only [sliceBounds, Option.getD_none, show (1 : Int) > 0 by decide, if_true]
    rw [if_pos (by decide)]
    have : max (0 : Int) (min (-1 + ((R.length + [e].length : Nat) : Int)) ((R.length + [e].length : Nat) : Int)) = (R.length : Int) := by
      simp only [List.length_cons, List.length_nil]; omega
    rw [this]; rfl
  rw [kmk_pick_nat _ e, List.drop_zero, Nat.sub_zero]
  simp [items, List.map_append]
theorem add_rows {rA rB : Addr} {RA RB : Row} {nA nB : Nat} (F : Fr h₀ L s.heap m) (N : News h₀ L s.heap ν) (hA : (rA, listOf (items RA) nA) ∈ ν) (hB : (rB, listOf (items RB) nB) ∈ ν) (hl : RA.length + RB.length ≤ 100)
    (h : ∀ D h', Fr h₀ L h' m → News h₀ L h' ((D, listOf (items (RA ++ RB)) 0) :: ν) → (∀ q ∈ ν, q.1 < D) → Q (.ref D) { s with heap := h' }) : wpAny (Mo w) A (binaryOp .Add (.ref rA) (.ref rB)) Q E s := by
  refine add_arrays F N (is_list N hA) (is_list N hB) (fun h' F' N' => ?_) (by rw [items_size, items_size, sizeLine_eq]; omega)
  refine h _ h' F' ?_ fun q hq => Heap.lt_size (N q hq).1
  have e : ((items RA).toList ++ (items RB).toList).toArray = items (RA ++ RB) := by simp [items]
  rw [← e]; exact N'
theorem tup_store2 {x y : Str} {u v : Value} {cs : Scope} {ccd : Value} {QQ : Unit → Shared → Prop} (F : Fr h₀ L s.heap m) (N : News h₀ L s.heap ν) (hh : A.handled = none) (hk : cs.kind = .function) (hx : (lawEnv cs L ccd).kindOf x = some .local) (hy : (lawEnv cs L ccd).kindOf y = some .local)
    (h : ∀ s', Aft s s' → Fr h₀ L s'.heap (fun z => if z = x then some u else if z = y then some v else m z) → News h₀ L s'.heap ν → QQ () s') :
    wpAny (Mo w) A (newTuple [u, v]) (fun t s₁ => wpAny (Mo w) A (unpackItems t [x, y].length none) (fun its s₂ => wpAny (Mo w) A (assignInOrder (List.map (fun n => bindName (lawEnv cs L ccd) n) [x, y].reverse) its.reverse) QQ E s₂) E s₁) E s := by
  refine newTuple_N F N (fun h₁ F₁ N₁ => ?_) (by rw [sizeLine_eq]; show (2 : Nat) ≤ _; decide)
  refine unpackItemsN_ F₁ N₁ ⟨_, (N₁ _ (.head _)).1, rfl, _, rfl⟩ hh rfl fun h₂ F₂ N₂ => ?_
  show wpAny (Mo w) A (assignInOrder [bindName _ y, bindName _ x] [v, u]) _ _ _
  refine wpAny_bind (wpAny_holding (wpAny_bindName (storeX_L F₂ N₂ (fun h₃ F₃ N₃ => ?_) hk hy)))
  refine wpAny_bind (wpAny_holding (wpAny_bindName (storeX_L F₃ N₃ (fun h₄ F₄ N₄ => ?_) hk hx)))
  refine wpAny_pure ?_
  exact h _ ⟨rfl, rfl, fun h => h⟩ F₄ (news_sub N₄ fun q hq => .tail _ hq)
section
variable {pool prow vrow : Row} {pl rr D mk : Addr} {e : Addr × CD} {hvs : Array Value} {nD : Nat} {dd : Int} {td : Tok}
theorem Turn.keep {ν₁ : List (Addr × Obj)} {h : Heap} (T : Turn w L pool row ν pl rr p l hs m e D mk hvs nD) (N : News h₀ L h ν) (s1 : ∀ q ∈ ν, q.1 ≠ l → q.1 ≠ hs → q ∈ ν₁) : Keep ν ν₁ := by
  obtain ⟨n1, lm⟩ := T.P.lm
  obtain ⟨es, t, n2, hm, O⟩ := T.P.hm
  exact fun q hq hz => let ⟨a, b⟩ := frz_out N lm hm nf_list nf_set q hq hz; s1 q hq a b
theorem Turn.out {ν₁ : List (Addr × Obj)} {h : Heap} (T : Turn w L pool row ν pl rr p l hs m e D mk hvs nD) (N : News h₀ L h ν) (s1 : ∀ q ∈ ν, q.1 ≠ l → q.1 ≠ hs → q ∈ ν₁) :
    (∃ co, (L + 2, co) ∈ ν₁ ∧ co.data = .cell (some (.ref D))) ∧ (D, listOf hvs nD) ∈ ν₁ ∧ TupIn ν₁ mk (mark e.2) ∧ AccMark row [] row.length hvs ν₁ := by
  have K := T.keep N s1
  obtain ⟨n1, lm⟩ := T.P.lm
  obtain ⟨es, t, n2, hm, O⟩ := T.P.hm
  obtain ⟨co, cc, cd⟩ := T.hD
  exact ⟨⟨co, s1 _ cc (fun e => news_ne N lm cc (list_ne_cell cd) e.symm) (fun e => news_ne N hm cc (set_ne_cell cd) e.symm), cd⟩, s1 _ T.dD T.dl (news_ne N T.dD hm fun e => (tne (by decide)) (congrArg Obj.cls e)), T.tm.frz K, T.acc.frz K⟩
end
section
variable {pool prow vrow : Row} {pl rr D mk : Addr} {e : Addr × CD} {hvs : Array Value} {nD nr : Nat} {dd : Int} {td : Tok} {p1 p2 p3 p4 : Pos}
theorem eval_li {name qual : Str} {params : Arguments} {body : List Stmt} {scope : Scope} {cdv : Value} (hl : LawIs w name qual params body scope cdv) (S : Sx w A₀ base outer (lawEnv scope L cdv) h₀ L mg mb mean loose) (F : Fr h₀ L s.heap m) (N : News h₀ L s.heap ν) (r : Rn A (lawEnv scope L cdv :: outer) 8) (H : HLed A ν) (mr : m "row" = some (.ref rr)) (mc : m "cert" = some (.ref e.1)) (hm : (rr, listOf (items vrow) nr) ∈ ν) (hlen : vrow.length ≤ 4)
    (PO : PoolOk pool ν) (vs : ∀ e ∈ vrow, e ∈ pool) (he : e ∈ pool)
    (k : ∀ s' u, Aft s s' → Fr h₀ L s'.heap m → News h₀ L s'.heap ν → Q (.int (issIdx vrow e.2) u) s') :
    wpAny (Mo w) A (eval (.Call (.Name "_law_issuer" p1) [.Name "row" p2, .Name "cert" p3] [] p4) (lawEnv scope L cdv)) Q E s := by
  obtain ⟨dV, kV, doc, pm, ct, oc, an, od, osl, hb⟩ := hl.hb
  clear hl
  have hl := hb.symm.trans (lk (K := hd.heap_1 w.params) (f := 308) (by k_is))
  injection hl with hl
  injection hl with _ _ hl _
  injection hl with hl
  injection hl with e1 e2 e3 e4 e5 e6 e7 e8 e9 e10 e11 e12 e13
  clear e4
  subst e5 e13
  clear hb e1 e2 e3 e6 e7 e8 e9 e10 e11 e12
  walk_at "st"
  refine nameX_K F S.X (topRead_of S.T) (by k_is) ?_
  refine callWith_K S.X kLiK ?_
  walk_at "st"
  refine nameX_L F mr ?_
  walk_at "st"
  refine nameX_L F mc ?_
  walk_at "st"
  refine ⟨S.X.keeps F.keep, wpAny_call ?_⟩
  refine law_issuerA S F N hm (by omega) (fun e he => PO.c e (vs e he)) (PO.c e he) (fun e he => PO.n e (vs e he)) (PO.n e he) r.le H fun h' tk u F' N' => ?_
  exact k _ u ⟨rfl, rfl, fun h => h⟩ F' N'
end
def sigs (R : Row) : List Int := R.map fun e => e.2.sig
theorem ints_of : ∀ {R : Row} {vs : List Value}, vs.length = R.length → (∀ (j : Nat) e, R[j]? = some e → ∃ t, vs[j]? = some (.int e.2.sig t)) → IntsAre vs (sigs R)
  | [], [], _, _ => .nil
  | [], _ :: _, h, _ => by simp at h
  | _ :: _, [], h, _ => by simp at h
  | e :: R, v :: vs, h, hj => by
    obtain ⟨t, ht⟩ := hj 0 e rfl
    have : v = .int e.2.sig t := Option.some.inj ht
    subst this
    exact .cons _ _ (ints_of (by simpa using h) fun j e' he' => hj (j + 1) e' (by simpa using he'))
theorem acc_ints {R : Row} {ν₀ : List (Addr × Obj)} {vs : Array Value} (H : AccSig R ν₀ R.length vs ν) : IntsAre vs.toList (sigs R) :=
  ints_of (by rw [Array.length_toList]; exact H.1) fun j e he => by
    obtain ⟨t, ht⟩ := H.2.2 j e (List.getElem?_eq_some_iff.mp he).1 he
    exact ⟨t, by rw [Array.getElem?_toList]; exact ht⟩

section
variable {x : Str} {p1 p2 p3 p4 px pos spos py : Pos} {iter : Expr} {cscope : Scope} {rr : Addr} {nr : Nat} {R : Row} {kx : Nat} {px' : Pos}
theorem comp_sig_path (S : Sx w A₀ base outer env h₀ L mg mb mean loose) (F : Fr h₀ L s.heap m) (N : News h₀ L s.heap ν) (hm : (l, listOf (items row) n1) ∈ ν) (P : PathIn ν p l hs) (HC : ∀ e ∈ row, CertIn ν e.1 e.2) (hlen : row.length ≤ 100) (r : Rm A (env :: outer) 8)
    (hi : ∀ {Q'}, Q' (.ref p) s → wpAny (Mo w) A (eval iter env) Q' E s)
    (k : ∀ D vs nD ν' s', Aft s s' → Fr h₀ L s'.heap m → News h₀ L s'.heap ((D, listOf vs nD) :: ν') → (∀ q ∈ ν, q ∈ ν') → IntsAre vs.toList (sigs row) → Q (.ref D) s')
    (hclos : closureFor cscope env = pure []) (hcell : ∀ y ∈ cscope.names, y.2 ≠ .cell) (hkind : cscope.kind = .function)
    (hnames : ∀ y ∈ cscope.names, y.2 = .local → cscope.names.lookup y.1 = some .local) (hx : cscope.names.lookup x = some .local) (hdx : (x == ("__debug__" : Str)) = false) (hsi : ∀ x, foldedSetIterable iter env x = pure x := by intro _; rfl) :
    wpAny (Mo w) A (eval (.ListComp (.Attribute (.Name x p1) "signature" p2) [⟨.Name x px, iter, [], 0⟩] cscope pos) env) Q E s := by
  refine comp_run (h₀ := h₀) (L := L) (m := m) hclos hcell hkind hnames hx (hi ?_) hsi
  refine iter_path S F N hm P hlen r.le fun a Lg own g gx gy h' G' tk hL hLa hlt F' N' GS hb hown => ?_
  have hlo : l < Lg := hlt _ hm
  have hsz : (items row).size = row.length := items_size
  have SR := src_gen (w := w) (A := A) (h₀ := h₀) (L := L) (m := m) (g := g) (gx := gx) (gy := gy) (its := items row) (n1 := n1) (l := l) (a := a) (Lg := Lg) r.hh r.room S.T.nolimit hL hLa (Nat.le_of_lt (Nat.lt_trans hlo hLa)) (Nat.ne_of_lt hlo)
  rw [hsz] at SR
  refine ⟨a, a + 1, row.length, _, _, _, AccSig row ν, own ++ [(a, genObj g gx gy), (l, listOf (items row) n1)], ν, rfl, hlen, fun i vs ν h => Nat.le_of_eq h.1, SR, elt_sig S hkind hx hdx HC, ?_, F', ?_, ?_, ⟨rfl, fun q hq => hq, fun j e hj => absurd hj (Nat.not_lt_zero _)⟩, ?_, ?_, ?_, ?_⟩
  · rintro s₁ Q₁ ⟨own', e1, _, _, _⟩ N₁ hq
    exact wpAny_pyIter_gen (g := g) ⟨_, _, _, (N₁ (a, genObj g gx gy) (List.mem_append_right _ (.head _))).1, rfl, rfl, rfl⟩ hq
  · rw [List.append_assoc]
    exact List.forall_mem_append.mpr ⟨fun q hq => N' q (List.mem_append_left _ hq), List.forall_mem_cons.mpr ⟨N' _ (List.mem_append_right _ (.head _)), List.forall_mem_cons.mpr ⟨N' _ (List.mem_append_right _ (.tail _ hm)), fun q hq => N' q (List.mem_append_right _ (.tail _ hq))⟩⟩⟩
  · refine ⟨own, rfl, fun q hq => .inl (hown q hq), ?_, Nat.zero_le _⟩
    exact GS A.in1 r.hh
  · exact Heap.lt_size (N' (a, genObj g gx gy) (List.mem_append_right _ (.head _))).1
  · exact fun q hq => ⟨Nat.ne_of_lt (hlt q hq), .inl (Nat.le_of_lt (Nat.lt_trans (hlt q hq) hLa))⟩
  · exact fun q hq hz => ⟨Nat.ne_of_gt (Nat.lt_of_lt_of_le hLa (Nat.le_of_succ_le hq)), .inr hz⟩
  · intro D vs nD ν' h'' G'' tk' F'' N'' hsub _ hA hb'
    exact k D vs nD ν' _ ⟨rfl, rfl, fun z => hb' (hb z)⟩ F'' N'' hsub (acc_ints hA)

/-- a list as the source -/
theorem list_src {its : Array Value} {Q' : Value → Shared → Prop} (r : Rm A (env :: outer) 3) (F : Fr h₀ L s.heap m) (N : News h₀ L s.heap ν) (hm : (rr, listOf its nr) ∈ ν)
    (k : ∀ it o, (∀ q ∈ ν, q.1 < it) → L < it → o.cls = .type "list_iterator" → o.data = .fields #[.ref rr, .int ((0 : Nat) : Int) 0] → Fr h₀ L (s.heap.push o) m → News h₀ L (s.heap.push o) ([(it, o), (rr, listOf its nr)] ++ ν) → it + 1 ≤ (s.heap.push o).objs.size →
      Src w A h₀ L m it its.size (fun i v => its[i]? = some v) (fun q => q.1 ≠ it) (it + 1) (fun i μ _ => ∃ o : Obj, o.cls = .type "list_iterator" ∧ o.data = .fields #[.ref rr, .int i 0] ∧ μ = [(it, o), (rr, listOf its nr)] ∧ i ≤ its.size) →
      (∀ (s : Shared) (Q : Value → Shared → Prop) μ G, (∃ o : Obj, o.cls = .type "list_iterator" ∧ o.data = .fields #[.ref rr, .int ((0 : Nat) : Int) 0] ∧ μ = [(it, o), (rr, listOf its nr)] ∧ 0 ≤ its.size) → News h₀ L s.heap μ → Q (.ref it) s → wpAny (Mo w) A (pyIter (.ref it)) Q G s) →
      Q' (.ref it) { s with heap := s.heap.push o }) : wpAny (Mo w) A (pyIter (.ref rr)) Q' E s := by
  have hL : L < s.heap.objs.size := by obtain ⟨o, q1, q2, qo, q3⟩ := F.ns; exact Heap.lt_size qo
  have hlt : ∀ q ∈ ν, q.1 < s.heap.objs.size := fun q hq => Heap.lt_size (N q hq).1
  refine wpAny_pyIter_list ⟨_, (N _ hm).1, rfl, _, rfl⟩ ?_
  refine k s.heap.objs.size _ hlt hL rfl rfl (F.push _) ?_ (by rw [Heap.size_push]; exact Nat.le_refl _) (src_list r.hh (hlt _ hm) hL) ?_
  · have N1 := N.push F { cls := .type "list_iterator", data := .fields #[.ref rr, .int 0 0] }
    exact List.forall_mem_cons.mpr ⟨N1 _ (.head _), List.forall_mem_cons.mpr ⟨N1 _ (.tail _ hm), fun q hq => N1 q (.tail _ hq)⟩⟩
  · rintro s₁ Q₁ μ G ⟨o, hc, hd, rfl, _⟩ N₁ hq
    exact wpAny_pyIter_listiter ⟨o, (N₁ _ (.head _)).1, hc, hd⟩ hq

theorem comp_sig_list (S : Sx w A₀ base outer env h₀ L mg mb mean loose) (_F : Fr h₀ L s.heap m) (_N : News h₀ L s.heap ν) (r : Rm A (env :: outer) 8)
    (hi : wpAny (Mo w) A (eval iter env) (fun v s' => ∃ rr nr ν', v = .ref rr ∧ Aft s s' ∧ Fr h₀ L s'.heap m ∧ News h₀ L s'.heap ν' ∧ (∀ q ∈ ν, q ∈ ν') ∧ (rr, listOf (items R) nr) ∈ ν') E s) (HC : ∀ e ∈ R, CertIn ν e.1 e.2) (hlen : R.length ≤ 100)
    (k : ∀ D vs nD ν' s', Aft s s' → Fr h₀ L s'.heap m → News h₀ L s'.heap ((D, listOf vs nD) :: ν') → (∀ q ∈ ν, q ∈ ν') → IntsAre vs.toList (sigs R) → Q (.ref D) s')
    (hclos : closureFor cscope env = pure []) (hcell : ∀ y ∈ cscope.names, y.2 ≠ .cell) (hkind : cscope.kind = .function)
    (hnames : ∀ y ∈ cscope.names, y.2 = .local → cscope.names.lookup y.1 = some .local) (hx : cscope.names.lookup x = some .local) (hdx : (x == ("__debug__" : Str)) = false) (hsi : ∀ x, foldedSetIterable iter env x = pure x := by intro _; rfl) :
    wpAny (Mo w) A (eval (.ListComp (.Attribute (.Name x p1) "signature" p2) [⟨.Name x px, iter, [], 0⟩] cscope pos) env) Q E s := by
  refine comp_run (h₀ := h₀) (L := L) (m := m) hclos hcell hkind hnames hx (wpAny_mono hi (fun v s₁ hv => ?_) fun _ _ x => x) hsi
  obtain ⟨rr, nr, ν₁, rfl, A₁, F₁, N₁, sub₁, hm⟩ := hv
  refine list_src r.le F₁ N₁ hm fun it o hlt hL hc hd F₂ N₂ hsz SR hself => ?_
  rw [items_size] at SR
  refine ⟨it, it + 1, R.length, _, _, _, AccSig R ν₁, _, ν₁, rfl, hlen, fun i vs ν h => Nat.le_of_eq h.1, SR, elt_sig S hkind hx hdx (fun e he => (HC e he).mono sub₁), fun s₂ Q₂ hJ => hself s₂ Q₂ _ _ (by rw [items_size]; exact hJ), F₂, N₂, ⟨o, hc, hd, rfl, Nat.zero_le _⟩, ⟨rfl, fun q hq => hq, fun j e hj => absurd hj (Nat.not_lt_zero _)⟩, hsz, fun q hq => Nat.ne_of_lt (hlt q hq), fun q hq _ => Nat.ne_of_gt hq, ?_⟩
  intro D vs nD ν' h'' G'' tk' F'' N'' hsub _ hA hb'
  exact k D vs nD ν' _ (A₁.trans ⟨rfl, rfl, hb'⟩) F'' N'' (fun q hq => hsub q (sub₁ q hq)) (acc_ints hA)
end
section
variable {x y : Str} {p1 p2 p3 p4 p5 p6 p7 px px' px2 pos spos py : Pos} {iter : Expr} {cscope cs : Scope} {ccd : Value} {rr : Addr} {nr : Nat} {R : Row} {kx : Nat} {QF : Flow → Shared → Prop}
theorem comp_sig_use (S : Sx w A₀ base outer (lawEnv cs L ccd) h₀ L mg mb mean loose) (_F : Fr h₀ L s.heap m) (_N : News h₀ L s.heap ν) (r : Rm A (lawEnv cs L ccd :: outer) 8)
    (hi : wpAny (Mo w) A (eval iter (lawEnv cs L ccd)) (fun v s' => ∃ rr nr ν', v = .ref rr ∧ Aft s s' ∧ Fr h₀ L s'.heap m ∧ News h₀ L s'.heap ν' ∧ (∀ q ∈ ν, q ∈ ν') ∧ (rr, listOf (items R) nr) ∈ ν') E s) (HC : ∀ e ∈ R, CertIn ν e.1 e.2) (hlen : R.length ≤ 100)
    (k : ∀ D vs nD ν' s', Aft s s' → Fr h₀ L s'.heap (fun z => if z = y then some (.ref D) else m z) → News h₀ L s'.heap ((D, listOf vs nD) :: ν') → (∀ q ∈ ν, q ∈ ν') → IntsAre vs.toList (sigs R) → QF .next s')
    (hk : cs.kind = .function) (hy : (lawEnv cs L ccd).kindOf y = some .local)
    (hsw : swapsWith (.ListComp (.Attribute (.Name x p1) "signature" p2) [⟨.Name x px, iter, [], 0⟩] cscope pos) (some (.Name y py)) spos.line (lawEnv cs L ccd) = pure true)
    (hclos : closureFor cscope (lawEnv cs L ccd) = pure []) (hcell : ∀ y ∈ cscope.names, y.2 ≠ .cell) (hkind : cscope.kind = .function)
    (hnames : ∀ y ∈ cscope.names, y.2 = .local → cscope.names.lookup y.1 = some .local) (hx : cscope.names.lookup x = some .local) (hdx : (x == ("__debug__" : Str)) = false) (hsi : ∀ x, foldedSetIterable iter (lawEnv cs L ccd) x = pure x := by intro _; rfl) :
    wpAny (Mo w) A (exec (.Assign [.Name y py] (.ListComp (.Attribute (.Name x p1) "signature" p2) [⟨.Name x px, iter, [], 0⟩] cscope pos) spos) (lawEnv cs L ccd)) QF E s := by
  refine comp_use (h₀ := h₀) (L := L) (m := m) hsw hclos hcell hkind hnames hx (wpAny_mono hi (fun v s₁ hv => ?_) fun _ _ x => x) hsi
  obtain ⟨rr, nr, ν₁, rfl, A₁, F₁, N₁, sub₁, hm⟩ := hv
  refine list_src r.le F₁ N₁ hm fun it o hlt hL hc hd F₂ N₂ hsz SR hself => ?_
  rw [items_size] at SR
  refine ⟨it, it + 1, R.length, _, _, _, AccSig R ν₁, _, ν₁, rfl, hlen, fun i vs ν h => Nat.le_of_eq h.1, SR, elt_sig S hkind hx hdx (fun e he => (HC e he).mono sub₁), fun s₂ Q₂ hJ => hself s₂ Q₂ _ _ (by rw [items_size]; exact hJ), F₂, N₂, ⟨o, hc, hd, rfl, Nat.zero_le _⟩, ⟨rfl, fun q hq => hq, fun j e hj => absurd hj (Nat.not_lt_zero _)⟩, hsz, fun q hq => Nat.ne_of_lt (hlt q hq), fun q hq _ => Nat.ne_of_gt hq, ?_⟩
  intro C oC D vs nD ν' h'' G'' tk' _ F'' N'' hsub off hDC hA hb'
  refine storeX_L F'' N'' (fun h₃ F₃ N₃ => ?_) hk hy
  refine ⟨_, (D, listOf vs nD) :: ν', F₃, N₃, List.forall_mem_cons.mpr ⟨hDC, fun q hq => (off q hq).1⟩, fun h₄ F₄ N₄ => ?_⟩
  exact k D vs nD ν' _ (A₁.trans ⟨rfl, rfl, hb'⟩) F₄ N₄ (fun q hq => hsub q (sub₁ q hq)) (acc_ints hA)

theorem comp_mark_list (S : Sx w A₀ base outer env h₀ L mg mb mean loose) (_F : Fr h₀ L s.heap m) (_N : News h₀ L s.heap ν) (r : Rm A (env :: outer) 8)
    (hi : wpAny (Mo w) A (eval iter env) (fun v s' => ∃ rr nr ν', v = .ref rr ∧ Aft s s' ∧ Fr h₀ L s'.heap m ∧ News h₀ L s'.heap ν' ∧ (∀ q ∈ ν, q ∈ ν') ∧ (rr, listOf (items R) nr) ∈ ν') E s) (HC : ∀ e ∈ R, CertIn ν e.1 e.2) (hlen : R.length ≤ 100)
    (k : ∀ D vs nD ν' s', Aft s s' → Fr h₀ L s'.heap m → News h₀ L s'.heap ((D, listOf vs nD) :: ν') → (∀ q ∈ ν, q ∈ ν') → (∀ q ∈ ν', q.1 ≠ D) → AccMark R [] R.length vs ν' → Q (.ref D) s')
    (hclos : closureFor cscope env = pure []) (hcell : ∀ y ∈ cscope.names, y.2 ≠ .cell) (hkind : cscope.kind = .function)
    (hnames : ∀ y ∈ cscope.names, y.2 = .local → cscope.names.lookup y.1 = some .local) (hx : cscope.names.lookup x = some .local) (hdx : (x == ("__debug__" : Str)) = false) (hsi : ∀ x, foldedSetIterable iter env x = pure x := by intro _; rfl) :
    wpAny (Mo w) A (eval (.ListComp (.Tuple [.Attribute (.Attribute (.Name x px) "issuer" p1) "hashable" p2, .Attribute (.Name x px') "serial_number" p3] kx p4) [⟨.Name x p5, iter, [], 0⟩] cscope pos) env) Q E s := by
  refine comp_run (h₀ := h₀) (L := L) (m := m) hclos hcell hkind hnames hx (wpAny_mono hi (fun v s₁ hv => ?_) fun _ _ x => x) hsi
  obtain ⟨rr, nr, ν₁, rfl, A₁, F₁, N₁, sub₁, hm⟩ := hv
  refine list_src r.le F₁ N₁ hm fun it o hlt hL hc hd F₂ N₂ hsz SR hself => ?_
  rw [items_size] at SR
  refine ⟨it, it + 1, R.length, _, _, _, AccMark R ν₁, _, ν₁, rfl, hlen, fun i vs ν h => Nat.le_of_eq h.1, SR, elt_mark S hkind hx hdx (fun e he => (HC e he).mono sub₁) (fun q hq _ => Nat.ne_of_gt hq), fun s₂ Q₂ hJ => hself s₂ Q₂ _ _ (by rw [items_size]; exact hJ), F₂, N₂, ⟨o, hc, hd, rfl, Nat.zero_le _⟩, ⟨rfl, fun q hq => hq, fun j e hj => absurd hj (Nat.not_lt_zero _)⟩, hsz, fun q hq => Nat.ne_of_lt (hlt q hq), fun q hq _ => Nat.ne_of_gt hq, ?_⟩
  intro D vs nD ν' h'' G'' tk' F'' N'' hsub off hA hb'
  exact k D vs nD ν' _ (A₁.trans ⟨rfl, rfl, hb'⟩) F'' N'' (fun q hq => hsub q (sub₁ q hq)) off ⟨hA.1, fun q hq => (nomatch hq), hA.2.2⟩

theorem comp_path_j {cc : Addr} {oc : Obj} (S : Sx w A₀ base outer env h₀ L mg mb mean loose) (_F : Fr h₀ L s.heap m) (_N : News h₀ L s.heap ν) (r : Rm A (env :: outer) 8)
    (hi : wpAny (Mo w) A (eval iter env) (fun v s' => ∃ ro t u z ν', v = .ref ro ∧ Aft s s' ∧ Fr h₀ L s'.heap m ∧ News h₀ L s'.heap ν' ∧ (∀ q ∈ ν, q ∈ ν') ∧ (ro, rangeO 0 (R.length : Nat) 1 t u z) ∈ ν') E s)
    (hoc : (cc, oc) ∈ ν) (hd : oc.data = .cell (some (.ref p))) (hm : (l, listOf (items R) n1) ∈ ν) (P : PathIn ν p l hs) (HC : ∀ e ∈ R, CertIn ν e.1 e.2) (hlen : R.length ≤ 100)
    (k : ∀ D vs nD ν' s', Aft s s' → Fr h₀ L s'.heap m → News h₀ L s'.heap ((D, listOf vs nD) :: ν') → (∀ q ∈ ν, q ∈ ν') → IntsAre vs.toList (sigs R) → Q (.ref D) s')
    (hp : ∀ C, (compEnvC cscope [(("path" : Str), cc)] C env).kindOf "path" = some .cell)
    (hclos : closureFor cscope env = pure [(("path" : Str), cc)]) (hcell : ∀ y ∈ cscope.names, y.2 ≠ .cell) (hkind : cscope.kind = .function)
    (hnames : ∀ y ∈ cscope.names, y.2 = .local → cscope.names.lookup y.1 = some .local) (hx : cscope.names.lookup x = some .local) (hdx : (x == ("__debug__" : Str)) = false) (hsi : ∀ x, foldedSetIterable iter env x = pure x := by intro _; rfl) :
    wpAny (Mo w) A (eval (.ListComp (.Attribute (.Subscript (.Name "path" p1) (.Name x p2) p3) "signature" p4) [⟨.Name x p5, iter, [], 0⟩] cscope pos) env) Q E s := by
  refine comp_run (h₀ := h₀) (L := L) (m := m) hclos hcell hkind hnames hx (wpAny_mono hi (fun v s₁ hv => ?_) fun _ _ x => x) hsi
  obtain ⟨ro, t, u, z, ν₁, rfl, A₁, F₁, N₁, sub₁, hr⟩ := hv
  refine iter_range_k F₁ N₁ hr (by omega) fun it h₂ hL hlt F₂ N₂ hsz => ?_
  refine ⟨it, it + 1, R.length, _, _, _, AccSig R ν₁, [(it, rgObj ((0 : Nat) : Int) ((R.length : Int) - ((0 : Nat) : Int)) 1)], ν₁, rfl, hlen, fun i vs ν h => Nat.le_of_eq h.1, src_range r.hh hL, elt_path S r.le hkind hx hdx hp rfl (sub₁ _ hoc) hd (sub₁ _ hm) (P.mono sub₁) hlen (fun e he => (HC e he).mono sub₁), ?_, F₂, ?_, ⟨rfl, Nat.zero_le _⟩, ⟨rfl, fun q hq => hq, fun j e hj => absurd hj (Nat.not_lt_zero _)⟩, Nat.le_of_eq hsz.symm, fun q hq => Nat.ne_of_lt (hlt q hq), fun q hq _ => Nat.ne_of_gt hq, ?_⟩
  · rintro s₂ Q₂ ⟨e1, _⟩ N₃ hq
    exact wpAny_pyIter_rangeiter (N₃ _ (.head _)).1 hq
  · rw [show ((R.length : Int) - ((0 : Nat) : Int)) = R.length by omega]; exact N₂
  intro D vs nD ν' h'' G'' tk' F'' N'' hsub off hA hb'
  exact k D vs nD ν' _ (A₁.trans ⟨rfl, rfl, hb'⟩) F'' N'' (fun q hq => hsub q (sub₁ q hq)) (acc_ints hA)

theorem comp_spare_use {pool : Row} {cc D₀ : Addr} {oc : Obj} {hvs : Array Value} {n0 : Nat} (S : Sx w A₀ base outer (lawEnv cs L ccd) h₀ L mg mb mean loose) (_F : Fr h₀ L s.heap m) (_N : News h₀ L s.heap ν) (r : Rm A (lawEnv cs L ccd :: outer) 8)
    (hi : wpAny (Mo w) A (eval iter (lawEnv cs L ccd)) (fun v s' => ∃ rr nr ν', v = .ref rr ∧ Aft s s' ∧ Fr h₀ L s'.heap m ∧ News h₀ L s'.heap ν' ∧ (∀ q ∈ ν, q ∈ ν') ∧ (rr, listOf (items pool) nr) ∈ ν') E s) (HC : ∀ e ∈ pool, CertIn ν e.1 e.2) (hlen : pool.length ≤ 100)
    (hoc : (cc, oc) ∈ ν) (hd : oc.data = .cell (some (.ref D₀))) (hD : (D₀, listOf hvs n0) ∈ ν) (HM : AccMark R [] R.length hvs ν)
    (k : ∀ D nD ν' s', Aft s s' → Fr h₀ L s'.heap (fun z => if z = y then some (.ref D) else m z) → News h₀ L s'.heap ((D, listOf (items (pool.filter fun e => decide (mark e.2 ∉ marks R))) nD) :: ν') → (∀ q ∈ ν, q ∈ ν') → (∀ q ∈ ν, q.1 ≠ D) → QF .next s')
    (hk : cs.kind = .function) (hy : (lawEnv cs L ccd).kindOf y = some .local)
    (hsw : swapsWith (.ListComp (.Name x px2) [⟨.Name x p7, iter, [.Compare (.Tuple [.Attribute (.Attribute (.Name x px) "issuer" p1) "hashable" p2, .Attribute (.Name x px') "serial_number" p3] kx p4) [.NotIn] [.Name "held" p5] p6], 0⟩] cscope pos) (some (.Name y py)) spos.line (lawEnv cs L ccd) = pure true)
    (hp : ∀ C, (compEnvC cscope [(("held" : Str), cc)] C (lawEnv cs L ccd)).kindOf "held" = some .cell)
    (hclos : closureFor cscope (lawEnv cs L ccd) = pure [(("held" : Str), cc)]) (hcell : ∀ y ∈ cscope.names, y.2 ≠ .cell) (hkind : cscope.kind = .function)
    (hnames : ∀ y ∈ cscope.names, y.2 = .local → cscope.names.lookup y.1 = some .local) (hx : cscope.names.lookup x = some .local) (hdx : (x == ("__debug__" : Str)) = false) (hsi : ∀ x, foldedSetIterable iter (lawEnv cs L ccd) x = pure x := by intro _; rfl) :
    wpAny (Mo w) A (exec (.Assign [.Name y py] (.ListComp (.Name x px2) [⟨.Name x p7, iter, [.Compare (.Tuple [.Attribute (.Attribute (.Name x px) "issuer" p1) "hashable" p2, .Attribute (.Name x px') "serial_number" p3] kx p4) [.NotIn] [.Name "held" p5] p6], 0⟩] cscope pos) spos) (lawEnv cs L ccd)) QF E s := by
  refine comp_use (h₀ := h₀) (L := L) (m := m) hsw hclos hcell hkind hnames hx (wpAny_mono hi (fun v s₁ hv => ?_) fun _ _ x => x) hsi
  obtain ⟨rr, nr, ν₁, rfl, A₁, F₁, N₁, sub₁, hm⟩ := hv
  refine list_src r.le F₁ N₁ hm fun it o hlt hL hc hdd F₂ N₂ hsz SR hself => ?_
  rw [items_size] at SR
  refine ⟨it, it + 1, pool.length, _, _, _, AccSp pool (marks R) ν₁, _, ν₁, rfl, hlen, fun i vs ν h => ?_, SR, elt_spare S r.u1 hkind hx hdx hp rfl (sub₁ _ hoc) hd (sub₁ _ hD) (HM.frz (Keep.of sub₁)) (fun e he => (HC e he).mono sub₁) (fun q hq _ => Nat.ne_of_gt hq), fun s₂ Q₂ hJ => hself s₂ Q₂ _ _ (by rw [items_size]; exact hJ), F₂, N₂, ⟨o, hc, hdd, rfl, Nat.zero_le _⟩, ⟨fun q hq => hq, by simp [items]⟩, hsz, fun q hq => Nat.ne_of_lt (hlt q hq), fun q hq _ => Nat.ne_of_gt hq, ?_⟩
  · rw [h.2, items_size]
    exact Nat.le_trans (List.length_filter_le _ _) (by rw [List.length_take]; exact Nat.min_le_left _ _)
  intro C oC D vs nD ν' h'' G'' tk' _ F'' N'' hsub off hDC hA hb'
  have ev := hA.2
  rw [List.take_length] at ev
  subst ev
  refine storeX_L F'' N'' (fun h₃ F₃ N₃ => ?_) hk hy
  refine ⟨_, (D, listOf _ nD) :: ν', F₃, N₃, List.forall_mem_cons.mpr ⟨hDC, fun q hq => (off q hq).1⟩, fun h₄ F₄ N₄ => ?_⟩
  exact k D nD ν' _ (A₁.trans ⟨rfl, rfl, hb'⟩) F₄ N₄ (fun q hq => hsub q (sub₁ q hq)) (fun q hq => (off q (hsub q (sub₁ q hq))).2)
end
theorem int_list {D : Addr} {vs : Array Value} {nD : Nat} {h : Heap} (N : News h₀ L h ν) (hm : (D, listOf vs nD) ∈ ν) : h.IsList D vs.toList.toArray := by
  rw [Array.toArray_toList]
  exact ⟨_, (N _ hm).1, rfl, nD, rfl⟩
theorem Rm.c64 {fr : List Env} (r : Rm A fr n) : A.units + 64 < cLine := by
  have := r.u; show A.units + 64 < 9900; omega
section
variable {pool prow vrow : Row} {pl rr D mk : Addr} {e : Addr × CD} {hvs : Array Value} {nD : Nat} {dd : Int} {td : Tok}
theorem law_b0 {name qual : Str} {params : Arguments} {body : List Stmt} {scope : Scope} {cdv : Value} {st : Stmt} {QF : Flow → Shared → Prop} (hl : LawIs w name qual params body scope cdv) (S : Sx w A₀ base outer (lawEnv scope L cdv) h₀ L mg mb mean loose) (hst : nav [5, 0, 4, 0, 0] body = some st) (F : Fr h₀ L s.heap m) (N : News h₀ L s.heap ν) (r : Rm A (lawEnv scope L cdv :: outer) 30)
    (T : Turn w L pool row ν pl rr p l hs m e D mk hvs nD)
    (kok : ∀ row' ν' rr' x m' s', Aft s s' → (∀ q ∈ ν, q.1 ≠ l → q.1 ≠ hs → q ∈ ν') → Fr h₀ L s'.heap m' → News h₀ L s'.heap ν' → LP w L pool row' row' ν' pl rr' p l hs → MK ["told", "due", "row", "other", "place"] m m' → m' "row" = some (.ref rr') → m' "told" = some (.ref x) → m' "due" = some (.ref x) → QF .next s')
    (kdup : mark e.2 ∈ marks row → ∀ g' x te ν' m' s', Aft s s' → (∀ q ∈ ν, q ∈ ν') → Fr h₀ L g' m' → g'.UpToSlots s'.heap → MK ["told", "due", "row", "other", "place"] m m' → m' "row" = some (.ref rr) → RaisedK base (lawEnv scope L cdv :: outer) x (.ref 187) te [] ν' s'.heap → E (.ref x) s') :
    wpAny (Mo w) A (execs (subs st 0) (lawEnv scope L cdv)) QF E s := by
  obtain ⟨dV, kV, doc, pm, ct, oc, an, od, osl, hb⟩ := hl.hb
  clear hl
  have hl := hb.symm.trans (lk (K := hd.heap_1 w.params) (f := 308) (by k_is))
  injection hl with hl
  injection hl with _ _ hl _
  injection hl with hl
  injection hl with e1 e2 e3 e4 e5 e6 e7 e8 e9 e10 e11 e12 e13
  injection e4 with e4
  subst e4 e5 e13
  clear hb e1 e2 e3 e6 e7 e8 e9 e10 e11 e12
  injection hst with hst
  subst hst
  change wpAny _ _ (execs (_ :: _) _) _ _ _
  walk_at "st"
  refine Assign_Tuple_swapped (names := ["told", "due"]) ?_
  walk_at "st"
  walk_at "st"
  obtain ⟨po, pc, pd⟩ := T.P.pc
  obtain ⟨dp, t1, t2, x1, x2, nn, hp1, hp2⟩ := id T.P.P
  refine MethodCall_ ?_
  refine nameX_C N rfl pc pd ?_
  refine method_inst F S.X (InstAt.of_news N hp1 hp2) kP1 kPapp kPappF rfl ?_
  refine callWith_K S.X kPappK ?_
  walk_at "st"
  refine nameX_L F T.mc ?_
  walk_at "st"
  refine ⟨S.X.keeps F.keep, wpAny_call ?_⟩
  refine lp_append S F N T.P T.he r.le (fun hk ν₁ s₁ A₁ s1 F₁ N₁ P₁ => ?_) fun hk g' x te s₁ A₁ FG U Rk => ?_
  · dsimp only
    walk_at "st"
    walk_at "st"
    walk_at "st"
    refine nameX_L F₁ T.mm ?_
    obtain ⟨⟨co, cc, cd⟩, dD, tm, acc⟩ := T.out N s1
    obtain ⟨po, pc, pd⟩ := P₁.pc
    obtain ⟨nr, rm⟩ := P₁.rm
    refine nameX_C N₁ rfl cc cd ?_
    refine notin_marks N₁ dD acc tm r.u1 ?_
    walk_at "st"
    refine ite_pos (by simpa using hk) ?_
    refine nameX_C N₁ rfl pc pd ?_
    walk_at "st"
    refine tup_store2 F₁ N₁ r.hh rfl rfl rfl fun s₂ A₂ F₂ N₂ => ?_
    walk_at "st"
    walk_at "st"
    walk_at "st"
    refine nameX_L F₂ T.mr ?_
    walk_at "st"
    walk_at "st"
    refine nameX_L F₂ T.mc ?_
    walk_at "st"
    refine newList_K F₂ N₂ fun ra h₃ F₃ N₃ hra => ?_
    have hlen := P₁.len
    refine add_rows (RB := [e]) F₃ N₃ (.tail _ rm) (.head _) (by simp at hlen ⊢; omega) fun rb h₄ F₄ N₄ hrb => ?_
    refine storeX_L F₄ N₄ fun h₅ F₅ N₅ => ?_
    walk_at "st"
    refine kok (row ++ [e]) _ rb p _ _ (A₁.trans (A₂.trans ⟨rfl, rfl, fun h => h⟩)) (fun q hq a b => .tail _ (.tail _ (s1 q hq a b))) F₅ N₅ ((P₁.more (fun q hq => .tail _ (.tail _ hq)) N₅).setrow (.head _) ?_ ?_) ?_ rfl rfl rfl
    · obtain ⟨n1, lm⟩ := P₁.lm
      exact Nat.ne_of_gt (hrb _ (.tail _ lm))
    · exact P₁.sub
    · intro y hy
      simp only [List.mem_cons, not_or] at hy
      simp only [hy.1, hy.2.1, hy.2.2.1, if_false]
  · exact kdup hk g' x te ν m s₁ A₁ (fun q hq => hq) FG U (fun y _ => rfl) T.mr Rk
end
section
variable {pool prow vrow : Row} {pl rr D mk : Addr} {e : Addr × CD} {hvs : Array Value} {nD : Nat} {dd : Int} {td : Tok}
theorem law_b1 {name qual : Str} {params : Arguments} {body : List Stmt} {scope : Scope} {cdv : Value} {st : Stmt} {QF : Flow → Shared → Prop} (hl : LawIs w name qual params body scope cdv) (S : Sx w A₀ base outer (lawEnv scope L cdv) h₀ L mg mb mean loose) (hst : nav [5, 0, 4, 0, 0, 1, 0] body = some st) (F : Fr h₀ L s.heap m) (N : News h₀ L s.heap ν) (r : Rm A (lawEnv scope L cdv :: outer) 30)
    (T : Turn w L pool row ν pl rr p l hs m e D mk hvs nD)
    (kok : ∀ row' ν' rr' x m' s', Aft s s' → (∀ q ∈ ν, q.1 ≠ l → q.1 ≠ hs → q ∈ ν') → Fr h₀ L s'.heap m' → News h₀ L s'.heap ν' → LP w L pool row' row' ν' pl rr' p l hs → MK ["told", "due", "row", "other", "place"] m m' → m' "row" = some (.ref rr') → m' "told" = some (.ref x) → m' "due" = some (.ref x) → QF .next s')
    (kdup : mark e.2 ∈ marks row → ∀ g' x te ν' m' s', Aft s s' → (∀ q ∈ ν, q ∈ ν') → Fr h₀ L g' m' → g'.UpToSlots s'.heap → MK ["told", "due", "row", "other", "place"] m m' → m' "row" = some (.ref rr) → RaisedK base (lawEnv scope L cdv :: outer) x (.ref 187) te [] ν' s'.heap → E (.ref x) s') :
    wpAny (Mo w) A (execs (subs st 0) (lawEnv scope L cdv)) QF E s := by
  obtain ⟨dV, kV, doc, pm, ct, oc, an, od, osl, hb⟩ := hl.hb
  clear hl
  have hl := hb.symm.trans (lk (K := hd.heap_1 w.params) (f := 308) (by k_is))
  injection hl with hl
  injection hl with _ _ hl _
  injection hl with hl
  injection hl with e1 e2 e3 e4 e5 e6 e7 e8 e9 e10 e11 e12 e13
  injection e4 with e4
  subst e4 e5 e13
  clear hb e1 e2 e3 e6 e7 e8 e9 e10 e11 e12
  injection hst with hst
  subst hst
  change wpAny _ _ (execs (_ :: _) _) _ _ _
  walk_at "st"
  refine Assign_Tuple_swapped (names := ["told", "due"]) ?_
  walk_at "st"
  walk_at "st"
  obtain ⟨po, pc, pd⟩ := T.P.pc
  obtain ⟨dp, t1, t2, x1, x2, nn, hp1, hp2⟩ := id T.P.P
  refine MethodCall_ ?_
  refine nameX_C N rfl pc pd ?_
  refine method_inst F S.X (InstAt.of_news N hp1 hp2) kP1 kPpre kPpreF rfl ?_
  refine callWith_K S.X kPpreK ?_
  walk_at "st"
  refine nameX_L F T.mc ?_
  walk_at "st"
  refine ⟨S.X.keeps F.keep, wpAny_call ?_⟩
  refine lp_prepend S F N T.P T.he r.le (fun hk ν₁ s₁ A₁ s1 F₁ N₁ P₁ => ?_) fun hk g' x te s₁ A₁ FG U Rk => ?_
  · dsimp only
    walk_at "st"
    walk_at "st"
    walk_at "st"
    refine nameX_L F₁ T.mm ?_
    obtain ⟨⟨co, cc, cd⟩, dD, tm, acc⟩ := T.out N s1
    obtain ⟨po, pc, pd⟩ := P₁.pc
    obtain ⟨nr, rm⟩ := P₁.rm
    refine nameX_C N₁ rfl cc cd ?_
    refine notin_marks N₁ dD acc tm r.u1 ?_
    walk_at "st"
    refine ite_pos (by simpa using hk) ?_
    refine nameX_C N₁ rfl pc pd ?_
    walk_at "st"
    refine tup_store2 F₁ N₁ r.hh rfl rfl rfl fun s₂ A₂ F₂ N₂ => ?_
    walk_at "st"
    walk_at "st"
    walk_at "st"
    walk_at "st"
    walk_at "st"
    refine nameX_L F₂ T.mc ?_
    walk_at "st"
    refine newList_K F₂ N₂ fun ra h₃ F₃ N₃ hra => ?_
    refine nameX_L F₃ T.mr ?_
    have hlen := P₁.len
    refine add_rows (RA := [e]) F₃ N₃ (.head _) (.tail _ rm) (by simp at hlen ⊢; omega) fun rb h₄ F₄ N₄ hrb => ?_
    refine storeX_L F₄ N₄ fun h₅ F₅ N₅ => ?_
    walk_at "st"
    refine kok (e :: row) _ rb p _ _ (A₁.trans (A₂.trans ⟨rfl, rfl, fun h => h⟩)) (fun q hq a b => .tail _ (.tail _ (s1 q hq a b))) F₅ N₅ ((P₁.more (fun q hq => .tail _ (.tail _ hq)) N₅).setrow (.head _) ?_ ?_) ?_ rfl rfl rfl
    · obtain ⟨n1, lm⟩ := P₁.lm
      exact Nat.ne_of_gt (hrb _ (.tail _ lm))
    · exact P₁.sub
    · intro y hy
      simp only [List.mem_cons, not_or] at hy
      simp only [hy.1, hy.2.1, hy.2.2.1, if_false]
  · exact kdup hk g' x te ν m s₁ A₁ (fun q hq => hq) FG U (fun y _ => rfl) T.mr Rk
end
section
variable {pool prow vrow : Row} {pl rr D mk : Addr} {e : Addr × CD} {hvs : Array Value} {nD : Nat} {dd : Int} {td : Tok}
theorem law_b2 {name qual : Str} {params : Arguments} {body : List Stmt} {scope : Scope} {cdv : Value} {st : Stmt} {QF : Flow → Shared → Prop} (hl : LawIs w name qual params body scope cdv) (S : Sx w A₀ base outer (lawEnv scope L cdv) h₀ L mg mb mean loose) (hst : nav [5, 0, 4, 0, 0, 1, 0, 1, 0] body = some st) (F : Fr h₀ L s.heap m) (N : News h₀ L s.heap ν) (r : Rm A (lawEnv scope L cdv :: outer) 30)
    (T : Turn w L pool row ν pl rr p l hs m e D mk hvs nD) (hne : row ≠ [])
    (kok : ∀ row' ν' rr' x m' s', Aft s s' → (∀ q ∈ ν, q.1 ≠ l → q.1 ≠ hs → q ∈ ν') → Fr h₀ L s'.heap m' → News h₀ L s'.heap ν' → LP w L pool row' row' ν' pl rr' p l hs → MK ["told", "due", "row", "other", "place"] m m' → m' "row" = some (.ref rr') → m' "told" = some (.ref x) → m' "due" = some (.ref x) → QF .next s') :
    wpAny (Mo w) A (execs (subs st 0) (lawEnv scope L cdv)) QF E s := by
  obtain ⟨dV, kV, doc, pm, ct, oc, an, od, osl, hb⟩ := hl.hb
  clear hl
  have hl := hb.symm.trans (lk (K := hd.heap_1 w.params) (f := 308) (by k_is))
  injection hl with hl
  injection hl with _ _ hl _
  injection hl with hl
  injection hl with e1 e2 e3 e4 e5 e6 e7 e8 e9 e10 e11 e12 e13
  injection e4 with e4
  subst e4 e5 e13
  clear hb e1 e2 e3 e6 e7 e8 e9 e10 e11 e12
  injection hst with hst
  subst hst
  change wpAny _ _ (execs (_ :: _) _) _ _ _
  walk_at "st"
  refine Assign_Tuple_swapped (names := ["told", "due"]) ?_
  walk_at "st"
  walk_at "st"
  obtain ⟨po, pc, pd⟩ := T.P.pc
  obtain ⟨dp, t1, t2, x1, x2, nn, hp1, hp2⟩ := id T.P.P
  refine MethodCall_ ?_
  refine nameX_C N rfl pc pd ?_
  refine method_inst F S.X (InstAt.of_news N hp1 hp2) kP1 kPpop kPpopF rfl ?_
  refine callWith_K0 (S.X.keeps F.keep) kPpopK ?_
  obtain ⟨R0, e0, hR⟩ : ∃ R0 e0, row = R0 ++ [e0] := ⟨row.dropLast, row.getLast hne, (List.dropLast_concat_getLast hne).symm⟩
  have TP : LP w L pool (R0 ++ [e0]) row ν pl rr p l hs := by rw [← hR]; exact T.P
  refine wpAny_call ?_
  refine lp_pop S F N TP r.le fun ν₁ s₁ A₁ s1 F₁ N₁ P₁ => ?_
  dsimp only
  walk_at "st"
  obtain ⟨po, pc, pd⟩ := P₁.pc
  obtain ⟨nr, rm⟩ := P₁.rm
  refine nameX_C N₁ rfl pc pd ?_
  walk_at "st"
  refine tup_store2 F₁ N₁ r.hh rfl rfl rfl fun s₂ A₂ F₂ N₂ => ?_
  walk_at "st"
  walk_at "st"
  refine Subscript_ ?_
  refine nameX_L F₂ T.mr ?_
  walk_at "st"
  refine evalPart_none_step ?_
  refine evalPart_some_step ?_
  walk_at "st"
  walk_at "st"
  refine neg_int ?_
  refine evalPart_none_step ?_
  rw [hR] at rm
  generalize hs3 : ({ s₂ with toks := _ } : Shared) = s₃
  have A₃ : Aft s₂ s₃ := by rw [← hs3]; exact ⟨rfl, rfl, fun h => h⟩
  have e3 : s₃.heap = s₂.heap := by rw [← hs3]
  rw [← e3] at F₂ N₂
  have hlen := T.P.len
  refine slice_any (s := s₃) F₂ N₂ (is_list N₂ rm) .none (.int _ _) (fun Dr h₄ F₄ N₄ hD => ?_) (by with_unfolding_all rfl) (by rw [items_size, ← hR, sizeLine_eq]; omega)
  rw [pick_row_m1] at N₄
  refine storeX_L F₄ N₄ fun h₅ F₅ N₅ => ?_
  walk_at "st"
  refine kok R0 _ Dr p _ _ (A₁.trans (A₂.trans (A₃.trans ⟨rfl, rfl, fun h => h⟩))) (fun q hq a b => .tail _ (s1 q hq a b)) F₅ N₅ ((P₁.more (fun q hq => .tail _ hq) N₅).setrow (.head _) ?_ P₁.sub) ?_ rfl rfl rfl
  · obtain ⟨n1, lm⟩ := P₁.lm
    exact Nat.ne_of_gt (hD _ lm)
  · intro y hy
    simp only [List.mem_cons, not_or] at hy
    simp only [hy.1, hy.2.1, hy.2.2.1, if_false]
end
theorem isSame_ne {M : Model} {a b : Addr} {oa ob : Obj} {Q : Bool → Shared → Prop} (ha : s.heap.get? a = some oa) (hb : s.heap.get? b = some ob) (hc : ∀ T, oa.cls ≠ .type T) (hne : a ≠ b) (h : Q false s) : wpAny M A (isSame (.ref a) (.ref b)) Q E s := by
  unfold isSame
  dsimp only
  rw [if_neg (by simpa using hne)]
  refine wpAny_bind (wpAny_load ha (wpAny_bind (wpAny_load hb ?_)))
  split
  · next hx _ _ _ => exact absurd hx (hc _)
  · exact wpAny_pure h
theorem is_ref_ne {M : Model} {a b : Addr} {oa ob : Obj} (ha : s.heap.get? a = some oa) (hb : s.heap.get? b = some ob) (hc : ∀ T, oa.cls ≠ .type T) (hne : a ≠ b) (h : Q (.bool false) s) : wpAny M A (compareOp .Is (.ref a) (.ref b)) Q E s := by
  show wpAny M A (do return Value.bool (← isSame (.ref a) (.ref b))) Q E s
  exact wpAny_bind (isSame_ne ha hb hc hne (wpAny_pure h))
section
variable {pool prow vrow : Row} {pl rr D mk : Addr} {e : Addr × CD} {hvs : Array Value} {nD : Nat} {dd : Int} {td : Tok}
theorem law_b3 {name qual : Str} {params : Arguments} {body : List Stmt} {scope : Scope} {cdv : Value} {st : Stmt} {QF : Flow → Shared → Prop} (hl : LawIs w name qual params body scope cdv) (S : Sx w A₀ base outer (lawEnv scope L cdv) h₀ L mg mb mean loose) (hst : nav [5, 0, 4, 0, 0, 1, 0, 1, 0, 1, 0] body = some st) (F : Fr h₀ L s.heap m) (N : News h₀ L s.heap ν) (r : Rm A (lawEnv scope L cdv :: outer) 30)
    (T : Turn w L pool row ν pl rr p l hs m e D mk hvs nD)
    (kok : ∀ row' ν' rr' x m' s', Aft s s' → (∀ q ∈ ν, q.1 ≠ l → q.1 ≠ hs → q ∈ ν') → Fr h₀ L s'.heap m' → News h₀ L s'.heap ν' → LP w L pool row' row' ν' pl rr' p l hs → MK ["told", "due", "row", "other", "place"] m m' → m' "row" = some (.ref rr') → m' "told" = some (.ref x) → m' "due" = some (.ref x) → QF .next s')
    (kdup : mark e.2 ∈ marks row → ∀ g' x te ν' m' s', Aft s s' → (∀ q ∈ ν, q ∈ ν') → Fr h₀ L g' m' → g'.UpToSlots s'.heap → MK ["told", "due", "row", "other", "place"] m m' → m' "row" = some (.ref rr) → RaisedK base (lawEnv scope L cdv :: outer) x (.ref 187) te [] ν' s'.heap → E (.ref x) s') :
    wpAny (Mo w) A (execs (subs st 0) (lawEnv scope L cdv)) QF E s := by
  have hl0 := hl
  obtain ⟨dV, kV, doc, pm, ct, oc, an, od, osl, hb⟩ := hl.hb
  clear hl
  have hl := hb.symm.trans (lk (K := hd.heap_1 w.params) (f := 308) (by k_is))
  injection hl with hl
  injection hl with _ _ hl _
  injection hl with hl
  injection hl with e1 e2 e3 e4 e5 e6 e7 e8 e9 e10 e11 e12 e13
  injection e4 with e4
  subst e4 e5 e13
  clear hb e1 e2 e3 e6 e7 e8 e9 e10 e11 e12
  injection hst with hst
  subst hst
  change wpAny _ _ (execs (_ :: _) _) _ _ _
  walk_at "st"
  walk_at "st"
  obtain ⟨po, pc, pd⟩ := T.P.pc
  obtain ⟨dp, t1, t2, x1, x2, nn, hp1, hp2⟩ := id T.P.P
  obtain ⟨n1, lm⟩ := T.P.lm
  obtain ⟨es, t, n2, hm, O⟩ := T.P.hm
  have hlen := T.P.len
  have K := keep2 N lm hm nf_list nf_set
  have N1 := news_head2 N lm hm
  have NR : News h₀ L s.heap (wo l (wo hs ν)) := news_sub N fun q hq => wo_sub q (wo_sub q hq)
  have back := mem_back N lm hm
  refine MethodCall_ ?_
  refine nameX_C N rfl pc pd ?_
  refine method_inst F S.X (InstAt.of_news N hp1 hp2) kP1 kPcopy kPcopyF rfl ?_
  refine callWith_K0 (S.X.keeps F.keep) kPcopyK ?_
  refine wpAny_call ?_
  refine copy_ok S F N1 (T.P.P.frz K) (O.frz K NR) hlen r.le fun p' l' hs' es' t' n1' n2' ν₁ h₁ tk₁ s1 o1 o2 P' offp F₁ N₁ O₁ => ?_
  try dsimp only
  have s1' : ∀ q ∈ ν, q ∈ ν₁ := fun q hq => s1 q (back q hq)
  have hpp : p ≠ p' := offp _ (K _ hp1 frz_inst)
  refine storeX_L F₁ N₁ fun h₂ F₂ N₂ => ?_
  generalize hs2 : ({ s with heap := _, toks := _ } : Shared) = s₂
  have A₂ : Aft s s₂ := by rw [← hs2]; exact ⟨rfl, rfl, fun h => h⟩
  have e2 : s₂.heap = h₂ := by rw [← hs2]
  rw [← e2] at F₂ N₂
  try dsimp only
  walk_at "st"
  have tl2 : ∀ q ∈ ν₁, q ∈ ((l', listOf (items row) n1') :: (hs', setObj es' n2' t') :: ν₁) := fun q hq => .tail _ (.tail _ hq)
  have P₂ := T.P.more (fun q hq => tl2 q (s1' q hq)) N₂
  have pc2 := tl2 _ (s1' _ pc)
  obtain ⟨dp', u1, u2, y1, y2, nn', hp1', hp2'⟩ := id P'
  have CR2 : ∀ e ∈ row, CertIn _ e.1 e.2 := P₂.CR
  walk_at "st"
  walk_at "st"
  walk_at "st"
  refine nameX_L F₂ rfl ?_
  refine nameX_C N₂ rfl pc2 pd ?_
  refine is_ref_ne (N₂ _ (tl2 _ hp1')).1 (N₂ _ (tl2 _ (s1' _ hp1))).1 (fun T e => by cases e) hpp.symm ?_
  walk_at "st"
  refine ite_neg Bool.false_ne_true ?_
  walk_at "st"
  walk_at "st"
  walk_at "st"
  refine nameX_L F₂ rfl ?_
  refine nameX_C N₂ rfl pc2 pd ?_
  refine path_eq S F₂ N₂ (.head _) (tl2 _ (s1' _ lm)) (P'.mono tl2) P₂.P CR2 CR2 r.le fun h₃ tk₃ F₃ N₃ => ?_
  walk_at "st"
  refine ite_neg (by simp) ?_
  walk_at "st"
  refine ite_neg Bool.false_ne_true ?_
  walk_at "st"
  generalize hs3 : ({ s₂ with heap := _, toks := _ } : Shared) = s₃
  have A₃ : Aft s₂ s₃ := by rw [← hs3]; exact ⟨rfl, rfl, fun h => h⟩
  have e3 : s₃.heap = h₃ := by rw [← hs3]
  rw [← e3] at F₃ N₃
  walk_at "st"
  refine Assign_Tuple_swapped (names := ["told", "due"]) ?_
  walk_at "st"
  walk_at "st"
  refine MethodCall_ ?_
  refine nameX_L F₃ rfl ?_
  refine method_inst F₃ S.X (InstAt.of_news N₃ (tl2 _ hp1') (tl2 _ hp2')) kP1 kPapp kPappF rfl ?_
  refine callWith_K S.X kPappK ?_
  walk_at "st"
  refine nameX_L F₃ T.mc ?_
  walk_at "st"
  refine ⟨S.X.keeps F₃.keep, wpAny_call ?_⟩
  have Ce1 : CertIn ν₁ e.1 e.2 := (T.P.PO.c e T.he).mono s1'
  have mko : MK ["told", "due", "row", "other", "place"] m (fun y => if y = ("other" : Str) then some (Value.ref p') else m y) := fun y hy => by
    simp only [List.mem_cons, not_or] at hy
    simp only [hy.2.2.2.1, if_false]
  by_cases hk : mark e.2 ∈ marks row
  · refine append_dup (d := e.2) S F₃ N₃ P' Ce1 O₁ hk r.le fun g' x te h' tk FG U Rk => ?_
    exact kdup hk g' x te _ _ _ (A₂.trans (A₃.trans ⟨rfl, rfl, fun h => h⟩)) (fun q hq => tl2 q (s1' q hq)) FG U mko T.mr Rk
  refine append_ok (d := e.2) S F₃ N₃ o1 o2 P' Ce1 O₁ hk (T.P.len3 T.he hk) r.le fun ν₃ n3 es3 n4 t3 h₄ tk₄ s3 o3 o4 F₄ N₄ O₄ => ?_
  dsimp only
  generalize hs4 : ({ s₃ with heap := _, toks := _ } : Shared) = s₄
  have A₄ : Aft s₃ s₄ := by rw [← hs4]; exact ⟨rfl, rfl, fun h => h⟩
  have e4 : s₄.heap = h₄ := by rw [← hs4]
  rw [← e4] at F₄ N₄
  walk_at "st"
  refine nameX_L F₄ rfl ?_
  walk_at "st"
  refine tup_store2 F₄ N₄ r.hh rfl rfl rfl fun s₅ A₅ F₅ N₅ => ?_
  walk_at "st"
  walk_at "st"
  walk_at "st"
  walk_at "st"
  have tl4 : ∀ q ∈ ν, q ∈ ((l', listOf (items (row ++ [(e.1, e.2)])) n3) :: (hs', setObj es3 n4 t3) :: ν₃) := fun q hq => .tail _ (.tail _ (s3 q (s1' q hq)))
  have P₅ := T.P.more tl4 N₅
  obtain ⟨co, cc, cd⟩ := T.hD
  refine nameX_L F₅ T.mm ?_
  refine nameX_C N₅ rfl (tl4 _ cc) cd ?_
  refine in_marks N₅ (tl4 _ T.dD) (T.acc.frz (Keep.of tl4)) (T.tm.mono tl4) r.u1 ?_
  walk_at "st"
  refine ite_neg (by simpa using hk) ?_
  walk_at "st"
  walk_at "st"
  have HC5 : ∀ x ∈ row ++ [(e.1, e.2)], CertIn ((l', listOf (items (row ++ [(e.1, e.2)])) n3) :: (hs', setObj es3 n4 t3) :: ν₃) x.1 x.2 := fun x hx => by
    rcases List.mem_append.mp hx with hx | hx
    · exact (T.P.CR x hx).mono tl4
    · rw [List.mem_singleton.mp hx]; exact (T.P.PO.c e T.he).mono tl4
  have PO5 : PathIn ((l', listOf (items (row ++ [(e.1, e.2)])) n3) :: (hs', setObj es3 n4 t3) :: ν₃) p' l' hs' := P'.mono fun q hq => .tail _ (.tail _ (s3 q hq))
  refine comp_sig_path S F₅ N₅ (.head _) PO5 HC5 (by simp; omega) r.le (fun h => nameX_L F₅ rfl h) (fun D1 vs1 nD1 ν₆ s₆ A₆ F₆ N₆ sub6 I1 => ?_) rfl (by decide) rfl (by decide) rfl rfl
  obtain ⟨nr, rm⟩ := T.P.rm
  refine comp_sig_list (ν := (D1, listOf vs1 nD1) :: ν₆) (R := row ++ [(e.1, e.2)]) S F₆ N₆ r.le ?_ (fun x hx => (HC5 x hx).mono fun q hq => .tail _ (sub6 q hq)) (by simp; omega) (fun D2 vs2 nD2 ν₇ s₇ A₇ F₇ N₇ sub7 I2 => ?_) rfl (by decide) rfl (by decide) rfl rfl
  · walk_at "st"
    refine nameX_L F₆ T.mr ?_
    walk_at "st"
    walk_at "st"
    refine nameX_L F₆ T.mc ?_
    walk_at "st"
    refine newList_K F₆ N₆ fun ra h₇ F₇ N₇ hra => ?_
    refine add_rows (RA := row) (RB := [(e.1, e.2)]) F₇ N₇ (.tail _ (.tail _ (sub6 _ (tl4 _ rm)))) (.head _) (by simp; omega) fun rb h₈ F₈ N₈ hrb => ?_
    exact ⟨rb, 0, _, rfl, ⟨rfl, rfl, fun h => h⟩, F₈, N₈, fun q hq => .tail _ (.tail _ hq), .head _⟩
  refine ne_intsK (int_list N₇ (.tail _ (sub7 _ (.head _)))) I1 (int_list N₇ (.head _)) I2 r.c64 ?_
  walk_at "st"
  refine ite_neg (by simp) ?_
  walk_at "st"
  walk_at "st"
  have up7 : ∀ q ∈ ((l', listOf (items (row ++ [(e.1, e.2)])) n3) :: (hs', setObj es3 n4 t3) :: ν₃), q ∈ ((D2, listOf vs2 nD2) :: ν₇) := fun q hq => .tail _ (sub7 _ (.tail _ (sub6 q hq)))
  have P₇ := P₅.more up7 N₇
  refine nameX_L F₇ rfl ?_
  refine nameX_C N₇ rfl (up7 _ (tl4 _ pc)) pd ?_
  refine path_eq S F₇ N₇ (up7 _ (.head _)) (up7 _ (tl4 _ lm)) (PO5.mono up7) P₇.P (fun x hx => (HC5 x hx).mono up7) P₇.CR r.le fun h₈ tk₈ F₈ N₈ => ?_
  walk_at "st"
  refine ite_neg ?_ ?_
  · intro c
    have c := congrArg List.length (of_decide_eq_true c)
    simp at c
  walk_at "st"
  refine ite_neg Bool.false_ne_true ?_
  walk_at "st"
  walk_at "st"
  refine kok row _ rr p' _ _ (A₂.trans (A₃.trans (A₄.trans (A₅.trans (A₆.trans (A₇.trans ⟨rfl, rfl, fun h => h⟩)))))) (fun q hq _ _ => up7 _ (tl4 _ hq)) F₈ N₈ (P₇.more (fun q hq => hq) N₈) ?_ T.mr rfl rfl
  intro y hy
  simp only [List.mem_cons, not_or] at hy
  simp only [hy.1, hy.2.1, hy.2.2.2.1, if_false]
end
section
variable {pool prow vrow : Row} {pl rr D mk : Addr} {e : Addr × CD} {hvs : Array Value} {nD : Nat} {dd : Int} {td : Tok}
theorem law_b4 {name qual : Str} {params : Arguments} {body : List Stmt} {scope : Scope} {cdv : Value} {st : Stmt} {QF : Flow → Shared → Prop} (hl : LawIs w name qual params body scope cdv) (S : Sx w A₀ base outer (lawEnv scope L cdv) h₀ L mg mb mean loose) (hst : nav [5, 0, 4, 0, 0, 1, 0, 1, 0, 1, 0, 1, 0] body = some st) (F : Fr h₀ L s.heap m) (N : News h₀ L s.heap ν) (r : Rm A (lawEnv scope L cdv :: outer) 30)
    (T : Turn w L pool row ν pl rr p l hs m e D mk hvs nD)
    (kok : ∀ row' ν' rr' x m' s', Aft s s' → (∀ q ∈ ν, q.1 ≠ l → q.1 ≠ hs → q ∈ ν') → Fr h₀ L s'.heap m' → News h₀ L s'.heap ν' → LP w L pool row' row' ν' pl rr' p l hs → MK ["told", "due", "row", "other", "place"] m m' → m' "row" = some (.ref rr') → m' "told" = some (.ref x) → m' "due" = some (.ref x) → QF .next s')
    (kno : (mark e.2 ∉ marks row) → ∀ g' x te vs ν' m' s', Aft s s' → (∀ q ∈ ν, q ∈ ν') → Fr h₀ L g' m' → g'.UpToSlots s'.heap → MK ["told", "due", "row", "other", "place"] m m' → m' "row" = some (.ref rr) → RaisedK base (lawEnv scope L cdv :: outer) x (.type "LookupError") te vs ν' s'.heap → NoCtx x s'.heap → E (.ref x) s') :
    wpAny (Mo w) A (execs (subs st 0) (lawEnv scope L cdv)) QF E s := by
  obtain ⟨dV, kV, doc, pm, ct, oc, an, od, osl, hb⟩ := hl.hb
  clear hl
  have hl := hb.symm.trans (lk (K := hd.heap_1 w.params) (f := 308) (by k_is))
  injection hl with hl
  injection hl with _ _ hl _
  injection hl with hl
  injection hl with e1 e2 e3 e4 e5 e6 e7 e8 e9 e10 e11 e12 e13
  injection e4 with e4
  subst e4 e5 e13
  clear hb e1 e2 e3 e6 e7 e8 e9 e10 e11 e12
  injection hst with hst
  subst hst
  change wpAny _ _ (execs (_ :: _) _) _ _ _
  walk_at "st"
  refine Assign_Tuple_swapped (names := ["told", "due"]) ?_
  walk_at "st"
  walk_at "st"
  obtain ⟨po, pc, pd⟩ := T.P.pc
  obtain ⟨dp, t1, t2, x1, x2, nn, hp1, hp2⟩ := id T.P.P
  refine MethodCall_ ?_
  refine nameX_C N rfl pc pd ?_
  refine method_inst F S.X (InstAt.of_news N hp1 hp2) kP1 kPto kPtoF rfl ?_
  refine callWith_K S.X kPtoK ?_
  walk_at "st"
  refine nameX_L F T.mc ?_
  walk_at "st"
  refine ⟨S.X.keeps F.keep, wpAny_call ?_⟩
  refine lp_cut_to S F N T.P T.he r.le (fun i e' ν₁ s₁ hi hsm hno A₁ s1 F₁ N₁ P₁ => ?_) fun hno g' x te vs s₁ A₁ FG U Rk Cx => ?_
  · dsimp only
    walk_at "st"
    walk_at "st"
    walk_at "st"
    refine nameX_L F₁ T.mm ?_
    obtain ⟨⟨co, cc, cd⟩, dD, tm, acc⟩ := T.out N s1
    obtain ⟨po, pc, pd⟩ := P₁.pc
    obtain ⟨nr, rm⟩ := P₁.rm
    have hin : mark e.2 ∈ marks row := by
      have : mark e'.2 = mark e.2 := of_decide_eq_true hsm
      rw [← this]
      exact List.mem_map_of_mem (List.mem_of_getElem? hi)
    refine nameX_C N₁ rfl cc cd ?_
    refine in_marks N₁ dD acc tm r.u1 ?_
    walk_at "st"
    refine ite_pos (by simpa using hin) ?_
    refine nameX_C N₁ rfl pc pd ?_
    walk_at "st"
    refine tup_store2 F₁ N₁ r.hh rfl rfl rfl fun s₂ A₂ F₂ N₂ => ?_
    walk_at "st"
    walk_at "st"
    refine Subscript_ ?_
    refine nameX_L F₂ T.mr ?_
    walk_at "st"
    refine evalPart_none_step ?_
    refine evalPart_some_step ?_
    walk_at "st"
    refine MethodCall_ ?_
    refine nameX_C N₂ rfl cc cd ?_
    refine getMethod_list_of PySem.F.slot_list_index PySem.F.type_list_index ⟨_, (N₂ _ dD).1, rfl, _, rfl⟩ ⟨_, (N₂ _ dD).1, rfl⟩ ?_
    dsimp only
    walk_at "st"
    walk_at "st"
    refine nameX_L F₂ T.mm ?_
    walk_at "st"
    have hir := (List.getElem?_eq_some_iff.mp hi).1
    have hlen := T.P.len
    refine index_marks N₂ dD acc tm r.u1 (by omega) hi (of_decide_eq_true hsm) (fun j e'' hj hje c => ?_) fun u tk => ?_
    · have := hno j e'' hj hje
      unfold sameMark at this
      rw [c] at this
      simp at this
    walk_at "st"
    walk_at "st"
    refine evalPart_none_step ?_
    generalize hs3 : ({ s₂ with toks := _ } : Shared) = s₃
    have A₃ : Aft s₂ s₃ := by rw [← hs3]; exact ⟨rfl, rfl, fun h => h⟩
    have e3 : s₃.heap = s₂.heap := by rw [← hs3]
    rw [← e3] at F₂ N₂
    refine slice_any (s := s₃) F₂ N₂ (is_list N₂ rm) .none (.int _ _) (fun Dr h₄ F₄ N₄ hD => ?_) (by with_unfolding_all rfl) (by rw [items_size, sizeLine_eq]; omega)
    rw [show ((i : Nat) : Int) + 1 = ((i + 1 : Nat) : Int) by omega, pick_row_to (by omega)] at N₄
    refine storeX_L F₄ N₄ fun h₅ F₅ N₅ => ?_
    walk_at "st"
    refine kok (row.take (i + 1)) _ Dr p _ _ (A₁.trans (A₂.trans (A₃.trans ⟨rfl, rfl, fun h => h⟩))) (fun q hq a b => .tail _ (s1 q hq a b)) F₅ N₅ ((P₁.more (fun q hq => .tail _ hq) N₅).setrow (.head _) ?_ P₁.sub) ?_ rfl rfl rfl
    · obtain ⟨n1, lm⟩ := P₁.lm
      exact Nat.ne_of_gt (hD _ lm)
    · intro y hy
      simp only [List.mem_cons, not_or] at hy
      simp only [hy.1, hy.2.1, hy.2.2.1, if_false]
  · refine kno (fun hm => ?_) g' x te vs ν m s₁ A₁ (fun q hq => hq) FG U (fun y _ => rfl) T.mr Rk Cx
    obtain ⟨e', he', em⟩ := List.mem_map.mp hm
    obtain ⟨j, hj, hje⟩ := List.mem_iff_getElem.mp he'
    have := hno j e' (by rw [List.getElem?_eq_getElem hj, hje])
    unfold sameMark at this
    rw [em] at this
    simp at this
end
section
variable {pool prow vrow : Row} {pl rr D mk : Addr} {e : Addr × CD} {hvs : Array Value} {nD : Nat} {dd : Int} {td : Tok}
theorem law_b5 {name qual : Str} {params : Arguments} {body : List Stmt} {scope : Scope} {cdv : Value} {st : Stmt} {QF : Flow → Shared → Prop} (hl : LawIs w name qual params body scope cdv) (S : Sx w A₀ base outer (lawEnv scope L cdv) h₀ L mg mb mean loose) (hst : nav [5, 0, 4, 0, 0, 1, 0, 1, 0, 1, 0, 1, 0, 1, 0] body = some st) (F : Fr h₀ L s.heap m) (N : News h₀ L s.heap ν) (r : Rm A (lawEnv scope L cdv :: outer) 30)
    (T : Turn w L pool row ν pl rr p l hs m e D mk hvs nD)
    (kok : ∀ row' ν' rr' x m' s', Aft s s' → (∀ q ∈ ν, q.1 ≠ l → q.1 ≠ hs → q ∈ ν') → Fr h₀ L s'.heap m' → News h₀ L s'.heap ν' → LP w L pool row' row' ν' pl rr' p l hs → MK ["told", "due", "row", "other", "place"] m m' → m' "row" = some (.ref rr') → m' "told" = some (.ref x) → m' "due" = some (.ref x) → QF .next s')
    (kno : (∀ (j : Nat) e', row[j]? = some e' → isIss e'.2 e.2 = false) → ∀ g' x te vs ν' m' s', Aft s s' → (∀ q ∈ ν, q ∈ ν') → Fr h₀ L g' m' → g'.UpToSlots s'.heap → MK ["told", "due", "row", "other", "place"] m m' → m' "row" = some (.ref rr) → RaisedK base (lawEnv scope L cdv :: outer) x (.type "LookupError") te vs ν' s'.heap → NoCtx x s'.heap → E (.ref x) s') :
    wpAny (Mo w) A (execs (subs st 0) (lawEnv scope L cdv)) QF E s := by
  have hl0 := hl
  obtain ⟨dV, kV, doc, pm, ct, oc, an, od, osl, hb⟩ := hl.hb
  clear hl
  have hl := hb.symm.trans (lk (K := hd.heap_1 w.params) (f := 308) (by k_is))
  injection hl with hl
  injection hl with _ _ hl _
  injection hl with hl
  injection hl with e1 e2 e3 e4 e5 e6 e7 e8 e9 e10 e11 e12 e13
  injection e4 with e4
  subst e4 e5 e13
  clear hb e1 e2 e3 e6 e7 e8 e9 e10 e11 e12
  injection hst with hst
  subst hst
  change wpAny _ _ (execs (_ :: _) _) _ _ _
  walk_at "st"
  refine Assign_Tuple_swapped (names := ["told", "due"]) ?_
  walk_at "st"
  walk_at "st"
  obtain ⟨po, pc, pd⟩ := T.P.pc
  obtain ⟨dp, t1, t2, x1, x2, nn, hp1, hp2⟩ := id T.P.P
  refine MethodCall_ ?_
  refine nameX_C N rfl pc pd ?_
  refine method_inst F S.X (InstAt.of_news N hp1 hp2) kP1 kPti kPtiF rfl ?_
  refine callWith_K S.X kPtiK ?_
  walk_at "st"
  refine nameX_L F T.mc ?_
  walk_at "st"
  refine ⟨S.X.keeps F.keep, wpAny_call ?_⟩
  refine lp_cut_iss S F N T.P T.he r.le (fun i e' ν₁ s₁ hi hsm hno A₁ s1 F₁ N₁ P₁ => ?_) fun hno g' x te vs s₁ A₁ FG U Rk Cx => ?_
  · dsimp only
    walk_at "st"
    walk_at "st"
    walk_at "st"
    have hlen := T.P.len
    obtain ⟨po, pc, pd⟩ := P₁.pc
    obtain ⟨nr, rm⟩ := P₁.rm
    have hid : issIdx row e.2 = (i : Nat) := issIdx_some hi hsm hno
    have hir := (List.getElem?_eq_some_iff.mp hi).1
    refine eval_li hl0 S F₁ N₁ r.rn.le (.inl r.hh) T.mr T.mc rm hlen P₁.PO P₁.vsub T.he fun s₂ u A₂ F₂ N₂ => ?_
    rw [hid]
    walk_at "st"
    walk_at "st"
    walk_at "st"
    refine ite_pos (by simp) ?_
    refine nameX_C N₂ rfl pc pd ?_
    walk_at "st"
    generalize hs3 : ({ s₂ with toks := _ } : Shared) = s₃
    have A₃ : Aft s₂ s₃ := by rw [← hs3]; exact ⟨rfl, rfl, fun h => h⟩
    have e3 : s₃.heap = s₂.heap := by rw [← hs3]
    rw [← e3] at F₂ N₂
    refine tup_store2 F₂ N₂ r.hh rfl rfl rfl fun s₄ A₄ F₄ N₄ => ?_
    walk_at "st"
    walk_at "st"
    refine Subscript_ ?_
    refine nameX_L F₄ T.mr ?_
    walk_at "st"
    refine evalPart_none_step ?_
    refine evalPart_some_step ?_
    walk_at "st"
    refine eval_li hl0 S F₄ N₄ r.rn.le (.inl r.hh) T.mr T.mc rm hlen P₁.PO P₁.vsub T.he fun s₅ u A₅ F₅ N₅ => ?_
    rw [hid]
    walk_at "st"
    walk_at "st"
    refine evalPart_none_step ?_
    generalize hs6 : ({ s₅ with toks := _ } : Shared) = s₆
    have A₆ : Aft s₅ s₆ := by rw [← hs6]; exact ⟨rfl, rfl, fun h => h⟩
    have e6 : s₆.heap = s₅.heap := by rw [← hs6]
    rw [← e6] at F₅ N₅
    refine slice_any (s := s₆) F₅ N₅ (is_list N₅ rm) .none (.int _ _) (fun Dr h₆ F₆ N₆ hD => ?_) (by with_unfolding_all rfl) (by rw [items_size, sizeLine_eq]; omega)
    rw [show ((i : Nat) : Int) + 1 = ((i + 1 : Nat) : Int) by omega, pick_row_to (by omega)] at N₆
    refine storeX_L F₆ N₆ fun h₇ F₇ N₇ => ?_
    walk_at "st"
    refine kok (row.take (i + 1)) _ Dr p _ _ (A₁.trans (A₂.trans (A₃.trans (A₄.trans (A₅.trans (A₆.trans ⟨rfl, rfl, fun h => h⟩)))))) (fun q hq a b => .tail _ (s1 q hq a b)) F₇ N₇ ((P₁.more (fun q hq => .tail _ hq) N₇).setrow (.head _) ?_ P₁.sub) ?_ rfl rfl rfl
    · obtain ⟨n1, lm⟩ := P₁.lm
      exact Nat.ne_of_gt (hD _ lm)
    · intro y hy
      simp only [List.mem_cons, not_or] at hy
      simp only [hy.1, hy.2.1, hy.2.2.1, if_false]
  · exact kno hno g' x te vs ν m s₁ A₁ (fun q hq => hq) FG U (fun y _ => rfl) T.mr Rk Cx
end
section
variable {pool prow vrow : Row} {pl rr D mk : Addr} {e : Addr × CD} {hvs : Array Value} {nD : Nat} {dd : Int} {td : Tok}
theorem law_b6 {name qual : Str} {params : Arguments} {body : List Stmt} {scope : Scope} {cdv : Value} {st : Stmt} {QF : Flow → Shared → Prop} (hl : LawIs w name qual params body scope cdv) (S : Sx w A₀ base outer (lawEnv scope L cdv) h₀ L mg mb mean loose) (hst : nav [5, 0, 4, 0, 0, 1, 0, 1, 0, 1, 0, 1, 0, 1, 0] body = some st) (F : Fr h₀ L s.heap m) (N : News h₀ L s.heap ν) (r : Rm A (lawEnv scope L cdv :: outer) 30)
    (T : Turn w L pool row ν pl rr p l hs m e D mk hvs nD)
    (kok : ∀ row' ν' rr' x m' s', Aft s s' → (∀ q ∈ ν, q.1 ≠ l → q.1 ≠ hs → q ∈ ν') → Fr h₀ L s'.heap m' → News h₀ L s'.heap ν' → LP w L pool row' row' ν' pl rr' p l hs → MK ["told", "due", "row", "other", "place"] m m' → m' "row" = some (.ref rr') → m' "told" = some (.ref x) → m' "due" = some (.ref x) → QF .next s')
    (kno : (∀ (j : Nat) e', row[j]? = some e' → isIss e'.2 e.2 = false) → ∀ g' x te vs ν' m' s', Aft s s' → (∀ q ∈ ν, q ∈ ν') → Fr h₀ L g' m' → g'.UpToSlots s'.heap → MK ["told", "due", "row", "other", "place"] m m' → m' "row" = some (.ref rr) → RaisedK base (lawEnv scope L cdv :: outer) x (.type "LookupError") te vs ν' s'.heap → NoCtx x s'.heap → E (.ref x) s') :
    wpAny (Mo w) A (execs (subs st 1) (lawEnv scope L cdv)) QF E s := by
  have hl0 := hl
  obtain ⟨dV, kV, doc, pm, ct, oc, an, od, osl, hb⟩ := hl.hb
  clear hl
  have hl := hb.symm.trans (lk (K := hd.heap_1 w.params) (f := 308) (by k_is))
  injection hl with hl
  injection hl with _ _ hl _
  injection hl with hl
  injection hl with e1 e2 e3 e4 e5 e6 e7 e8 e9 e10 e11 e12 e13
  injection e4 with e4
  subst e4 e5 e13
  clear hb e1 e2 e3 e6 e7 e8 e9 e10 e11 e12
  injection hst with hst
  subst hst
  change wpAny _ _ (execs (_ :: _) _) _ _ _
  walk_at "st"
  walk_at "st"
  have hlen := T.P.len
  obtain ⟨nr, rm⟩ := T.P.rm
  refine eval_li hl0 S F N r.rn.le (.inl r.hh) T.mr T.mc rm hlen T.P.PO T.P.vsub T.he fun s₁ u A₁ F₁ N₁ => ?_
  refine storeX_L F₁ N₁ fun h₂ F₂ N₂ => ?_
  generalize hs2 : ({ s₁ with heap := _, toks := _ } : Shared) = s₂
  have A₂ : Aft s₁ s₂ := by rw [← hs2]; exact ⟨rfl, rfl, fun h => h⟩
  have e2 : s₂.heap = h₂ := by rw [← hs2]
  rw [← e2] at F₂ N₂
  dsimp only
  walk_at "st"
  refine Assign_Tuple_swapped (names := ["told", "due"]) ?_
  walk_at "st"
  walk_at "st"
  obtain ⟨po, pc, pd⟩ := T.P.pc
  obtain ⟨dp, t1, t2, x1, x2, nn, hp1, hp2⟩ := id T.P.P
  refine MethodCall_ ?_
  refine nameX_C N₂ rfl pc pd ?_
  refine method_inst F₂ S.X (InstAt.of_news N₂ hp1 hp2) kP1 kPfi kPfiF rfl ?_
  refine callWith_K S.X kPfiK ?_
  walk_at "st"
  refine nameX_L F₂ T.mc ?_
  walk_at "st"
  refine ⟨S.X.keeps F₂.keep, wpAny_call ?_⟩
  have P₂ := T.P.more (fun q hq => hq) N₂
  refine lp_find S F₂ N₂ P₂ T.he r.le (fun i e' s₃ hi hsm hno A₃ F₃ N₃ => ?_) fun hno g' x te vs s₃ A₃ FG U Rk Cx => ?_
  · dsimp only
    walk_at "st"
    walk_at "st"
    walk_at "st"
    have hid : issIdx row e.2 = (i : Nat) := issIdx_some hi hsm hno
    have hir := (List.getElem?_eq_some_iff.mp hi).1
    rw [hid] at F₃
    refine nameX_L F₃ rfl ?_
    walk_at "st"
    walk_at "st"
    walk_at "st"
    refine ite_pos (by simp) ?_
    refine Subscript_ ?_
    refine nameX_L F₃ T.mr ?_
    refine nameX_L F₃ rfl ?_
    refine item_list (is_list N₃ rm) (Int.natCast_nonneg _) (by omega) (items_get hi) ?_
    walk_at "st"
    generalize hs4 : ({ s₃ with toks := _ } : Shared) = s₄
    have A₄ : Aft s₃ s₄ := by rw [← hs4]; exact ⟨rfl, rfl, fun h => h⟩
    have e4 : s₄.heap = s₃.heap := by rw [← hs4]
    rw [← e4] at F₃ N₃
    refine tup_store2 F₃ N₃ r.hh rfl rfl rfl fun s₅ A₅ F₅ N₅ => ?_
    walk_at "st"
    refine kok row _ rr e'.1 _ _ (A₁.trans (A₂.trans (A₃.trans (A₄.trans A₅)))) (fun q hq _ _ => hq) F₅ N₅ (T.P.more (fun q hq => hq) N₅) ?_ T.mr rfl rfl
    intro y hy
    simp only [List.mem_cons, not_or] at hy
    simp only [hy.1, hy.2.1, hy.2.2.2.2.1, if_false]
  · refine kno hno g' x te vs ν _ s₃ (A₁.trans (A₂.trans A₃)) (fun q hq => hq) FG U (fun y hy => ?_) T.mr Rk Cx
    simp only [List.mem_cons, not_or] at hy
    simp only [hy.2.2.2.2.1, if_false]
end
section
variable {pool prow vrow : Row} {pl rr D mk : Addr} {e : Addr × CD} {hvs : Array Value} {nD : Nat} {dd : Int} {td : Tok} {x : Addr}
theorem law_told {name qual : Str} {params : Arguments} {body : List Stmt} {scope : Scope} {cdv : Value} {st : Stmt} {QF : Flow → Shared → Prop} (hl : LawIs w name qual params body scope cdv) (S : Sx w A₀ base outer (lawEnv scope L cdv) h₀ L mg mb mean loose) (hst : nav [5, 0, 4, 0, 1] body = some st) (F : Fr h₀ L s.heap m) (mt : m "told" = some (.ref x)) (mu : m "due" = some (.ref x)) (k : QF .next s) :
    wpAny (Mo w) A (exec st (lawEnv scope L cdv)) QF E s := by
  obtain ⟨dV, kV, doc, pm, ct, oc, an, od, osl, hb⟩ := hl.hb
  clear hl
  have hl := hb.symm.trans (lk (K := hd.heap_1 w.params) (f := 308) (by k_is))
  injection hl with hl
  injection hl with _ _ hl _
  injection hl with hl
  injection hl with e1 e2 e3 e4 e5 e6 e7 e8 e9 e10 e11 e12 e13
  injection e4 with e4
  subst e4 e5 e13
  clear hb e1 e2 e3 e6 e7 e8 e9 e10 e11 e12
  injection hst with hst
  subst hst
  walk_at "st"
  walk_at "st"
  refine nameX_L F mt ?_
  refine nameX_L F mu ?_
  refine isnot_ref_same ?_
  walk_at "st"
  refine ite_neg Bool.false_ne_true ?_
  walk_at "st"
  exact k
theorem law_h1 {name qual : Str} {params : Arguments} {body : List Stmt} {scope : Scope} {cdv : Value} {st : Stmt} {QF : Flow → Shared → Prop} (hl : LawIs w name qual params body scope cdv) (S : Sx w A₀ base outer (lawEnv scope L cdv) h₀ L mg mb mean loose) (hst : nav [5, 0, 4] body = some st) (F : Fr h₀ L s.heap m) (N : News h₀ L s.heap ν) (r : Rn A (lawEnv scope L cdv :: outer) 20)
    (md : m "deed" = some (.int dd td)) (hd3 : dd = 0 ∨ dd = 1 ∨ dd = 3) (mm : m "mark" = some (.ref mk)) (tm : TupIn ν mk (mark e.2)) (hD : ∃ co, (L + 2, co) ∈ ν ∧ co.data = .cell (some (.ref D))) (dD : (D, listOf hvs nD) ∈ ν) (acc : AccMark row [] row.length hvs ν)
    (hk : mark e.2 ∈ marks row) (k : ∀ s', Aft s s' → Fr h₀ L s'.heap m → News h₀ L s'.heap ν → QF .next s') :
    wpAny (Mo w) A (execs (subs st 1) (lawEnv scope L cdv)) QF E s := by
  obtain ⟨dV, kV, doc, pm, ct, oc, an, od, osl, hb⟩ := hl.hb
  clear hl
  have hl := hb.symm.trans (lk (K := hd.heap_1 w.params) (f := 308) (by k_is))
  injection hl with hl
  injection hl with _ _ hl _
  injection hl with hl
  injection hl with e1 e2 e3 e4 e5 e6 e7 e8 e9 e10 e11 e12 e13
  injection e4 with e4
  subst e4 e5 e13
  clear hb e1 e2 e3 e6 e7 e8 e9 e10 e11 e12
  injection hst with hst
  subst hst
  change wpAny _ _ (execs (_ :: _) _) _ _ _
  walk_at "st"
  walk_at "st"
  walk_at "st"
  walk_at "st"
  refine nameX_L F md ?_
  repeat walk_at "st"
  refine newTuple_N F N fun h₁ F₁ N₁ => ?_
  refine SeqAt.notIn_tupleAt (fun y => match y with | .int z _ => z == dd | _ => false) ⟨_, (N₁ _ (.head _)).1, rfl, _, rfl⟩ (fun y hy => ?_) ?_
  · simp only [List.mem_toArray, List.mem_cons, List.not_mem_nil, or_false] at hy
    rcases hy with rfl | rfl | rfl <;> exact SeqAt.EqAt.int_int _ _ _ _
  walk_at "st"
  refine ite_neg ?_ ?_
  · rcases hd3 with rfl | rfl | rfl <;> simp
  walk_at "st"
  walk_at "st"
  generalize hs2 : ({ s with heap := _, toks := _ } : Shared) = s₂
  have A₂ : Aft s s₂ := by rw [← hs2]; exact ⟨rfl, rfl, fun h => h⟩
  have e2 : s₂.heap = h₁ := by rw [← hs2]
  rw [← e2] at F₁ N₁
  refine nameX_L F₁ mm ?_
  obtain ⟨co, cc, cd⟩ := hD
  refine nameX_C N₁ rfl (.tail _ cc) cd ?_
  refine notin_marks N₁ (.tail _ dD) (acc.frz (Keep.of fun q hq => .tail _ hq)) (tm.mono fun q hq => .tail _ hq) (by have := r.u; show A.units + 1 < 9900; omega) ?_
  walk_at "st"
  refine ite_neg (by simpa using hk) ?_
  walk_at "st"
  refine ite_neg Bool.false_ne_true ?_
  walk_at "st"
  walk_at "st"
  exact k _ A₂ F₁ (news_sub N₁ fun q hq => .tail _ hq)
theorem law_h2 {name qual : Str} {params : Arguments} {body : List Stmt} {scope : Scope} {cdv : Value} {st : Stmt} {QF : Flow → Shared → Prop} (hl : LawIs w name qual params body scope cdv) (S : Sx w A₀ base outer (lawEnv scope L cdv) h₀ L mg mb mean loose) (hst : nav [5, 0, 4] body = some st) (F : Fr h₀ L s.heap m) (N : News h₀ L s.heap ν) (r : Rn A (lawEnv scope L cdv :: outer) 20) (H : HLed A ν)
    (md : m "deed" = some (.int dd td)) (hd3 : 4 ≤ dd) (mm : m "mark" = some (.ref mk)) (tm : TupIn ν mk (mark e.2)) (hD : ∃ co, (L + 2, co) ∈ ν ∧ co.data = .cell (some (.ref D))) (dD : (D, listOf hvs nD) ∈ ν) (acc : AccMark row [] row.length hvs ν)
    (mr : m "row" = some (.ref rr)) (mc : m "cert" = some (.ref e.1)) (P : LP w L pool row row ν pl rr p l hs) (he : e ∈ pool)
    (h4 : dd = 4 → mark e.2 ∉ marks row) (h5 : dd ≠ 4 → ∀ (j : Nat) e', row[j]? = some e' → isIss e'.2 e.2 = false) (k : ∀ s', Aft s s' → Fr h₀ L s'.heap m → News h₀ L s'.heap ν → QF .next s') :
    wpAny (Mo w) A (execs (subs st 2) (lawEnv scope L cdv)) QF E s := by
  have hl0 := hl
  obtain ⟨dV, kV, doc, pm, ct, oc, an, od, osl, hb⟩ := hl.hb
  clear hl
  have hl := hb.symm.trans (lk (K := hd.heap_1 w.params) (f := 308) (by k_is))
  injection hl with hl
  injection hl with _ _ hl _
  injection hl with hl
  injection hl with e1 e2 e3 e4 e5 e6 e7 e8 e9 e10 e11 e12 e13
  injection e4 with e4
  subst e4 e5 e13
  clear hb e1 e2 e3 e6 e7 e8 e9 e10 e11 e12
  injection hst with hst
  subst hst
  change wpAny _ _ (execs (_ :: _) _) _ _ _
  walk_at "st"
  walk_at "st"
  walk_at "st"
  walk_at "st"
  refine nameX_L F md ?_
  walk_at "st"
  walk_at "st"
  walk_at "st"
  refine ite_neg (by simp; omega) ?_
  walk_at "st"
  refine isTrue_IfExp ?_
  walk_at "st"
  refine nameX_L F md ?_
  walk_at "st"
  walk_at "st"
  walk_at "st"
  generalize hs2 : ({ s with toks := _ } : Shared) = s₂
  have A₂ : Aft s s₂ := by rw [← hs2]; exact ⟨rfl, rfl, fun h => h⟩
  have e2 : s₂.heap = s.heap := by rw [← hs2]
  rw [← e2] at F N
  by_cases hd : dd = 4
  · refine ite_pos (by simpa using hd) ?_
    walk_at "st"
    refine nameX_L F mm ?_
    obtain ⟨co, cc, cd⟩ := hD
    refine nameX_C N rfl cc cd ?_
    refine in_marks N dD acc tm (by have := r.u; show A.units + 1 < 9900; omega) ?_
    walk_at "st"
    refine ite_neg (by simpa using h4 hd) ?_
    walk_at "st"
    refine ite_neg Bool.false_ne_true ?_
    walk_at "st"
    walk_at "st"
    exact k _ A₂ F N
  · refine ite_neg (by simpa using hd) ?_
    walk_at "st"
    obtain ⟨nr, rm⟩ := P.rm
    refine eval_li hl0 S F N r.le H mr mc rm P.len P.PO P.vsub he fun s₃ u A₃ F₃ N₃ => ?_
    rw [issIdx_none (h5 hd)]
    walk_at "st"
    walk_at "st"
    walk_at "st"
    refine ite_neg (by decide) ?_
    walk_at "st"
    refine ite_neg Bool.false_ne_true ?_
    walk_at "st"
    walk_at "st"
    exact k _ (A₂.trans (A₃.trans ⟨rfl, rfl, fun h => h⟩)) F₃ N₃
end
section
variable {pool prow vrow : Row} {pl rr D mk : Addr} {e : Addr × CD} {hvs : Array Value} {nD : Nat} {dd : Int} {td : Tok} {x : Addr}
theorem law_try {name qual : Str} {params : Arguments} {body : List Stmt} {scope : Scope} {cdv : Value} {st : Stmt} {QF : Flow → Shared → Prop} (hl : LawIs w name qual params body scope cdv) (S : Sx w A₀ h₀ outer (lawEnv scope L cdv) h₀ L mg mb mean loose) (hst : nav [5, 0, 4] body = some st) (F : Fr h₀ L s.heap m) (N : News h₀ L s.heap ν) (r : Rm (A₀.deeper (lawEnv scope L cdv)) (lawEnv scope L cdv :: outer) 30)
    (T : Turn w L pool row ν pl rr p l hs m e D mk hvs nD) (md : m "deed" = some (.int dd td)) (hd0 : 0 ≤ dd) (hd7 : dd < 7) (hne : dd = 2 → row ≠ [])
    (k : ∀ row' ν' rr' m' s', Aft s s' → (∀ q ∈ ν, q.1 ≠ l → q.1 ≠ hs → q ∈ ν') → Fr h₀ L s'.heap m' → News h₀ L s'.heap ν' → LP w L pool row' row' ν' pl rr' p l hs → MK ["told", "due", "row", "other", "place"] m m' → m' "row" = some (.ref rr') → QF .next s') :
    wpAny (Mo w) (A₀.deeper (lawEnv scope L cdv)) (exec st (lawEnv scope L cdv)) QF (fun _ _ => False) s := by
  have hl0 := hl
  obtain ⟨dV, kV, doc, pm, ct, oc, an, od, osl, hb⟩ := hl.hb
  clear hl
  have hl := hb.symm.trans (lk (K := hd.heap_1 w.params) (f := 308) (by k_is))
  injection hl with hl
  injection hl with _ _ hl _
  injection hl with hl
  injection hl with e1 e2 e3 e4 e5 e6 e7 e8 e9 e10 e11 e12 e13
  injection e4 with e4
  subst e4 e5 e13
  clear hb e1 e2 e3 e6 e7 e8 e9 e10 e11 e12
  injection hst with hst
  subst hst
  refine wpAny_Try_except ?_
  walk_at "st"
  walk_at "st"
  walk_at "st"
  refine nameX_L F md ?_
  walk_at "st"
  walk_at "st"
  walk_at "st"
  by_cases d0 : dd = 0
  · refine ite_pos (by simpa using d0) ?_
    refine law_b0 (st := .If _ _ _ _) hl0 S rfl F N r T (fun row' ν' rr' x m' s' A' s1 F' N' P' mk' mr' mt mu => ?_) fun hk g' x te ν' m' s' A' sub FG U mk' mr' Rk => ?_
    · dsimp only
      walk_at "st"
      refine law_told hl0 S rfl F' mt mu ?_
      walk_at "st"
      walk_at "st"
      exact k row' ν' rr' m' s' ⟨A'.d, A'.o, A'.g⟩ s1 F' N' P' mk' mr'
    · refine caughtX_own (bmB := [.ref 174, .type "Exception", .type "BaseException", .type "object"]) (nid := "Exception.__new__") S.B FG U Rk S.X (topRead_of S.T) (by k_is) (by k_exc) rfl (fun h₂ F₂ N₂ => ?_) rfl rfl (by decide) PassesOwnAt.never
      have P₂ := T.P.more sub N₂
      obtain ⟨co, cc, cd⟩ := T.hD
      refine law_h1 (st := .Try _ [.ExceptHandler _ _ _ _, .ExceptHandler _ _ _ _] _ _ _) (dd := dd) (td := td) (e := e) (row := row) (D := D) (mk := mk) (hvs := hvs) (nD := nD) hl0 S rfl F₂ N₂ (r.marked.le) ((mk' _ (by decide)).trans md) (.inl d0) ((mk' _ (by decide)).trans T.mm) (T.tm.mono sub) ⟨co, sub _ cc, cd⟩ (sub _ T.dD) (T.acc.frz (Keep.of sub)) hk fun s₃ A₃ F₃ N₃ => ?_
      exact k row ν' rr m' s₃ ⟨A₃.d.trans A'.d, A₃.o.trans A'.o, fun z => A₃.g (A'.g z)⟩ (fun q hq _ _ => sub q hq) F₃ N₃ (P₂.more (fun q hq => hq) N₃) mk' mr'
  refine ite_neg (by simpa using d0) ?_
  walk_at "st"
  walk_at "st"
  walk_at "st"
  refine nameX_L F md ?_
  walk_at "st"
  walk_at "st"
  walk_at "st"
  by_cases d1 : dd = 1
  · refine ite_pos (by simpa using d1) ?_
    refine law_b1 (st := .If _ _ _ _) hl0 S rfl F N r T (fun row' ν' rr' x m' s' A' s1 F' N' P' mk' mr' mt mu => ?_) fun hk g' x te ν' m' s' A' sub FG U mk' mr' Rk => ?_
    · dsimp only
      walk_at "st"
      walk_at "st"
      refine law_told hl0 S rfl F' mt mu ?_
      walk_at "st"
      walk_at "st"
      exact k row' ν' rr' m' s' ⟨A'.d, A'.o, A'.g⟩ s1 F' N' P' mk' mr'
    · refine caughtX_own (bmB := [.ref 174, .type "Exception", .type "BaseException", .type "object"]) (nid := "Exception.__new__") S.B FG U Rk S.X (topRead_of S.T) (by k_is) (by k_exc) rfl (fun h₂ F₂ N₂ => ?_) rfl rfl (by decide) PassesOwnAt.never
      have P₂ := T.P.more sub N₂
      obtain ⟨co, cc, cd⟩ := T.hD
      refine law_h1 (st := .Try _ [.ExceptHandler _ _ _ _, .ExceptHandler _ _ _ _] _ _ _) (dd := dd) (td := td) (e := e) (row := row) (D := D) (mk := mk) (hvs := hvs) (nD := nD) hl0 S rfl F₂ N₂ (r.marked.le) ((mk' _ (by decide)).trans md) (.inr (.inl d1)) ((mk' _ (by decide)).trans T.mm) (T.tm.mono sub) ⟨co, sub _ cc, cd⟩ (sub _ T.dD) (T.acc.frz (Keep.of sub)) hk fun s₃ A₃ F₃ N₃ => ?_
      exact k row ν' rr m' s₃ ⟨A₃.d.trans A'.d, A₃.o.trans A'.o, fun z => A₃.g (A'.g z)⟩ (fun q hq _ _ => sub q hq) F₃ N₃ (P₂.more (fun q hq => hq) N₃) mk' mr'
  refine ite_neg (by simpa using d1) ?_
  walk_at "st"
  walk_at "st"
  walk_at "st"
  refine nameX_L F md ?_
  walk_at "st"
  walk_at "st"
  walk_at "st"
  by_cases d2 : dd = 2
  · refine ite_pos (by simpa using d2) ?_
    refine law_b2 (st := .If _ _ _ _) hl0 S rfl F N r T (hne d2) (fun row' ν' rr' x m' s' A' s1 F' N' P' mk' mr' mt mu => ?_)
    dsimp only
    walk_at "st"
    walk_at "st"
    walk_at "st"
    refine law_told hl0 S rfl F' mt mu ?_
    walk_at "st"
    walk_at "st"
    exact k row' ν' rr' m' s' ⟨A'.d, A'.o, A'.g⟩ s1 F' N' P' mk' mr'
  refine ite_neg (by simpa using d2) ?_
  walk_at "st"
  walk_at "st"
  walk_at "st"
  refine nameX_L F md ?_
  walk_at "st"
  walk_at "st"
  walk_at "st"
  by_cases d3 : dd = 3
  · refine ite_pos (by simpa using d3) ?_
    refine law_b3 (st := .If _ _ _ _) hl0 S rfl F N r T (fun row' ν' rr' x m' s' A' s1 F' N' P' mk' mr' mt mu => ?_) fun hk g' x te ν' m' s' A' sub FG U mk' mr' Rk => ?_
    · dsimp only
      walk_at "st"
      walk_at "st"
      walk_at "st"
      walk_at "st"
      refine law_told hl0 S rfl F' mt mu ?_
      walk_at "st"
      walk_at "st"
      exact k row' ν' rr' m' s' ⟨A'.d, A'.o, A'.g⟩ s1 F' N' P' mk' mr'
    · refine caughtX_own (bmB := [.ref 174, .type "Exception", .type "BaseException", .type "object"]) (nid := "Exception.__new__") S.B FG U Rk S.X (topRead_of S.T) (by k_is) (by k_exc) rfl (fun h₂ F₂ N₂ => ?_) rfl rfl (by decide) PassesOwnAt.never
      have P₂ := T.P.more sub N₂
      obtain ⟨co, cc, cd⟩ := T.hD
      refine law_h1 (st := .Try _ [.ExceptHandler _ _ _ _, .ExceptHandler _ _ _ _] _ _ _) (dd := dd) (td := td) (e := e) (row := row) (D := D) (mk := mk) (hvs := hvs) (nD := nD) hl0 S rfl F₂ N₂ (r.marked.le) ((mk' _ (by decide)).trans md) (.inr (.inr d3)) ((mk' _ (by decide)).trans T.mm) (T.tm.mono sub) ⟨co, sub _ cc, cd⟩ (sub _ T.dD) (T.acc.frz (Keep.of sub)) hk fun s₃ A₃ F₃ N₃ => ?_
      exact k row ν' rr m' s₃ ⟨A₃.d.trans A'.d, A₃.o.trans A'.o, fun z => A₃.g (A'.g z)⟩ (fun q hq _ _ => sub q hq) F₃ N₃ (P₂.more (fun q hq => hq) N₃) mk' mr'
  refine ite_neg (by simpa using d3) ?_
  walk_at "st"
  walk_at "st"
  walk_at "st"
  refine nameX_L F md ?_
  walk_at "st"
  walk_at "st"
  walk_at "st"
  by_cases d4 : dd = 4
  · refine ite_pos (by simpa using d4) ?_
    refine law_b4 (st := .If _ _ _ _) hl0 S rfl F N r T (fun row' ν' rr' x m' s' A' s1 F' N' P' mk' mr' mt mu => ?_) fun hno g' x te vs ν' m' s' A' sub FG U mk' mr' Rk Cx => ?_
    · dsimp only
      walk_at "st"
      walk_at "st"
      walk_at "st"
      walk_at "st"
      walk_at "st"
      refine law_told hl0 S rfl F' mt mu ?_
      walk_at "st"
      walk_at "st"
      exact k row' ν' rr' m' s' ⟨A'.d, A'.o, A'.g⟩ s1 F' N' P' mk' mr'
    · refine caughtX_lookC (bmB := [.ref 174, .type "Exception", .type "BaseException", .type "object"]) (nid := "Exception.__new__") S.B FG U Rk Cx S.X (topRead_of S.T) (by k_is) (by k_exc) rfl (by k_is) (by boot_by_name) (by decide) (fun h₂ oe xs F₂ N₂ hoe hx2 => ?_) rfl rfl (by decide) rfl (by decide) PassesOwnAt.never
      have sub' : ∀ q ∈ ν, q ∈ ((x, oe) :: ν') := fun q hq => .tail _ (sub q hq)
      have P₂ := T.P.more sub' N₂
      obtain ⟨co, cc, cd⟩ := T.hD
      refine law_h2 (st := .Try _ [.ExceptHandler _ _ _ _, .ExceptHandler _ _ _ _] _ _ _) (dd := dd) (td := td) (e := e) (row := row) (D := D) (mk := mk) (hvs := hvs) (nD := nD) hl0 S rfl F₂ N₂ (r.marked.le) (.inr ⟨x, oe, xs, rfl, .head _, hoe, hx2⟩) ((mk' _ (by decide)).trans md) (by omega) ((mk' _ (by decide)).trans T.mm) (T.tm.mono sub') ⟨co, sub' _ cc, cd⟩ (sub' _ T.dD) (T.acc.frz (Keep.of sub')) mr' ((mk' _ (by decide)).trans T.mc) P₂ T.he (fun _ => hno) (fun h => absurd d4 h) fun s₃ A₃ F₃ N₃ => ?_
      exact k row _ rr m' s₃ ⟨A₃.d.trans A'.d, A₃.o.trans A'.o, fun z => A₃.g (A'.g z)⟩ (fun q hq _ _ => sub' q hq) F₃ N₃ (P₂.more (fun q hq => hq) N₃) mk' mr'
  refine ite_neg (by simpa using d4) ?_
  walk_at "st"
  walk_at "st"
  walk_at "st"
  refine nameX_L F md ?_
  walk_at "st"
  walk_at "st"
  walk_at "st"
  by_cases d5 : dd = 5
  · refine ite_pos (by simpa using d5) ?_
    refine law_b5 (st := .If _ _ _ _) hl0 S rfl F N r T (fun row' ν' rr' x m' s' A' s1 F' N' P' mk' mr' mt mu => ?_) fun hno g' x te vs ν' m' s' A' sub FG U mk' mr' Rk Cx => ?_
    · dsimp only
      walk_at "st"
      walk_at "st"
      walk_at "st"
      walk_at "st"
      walk_at "st"
      walk_at "st"
      refine law_told hl0 S rfl F' mt mu ?_
      walk_at "st"
      walk_at "st"
      exact k row' ν' rr' m' s' ⟨A'.d, A'.o, A'.g⟩ s1 F' N' P' mk' mr'
    · refine caughtX_lookC (bmB := [.ref 174, .type "Exception", .type "BaseException", .type "object"]) (nid := "Exception.__new__") S.B FG U Rk Cx S.X (topRead_of S.T) (by k_is) (by k_exc) rfl (by k_is) (by boot_by_name) (by decide) (fun h₂ oe xs F₂ N₂ hoe hx2 => ?_) rfl rfl (by decide) rfl (by decide) PassesOwnAt.never
      have sub' : ∀ q ∈ ν, q ∈ ((x, oe) :: ν') := fun q hq => .tail _ (sub q hq)
      have P₂ := T.P.more sub' N₂
      obtain ⟨co, cc, cd⟩ := T.hD
      refine law_h2 (st := .Try _ [.ExceptHandler _ _ _ _, .ExceptHandler _ _ _ _] _ _ _) (dd := dd) (td := td) (e := e) (row := row) (D := D) (mk := mk) (hvs := hvs) (nD := nD) hl0 S rfl F₂ N₂ (r.marked.le) (.inr ⟨x, oe, xs, rfl, .head _, hoe, hx2⟩) ((mk' _ (by decide)).trans md) (by omega) ((mk' _ (by decide)).trans T.mm) (T.tm.mono sub') ⟨co, sub' _ cc, cd⟩ (sub' _ T.dD) (T.acc.frz (Keep.of sub')) mr' ((mk' _ (by decide)).trans T.mc) P₂ T.he (fun h => absurd h d4) (fun _ => hno) fun s₃ A₃ F₃ N₃ => ?_
      exact k row _ rr m' s₃ ⟨A₃.d.trans A'.d, A₃.o.trans A'.o, fun z => A₃.g (A'.g z)⟩ (fun q hq _ _ => sub' q hq) F₃ N₃ (P₂.more (fun q hq => hq) N₃) mk' mr'
  refine ite_neg (by simpa using d5) ?_
  refine law_b6 (st := .If _ _ _ _) hl0 S rfl F N r T (fun row' ν' rr' x m' s' A' s1 F' N' P' mk' mr' mt mu => ?_) fun hno g' x te vs ν' m' s' A' sub FG U mk' mr' Rk Cx => ?_
  · dsimp only
    walk_at "st"
    walk_at "st"
    walk_at "st"
    walk_at "st"
    walk_at "st"
    walk_at "st"
    refine law_told hl0 S rfl F' mt mu ?_
    walk_at "st"
    walk_at "st"
    exact k row' ν' rr' m' s' ⟨A'.d, A'.o, A'.g⟩ s1 F' N' P' mk' mr'
  · refine caughtX_lookC (bmB := [.ref 174, .type "Exception", .type "BaseException", .type "object"]) (nid := "Exception.__new__") S.B FG U Rk Cx S.X (topRead_of S.T) (by k_is) (by k_exc) rfl (by k_is) (by boot_by_name) (by decide) (fun h₂ oe xs F₂ N₂ hoe hx2 => ?_) rfl rfl (by decide) rfl (by decide) PassesOwnAt.never
    have sub' : ∀ q ∈ ν, q ∈ ((x, oe) :: ν') := fun q hq => .tail _ (sub q hq)
    have P₂ := T.P.more sub' N₂
    obtain ⟨co, cc, cd⟩ := T.hD
    refine law_h2 (st := .Try _ [.ExceptHandler _ _ _ _, .ExceptHandler _ _ _ _] _ _ _) (dd := dd) (td := td) (e := e) (row := row) (D := D) (mk := mk) (hvs := hvs) (nD := nD) hl0 S rfl F₂ N₂ (r.marked.le) (.inr ⟨x, oe, xs, rfl, .head _, hoe, hx2⟩) ((mk' _ (by decide)).trans md) (by omega) ((mk' _ (by decide)).trans T.mm) (T.tm.mono sub') ⟨co, sub' _ cc, cd⟩ (sub' _ T.dD) (T.acc.frz (Keep.of sub')) mr' ((mk' _ (by decide)).trans T.mc) P₂ T.he (fun h => absurd h d4) (fun _ => hno) fun s₃ A₃ F₃ N₃ => ?_
    exact k row _ rr m' s₃ ⟨A₃.d.trans A'.d, A₃.o.trans A'.o, fun z => A₃.g (A'.g z)⟩ (fun q hq _ _ => sub' q hq) F₃ N₃ (P₂.more (fun q hq => hq) N₃) mk' mr'
end
section
variable {pool prow vrow : Row} {pl rr nl : Addr} {e : Addr × CD} {nvs : Array Value} {ns : List Int} {nn : Nat} {kk : Nat} {tk : Tok}
theorem law_w0 {name qual : Str} {params : Arguments} {body : List Stmt} {scope : Scope} {cdv : Value} {st : Stmt} {QF : Flow → Shared → Prop} (hl : LawIs w name qual params body scope cdv) (S : Sx w A₀ base outer (lawEnv scope L cdv) h₀ L mg mb mean loose) (hst : nav [5, 0, 0] body = some st) (F : Fr h₀ L s.heap m) (N : News h₀ L s.heap ν) (r : Rm A (lawEnv scope L cdv :: outer) 30)
    (P : LP w L pool prow vrow ν pl rr p l hs) (mp : m "pool" = some (.ref pl)) (mn : m "numbers" = some (.ref nl)) (mk : m "k" = some (.int (kk : Nat) tk)) (hn : (nl, listOf nvs nn) ∈ ν) (hI : IntsAre nvs.toList ns) (h100 : ns.length ≤ 100) (hk : kk + 1 < ns.length)
    (k : ∀ dd td e s', Aft s s' → 0 ≤ dd → dd < 7 → e ∈ pool → Fr h₀ L s'.heap (fun z => if z = "deed" then some (.int dd td) else if z = "cert" then some (.ref e.1) else m z) → News h₀ L s'.heap ν → QF .next s') :
    wpAny (Mo w) A (exec st (lawEnv scope L cdv)) QF E s := by
  obtain ⟨dV, kV, doc, pm, ct, oc, an, od, osl, hb⟩ := hl.hb
  clear hl
  have hl := hb.symm.trans (lk (K := hd.heap_1 w.params) (f := 308) (by k_is))
  injection hl with hl
  injection hl with _ _ hl _
  injection hl with hl
  injection hl with e1 e2 e3 e4 e5 e6 e7 e8 e9 e10 e11 e12 e13
  injection e4 with e4
  subst e4 e5 e13
  clear hb e1 e2 e3 e6 e7 e8 e9 e10 e11 e12
  injection hst with hst
  subst hst
  refine Assign_Tuple_swapped (names := ["deed", "cert"]) ?_
  have hlen : nvs.toList.length = ns.length := hI.length
  rw [Array.length_toList] at hlen
  obtain ⟨np, pm⟩ := P.pm
  have hL : s.heap.IsList nl nvs := ⟨_, (N _ hn).1, rfl, _, rfl⟩
  walk_at "st"
  walk_at "st"
  walk_at "st"
  refine Subscript_ ?_
  refine nameX_L F mn ?_
  refine nameX_L F mk ?_
  obtain ⟨z1, t1, e1, _⟩ := hI.at kk _ (by rw [Array.getElem?_toList]; exact Array.getElem?_eq_getElem (show kk < nvs.size by omega))
  have g1 : nvs[kk]? = some (.int z1 t1) := by rw [Array.getElem?_eq_getElem (show kk < nvs.size by omega), e1]
  refine item_list hL (Int.natCast_nonneg _) (by omega) (by simpa using g1) ?_
  walk_at "st"
  refine PyProof.Rows.mod_int (by decide) ?_
  walk_at "st"
  refine Subscript_ ?_
  refine nameX_L F mp ?_
  walk_at "st"
  refine Subscript_ ?_
  refine nameX_L F mn ?_
  walk_at "st"
  refine nameX_L F mk ?_
  walk_at "st"
  walk_at "st"
  obtain ⟨z2, t2, e2, _⟩ := hI.at (kk + 1) _ (by rw [Array.getElem?_toList]; exact Array.getElem?_eq_getElem (show kk + 1 < nvs.size by omega))
  have g2 : nvs[kk + 1]? = some (.int z2 t2) := by rw [Array.getElem?_eq_getElem (show kk + 1 < nvs.size by omega), e2]
  refine item_list hL (by omega) (by omega) (by rw [show ((kk : Int) + 1).toNat = kk + 1 by omega]; exact g2) ?_
  walk_at "st"
  refine PyProof.Rows.mod_int (by decide) ?_
  have b4 := fm_pos (k := 4) (by decide) z2
  have b7 := fm_pos (k := 7) (by decide) z1
  obtain ⟨e, he⟩ := at_row (row := pool) (z2.fmod 4).toNat (by rw [P.pool4]; omega)
  refine item_list (is_list N pm) b4.1 (by omega) (items_get he) ?_
  walk_at "st"
  refine tup_store2 F N r.hh rfl rfl rfl fun s₅ A₅ F₅ N₅ => ?_
  exact k _ _ e s₅ ⟨A₅.d, A₅.o, A₅.g⟩ b7.1 b7.2 (List.mem_of_getElem? he) F₅ N₅
end
theorem truthy_row {R : Row} {rr : Addr} {nr : Nat} {Q : Bool → Shared → Prop} (N : News h₀ L s.heap ν) (hm : (rr, listOf (items R) nr) ∈ ν) (h100 : R.length ≤ 100) (h : ∀ tk, Q (!R.isEmpty) { s with toks := tk }) : wpAny (Mo w) A (truthy (.ref rr)) Q E s := by
  refine wpAny_truthy_list (is_list N hm) (by rw [items_size]; omega) ?_
  have e : (!(items R).isEmpty) = !R.isEmpty := by cases R <;> simp [items]
  rw [e]
  exact h _
section
variable {pool prow vrow : Row} {pl rr nl : Addr} {e : Addr × CD} {nvs : Array Value} {ns : List Int} {nn : Nat} {kk : Nat} {tk td : Tok} {dd : Int}
theorem law_w1 {name qual : Str} {params : Arguments} {body : List Stmt} {scope : Scope} {cdv : Value} {st : Stmt} {QF : Flow → Shared → Prop} (hl : LawIs w name qual params body scope cdv) (S : Sx w A₀ base outer (lawEnv scope L cdv) h₀ L mg mb mean loose) (hst : nav [5, 0, 1] body = some st) (F : Fr h₀ L s.heap m) (N : News h₀ L s.heap ν) (r : Rm A (lawEnv scope L cdv :: outer) 30)
    (P : LP w L pool row row ν pl rr p l hs) (md : m "deed" = some (.int dd td)) (mr : m "row" = some (.ref rr)) (h0 : 0 ≤ dd) (h7 : dd < 7)
    (k : ∀ dd td m' s', Aft s s' → 0 ≤ dd → dd < 7 → (dd = 2 → row ≠ []) → MK ["deed"] m m' → m' "deed" = some (.int dd td) → Fr h₀ L s'.heap m' → News h₀ L s'.heap ν → QF .next s') :
    wpAny (Mo w) A (exec st (lawEnv scope L cdv)) QF E s := by
  obtain ⟨dV, kV, doc, pm, ct, oc, an, od, osl, hb⟩ := hl.hb
  clear hl
  have hl := hb.symm.trans (lk (K := hd.heap_1 w.params) (f := 308) (by k_is))
  injection hl with hl
  injection hl with _ _ hl _
  injection hl with hl
  injection hl with e1 e2 e3 e4 e5 e6 e7 e8 e9 e10 e11 e12 e13
  injection e4 with e4
  subst e4 e5 e13
  clear hb e1 e2 e3 e6 e7 e8 e9 e10 e11 e12
  injection hst with hst
  subst hst
  have hlen := P.len
  obtain ⟨nr, rm⟩ := P.rm
  walk_at "st"
  walk_at "st"
  walk_at "st"
  refine nameX_L F md ?_
  walk_at "st"
  walk_at "st"
  walk_at "st"
  by_cases d2 : dd = 2
  · refine ite_pos (by simpa using d2) ?_
    walk_at "st"
    walk_at "st"
    walk_at "st"
    refine nameX_L F mr ?_
    refine truthy_row N rm (by omega) fun tk => ?_
    by_cases hr : row = []
    · subst hr
      refine ite_pos rfl ?_
      walk_at "st"
      refine ite_pos rfl ?_
      walk_at "st"
      walk_at "st"
      walk_at "st"
      refine storeX_L F N fun h₂ F₂ N₂ => ?_
      walk_at "st"
      exact k 6 _ _ _ ⟨rfl, rfl, fun h => h⟩ (by decide) (by decide) (fun h => absurd h (by decide)) (fun y hy => if_neg (by simpa using hy)) rfl F₂ N₂
    · have hne : (!row.isEmpty) = true := by cases row <;> simp_all
      rw [hne]
      refine ite_neg (by decide) ?_
      refine ite_neg Bool.false_ne_true ?_
      walk_at "st"
      exact k dd td m _ ⟨rfl, rfl, fun h => h⟩ h0 h7 (fun _ => hr) (fun y _ => rfl) md F N
  · refine ite_neg (by simpa using d2) ?_
    refine ite_neg Bool.false_ne_true ?_
    walk_at "st"
    exact k dd td m _ ⟨rfl, rfl, fun h => h⟩ h0 h7 (fun h => absurd h d2) (fun y _ => rfl) md F N
end
section
variable {pool prow vrow : Row} {pl rr nl : Addr} {e : Addr × CD} {nvs : Array Value} {ns : List Int} {nn : Nat} {kk : Nat} {tk td : Tok} {dd : Int}
/-- another value in the cell held -/
theorem LP.held {h h' : Heap} {co co' : Obj} {v v' : Option Value} (P : LP w L pool prow vrow ν pl rr p l hs) (N : News h₀ L h ν) (hc : (L + 2, co) ∈ ν) (hd : co.data = .cell v) (hd' : co'.data = .cell v') (N' : News h₀ L h' ((L + 2, co') :: wo (L + 2) ν)) :
    LP w L pool prow vrow ((L + 2, co') :: wo (L + 2) ν) pl rr p l hs := by
  have K : Keep ν ((L + 2, co') :: wo (L + 2) ν) := (wo_keep N (N _ hc).1 (nf_cell hd)).trans (Keep.of fun q hq => .tail _ hq)
  have kl : ∀ {a : Addr} {its : Array Value} {k : Nat}, (a, listOf its k) ∈ ν → (a, listOf its k) ∈ ((L + 2, co') :: wo (L + 2) ν) := fun x => .tail _ (mem_wo_of N x hc (list_ne_cell hd))
  obtain ⟨es, t, n2, hm, O⟩ := P.hm
  obtain ⟨po, pc, pd⟩ := P.pc
  exact ⟨P.pool4, P.PO.frz K, let ⟨n, a⟩ := P.pm; ⟨n, kl a⟩, P.pne, let ⟨n, a⟩ := P.lm; ⟨n, kl a⟩, ⟨es, t, n2, .tail _ (mem_wo_of N hm hc (set_ne_cell hd)), O.frz K N'⟩, P.P.frz K, let ⟨n, a⟩ := P.rm; ⟨n, kl a⟩, P.rne,
    ⟨po, .tail _ (mem_wo.mpr ⟨pc, Nat.ne_of_lt (Nat.lt_succ_self (L + 1))⟩), pd⟩, ⟨co', v', .head _, hd'⟩, P.sub, P.vsub, P.nd⟩
theorem law_w2 {name qual : Str} {params : Arguments} {body : List Stmt} {scope : Scope} {cdv : Value} {st : Stmt} {QF : Flow → Shared → Prop} (hl : LawIs w name qual params body scope cdv) (S : Sx w A₀ base outer (lawEnv scope L cdv) h₀ L mg mb mean loose) (hst : nav [5, 0, 2] body = some st) (F : Fr h₀ L s.heap m) (N : News h₀ L s.heap ν) (r : Rm A (lawEnv scope L cdv :: outer) 30)
    (P : LP w L pool prow row ν pl rr p l hs) (mr : m "row" = some (.ref rr)) (hlen : row.length ≤ 100)
    (k : ∀ D hvs nD co ν' s', Aft s s' → (∀ q ∈ ν, q.1 ≠ L + 2 → q ∈ ν') → Keep ν ν' → Fr h₀ L s'.heap m → News h₀ L s'.heap ν' → LP w L pool prow row ν' pl rr p l hs → (L + 2, co) ∈ ν' → co.data = .cell (some (.ref D)) → (D, listOf hvs nD) ∈ ν' → (∀ q ∈ ν, q.1 ≠ D) → AccMark row [] row.length hvs ν' → QF .next s') :
    wpAny (Mo w) A (exec st (lawEnv scope L cdv)) QF E s := by
  obtain ⟨dV, kV, doc, pm, ct, oc, an, od, osl, hb⟩ := hl.hb
  clear hl
  have hl := hb.symm.trans (lk (K := hd.heap_1 w.params) (f := 308) (by k_is))
  injection hl with hl
  injection hl with _ _ hl _
  injection hl with hl
  injection hl with e1 e2 e3 e4 e5 e6 e7 e8 e9 e10 e11 e12 e13
  injection e4 with e4
  subst e4 e5 e13
  clear hb e1 e2 e3 e6 e7 e8 e9 e10 e11 e12
  injection hst with hst
  subst hst
  walk_at "st"
  obtain ⟨nr, rm⟩ := P.rm
  refine comp_mark_list (ν := ν) (R := row) S F N r.le (nameX_L F mr ⟨rr, nr, ν, rfl, Aft.refl, F, N, fun q hq => hq, rm⟩) P.CV hlen (fun D vs nD ν₁ s₁ A₁ F₁ N₁ sub off acc => ?_) rfl (by decide) rfl (by decide) rfl rfl
  have sub' : ∀ q ∈ ν, q ∈ ((D, listOf vs nD) :: ν₁) := fun q hq => .tail _ (sub q hq)
  have P₁ := P.more sub' N₁
  obtain ⟨co, cv, hc, cd⟩ := P.hc
  have N₂ := news_wo N₁ (sub' _ hc)
  refine storeX_C F₁ N₂ rfl (UpdF.head wo_off) cd fun h₃ co' F₃ N₃ hco => ?_
  have K : Keep ((D, listOf vs nD) :: ν₁) ((L + 2, co') :: wo (L + 2) ((D, listOf vs nD) :: ν₁)) := (wo_keep N₁ (N₁ _ (sub' _ hc)).1 (nf_cell cd)).trans (Keep.of fun q hq => .tail _ hq)
  exact k D vs nD co' _ _ ⟨A₁.d, A₁.o, A₁.g⟩ (fun q hq hne => .tail _ (mem_wo.mpr ⟨sub' q hq, hne⟩)) ((Keep.of sub').trans K) F₃ N₃ (P₁.held N₁ (sub' _ hc) cd hco N₃) (.head _) hco (.tail _ (mem_wo_of N₁ (.head _) (sub' _ hc) (list_ne_cell cd))) (fun q hq => off q (sub q hq)) (acc.frz ((Keep.of fun q hq => .tail _ hq).trans K))
theorem law_w3 {name qual : Str} {params : Arguments} {body : List Stmt} {scope : Scope} {cdv : Value} {st : Stmt} {QF : Flow → Shared → Prop} (hl : LawIs w name qual params body scope cdv) (S : Sx w A₀ base outer (lawEnv scope L cdv) h₀ L mg mb mean loose) (hst : nav [5, 0, 3] body = some st) (F : Fr h₀ L s.heap m) (N : News h₀ L s.heap ν) (mc : m "cert" = some (.ref e.1)) (C : CertIn ν e.1 e.2)
    (k : ∀ mk t1 t2 s', Aft s s' → Fr h₀ L s'.heap (fun z => if z = "mark" then some (.ref mk) else m z) → News h₀ L s'.heap ((mk, tupObj (.str e.2.iss t1) (.int e.2.ser t2)) :: ν) → QF .next s') :
    wpAny (Mo w) A (exec st (lawEnv scope L cdv)) QF E s := by
  obtain ⟨dV, kV, doc, pm, ct, oc, an, od, osl, hb⟩ := hl.hb
  clear hl
  have hl := hb.symm.trans (lk (K := hd.heap_1 w.params) (f := 308) (by k_is))
  injection hl with hl
  injection hl with _ _ hl _
  injection hl with hl
  injection hl with e1 e2 e3 e4 e5 e6 e7 e8 e9 e10 e11 e12 e13
  injection e4 with e4
  subst e4 e5 e13
  clear hb e1 e2 e3 e6 e7 e8 e9 e10 e11 e12
  injection hst with hst
  subst hst
  walk_at "st"
  walk_at "st"
  walk_at "st"
  walk_at "st"
  walk_at "st"
  refine nameX_L F mc ?_
  refine get_iss S F N C fun ia tk hi => ?_
  refine get_hashable S F N hi fun ta tk => ?_
  walk_at "st"
  walk_at "st"
  refine nameX_L F mc ?_
  refine get_ser S F N C fun tb tk => ?_
  walk_at "st"
  refine newTuple_N F N fun h₂ F₂ N₂ => ?_
  refine storeX_L F₂ N₂ fun h₃ F₃ N₃ => ?_
  exact k _ _ _ _ ⟨rfl, rfl, fun h => h⟩ F₃ N₃
end
section
variable {pool prow vrow : Row} {pl rr nl nin : Addr} {e : Addr × CD} {nvs ivs : Array Value} {ns : List Int} {nn nI : Nat} {kk : Nat} {tk td : Tok} {dd : Int}
theorem law_w5 {name qual : Str} {params : Arguments} {body : List Stmt} {scope : Scope} {cdv : Value} {st : Stmt} {QF : Flow → Shared → Prop} (hl : LawIs w name qual params body scope cdv) (S : Sx w A₀ base outer (lawEnv scope L cdv) h₀ L mg mb mean loose) (hst : nav [5, 0, 5] body = some st) (F : Fr h₀ L s.heap m) (N : News h₀ L s.heap ν) (r : Rm A (lawEnv scope L cdv :: outer) 30)
    (P : LP w L pool row row ν pl rr p l hs) (mr : m "row" = some (.ref rr))
    (k : ∀ D vs nD ν' s', Aft s s' → Fr h₀ L s'.heap (fun z => if z = "numbers_in" then some (.ref D) else m z) → News h₀ L s'.heap ((D, listOf vs nD) :: ν') → (∀ q ∈ ν, q ∈ ν') → IntsAre vs.toList (sigs row) → QF .next s') :
    wpAny (Mo w) A (exec st (lawEnv scope L cdv)) QF E s := by
  obtain ⟨dV, kV, doc, pm, ct, oc, an, od, osl, hb⟩ := hl.hb
  clear hl
  have hl := hb.symm.trans (lk (K := hd.heap_1 w.params) (f := 308) (by k_is))
  injection hl with hl
  injection hl with _ _ hl _
  injection hl with hl
  injection hl with e1 e2 e3 e4 e5 e6 e7 e8 e9 e10 e11 e12 e13
  injection e4 with e4
  subst e4 e5 e13
  clear hb e1 e2 e3 e6 e7 e8 e9 e10 e11 e12
  injection hst with hst
  subst hst
  have hlen := P.len
  obtain ⟨nr, rm⟩ := P.rm
  exact comp_sig_use (ν := ν) (R := row) S F N r.le (nameX_L F mr ⟨rr, nr, ν, rfl, Aft.refl, F, N, fun q hq => hq, rm⟩) P.CR (by omega) k rfl rfl rfl rfl (by decide) rfl (by decide) rfl rfl
theorem law_w6 {name qual : Str} {params : Arguments} {body : List Stmt} {scope : Scope} {cdv : Value} {st : Stmt} {QF : Flow → Shared → Prop} (hl : LawIs w name qual params body scope cdv) (S : Sx w A₀ base outer (lawEnv scope L cdv) h₀ L mg mb mean loose) (hst : nav [5, 0, 6] body = some st) (F : Fr h₀ L s.heap m) (N : News h₀ L s.heap ν) (r : Rm A (lawEnv scope L cdv :: outer) 30)
    (P : LP w L pool row row ν pl rr p l hs) (mr : m "row" = some (.ref rr)) (mi : m "numbers_in" = some (.ref nin)) (hni : (nin, listOf ivs nI) ∈ ν) (hI : IntsAre ivs.toList (sigs row))
    (k : ∀ ν' s', Aft s s' → Fr h₀ L s'.heap m → News h₀ L s'.heap ν' → (∀ q ∈ ν, q ∈ ν') → QF .next s') :
    wpAny (Mo w) A (exec st (lawEnv scope L cdv)) QF E s := by
  obtain ⟨dV, kV, doc, pm, ct, oc, an, od, osl, hb⟩ := hl.hb
  clear hl
  have hl := hb.symm.trans (lk (K := hd.heap_1 w.params) (f := 308) (by k_is))
  injection hl with hl
  injection hl with _ _ hl _
  injection hl with hl
  injection hl with e1 e2 e3 e4 e5 e6 e7 e8 e9 e10 e11 e12 e13
  injection e4 with e4
  subst e4 e5 e13
  clear hb e1 e2 e3 e6 e7 e8 e9 e10 e11 e12
  injection hst with hst
  subst hst
  have hlen := P.len
  obtain ⟨nr, rm⟩ := P.rm
  obtain ⟨n1, lm⟩ := P.lm
  obtain ⟨po, pc, pd⟩ := P.pc
  walk_at "st"
  walk_at "st"
  walk_at "st"
  walk_at "st"
  refine nameX_B F S.X (topRead_of S.T) (by k_is) (by boot_by_name) (by decide) ?_
  walk_at "st"
  walk_at "st"
  refine nameX_C N rfl pc pd ?_
  walk_at "st"
  refine len_path S F N lm P.P (by omega) r.le fun h₁ tk₁ u₁ F₁ N₁ => ?_
  generalize hs1 : ({ s with heap := h₁, toks := tk₁ } : Shared) = s₁
  have A₁ : Aft s s₁ := by rw [← hs1]; exact ⟨rfl, rfl, fun h => h⟩
  have e1 : s₁.heap = h₁ := by rw [← hs1]
  rw [← e1] at F₁ N₁
  repeat walk_at "st"
  refine nameX_L F₁ mr ?_
  walk_at "st"
  refine len_list (is_list N₁ rm) (by rw [items_size]; omega) ?_
  rw [items_size]
  walk_at "st"
  walk_at "st"
  refine ite_neg (by simp) ?_
  walk_at "st"
  walk_at "st"
  refine comp_sig_path S F₁ N₁ lm P.P P.CR (by omega) r.le (fun h => nameX_C N₁ rfl pc pd h) (fun D1 vs1 nD1 ν₂ s₂ A₂ F₂ N₂ sub2 I1 => ?_) rfl (by decide) rfl (by decide) rfl rfl
  refine nameX_L F₂ mi ?_
  refine ne_intsK (int_list N₂ (.head _)) I1 (int_list N₂ (.tail _ (sub2 _ hni))) hI r.c64 ?_
  walk_at "st"
  refine ite_neg (by simp) ?_
  walk_at "st"
  walk_at "st"
  refine comp_path_j (R := row) (ν := (D1, listOf vs1 nD1) :: ν₂) S F₂ N₂ r.le ?_ (.tail _ (sub2 _ pc)) pd (.tail _ (sub2 _ lm)) (P.P.mono fun q hq => .tail _ (sub2 q hq)) (fun e he => (P.CR e he).mono fun q hq => .tail _ (sub2 q hq)) (by omega) (fun D2 vs2 nD2 ν₃ s₃ A₃ F₃ N₃ sub3 I2 => ?_) (fun C => rfl) rfl (by decide) rfl (by decide) rfl rfl
  · repeat walk_at "st"
    refine nameX_L F₂ mr ?_
    walk_at "st"
    refine len_list (is_list N₂ (.tail _ (sub2 _ rm))) (by rw [items_size]; omega) ?_
    rw [items_size]
    walk_at "st"
    refine mk_range1 F₂ N₂ fun ro t1 t2 h₃ tk F₃ N₃ => ?_
    exact ⟨ro, _, _, _, _, rfl, ⟨rfl, rfl, fun h => h⟩, F₃, N₃, fun q hq => .tail _ hq, .head _⟩
  refine nameX_L F₃ mi ?_
  refine ne_intsK (int_list N₃ (.head _)) I2 (int_list N₃ (.tail _ (sub3 _ (.tail _ (sub2 _ hni))))) hI r.c64 ?_
  walk_at "st"
  refine ite_neg (by simp) ?_
  walk_at "st"
  refine ite_neg Bool.false_ne_true ?_
  walk_at "st"
  exact k _ _ ⟨A₃.d.trans (A₂.d.trans A₁.d), A₃.o.trans (A₂.o.trans A₁.o), fun z => A₃.g (A₂.g (A₁.g z))⟩ F₃ N₃ fun q hq => .tail _ (sub3 _ (.tail _ (sub2 q hq)))
theorem law_w7 {name qual : Str} {params : Arguments} {body : List Stmt} {scope : Scope} {cdv : Value} {st : Stmt} {QF : Flow → Shared → Prop} (hl : LawIs w name qual params body scope cdv) (S : Sx w A₀ base outer (lawEnv scope L cdv) h₀ L mg mb mean loose) (hst : nav [5, 0, 7] body = some st) (F : Fr h₀ L s.heap m) (N : News h₀ L s.heap ν) (r : Rm A (lawEnv scope L cdv :: outer) 30)
    (P : LP w L pool row row ν pl rr p l hs) (mr : m "row" = some (.ref rr))
    (k : ∀ s', Aft s s' → Fr h₀ L s'.heap m → News h₀ L s'.heap ν → QF .next s') :
    wpAny (Mo w) A (exec st (lawEnv scope L cdv)) QF E s := by
  obtain ⟨dV, kV, doc, pm, ct, oc, an, od, osl, hb⟩ := hl.hb
  clear hl
  have hl := hb.symm.trans (lk (K := hd.heap_1 w.params) (f := 308) (by k_is))
  injection hl with hl
  injection hl with _ _ hl _
  injection hl with hl
  injection hl with e1 e2 e3 e4 e5 e6 e7 e8 e9 e10 e11 e12 e13
  injection e4 with e4
  subst e4 e5 e13
  clear hb e1 e2 e3 e6 e7 e8 e9 e10 e11 e12
  injection hst with hst
  subst hst
  have hlen := P.len
  obtain ⟨nr, rm⟩ := P.rm
  obtain ⟨n1, lm⟩ := P.lm
  obtain ⟨po, pc, pd⟩ := P.pc
  walk_at "st"
  walk_at "st"
  walk_at "st"
  refine nameX_L F mr ?_
  refine truthy_row N rm (by omega) fun tk => ?_
  cases row with
  | nil =>
    refine ite_neg Bool.false_ne_true ?_
    refine ite_neg Bool.false_ne_true ?_
    walk_at "st"
    exact k _ ⟨rfl, rfl, fun h => h⟩ F N
  | cons e R =>
    refine ite_pos rfl ?_
    walk_at "st"
    walk_at "st"
    walk_at "st"
    refine nameX_C N rfl pc pd ?_
    refine first_path (e := e) S F N lm P.P rfl r.le fun h₁ tk₁ F₁ N₁ => ?_
    refine Subscript_ ?_
    refine nameX_L F₁ mr ?_
    walk_at "st"
    refine item_list (is_list N₁ rm) (by decide) (by decide) (items_get (e := e) rfl) ?_
    refine isnot_ref_same ?_
    walk_at "st"
    refine ite_neg Bool.false_ne_true ?_
    refine ite_neg Bool.false_ne_true ?_
    walk_at "st"
    exact k _ ⟨rfl, rfl, fun h => h⟩ F₁ N₁
end
theorem MK.trans {xs ys zs : List Str} {a b c : Str → Option Value} (h1 : MK xs a b) (h2 : MK ys b c) (s1 : ∀ y ∈ xs, y ∈ zs) (s2 : ∀ y ∈ ys, y ∈ zs) : MK zs a c := fun y hy => (h2 y fun q => hy (s2 y q)).trans (h1 y fun q => hy (s1 y q))
abbrev turnNames : List Str := ["deed", "cert", "mark", "told", "due", "row", "other", "place", "numbers_in"]
section
variable {pool prow vrow : Row} {pl rr nl nin : Addr} {e : Addr × CD} {nvs ivs : Array Value} {ns : List Int} {nn nI : Nat} {kk : Nat} {tk td : Tok} {dd : Int}
theorem law_turn {name qual : Str} {params : Arguments} {body : List Stmt} {scope : Scope} {cdv : Value} {st : Stmt} {QF : Flow → Shared → Prop} (hl : LawIs w name qual params body scope cdv) (S : Sx w A₀ h₀ outer (lawEnv scope L cdv) h₀ L mg mb mean loose) (hst : nav [5] body = some st) (F : Fr h₀ L s.heap m) (N : News h₀ L s.heap ν) (r : Rm (A₀.deeper (lawEnv scope L cdv)) (lawEnv scope L cdv :: outer) 30)
    (P : LP w L pool row row ν pl rr p l hs) (mp : m "pool" = some (.ref pl)) (mn : m "numbers" = some (.ref nl)) (mr : m "row" = some (.ref rr)) (mk : m "k" = some (.int (kk : Nat) tk)) (hn : (nl, listOf nvs nn) ∈ ν) (hI : IntsAre nvs.toList ns) (h100 : ns.length ≤ 100) (hk : kk + 1 < ns.length)
    (k : ∀ row' ν' rr' m' s', Aft s s' → (∀ q ∈ ν, q.1 ≠ l → q.1 ≠ hs → q.1 ≠ L + 2 → q ∈ ν') → Fr h₀ L s'.heap m' → News h₀ L s'.heap ν' → LP w L pool row' row' ν' pl rr' p l hs → MK turnNames m m' → m' "row" = some (.ref rr') → QF .next s') :
    wpAny (Mo w) (A₀.deeper (lawEnv scope L cdv)) (execs (subs st 0) (lawEnv scope L cdv)) QF (fun _ _ => False) s := by
  have hl0 := hl
  obtain ⟨dV, kV, doc, pm, ct, oc, an, od, osl, hb⟩ := hl.hb
  clear hl
  have hl := hb.symm.trans (lk (K := hd.heap_1 w.params) (f := 308) (by k_is))
  injection hl with hl
  injection hl with _ _ hl _
  injection hl with hl
  injection hl with e1 e2 e3 e4 e5 e6 e7 e8 e9 e10 e11 e12 e13
  injection e4 with e4
  subst e4 e5 e13
  clear hb e1 e2 e3 e6 e7 e8 e9 e10 e11 e12
  injection hst with hst
  subst hst
  change wpAny _ _ (execs (_ :: _) _) _ _ _
  walk_at "st"
  refine law_w0 hl0 S rfl F N r P mp mn mk hn hI h100 hk fun dd td e s₁ A₁ d0 d7 he F₁ N₁ => ?_
  dsimp only
  have M₁ : MK ["deed", "cert"] m (fun z => if z = ("deed" : Str) then some (.int dd td) else if z = ("cert" : Str) then some (.ref e.1) else m z) := fun y hy => by
    simp only [List.mem_cons, not_or] at hy
    simp only [hy.1, hy.2.1, if_false]
  have md₁ : (fun z => if z = ("deed" : Str) then some (.int dd td) else if z = ("cert" : Str) then some (.ref e.1) else m z) "deed" = some (.int dd td) := rfl
  have mc₁ : (fun z => if z = ("deed" : Str) then some (.int dd td) else if z = ("cert" : Str) then some (.ref e.1) else m z) "cert" = some (.ref e.1) := rfl
  generalize (fun z => if z = ("deed" : Str) then some (Value.int dd td) else if z = ("cert" : Str) then some (.ref e.1) else m z) = m₁ at F₁ M₁ md₁ mc₁
  have P₁ := P.more (fun q hq => hq) N₁
  walk_at "st"
  refine law_w1 hl0 S rfl F₁ N₁ r P₁ md₁ ((M₁ _ (by decide)).trans mr) d0 d7 fun dd td m₂ s₂ A₂ d0 d7 hne M₂ md₂ F₂ N₂ => ?_
  dsimp only
  have P₂ := P.more (fun q hq => hq) N₂
  have mr₂ : m₂ "row" = some (.ref rr) := (M₂ _ (by decide)).trans ((M₁ _ (by decide)).trans mr)
  walk_at "st"
  refine law_w2 hl0 S rfl F₂ N₂ r P₂ mr₂ (by have := P.len; omega) fun D hvs nD co ν₃ s₃ A₃ s3 K₃ F₃ N₃ P₃ hc cd dD dne acc => ?_
  dsimp only
  walk_at "st"
  refine law_w3 hl0 S rfl F₃ N₃ ((M₂ _ (by decide)).trans mc₁) (P₃.PO.c e he) fun mk t1 t2 s₄ A₄ F₄ N₄ => ?_
  dsimp only
  have M₄ : MK ["mark"] m₂ (fun z => if z = ("mark" : Str) then some (.ref mk) else m₂ z) := fun y hy => by
    simp only [List.mem_cons, not_or] at hy
    simp only [hy.1, if_false]
  have mm₄ : (fun z => if z = ("mark" : Str) then some (.ref mk) else m₂ z) "mark" = some (.ref mk) := rfl
  generalize (fun z => if z = ("mark" : Str) then some (Value.ref mk) else m₂ z) = m₄ at F₄ M₄ mm₄
  have tl : ∀ q ∈ ν₃, q ∈ ((mk, tupObj (.str e.2.iss t1) (.int e.2.ser t2)) :: ν₃) := fun q hq => .tail _ hq
  have P₄ := P₃.more tl N₄
  have dl : D ≠ l := fun q => by
    obtain ⟨n1, lm⟩ := P.lm
    exact dne _ lm q.symm
  have T : Turn w L pool row _ pl rr p l hs m₄ e D mk hvs nD := ⟨P₄, he, (M₄ _ (by decide)).trans ((M₂ _ (by decide)).trans mc₁), (M₄ _ (by decide)).trans mr₂, mm₄, ⟨t1, t2, .head _⟩, ⟨co, tl _ hc, cd⟩, tl _ dD, dl, acc.frz (Keep.of tl)⟩
  walk_at "st"
  refine law_try hl0 S rfl F₄ N₄ r T ((M₄ _ (by decide)).trans md₂) d0 d7 hne fun row' ν₅ rr' m₅ s₅ A₅ s5 F₅ N₅ P₅ M₅ mr₅ => ?_
  dsimp only
  walk_at "st"
  refine law_w5 hl0 S rfl F₅ N₅ r P₅ mr₅ fun D' vs' nD' ν₆ s₆ A₆ F₆ N₆ s6 I₆ => ?_
  dsimp only
  have M₆ : MK ["numbers_in"] m₅ (fun z => if z = ("numbers_in" : Str) then some (.ref D') else m₅ z) := fun y hy => by
    simp only [List.mem_cons, not_or] at hy
    simp only [hy.1, if_false]
  have mi₆ : (fun z => if z = ("numbers_in" : Str) then some (.ref D') else m₅ z) "numbers_in" = some (.ref D') := rfl
  generalize (fun z => if z = ("numbers_in" : Str) then some (Value.ref D') else m₅ z) = m₆ at F₆ M₆ mi₆
  have P₆ := P₅.more (fun q hq => .tail _ (s6 q hq)) N₆
  have mr₆ : m₆ "row" = some (.ref rr') := (M₆ _ (by decide)).trans mr₅
  walk_at "st"
  refine law_w6 hl0 S rfl F₆ N₆ r P₆ mr₆ mi₆ (.head _) I₆ fun ν₇ s₇ A₇ F₇ N₇ s7 => ?_
  dsimp only
  have P₇ := P₆.more s7 N₇
  walk_at "st"
  refine law_w7 hl0 S rfl F₇ N₇ r P₇ mr₆ fun s₈ A₈ F₈ N₈ => ?_
  dsimp only
  walk_at "st"
  refine k row' ν₇ rr' m₆ s₈ (A₁.trans (A₂.trans (A₃.trans (A₄.trans (A₅.trans (A₆.trans (A₇.trans A₈))))))) (fun q hq a b c => s7 _ (.tail _ (s6 _ (s5 _ (tl _ (s3 q hq c)) a b)))) F₈ N₈ (P₇.more (fun q hq => hq) N₈) ?_ mr₆
  exact ((((M₁.trans (zs := turnNames) M₂ (by decide) (by decide)).trans (zs := turnNames) M₄ (fun _ h => h) (by decide)).trans (zs := turnNames) M₅ (fun _ h => h) (by decide)).trans (zs := turnNames) M₆ (fun _ h => h) (by decide))
end
theorem range2_size {n : Nat} (hn : 2 ≤ n) : Builtin.Range.rangeSize 0 ((n : Int) - 1) 2 = (((n - 2) / 2 + 1 : Nat) : Int) := by
  unfold Builtin.Range.rangeSize
  rw [if_pos (by decide), if_pos (by omega)]
  omega
theorem range2_small {n : Nat} (hn : 2 ≤ n) (h : n ≤ 100) : Builtin.Range.small 0 ((n : Int) - 1) 2 = true := by
  unfold Builtin.Range.small
  rw [range2_size hn]
  have fit : ∀ z : Int, 0 ≤ z → z ≤ 1000 → Builtin.Range.rangeFitsLong z = true := fun z a b => by
    unfold Builtin.Range.rangeFitsLong
    simp only [Bool.and_eq_true, decide_eq_true_eq]
    omega
  rw [fit 0 (by decide) (by decide), fit ((n : Int) - 1) (by omega) (by omega), fit 2 (by decide) (by decide), fit _ (Int.natCast_nonneg _) (by omega), if_pos (by decide), fit _ (by omega) (by omega)]
  simp
theorem mk_range3 {b : Int} {t u v : Tok} (hb0 : 0 ≤ b) (hb1 : b ≤ 1000) (F : Fr h₀ L s.heap m) (N : News h₀ L s.heap ν) (k : ∀ ro h' tk, Fr h₀ L h' m → News h₀ L h' ((ro, rangeO 0 b 2 t u v) :: ν) → Q (.ref ro) { s with heap := h', toks := tk }) : wpAny (Mo w) A (call (.type "range") [.int 0 t, .int b u, .int 2 v]) Q E s :=
  call_range_3 (by decide) (k _ _ _ (F.push _) (N.push F _))
theorem iter_range2 {ro : Addr} {n : Nat} {t u v : Tok} (F : Fr h₀ L s.heap m) (N : News h₀ L s.heap ν) (hr : (ro, rangeO 0 ((n : Int) - 1) 2 t u v) ∈ ν) (hn : 2 ≤ n) (h : n ≤ 100) (k : ∀ it h', Fr h₀ L h' m → News h₀ L h' ((it, rgObj 0 (((n - 2) / 2 + 1 : Nat) : Int) 2) :: ν) → Q (.ref it) { s with heap := h' }) : wpAny (Mo w) A (pyIter (.ref ro)) Q E s := by
  refine wpAny_pyIter_range (N _ hr).1 (range2_small hn h) ?_
  rw [range2_size hn]
  exact k _ _ (F.push _) (N.push F _)
theorem rg_ne_list {x y z : Int} {its : Array Value} {k : Nat} : listOf its k ≠ rgObj x y z := fun e => tne (by decide) (congrArg Obj.cls e)
theorem rg_ne_set {x y z : Int} : setObj es n2 t ≠ rgObj x y z := fun e => tne (by decide) (congrArg Obj.cls e)

section
variable {pool prow vrow : Row} {pl rr nl nin it : Addr} {e : Addr × CD} {nvs ivs : Array Value} {ns : List Int} {nn nI : Nat} {kk : Nat} {tk td : Tok} {dd : Int}
/-- a range's iterator has gone on -/
theorem LP.rng {h h' : Heap} {x y z : Int} {o' : Obj} (P : LP w L pool prow vrow ν pl rr p l hs) (N : News h₀ L h ν) (hi : (it, rgObj x y z) ∈ ν) (N' : News h₀ L h' ((it, o') :: wo it ν)) :
    LP w L pool prow vrow ((it, o') :: wo it ν) pl rr p l hs := by
  have K : Keep ν ((it, o') :: wo it ν) := (wo_keep N (N _ hi).1 nf_range).trans (Keep.of fun q hq => .tail _ hq)
  have kl : ∀ {a : Addr} {its : Array Value} {k : Nat}, (a, listOf its k) ∈ ν → (a, listOf its k) ∈ ((it, o') :: wo it ν) := fun x => .tail _ (mem_wo_of N x hi rg_ne_list)
  have kc : ∀ {a : Addr} {o : Obj} {v : Option Value}, (a, o) ∈ ν → o.data = .cell v → (a, o) ∈ ((it, o') :: wo it ν) := fun x hd => .tail _ (mem_wo_of N x hi fun e => range_ne_cell hd e.symm)
  obtain ⟨es, t, n2, hm, O⟩ := P.hm
  obtain ⟨po, pc, pd⟩ := P.pc
  obtain ⟨co, cv, hc, cd⟩ := P.hc
  exact ⟨P.pool4, P.PO.frz K, let ⟨n, a⟩ := P.pm; ⟨n, kl a⟩, P.pne, let ⟨n, a⟩ := P.lm; ⟨n, kl a⟩, ⟨es, t, n2, .tail _ (mem_wo_of N hm hi rg_ne_set), O.frz K N'⟩, P.P.frz K, let ⟨n, a⟩ := P.rm; ⟨n, kl a⟩, P.rne,
    ⟨po, kc pc pd, pd⟩, ⟨co, cv, kc hc cd, cd⟩, P.sub, P.vsub, P.nd⟩

theorem rg2_next {i n : Nat} {Q : Option Value → Shared → Prop} (hh : A.handled = none) (hi : i ≤ n) (F : Fr h₀ L s.heap m) (N : News h₀ L s.heap ν) (hm : (it, rgObj (2 * (i : Nat) : Int) ((n : Int) - (i : Nat)) 2) ∈ ν)
    (hs : i < n → ∀ t h' tk, Fr h₀ L h' m → News h₀ L h' ((it, rgObj (2 * ((i + 1 : Nat) : Int)) ((n : Int) - ((i + 1 : Nat) : Int)) 2) :: wo it ν) → Q (some (.int ((2 * i : Nat) : Int) t)) { s with heap := h', toks := tk })
    (hn : i = n → ∀ h', Fr h₀ L h' m → News h₀ L h' (wo it ν) → Q none { s with heap := h' }) : wpAny (Mo w) A (pyNext (.ref it)) Q E s := by
  have hit := (N _ hm).1
  have ne := (N _ hm).2.1
  have fresh : h₀.get? it = none := (N _ hm).2.2
  rcases Nat.lt_or_ge i n with hlt | hge
  · refine wpAny_pyNext_range_item hit (by omega) fun h' hit' hsb => ?_
    rw [show (2 * (i : Nat) : Int) = ((2 * i : Nat) : Int) by omega]
    refine hs hlt _ h' _ (F.change hsb ne fresh) ?_
    refine List.forall_mem_cons.mpr ⟨⟨?_, ne, fresh⟩, fun q hq => ⟨(hsb.2 q.1 (wo_off q hq)).trans (N q (wo_sub q hq)).1, (N q (wo_sub q hq)).2⟩⟩
    have e1 : 2 * ((i : Nat) : Int) + 2 = 2 * ((i + 1 : Nat) : Int) := by omega
    have e2 : (n : Int) - (i : Nat) - 1 = (n : Int) - ((i + 1 : Nat) : Int) := by omega
    rw [e1, e2] at hit'
    exact hit'
  · refine wpAny_pyNext_range_end hh hit (by omega) fun h' hx => ?_
    refine hn (Nat.le_antisymm hi hge) h' ⟨?_, fun b o e => hx b o (fun q => by rw [q, fresh] at e; cases e) (F.keep b o e), F.above⟩ (fun q hq => ⟨hx q.1 q.2 (wo_off q hq) (N q (wo_sub q hq)).1, (N q (wo_sub q hq)).2⟩)
    obtain ⟨oL, q1, q2, qo, q3⟩ := F.ns
    exact ⟨oL, q1, q2, hx L oL (Ne.symm ne) qo, q3⟩
theorem LP.woR {h : Heap} {x y z : Int} (P : LP w L pool prow vrow ν pl rr p l hs) (N : News h₀ L h ν) (hi : (it, rgObj x y z) ∈ ν) {h' : Heap} (N' : News h₀ L h' (wo it ν)) :
    LP w L pool prow vrow (wo it ν) pl rr p l hs := by
  have K : Keep ν (wo it ν) := wo_keep N (N _ hi).1 nf_range
  have kl : ∀ {a : Addr} {its : Array Value} {k : Nat}, (a, listOf its k) ∈ ν → (a, listOf its k) ∈ wo it ν := fun x => mem_wo_of N x hi rg_ne_list
  have kc : ∀ {a : Addr} {o : Obj} {v : Option Value}, (a, o) ∈ ν → o.data = .cell v → (a, o) ∈ wo it ν := fun x hd => mem_wo_of N x hi fun e => range_ne_cell hd e.symm
  obtain ⟨es, t, n2, hm, O⟩ := P.hm
  obtain ⟨po, pc, pd⟩ := P.pc
  obtain ⟨co, cv, hc, cd⟩ := P.hc
  exact ⟨P.pool4, P.PO.frz K, let ⟨n, a⟩ := P.pm; ⟨n, kl a⟩, P.pne, let ⟨n, a⟩ := P.lm; ⟨n, kl a⟩, ⟨es, t, n2, mem_wo_of N hm hi rg_ne_set, O.frz K N'⟩, P.P.frz K, let ⟨n, a⟩ := P.rm; ⟨n, kl a⟩, P.rne,
    ⟨po, kc pc pd, pd⟩, ⟨co, cv, kc hc cd, cd⟩, P.sub, P.vsub, P.nd⟩

theorem law_s5 {name qual : Str} {params : Arguments} {body : List Stmt} {scope : Scope} {cdv : Value} {st : Stmt} {QF : Flow → Shared → Prop} (hl : LawIs w name qual params body scope cdv) (S : Sx w A₀ h₀ outer (lawEnv scope L cdv) h₀ L mg mb mean loose) (hst : nav [5] body = some st) (F : Fr h₀ L s.heap m) (N : News h₀ L s.heap ν) (r : Rm (A₀.deeper (lawEnv scope L cdv)) (lawEnv scope L cdv :: outer) 30)
    (P : LP w L pool row row ν pl rr p l hs) (mp : m "pool" = some (.ref pl)) (mn : m "numbers" = some (.ref nl)) (mr : m "row" = some (.ref rr)) (hn : (nl, listOf nvs nn) ∈ ν) (nne : nl ≠ l) (hI : IntsAre nvs.toList ns) (h100 : ns.length ≤ 100) (h2 : 2 ≤ ns.length)
    (k : ∀ row' ν' rr' m' s', Aft s s' → Fr h₀ L s'.heap m' → News h₀ L s'.heap ν' → LP w L pool row' row' ν' pl rr' p l hs → m' "pool" = some (.ref pl) → m' "row" = some (.ref rr') → QF .next s') :
    wpAny (Mo w) (A₀.deeper (lawEnv scope L cdv)) (exec st (lawEnv scope L cdv)) QF (fun _ _ => False) s := by
  have hl0 := hl
  obtain ⟨dV, kV, doc, pm, ct, oc, an, od, osl, hb⟩ := hl.hb
  clear hl
  have hl := hb.symm.trans (lk (K := hd.heap_1 w.params) (f := 308) (by k_is))
  injection hl with hl
  injection hl with _ _ hl _
  injection hl with hl
  injection hl with e1 e2 e3 e4 e5 e6 e7 e8 e9 e10 e11 e12 e13
  injection e4 with e4
  subst e4 e5 e13
  clear hb e1 e2 e3 e6 e7 e8 e9 e10 e11 e12
  injection hst with hst
  subst hst
  refine wpAny_For ?_
  have hlen : nvs.size = ns.length := by have := hI.length; rw [Array.length_toList] at this; exact this
  repeat walk_at "st"
  refine nameX_L F mn ?_
  walk_at "st"
  refine len_list ⟨_, (N _ hn).1, rfl, _, rfl⟩ (by rw [hlen]; omega) ?_
  rw [hlen]
  repeat walk_at "st"
  refine mk_range3 (by omega) (by omega) F N fun ro h₁ tk₁ F₁ N₁ => ?_
  refine iter_range2 F₁ N₁ (.head _) h2 h100 fun it h₂ F₂ N₂ => ?_
  obtain ⟨nT, hnT⟩ : ∃ nT, nT = (ns.length - 2) / 2 + 1 := ⟨_, rfl⟩
  rw [← hnT] at N₂
  replace N₂ : News h₀ L h₂ ((it, rgObj 0 ((nT : Nat) : Int) 2) :: ν) := news_sub N₂ (List.forall_mem_cons.mpr ⟨.head _, fun q hq => .tail _ (.tail _ hq)⟩)
  have up : ∀ q ∈ ν, q ∈ ((it, rgObj 0 ((nT : Nat) : Int) 2) :: ν) := fun q hq => .tail _ hq
  have st0 : (it, rgObj (2 * ((0 : Nat) : Int)) ((nT : Int) - ((0 : Nat) : Int)) 2) ∈ ((it, rgObj 0 ((nT : Nat) : Int) 2) :: ν) := by
    show (it, rgObj 0 ((nT : Int) - ((0 : Nat) : Int)) 2) ∈ _
    rw [show ((nT : Int) - ((0 : Nat) : Int)) = nT by omega]
    exact .head _
  refine codeAny_forLoop (fun k₀ s₁ => ∃ (i : Nat) (row' : Row) (ν' : List (Addr × Obj)) (rr' : Addr) (m' : Str → Option Value), k₀ = nT - i ∧ i ≤ nT ∧ Aft s s₁ ∧ Fr h₀ L s₁.heap m' ∧ News h₀ L s₁.heap ν' ∧ (it, rgObj (2 * (i : Nat) : Int) ((nT : Int) - (i : Nat)) 2) ∈ ν' ∧ (nl, listOf nvs nn) ∈ ν' ∧ LP w L pool row' row' ν' pl rr' p l hs ∧ m' "pool" = some (.ref pl) ∧ m' "numbers" = some (.ref nl) ∧ m' "row" = some (.ref rr')) (fun k₀ s₁ hI' => ?_) nT
    ⟨0, row, _, rr, m, rfl, Nat.zero_le _, ⟨rfl, rfl, fun h => h⟩, F₂, N₂, st0, up _ hn, P.more up N₂, mp, mn, mr⟩
  obtain ⟨i, row', ν₃, rr', m₃, rfl, hi, A₃, F₃, N₃, hit, hn₃, P₃, mp₃, mn₃, mr₃⟩ := hI'
  refine rg2_next r.hh hi F₃ N₃ hit (fun hlt t h₄ tk₄ F₄ N₄ => ?_) fun he h₄ F₄ N₄ => ?_
  · have P₄ := P₃.rng N₃ hit N₄
    have hn₄ : (nl, listOf nvs nn) ∈ ((it, rgObj (2 * ((i + 1 : Nat) : Int)) ((nT : Int) - ((i + 1 : Nat) : Int)) 2) :: wo it ν₃) := .tail _ (mem_wo_of N₃ hn₃ hit rg_ne_list)
    refine wpAny_assign_Name (storeX_L F₄ N₄ fun h₅ F₅ N₅ => ?_)
    refine wpAny_mono (law_turn (st := .For _ _ _ _ _) hl0 S rfl F₅ N₅ r (P₄.more (fun q hq => hq) N₅) mp₃ mn₃ mr₃ rfl hn₄ hI h100 (by omega) fun row₆ ν₆ rr₆ m₆ s₆ A₆ s6 F₆ N₆ P₆ M₆ mr₆ => ?_) (fun _ _ x => x) (fun _ _ x => x.elim)
    refine ⟨nT - (i + 1), by omega, i + 1, row₆, ν₆, rr₆, m₆, rfl, hlt, ⟨A₆.d.trans A₃.d, A₆.o.trans A₃.o, fun z => A₆.g (A₃.g z)⟩, F₆, N₆, s6 _ (.head _) ?_ ?_ ?_, s6 _ hn₄ nne ?_ ?_, P₆, (M₆ _ (by decide)).trans mp₃, (M₆ _ (by decide)).trans mn₃, mr₆⟩
    · obtain ⟨n1, lm⟩ := P₄.lm
      exact news_ne N₅ (.head _) lm fun e => rg_ne_list e.symm
    · obtain ⟨es, t, n2, hm, O⟩ := P₄.hm
      exact news_ne N₅ (.head _) hm fun e => rg_ne_set e.symm
    · obtain ⟨co, cv, hc, cd⟩ := P₄.hc
      exact news_ne N₅ (.head _) hc (range_ne_cell cd)
    · obtain ⟨es, t, n2, hm, O⟩ := P₄.hm
      exact news_ne N₅ hn₄ hm fun e => tne (by decide) (congrArg Obj.cls e)
    · obtain ⟨co, cv, hc, cd⟩ := P₄.hc
      exact news_ne N₅ hn₄ hc (list_ne_cell cd)
  · walk_at "st"
    exact k row' _ rr' m₃ _ ⟨A₃.d, A₃.o, A₃.g⟩ F₄ N₄ (P₃.woR N₃ hit N₄) mp₃ mr₃
end
section
variable {pool prow vrow : Row} {pl rr nl nin it : Addr} {e : Addr × CD} {nvs ivs : Array Value} {ns : List Int} {nn nI : Nat} {kk : Nat} {tk td : Tok} {dd : Int}
/-- another object at an address that holds none of the law's places -/
theorem LP.chg {h h' : Heap} {o o' : Obj} (P : LP w L pool prow vrow ν pl rr p l hs) (N : News h₀ L h ν) (hi : (it, o) ∈ ν) (hz : ¬ Frz o) (z1 : o.cls ≠ .type "list") (z2 : o.cls ≠ .type "set") (z3 : ∀ v, o.data ≠ .cell v) (N' : News h₀ L h' ((it, o') :: wo it ν)) :
    LP w L pool prow vrow ((it, o') :: wo it ν) pl rr p l hs := by
  have K : Keep ν ((it, o') :: wo it ν) := (wo_keep N (N _ hi).1 hz).trans (Keep.of fun q hq => .tail _ hq)
  have kl : ∀ {a : Addr} {its : Array Value} {k : Nat}, (a, listOf its k) ∈ ν → (a, listOf its k) ∈ ((it, o') :: wo it ν) := fun x => .tail _ (mem_wo_of N x hi fun e => z1 (e ▸ rfl))
  have kc : ∀ {a : Addr} {q : Obj} {v : Option Value}, (a, q) ∈ ν → q.data = .cell v → (a, q) ∈ ((it, o') :: wo it ν) := fun x hd => .tail _ (mem_wo_of N x hi fun e => z3 _ (e ▸ hd))
  obtain ⟨es, t, n2, hm, O⟩ := P.hm
  obtain ⟨po, pc, pd⟩ := P.pc
  obtain ⟨co, cv, hc, cd⟩ := P.hc
  exact ⟨P.pool4, P.PO.frz K, let ⟨n, a⟩ := P.pm; ⟨n, kl a⟩, P.pne, let ⟨n, a⟩ := P.lm; ⟨n, kl a⟩, ⟨es, t, n2, .tail _ (mem_wo_of N hm hi fun e => z2 (e ▸ rfl)), O.frz K N'⟩, P.P.frz K, let ⟨n, a⟩ := P.rm; ⟨n, kl a⟩, P.rne,
    ⟨po, kc pc pd, pd⟩, ⟨co, cv, kc hc cd, cd⟩, P.sub, P.vsub, P.nd⟩
theorem LP.keep {ν' : List (Addr × Obj)} {h : Heap} (P : LP w L pool prow vrow ν pl rr p l hs) (K : Keep ν ν') (kl : ∀ q ∈ ν, (q.1 = pl ∨ q.1 = l ∨ q.1 = hs ∨ q.1 = rr ∨ q.1 = L + 1 ∨ q.1 = L + 2) → q ∈ ν') (N' : News h₀ L h ν') : LP w L pool prow vrow ν' pl rr p l hs := by
  obtain ⟨es, t, n2, hm, O⟩ := P.hm
  obtain ⟨po, pc, pd⟩ := P.pc
  obtain ⟨co, cv, hc, cd⟩ := P.hc
  exact ⟨P.pool4, P.PO.frz K, let ⟨n, a⟩ := P.pm; ⟨n, kl _ a (.inl rfl)⟩, P.pne, let ⟨n, a⟩ := P.lm; ⟨n, kl _ a (.inr (.inl rfl))⟩, ⟨es, t, n2, kl _ hm (.inr (.inr (.inl rfl))), O.frz K N'⟩, P.P.frz K, let ⟨n, a⟩ := P.rm; ⟨n, kl _ a (.inr (.inr (.inr (.inl rfl))))⟩, P.rne,
    ⟨po, kl _ pc (.inr (.inr (.inr (.inr (.inl rfl))))), pd⟩, ⟨co, cv, kl _ hc (.inr (.inr (.inr (.inr (.inr rfl))))), cd⟩, P.sub, P.vsub, P.nd⟩
theorem LP.at (P : LP w L pool prow vrow ν pl rr p l hs) : ∀ a, (a = pl ∨ a = l ∨ a = hs ∨ a = rr ∨ a = L + 1 ∨ a = L + 2) → ∃ o, (a, o) ∈ ν := by
  obtain ⟨np, pm⟩ := P.pm
  obtain ⟨n1, lm⟩ := P.lm
  obtain ⟨es, t, n2, hm, O⟩ := P.hm
  obtain ⟨nr, rm⟩ := P.rm
  obtain ⟨po, pc, pd⟩ := P.pc
  obtain ⟨co, cv, hc, cd⟩ := P.hc
  rintro a (rfl | rfl | rfl | rfl | rfl | rfl)
  · exact ⟨_, pm⟩
  · exact ⟨_, lm⟩
  · exact ⟨_, hm⟩
  · exact ⟨_, rm⟩
  · exact ⟨_, pc⟩
  · exact ⟨_, hc⟩
/-- the twin: a second path, its list and set at the head of the ledger -/
structure TW (w : World) (h₀ : Heap) (L : Addr) (h : Heap) (trow : Row) (ν : List (Addr × Obj)) (p2 l2 h2 : Addr) : Prop where
  P : PathIn ν p2 l2 h2
  ol : ∀ q ∈ ν, q.1 ≠ l2
  oh : ∀ q ∈ ν, q.1 ≠ h2
  N : ∃ n1 es t n2, News h₀ L h ((l2, listOf (items trow) n1) :: (h2, setObj es n2 t) :: ν) ∧ SetOk w ν es t (marks trow)
theorem law_s6 {name qual : Str} {params : Arguments} {body : List Stmt} {scope : Scope} {cdv : Value} {st : Stmt} {QF : Flow → Shared → Prop} (hl : LawIs w name qual params body scope cdv) (S : Sx w A₀ base outer (lawEnv scope L cdv) h₀ L mg mb mean loose) (hst : nav [6] body = some st) (F : Fr h₀ L s.heap m) (N : News h₀ L s.heap ν) (r : Rm A (lawEnv scope L cdv :: outer) 30)
    (P : LP w L pool row row ν pl rr p l hs) (mr : m "row" = some (.ref rr))
    (k : ∀ p2 l2 h2 D hvs nD co ν' s', Aft s s' → Fr h₀ L s'.heap (fun z => if z = "twin" then some (.ref p2) else m z) → TW w h₀ L s'.heap [] ν' p2 l2 h2 → LP w L pool row row ν' pl rr p l hs → (L + 2, co) ∈ ν' → co.data = .cell (some (.ref D)) → (D, listOf hvs nD) ∈ ν' → AccMark row [] row.length hvs ν' → QF .next s') :
    wpAny (Mo w) A (exec st (lawEnv scope L cdv)) QF E s := by
  obtain ⟨dV, kV, doc, pm, ct, oc, an, od, osl, hb⟩ := hl.hb
  clear hl
  have hl := hb.symm.trans (lk (K := hd.heap_1 w.params) (f := 308) (by k_is))
  injection hl with hl
  injection hl with _ _ hl _
  injection hl with hl
  injection hl with e1 e2 e3 e4 e5 e6 e7 e8 e9 e10 e11 e12 e13
  injection e4 with e4
  subst e4 e5 e13
  clear hb e1 e2 e3 e6 e7 e8 e9 e10 e11 e12
  injection hst with hst
  subst hst
  have hlen := P.len
  refine Assign_Tuple ?_
  repeat walk_at "st"
  refine callWith_K0 (S.X.keeps F.keep) kPkeep ?_
  refine path_new S F N r.le fun p2 dp l2 h2 es t n1 n2 nn x1 x2 t1 t2 h₁ tk₁ a1 a2 a3 a4 F₁ N₁ O => ?_
  generalize hs1 : ({ s with heap := h₁, toks := tk₁ } : Shared) = s₁
  have eh : s₁.heap = h₁ := by rw [← hs1]
  have A₁ : Aft s s₁ := by rw [← hs1]; exact ⟨rfl, rfl, fun h => h⟩
  rw [← eh] at F₁ N₁
  have up : ∀ q ∈ ν, q ∈ ((l2, listOf (items []) n1) :: (h2, setObj es n2 t) :: (p2, instObj 292 dp) :: (dp, pathD x1 x2 t1 t2 l2 h2 nn) :: ν) := fun q hq => .tail _ (.tail _ (.tail _ (.tail _ hq)))
  have P₁ := P.more up N₁
  obtain ⟨nr, rm⟩ := P.rm
  walk_at "st"
  refine comp_mark_list (ν := ((l2, listOf (items []) n1) :: (h2, setObj es n2 t) :: (p2, instObj 292 dp) :: (dp, pathD x1 x2 t1 t2 l2 h2 nn) :: ν)) (R := row) S F₁ N₁ r.le (nameX_L F₁ mr ⟨rr, nr, _, rfl, Aft.refl, F₁, N₁, fun q hq => hq, up _ rm⟩) P₁.CV (by omega) (fun D vs nD ν₂ s₂ A₂ F₂ N₂ sub off acc => ?_) rfl (by decide) rfl (by decide) rfl rfl
  walk_at "st"
  refine newTuple_N F₂ N₂ fun h₃ F₃ N₃ => ?_
  refine unpackN_ F₃ N₃ ⟨_, (N₃ _ (.head _)).1, rfl, _, rfl⟩ r.hh rfl rfl fun h₄ F₄ N₄ => ?_
  replace N₄ := news_sub N₄ fun q hq => List.Mem.tail _ hq
  refine wpAny_bind (wpAny_holding (wpAny_assign_Name (storeX_L F₄ N₄ fun h₅ F₅ N₅ => ?_)))
  obtain ⟨co, cv, hc, cd⟩ := P.hc
  have hc5 : (L + 2, co) ∈ ((D, listOf vs nD) :: ν₂) := .tail _ (sub _ (up _ hc))
  have N₆ := news_wo N₅ hc5
  refine wpAny_bind (wpAny_holding (wpAny_assign_Name (storeX_C F₅ N₆ rfl (UpdF.head wo_off) cd fun h₇ co' F₇ N₇ hco => ?_)))
  refine wpAny_pure ?_
  have P₂ := P₁.more (fun q hq => List.Mem.tail (D, listOf vs nD) (sub q hq)) N₅
  have P₃ := P₂.held N₅ hc5 cd hco N₇
  have K5 : Keep ((D, listOf vs nD) :: ν₂) ((L + 2, co') :: wo (L + 2) ((D, listOf vs nD) :: ν₂)) := (wo_keep N₅ (N₅ _ hc5).1 (nf_cell cd)).trans (Keep.of fun q hq => .tail _ hq)
  have ml : (l2, listOf (items []) n1) ∈ ((D, listOf vs nD) :: ν₂) := .tail _ (sub _ (.head _))
  have mh : (h2, setObj es n2 t) ∈ ((D, listOf vs nD) :: ν₂) := .tail _ (sub _ (.tail _ (.head _)))
  have ml3 : (l2, listOf (items []) n1) ∈ ((L + 2, co') :: wo (L + 2) ((D, listOf vs nD) :: ν₂)) := .tail _ (mem_wo_of N₅ ml hc5 (list_ne_cell cd))
  have mh3 : (h2, setObj es n2 t) ∈ ((L + 2, co') :: wo (L + 2) ((D, listOf vs nD) :: ν₂)) := .tail _ (mem_wo_of N₅ mh hc5 (set_ne_cell cd))
  have K7 := keep2 N₇ ml3 mh3 nf_list nf_set
  have old : ∀ a, (∃ o, (a, o) ∈ ν) → a ≠ l2 ∧ a ≠ h2 := fun a ⟨o, ho⟩ => by
    have := a1 _ ho
    exact ⟨Nat.ne_of_lt (Nat.lt_trans this (Nat.lt_trans a2 a3)), Nat.ne_of_lt (Nat.lt_trans this (Nat.lt_trans a2 (Nat.lt_trans a3 a4)))⟩
  have N₈ := news_head2 N₇ ml3 mh3
  have NR : News h₀ L h₇ (wo l2 (wo h2 ((L + 2, co') :: wo (L + 2) ((D, listOf vs nD) :: ν₂)))) := news_sub N₈ fun q hq => .tail _ (.tail _ hq)
  have P₄ := P₃.keep K7 (fun q hq hp => by
    obtain ⟨x, y⟩ := old q.1 (P.at q.1 hp)
    exact mem_wo.mpr ⟨mem_wo.mpr ⟨hq, y⟩, x⟩) NR
  have PI : PathIn ((l2, listOf (items []) n1) :: (h2, setObj es n2 t) :: (p2, instObj 292 dp) :: (dp, pathD x1 x2 t1 t2 l2 h2 nn) :: ν) p2 l2 h2 := ⟨dp, t1, t2, x1, x2, nn, .tail _ (.tail _ (.head _)), .tail _ (.tail _ (.tail _ (.head _)))⟩
  have Dne : D ≠ l2 ∧ D ≠ h2 := ⟨fun q => off _ (sub _ (.head _)) q.symm, fun q => off _ (sub _ (.tail _ (.head _))) q.symm⟩
  refine k p2 l2 h2 D vs nD co' _ _ ⟨A₂.d.trans A₁.d, A₂.o.trans A₁.o, fun z => A₂.g (A₁.g z)⟩ F₇ ⟨((PI.mono fun q hq => List.Mem.tail (D, listOf vs nD) (sub q hq)).frz K5).frz K7, wo_off, off2, n1, es, t, n2, N₈, O _⟩ P₄ ?_ hco ?_ ((acc.frz (Keep.of fun q hq => List.Mem.tail (D, listOf vs nD) hq)).frz (K5.trans K7))
  · obtain ⟨x, y⟩ := old (L + 2) ⟨_, hc⟩
    exact mem_wo.mpr ⟨mem_wo.mpr ⟨.head _, y⟩, x⟩
  · exact mem_wo.mpr ⟨mem_wo.mpr ⟨.tail _ (mem_wo_of N₅ (.head _) hc5 (list_ne_cell cd)), Dne.2⟩, Dne.1⟩
end
theorem nf_iter {o : Obj} (h : o.cls = .type "list_iterator") : ¬ Frz o := fun z => z.2.2.2.2 h
theorem iter_ne_list {o : Obj} {its : Array Value} {k : Nat} (h : o.cls = .type "list_iterator") : listOf its k ≠ o := fun e => by rw [← e] at h; exact tne (by decide) h
theorem iter_ne_set {o : Obj} (h : o.cls = .type "list_iterator") : setObj es n2 t ≠ o := fun e => by rw [← e] at h; exact tne (by decide) h
section
variable {pool prow vrow trow : Row} {pl rr nl nin it p2 l2 h2 : Addr} {e : Addr × CD} {nvs ivs : Array Value} {ns : List Int} {nn nI : Nat} {kk : Nat} {tk td : Tok} {dd : Int} {x : Str} {o o' : Obj}
theorem TW.store (T : TW w h₀ L s.heap trow ν p2 l2 h2) (F : Fr h₀ L s.heap m) {cs : Scope} {ccd : Value} {v : Value} {Q : Unit → Shared → Prop} (hk : cs.kind = .function) (hx : (lawEnv cs L ccd).kindOf x = some .local)
    (k : ∀ h', Fr h₀ L h' (fun y => if y = x then some v else m y) → TW w h₀ L h' trow ν p2 l2 h2 → Q () { s with heap := h', toks := s.toks + 1 }) : wpAny (Mo w) A (storeName (lawEnv cs L ccd) x v) Q E s := by
  obtain ⟨P, ol, oh, n1, es, t, n2, N, O⟩ := T
  exact storeX_L F N (fun h' F' N' => k h' F' ⟨P, ol, oh, n1, es, t, n2, N', O⟩) hk hx
/-- the twin, another object at an address of the rest -/
theorem TW.chg {h h' : Heap} (T : TW w h₀ L h trow ν p2 l2 h2) (hi : (it, o) ∈ ν) (hz : ¬ Frz o) (hs : Heap.SameBut it h h') (e' : h'.get? it = some o') : TW w h₀ L h' trow ((it, o') :: wo it ν) p2 l2 h2 := by
  obtain ⟨P, ol, oh, n1, es, t, n2, N, O⟩ := T
  have hi' := N _ (.tail _ (.tail _ hi))
  have K : Keep ν ((it, o') :: wo it ν) := (wo_keep (news_sub N fun q hq => .tail _ (.tail _ hq)) hi'.1 hz).trans (Keep.of fun q hq => .tail _ hq)
  have N' : News h₀ L h' ((l2, listOf (items trow) n1) :: (h2, setObj es n2 t) :: (it, o') :: wo it ν) :=
    List.forall_mem_cons.mpr ⟨⟨(hs.2 _ (Ne.symm (ol _ hi))).trans (N _ (.head _)).1, (N _ (.head _)).2⟩, List.forall_mem_cons.mpr ⟨⟨(hs.2 _ (Ne.symm (oh _ hi))).trans (N _ (.tail _ (.head _))).1, (N _ (.tail _ (.head _))).2⟩,
      List.forall_mem_cons.mpr ⟨⟨e', hi'.2⟩, fun q hq => ⟨(hs.2 _ (wo_off q hq)).trans (N _ (.tail _ (.tail _ (wo_sub q hq)))).1, (N _ (.tail _ (.tail _ (wo_sub q hq)))).2⟩⟩⟩⟩
  exact ⟨P.frz K, List.forall_mem_cons.mpr ⟨ol (it, o) hi, fun q hq => ol q (wo_sub q hq)⟩, List.forall_mem_cons.mpr ⟨oh (it, o) hi, fun q hq => oh q (wo_sub q hq)⟩, n1, es, t, n2, N', O.frz K (news_sub N' fun q hq => .tail _ (.tail _ hq))⟩
theorem TW.drop {h h' : Heap} (T : TW w h₀ L h trow ν p2 l2 h2) (hi : (it, o) ∈ ν) (hz : ¬ Frz o) (hs : Heap.ExtBut it h h') : TW w h₀ L h' trow (wo it ν) p2 l2 h2 := by
  obtain ⟨P, ol, oh, n1, es, t, n2, N, O⟩ := T
  have hi' := N _ (.tail _ (.tail _ hi))
  have K : Keep ν (wo it ν) := wo_keep (news_sub N fun q hq => .tail _ (.tail _ hq)) hi'.1 hz
  have N' : News h₀ L h' ((l2, listOf (items trow) n1) :: (h2, setObj es n2 t) :: wo it ν) :=
    List.forall_mem_cons.mpr ⟨⟨hs _ _ (Ne.symm (ol _ hi)) (N _ (.head _)).1, (N _ (.head _)).2⟩, List.forall_mem_cons.mpr ⟨⟨hs _ _ (Ne.symm (oh _ hi)) (N _ (.tail _ (.head _))).1, (N _ (.tail _ (.head _))).2⟩,
      fun q hq => ⟨hs _ _ (wo_off q hq) (N _ (.tail _ (.tail _ (wo_sub q hq)))).1, (N _ (.tail _ (.tail _ (wo_sub q hq)))).2⟩⟩⟩
  exact ⟨P.frz K, fun q hq => ol q (wo_sub q hq), fun q hq => oh q (wo_sub q hq), n1, es, t, n2, N', O.frz K (news_sub N' fun q hq => .tail _ (.tail _ hq))⟩

theorem law_s7 {name qual : Str} {params : Arguments} {body : List Stmt} {scope : Scope} {cdv : Value} {st : Stmt} {QF : Flow → Shared → Prop} (hl : LawIs w name qual params body scope cdv) (S : Sx w A₀ base outer (lawEnv scope L cdv) h₀ L mg mb mean loose) (hst : nav [7] body = some st) (F : Fr h₀ L s.heap m) (T : TW w h₀ L s.heap [] ν p2 l2 h2) (r : Rm A (lawEnv scope L cdv :: outer) 30)
    (P : LP w L pool row row ν pl rr p l hs) (mr : m "row" = some (.ref rr)) (mt : m "twin" = some (.ref p2))
    (k : ∀ ν' m' s', Aft s s' → Fr h₀ L s'.heap m' → TW w h₀ L s'.heap row ν' p2 l2 h2 → LP w L pool row row ν' pl rr p l hs → (∀ q ∈ ν, q ∈ ν') → MK ["one"] m m' → QF .next s') :
    wpAny (Mo w) A (exec st (lawEnv scope L cdv)) QF E s := by
  obtain ⟨dV, kV, doc, pm, ct, oc, an, od, osl, hb⟩ := hl.hb
  clear hl
  have hl := hb.symm.trans (lk (K := hd.heap_1 w.params) (f := 308) (by k_is))
  injection hl with hl
  injection hl with _ _ hl _
  injection hl with hl
  injection hl with e1 e2 e3 e4 e5 e6 e7 e8 e9 e10 e11 e12 e13
  injection e4 with e4
  subst e4 e5 e13
  clear hb e1 e2 e3 e6 e7 e8 e9 e10 e11 e12
  injection hst with hst
  subst hst
  have hlen := P.len
  obtain ⟨nr, rm⟩ := P.rm
  obtain ⟨TP, ol, oh, n1, es, t, n2, N, O⟩ := T
  refine wpAny_For ?_
  refine nameX_L F mr ?_
  refine wpAny_pyIter_list (is_list N (.tail _ (.tail _ rm))) ?_
  obtain ⟨it, eit⟩ : ∃ it, it = s.heap.objs.size := ⟨_, rfl⟩
  have N₁ := N.push F { cls := .type "list_iterator", data := .fields #[.ref rr, .int 0 0] }
  have F₁ := F.push { cls := .type "list_iterator", data := .fields #[.ref rr, .int 0 0] }
  have lt : ∀ q ∈ ((l2, listOf (items []) n1) :: (h2, setObj es n2 t) :: ν), q.1 < it := fun q hq => eit ▸ Heap.lt_size (N q hq).1
  rw [← eit] at N₁ ⊢
  have T₁ : TW w h₀ L (s.heap.push { cls := .type "list_iterator", data := .fields #[.ref rr, .int 0 0] }) [] ((it, { cls := .type "list_iterator", data := .fields #[.ref rr, .int 0 0] }) :: ν) p2 l2 h2 := by
    have N₂ : News h₀ L _ ((l2, listOf (items []) n1) :: (h2, setObj es n2 t) :: (it, { cls := .type "list_iterator", data := .fields #[.ref rr, .int 0 0] }) :: ν) := news_sub N₁ (List.forall_mem_cons.mpr ⟨.tail _ (.head _), List.forall_mem_cons.mpr ⟨.tail _ (.tail _ (.head _)), List.forall_mem_cons.mpr ⟨.head _, fun q hq => .tail _ (.tail _ (.tail _ hq))⟩⟩⟩)
    exact ⟨TP.mono fun q hq => .tail _ hq, List.forall_mem_cons.mpr ⟨Nat.ne_of_gt (lt _ (.head _)), ol⟩, List.forall_mem_cons.mpr ⟨Nat.ne_of_gt (lt _ (.tail _ (.head _))), oh⟩, n1, es, t, n2, N₂, O.frz (Keep.of fun q hq => .tail _ hq) (news_sub N₂ fun q hq => .tail _ (.tail _ hq))⟩
  have nit : ∀ q ∈ ν, q.1 ≠ it := fun q hq => Nat.ne_of_lt (lt q (.tail _ (.tail _ hq)))
  have P₁ := P.more (fun q hq => List.Mem.tail (it, ({ cls := .type "list_iterator", data := .fields #[.ref rr, .int 0 0] } : Obj)) hq) (news_sub N₁ (List.forall_mem_cons.mpr ⟨.head _, fun q hq => .tail _ (.tail _ (.tail _ hq))⟩))
  refine codeAny_forLoop (fun k₀ s₁ => ∃ (i : Nat) (ν' : List (Addr × Obj)) (o : Obj) (m' : Str → Option Value), k₀ = row.length - i ∧ i ≤ row.length ∧ Aft s s₁ ∧ Fr h₀ L s₁.heap m' ∧ TW w h₀ L s₁.heap (row.take i) ν' p2 l2 h2 ∧ (it, o) ∈ ν' ∧ o.cls = .type "list_iterator" ∧ o.data = .fields #[.ref rr, .int (i : Nat) 0] ∧ LP w L pool row row ν' pl rr p l hs ∧ (∀ q ∈ ν, q ∈ ν') ∧ MK ["one"] m m') (fun k₀ s₁ hI' => ?_) row.length
    ⟨0, _, _, m, rfl, Nat.zero_le _, ⟨rfl, rfl, fun h => h⟩, F₁, T₁, .head _, rfl, rfl, P₁, fun q hq => .tail _ hq, fun y _ => rfl⟩
  obtain ⟨i, ν₂, o, m₂, rfl, hi, A₂, F₂, T₂, ho, hc, hd, P₂, sub₂, M₂⟩ := hI'
  obtain ⟨n3, es3, t3, n4, N₂, O₂⟩ := T₂.N
  have hit : s₁.heap.IsListIter it rr i := ⟨o, (N₂ _ (.tail _ (.tail _ ho))).1, hc, hd⟩
  have itn := N₂ _ (.tail _ (.tail _ ho))
  rcases Nat.lt_or_ge i row.length with hlt | hge
  · obtain ⟨e, he⟩ := at_row (row := row) i hlt
    refine wpAny_pyNext_list_item hit (is_list N₂ (.tail _ (.tail _ (sub₂ _ rm)))) (items_get he) fun h₃ hit₃ hsb => ?_
    obtain ⟨o₃, e₃, c₃, d₃⟩ := hit₃
    have T₃ := T₂.chg ho (nf_iter hc) hsb e₃
    have F₃ : Fr h₀ L h₃ m₂ := F₂.change hsb itn.2.1 itn.2.2
    obtain ⟨n5, es5, t5, n6, N₃, O₃⟩ := T₃.N
    have P₃ := P₂.chg (news_sub N₂ fun q hq => .tail _ (.tail _ hq)) ho (nf_iter hc) (fun q => tne (by decide) (hc.symm.trans q)) (fun q => tne (by decide) (hc.symm.trans q)) (fun v q => by rw [hd] at q; cases q) (news_sub N₃ fun q hq => .tail _ (.tail _ hq))
    have sub₃ : ∀ q ∈ ν, q ∈ ((it, o₃) :: wo it ν₂) := fun q hq => .tail _ (mem_wo.mpr ⟨sub₂ q hq, nit q hq⟩)
    refine wpAny_assign_Name (T₃.store (s := { s₁ with heap := h₃ }) F₃ rfl rfl fun h₄ F₄ T₄ => ?_)
    obtain ⟨n7, es7, t7, n8, N₄, O₄⟩ := T₄.N
    obtain ⟨dp, u1, u2, y1, y2, nn', hp1, hp2⟩ := id T₄.P
    have mt₄ : (fun y => if y = ("one" : Str) then some (Value.ref e.1) else m₂ y) "twin" = some (.ref p2) := (M₂ _ (by decide)).trans mt
    have M₄ : MK ["one"] m (fun y => if y = ("one" : Str) then some (Value.ref e.1) else m₂ y) := fun y hy => by
      have : y ≠ ("one" : Str) := by simpa using hy
      simp only [this, if_false]
      exact M₂ y hy
    refine gen_post fun Q' hQ => ?_
    walk_at "st"
    walk_at "st"
    refine MethodCall_ ?_
    refine nameX_L F₄ mt₄ ?_
    refine method_inst F₄ S.X (InstAt.of_news N₄ (.tail _ (.tail _ hp1)) (.tail _ (.tail _ hp2))) kP1 kPapp kPappF rfl ?_
    refine callWith_K S.X kPappK ?_
    walk_at "st"
    refine nameX_L F₄ rfl ?_
    walk_at "st"
    refine ⟨S.X.keeps F₄.keep, wpAny_call ?_⟩
    have tk1 : row.take (i + 1) = row.take i ++ [e] := by rw [List.take_add_one, he]; rfl
    have hk : mark e.2 ∉ marks (row.take i) := last_out (tk1 ▸ nodup_sub (List.take_sublist (i + 1) row) P.nd)
    refine append_ok (d := e.2) S F₄ N₄ T₄.ol T₄.oh T₄.P (P₃.CR e (List.mem_of_getElem? he)) O₄ hk (by rw [List.length_take]; omega) r.le fun ν₅ n9 es9 n10 t9 h₅ tk₅ s5 o5 o6 F₅ N₅ O₅ => ?_
    dsimp only
    walk_at "st"
    have N₅' : News h₀ L h₅ ν₅ := news_sub N₅ fun q hq => .tail _ (.tail _ hq)
    refine hQ _ _ ?_
    refine ⟨row.length - (i + 1), by omega, i + 1, ν₅, o₃, _, rfl, hlt, ⟨A₂.d, A₂.o, A₂.g⟩, F₅, ⟨T₄.P.mono s5, o5, o6, n9, es9, t9, n10, by rw [tk1]; exact N₅, by rw [tk1]; exact O₅⟩, s5 _ (.head _), c₃, d₃, P₃.more s5 N₅', fun q hq => s5 q (sub₃ q hq), M₄⟩
  · have ei : i = row.length := Nat.le_antisymm hi hge
    subst ei
    refine wpAny_pyNext_list_end r.hh hit (is_list N₂ (.tail _ (.tail _ (sub₂ _ rm)))) (by rw [Array.getElem?_eq_none]; rw [items_size]; exact Nat.le_refl _) fun h₃ hx => ?_
    have T₃ := T₂.drop ho (nf_iter hc) hx
    have F₃ : Fr h₀ L h₃ m₂ := by
      refine ⟨?_, fun b q z => hx b q (fun y => by rw [y, itn.2.2] at z; cases z) (F₂.keep b q z), F₂.above⟩
      obtain ⟨oL, q1, q2, qo, q3⟩ := F₂.ns
      exact ⟨oL, q1, q2, hx L oL (Ne.symm itn.2.1) qo, q3⟩
    obtain ⟨n5, es5, t5, n6, N₃, O₃⟩ := T₃.N
    have sub₃ : ∀ q ∈ ν, q ∈ wo it ν₂ := fun q hq => mem_wo.mpr ⟨sub₂ q hq, nit q hq⟩
    rw [List.take_length] at T₃
    walk_at "st"
    exact k _ m₂ _ ⟨A₂.d, A₂.o, A₂.g⟩ F₃ T₃ (P.more sub₃ (news_sub N₃ fun q hq => .tail _ (.tail _ hq))) sub₃ M₂
end
theorem cert_mark_inj {h : Heap} {c : Addr} {d d' : CD} (N : News h₀ L h ν) (C : CertIn ν c d) (C' : CertIn ν c d') : mark d = mark d' := by
  obtain ⟨dc, sa, ia, es, n, t1, t2, t3, t4, C⟩ := C
  obtain ⟨dc', sa', ia', es', n', t1', t2', t3', t4', C'⟩ := C'
  have e1 : instObj 160 dc = instObj 160 dc' := Option.some.inj ((N _ C.i).1.symm.trans (N _ C'.i).1)
  have e1 : dc = dc' := by injection e1 with _ e1; exact Option.some.inj e1
  subst e1
  have e2 : dictOf es n = dictOf es' n' := Option.some.inj ((N _ C.e).1.symm.trans (N _ C'.e).1)
  have e3 : es = es' := by
    have e2 := congrArg Obj.data e2
    simp only [Data.dict.injEq] at e2
    have := congrArg Array.toList e2.1
    simpa using this
  subst e3
  have es1 : d.ser = d'.ser := by
    have e4 := C.ser.symm.trans C'.ser
    simp only [Option.some.injEq, Value.int.injEq] at e4
    exact e4.1
  have ei1 : ia = ia' := by
    have e4 := C.iss.symm.trans C'.iss
    simp only [Option.some.injEq, Value.ref.injEq] at e4
    exact e4
  subst ei1
  obtain ⟨da, ea, na, ta, h1, h2, h3⟩ := C.hi
  obtain ⟨da', ea', na', ta', h1', h2', h3'⟩ := C'.hi
  have e5 : instObj 87 da = instObj 87 da' := Option.some.inj ((N _ h1).1.symm.trans (N _ h1').1)
  have e5 : da = da' := by injection e5 with _ e5; exact Option.some.inj e5
  subst e5
  have e6 : dictOf ea na = dictOf ea' na' := Option.some.inj ((N _ h2).1.symm.trans (N _ h2').1)
  have e7 : ea = ea' := by
    have e6 := congrArg Obj.data e6
    simp only [Data.dict.injEq] at e6
    have := congrArg Array.toList e6.1
    simpa using this
  subst e7
  have e8 : d.iss = d'.iss := by
    have e4 := h3.symm.trans h3'
    simp only [Option.some.injEq, Value.str.injEq] at e4
    exact e4.1
  unfold mark
  rw [es1, e8]
section
variable {pool prow vrow trow : Row} {pl rr nl nin it p2 l2 h2 D spl : Addr} {e : Addr × CD} {nvs ivs hvs : Array Value} {ns : List Int} {nn nI nD nS : Nat} {kk : Nat} {tk td : Tok} {dd : Int} {x : Str} {o o' co : Obj}
theorem TW.grow {h' : Heap} {ν₁ : List (Addr × Obj)} {n1 n2' : Nat} {es' : Array (Int × Value)} {t' : SetTable} (P : PathIn ν p2 l2 h2) (O : SetOk w ν es' t' (marks trow)) (N₁ : News h₀ L h' ν₁) (hsub : ∀ q ∈ ((l2, listOf (items trow) n1) :: (h2, setObj es' n2' t') :: ν), q ∈ ν₁) : TW w h₀ L h' trow (wo l2 (wo h2 ν₁)) p2 l2 h2 := by
  have K := keep2 N₁ (hsub _ (.head _)) (hsub _ (.tail _ (.head _))) nf_list nf_set
  have N₂ := news_head2 N₁ (hsub _ (.head _)) (hsub _ (.tail _ (.head _)))
  have K2 : Keep ν (wo l2 (wo h2 ν₁)) := (Keep.of fun q hq => hsub q (.tail _ (.tail _ hq))).trans K
  exact ⟨P.frz K2, wo_off, off2, n1, es', t', n2', N₂, O.frz K2 (news_sub N₂ fun q hq => .tail _ (.tail _ hq))⟩
theorem law_s8 {name qual : Str} {params : Arguments} {body : List Stmt} {scope : Scope} {cdv : Value} {st : Stmt} {QF : Flow → Shared → Prop} (hl : LawIs w name qual params body scope cdv) (S : Sx w A₀ base outer (lawEnv scope L cdv) h₀ L mg mb mean loose) (hst : nav [8] body = some st) (F : Fr h₀ L s.heap m) (T : TW w h₀ L s.heap trow ν p2 l2 h2) (r : Rm A (lawEnv scope L cdv :: outer) 30)
    (P : LP w L pool row row ν pl rr p l hs) (mp : m "pool" = some (.ref pl)) (hc : (L + 2, co) ∈ ν) (cd : co.data = .cell (some (.ref D))) (hD : (D, listOf hvs nD) ∈ ν) (acc : AccMark row [] row.length hvs ν)
    (k : ∀ spl nS ν' s', Aft s s' → Fr h₀ L s'.heap (fun z => if z = "spare" then some (.ref spl) else m z) → TW w h₀ L s'.heap trow ν' p2 l2 h2 → LP w L pool row row ν' pl rr p l hs → (spl, listOf (items (pool.filter fun e => decide (mark e.2 ∉ marks row))) nS) ∈ ν' → QF .next s') :
    wpAny (Mo w) A (exec st (lawEnv scope L cdv)) QF E s := by
  obtain ⟨dV, kV, doc, pm, ct, oc, an, od, osl, hb⟩ := hl.hb
  clear hl
  have hl := hb.symm.trans (lk (K := hd.heap_1 w.params) (f := 308) (by k_is))
  injection hl with hl
  injection hl with _ _ hl _
  injection hl with hl
  injection hl with e1 e2 e3 e4 e5 e6 e7 e8 e9 e10 e11 e12 e13
  injection e4 with e4
  subst e4 e5 e13
  clear hb e1 e2 e3 e6 e7 e8 e9 e10 e11 e12
  injection hst with hst
  subst hst
  have hlen := P.len
  have p4 := P.pool4
  obtain ⟨np, pm⟩ := P.pm
  obtain ⟨TP, ol, oh, n1, es, t, n2, N, O⟩ := T
  have up : ∀ q ∈ ν, q ∈ ((l2, listOf (items trow) n1) :: (h2, setObj es n2 t) :: ν) := fun q hq => .tail _ (.tail _ hq)
  refine comp_spare_use (ν := ((l2, listOf (items trow) n1) :: (h2, setObj es n2 t) :: ν)) (pool := pool) (R := row) S F N r.le (nameX_L F mp ⟨pl, np, _, rfl, Aft.refl, F, N, fun q hq => hq, up _ pm⟩) (fun e he => (P.PO.c e he).mono up) (by omega) (up _ hc) cd (up _ hD) (acc.frz (Keep.of up)) (fun D' nD' ν₁ s₁ A₁ F₁ N₁ sub dne => ?_) rfl rfl rfl (fun C => rfl) rfl (by decide) rfl (by decide) rfl rfl
  have sub' : ∀ q ∈ ((l2, listOf (items trow) n1) :: (h2, setObj es n2 t) :: ν), q ∈ ((D', listOf (items (pool.filter fun e => decide (mark e.2 ∉ marks row))) nD') :: ν₁) := fun q hq => .tail _ (sub q hq)
  have T₁ := TW.grow TP O N₁ sub'
  have K := keep2 N₁ (sub' _ (.head _)) (sub' _ (.tail _ (.head _))) nf_list nf_set
  have mv : ∀ q ∈ ν, q ∈ wo l2 (wo h2 ((D', listOf (items (pool.filter fun e => decide (mark e.2 ∉ marks row))) nD') :: ν₁)) := fun q hq => mem_wo.mpr ⟨mem_wo.mpr ⟨sub' q (up q hq), oh q hq⟩, ol q hq⟩
  obtain ⟨_, _, _, _, N₂, _⟩ := T₁.N
  refine k D' nD' _ s₁ A₁ F₁ T₁ (P.more mv (news_sub N₂ fun q hq => .tail _ (.tail _ hq))) (mem_wo.mpr ⟨mem_wo.mpr ⟨.head _, fun q => dne _ (.tail _ (.head _)) q.symm⟩, fun q => dne _ (.head _) q.symm⟩)
end
section
variable {pool prow vrow trow : Row} {pl rr nl nin it p2 l2 h2 D spl : Addr} {e : Addr × CD} {nvs ivs hvs : Array Value} {ns : List Int} {nn nI nD nS : Nat} {kk : Nat} {tk td : Tok} {dd : Int} {x : Str} {o o' co : Obj}
theorem law_s9 {name qual : Str} {params : Arguments} {body : List Stmt} {scope : Scope} {cdv : Value} {st : Stmt} {QF : Flow → Shared → Prop} (hl : LawIs w name qual params body scope cdv) (S : Sx w A₀ base outer (lawEnv scope L cdv) h₀ L mg mb mean loose) (hst : nav [9] body = some st) (F : Fr h₀ L s.heap m) (T : TW w h₀ L s.heap row ν p2 l2 h2) (r : Rm A (lawEnv scope L cdv :: outer) 30)
    (P : LP w L pool row row ν pl rr p l hs) (mt : m "twin" = some (.ref p2))
    (k : ∀ s', Aft s s' → Fr h₀ L s'.heap m → TW w h₀ L s'.heap row ν p2 l2 h2 → QF .next s') :
    wpAny (Mo w) A (exec st (lawEnv scope L cdv)) QF E s := by
  obtain ⟨dV, kV, doc, pm, ct, oc, an, od, osl, hb⟩ := hl.hb
  clear hl
  have hl := hb.symm.trans (lk (K := hd.heap_1 w.params) (f := 308) (by k_is))
  injection hl with hl
  injection hl with _ _ hl _
  injection hl with hl
  injection hl with e1 e2 e3 e4 e5 e6 e7 e8 e9 e10 e11 e12 e13
  injection e4 with e4
  subst e4 e5 e13
  clear hb e1 e2 e3 e6 e7 e8 e9 e10 e11 e12
  injection hst with hst
  subst hst
  have hlen := P.len
  obtain ⟨n1', lm⟩ := P.lm
  obtain ⟨po, pc, pd⟩ := P.pc
  obtain ⟨TP, ol, oh, n1, es, t, n2, N, O⟩ := T
  have up : ∀ q ∈ ν, q ∈ ((l2, listOf (items row) n1) :: (h2, setObj es n2 t) :: ν) := fun q hq => .tail _ (.tail _ hq)
  have CR : ∀ e ∈ row, CertIn ((l2, listOf (items row) n1) :: (h2, setObj es n2 t) :: ν) e.1 e.2 := fun e he => (P.CR e he).mono up
  walk_at "st"
  walk_at "st"
  walk_at "st"
  refine nameX_L F mt ?_
  refine nameX_C N rfl (up _ pc) pd ?_
  refine path_eq S F N (.head _) (up _ lm) (TP.mono up) (P.P.mono up) CR CR r.le fun h₁ tk₁ F₁ N₁ => ?_
  walk_at "st"
  refine ite_neg (by simp) ?_
  walk_at "st"
  exact k _ ⟨rfl, rfl, fun h => h⟩ F₁ ⟨TP, ol, oh, n1, es, t, n2, N₁, O⟩
theorem law_s10 {name qual : Str} {params : Arguments} {body : List Stmt} {scope : Scope} {cdv : Value} {st : Stmt} {QF : Flow → Shared → Prop} (hl : LawIs w name qual params body scope cdv) (S : Sx w A₀ base outer (lawEnv scope L cdv) h₀ L mg mb mean loose) (hst : nav [10] body = some st) (F : Fr h₀ L s.heap m) (T : TW w h₀ L s.heap row ν p2 l2 h2) (r : Rm A (lawEnv scope L cdv :: outer) 30)
    (P : LP w L pool row row ν pl rr p l hs) (mt : m "twin" = some (.ref p2)) (mr : m "row" = some (.ref rr)) (ms : m "spare" = some (.ref spl)) (hsp : (spl, listOf (items (pool.filter fun e => decide (mark e.2 ∉ marks row))) nS) ∈ ν)
    (kn : ∀ s', Aft s s' → Fr h₀ L s'.heap m → QF .next s') (kr : ∀ s', Aft s s' → Fr h₀ L s'.heap m → QF (.ret (.bool true)) s') :
    wpAny (Mo w) A (exec st (lawEnv scope L cdv)) QF E s := by
  obtain ⟨dV, kV, doc, pm, ct, oc, an, od, osl, hb⟩ := hl.hb
  clear hl
  have hl := hb.symm.trans (lk (K := hd.heap_1 w.params) (f := 308) (by k_is))
  injection hl with hl
  injection hl with _ _ hl _
  injection hl with hl
  injection hl with e1 e2 e3 e4 e5 e6 e7 e8 e9 e10 e11 e12 e13
  injection e4 with e4
  subst e4 e5 e13
  clear hb e1 e2 e3 e6 e7 e8 e9 e10 e11 e12
  injection hst with hst
  subst hst
  have hlen := P.len
  have p4 := P.pool4
  obtain ⟨n1', lm⟩ := P.lm
  obtain ⟨nr, rm⟩ := P.rm
  obtain ⟨po, pc, pd⟩ := P.pc
  obtain ⟨TP, ol, oh, n1, es, t, n2, N, O⟩ := T
  have up : ∀ q ∈ ν, q ∈ ((l2, listOf (items row) n1) :: (h2, setObj es n2 t) :: ν) := fun q hq => .tail _ (.tail _ hq)
  have lsp : (pool.filter fun e => decide (mark e.2 ∉ marks row)).length ≤ 4 := by rw [← p4]; exact List.length_filter_le _ _
  walk_at "st"
  walk_at "st"
  walk_at "st"
  refine nameX_L F mr ?_
  refine truthy_row N (up _ rm) (by omega) fun tk => ?_
  by_cases hr : row = []
  · subst hr
    refine ite_neg Bool.false_ne_true ?_
    refine ite_neg Bool.false_ne_true ?_
    walk_at "st"
    exact kn _ ⟨rfl, rfl, fun h => h⟩ F
  have hne : (!row.isEmpty) = true := by cases row <;> simp_all
  rw [hne]
  refine ite_pos rfl ?_
  walk_at "st"
  walk_at "st"
  refine nameX_L F ms ?_
  refine truthy_row N (up _ hsp) (by omega) fun tk => ?_
  cases hq : pool.filter fun e => decide (mark e.2 ∉ marks row) with
  | nil =>
    refine ite_neg Bool.false_ne_true ?_
    refine ite_neg Bool.false_ne_true ?_
    walk_at "st"
    exact kn _ ⟨rfl, rfl, fun h => h⟩ F
  | cons sp rest =>
    rw [hq] at hsp
    have hspm : sp ∈ pool.filter fun e => decide (mark e.2 ∉ marks row) := by rw [hq]; exact .head _
    obtain ⟨hspp, hspk⟩ := List.mem_filter.mp hspm
    have hspk : mark sp.2 ∉ marks row := by simpa using hspk
    refine ite_pos rfl ?_
    walk_at "st"
    refine ite_pos rfl ?_
    walk_at "st"
    walk_at "st"
    obtain ⟨R0, e0, hR⟩ : ∃ R0 e0, row = R0 ++ [e0] := ⟨row.dropLast, row.getLast hr, (List.dropLast_concat_getLast hr).symm⟩
    subst hR
    simp only [List.length_append, List.length_cons, List.length_nil] at hlen
    obtain ⟨dp, u1, u2, y1, y2, nn', hp1, hp2⟩ := id TP
    have he0 := P.CR e0 (by simp)
    refine MethodCall_ ?_
    refine MethodCall_ ?_
    refine nameX_L F mt ?_
    refine method_inst F S.X (InstAt.of_news N (up _ hp1) (up _ hp2)) kP1 kPpop kPpopF rfl ?_
    refine callWith_K0 (S.X.keeps F.keep) kPpopK ?_
    refine wpAny_call ?_
    refine pop_ok (c := e0.1) (d := e0.2) S F N ol oh TP he0 O (last_out P.nd) (by omega) r.le fun ν₁ n3 es3 n4 t3 h₁ tk₁ s1 o1 o2 F₁ N₁ O₁ => ?_
    dsimp only
    have up1 : ∀ q ∈ ν, q ∈ ((l2, listOf (items R0) n3) :: (h2, setObj es3 n4 t3) :: ν₁) := fun q hq => .tail _ (.tail _ (s1 q hq))
    refine method_inst F₁ S.X (InstAt.of_news N₁ (up1 _ hp1) (up1 _ hp2)) kP1 kPapp kPappF rfl ?_
    refine callWith_K S.X kPappK ?_
    walk_at "st"
    refine Subscript_ ?_
    refine nameX_L F₁ ms ?_
    walk_at "st"
    refine item_list (is_list N₁ (up1 _ hsp)) (by decide) (by decide) (items_get (e := sp) rfl) ?_
    walk_at "st"
    refine ⟨S.X.keeps F₁.keep, wpAny_call ?_⟩
    have hspk0 : mark sp.2 ∉ marks R0 := fun hm => hspk (by unfold marks at hm ⊢; rw [List.map_append]; exact List.mem_append_left _ hm)
    refine append_ok (d := sp.2) S F₁ N₁ o1 o2 (TP.mono s1) ((P.PO.c sp hspp).mono s1) O₁ hspk0 (by omega) r.le fun ν₂ n5 es5 n6 t5 h₂ tk₂ s2 o3 o4 F₂ N₂ O₂ => ?_
    dsimp only
    have up2 : ∀ q ∈ ν, q ∈ ((l2, listOf (items (R0 ++ [(sp.1, sp.2)])) n5) :: (h2, setObj es5 n6 t5) :: ν₂) := fun q hq => .tail _ (.tail _ (s2 q (s1 q hq)))
    walk_at "st"
    walk_at "st"
    walk_at "st"
    walk_at "st"
    refine nameX_L F₂ mt ?_
    refine nameX_C N₂ rfl (up2 _ pc) pd ?_
    refine path_eq S F₂ N₂ (.head _) (up2 _ lm) (TP.mono fun q hq => up2 q hq) (P.P.mono up2) (fun x hx => ?_) (fun x hx => (P.CR x hx).mono up2) r.le fun h₃ tk₃ F₃ N₃ => ?_
    · rcases List.mem_append.mp hx with hx | hx
      · exact (P.CR x (List.mem_append_left _ hx)).mono up2
      · rw [List.mem_singleton.mp hx]; exact (P.PO.c sp hspp).mono up2
    have hdec : decide ((R0 ++ [(sp.1, sp.2)]).map (·.1) = (R0 ++ [e0]).map (·.1)) = false := by
      rw [decide_eq_false_iff_not]
      intro c
      simp only [List.map_append, List.map_cons, List.map_nil, List.append_cancel_left_eq, List.cons.injEq, and_true] at c
      have := cert_mark_inj (news_sub N₃ up2) (P.PO.c sp hspp) (c ▸ he0)
      exact hspk (this ▸ by unfold marks; simp)
    rw [hdec]
    walk_at "st"
    walk_at "st"
    exact kr _ ⟨rfl, rfl, fun h => h⟩ F₃
end
theorem law_s2 {name qual : Str} {params : Arguments} {body : List Stmt} {scope : Scope} {cdv : Value} {st : Stmt} {QF : Flow → Shared → Prop} {co : Obj} {cv : Option Value} (hl : LawIs w name qual params body scope cdv) (S : Sx w A₀ base outer (lawEnv scope L cdv) h₀ L mg mb mean loose) (hst : nav [2] body = some st) (F : Fr h₀ L s.heap m) (N : News h₀ L s.heap ν) (r : Rm A (lawEnv scope L cdv :: outer) 30)
    (hc : (L + 1, co) ∈ ν) (hco : co.data = .cell cv)
    (k : ∀ p l hs es t n1 n2 rr ν' s' po, Aft s s' → (∀ q ∈ ν, q.1 ≠ L + 1 → q ∈ ν') → Fr h₀ L s'.heap (fun y => if y = ("row" : Str) then some (.ref rr) else m y) → News h₀ L s'.heap ν' → (l, listOf (items []) n1) ∈ ν' → (hs, setObj es n2 t) ∈ ν' → PathIn ν' p l hs → SetOk w ν' es t (marks []) →
      (rr, listOf (items []) 0) ∈ ν' → rr ≠ l → (∀ q ∈ ν, q.1 ≠ l) → (L + 1, po) ∈ ν' → po.data = .cell (some (.ref p)) → QF .next s') :
    wpAny (Mo w) A (exec st (lawEnv scope L cdv)) QF E s := by
  obtain ⟨dV, kV, doc, pm, ct, oc, an, od, osl, hb⟩ := hl.hb
  clear hl
  have hl := hb.symm.trans (lk (K := hd.heap_1 w.params) (f := 308) (by k_is))
  injection hl with hl
  injection hl with _ _ hl _
  injection hl with hl
  injection hl with e1 e2 e3 e4 e5 e6 e7 e8 e9 e10 e11 e12 e13
  injection e4 with e4
  subst e4 e5 e13
  clear hb e1 e2 e3 e6 e7 e8 e9 e10 e11 e12
  injection hst with hst
  subst hst
  refine Assign_Tuple ?_
  repeat walk_at "st"
  refine callWith_K0 (S.X.keeps F.keep) kPkeep ?_
  refine path_new S F N r.le fun p dp l hs es t n1 n2 nn x1 x2 t1 t2 h₁ tk₁ a1 a2 a3 a4 F₁ N₁ O => ?_
  generalize hs1 : ({ s with heap := h₁, toks := tk₁ } : Shared) = s₁
  have eh : s₁.heap = h₁ := by rw [← hs1]
  have A₁ : Aft s s₁ := by rw [← hs1]; exact ⟨rfl, rfl, fun h => h⟩
  rw [← eh] at F₁ N₁
  repeat walk_at "st"
  refine newList_K F₁ N₁ fun rr h₂ F₂ N₂ hrr => ?_
  repeat walk_at "st"
  refine newTuple_N F₂ N₂ fun h₃ F₃ N₃ => ?_
  refine unpackN_ F₃ N₃ ⟨_, (N₃ _ (.head _)).1, rfl, _, rfl⟩ r.hh rfl rfl fun h₄ F₄ N₄ => ?_
  replace N₄ := news_sub N₄ fun q hq => List.Mem.tail _ hq
  have m0 : (L + 1, co) ∈ ((rr, listOf [].toArray 0) :: (l, listOf (items []) n1) :: (hs, setObj es n2 t) :: (p, instObj 292 dp) :: (dp, pathD x1 x2 t1 t2 l hs nn) :: ν) := .tail _ (.tail _ (.tail _ (.tail _ (.tail _ hc))))
  have N₅ := news_wo N₄ m0
  refine wpAny_bind (wpAny_holding (wpAny_assign_Name (storeX_C F₄ N₅ rfl (UpdF.head wo_off) hco fun h₆ po F₆ N₆ hpo => ?_)))
  refine wpAny_bind (wpAny_holding (wpAny_assign_Name (storeX_L F₆ N₆ fun h₇ F₇ N₇ => ?_)))
  refine wpAny_pure ?_
  refine k p l hs es t n1 n2 rr _ _ po (A₁.trans ⟨rfl, rfl, fun h => h⟩) (fun q hq hne => .tail _ (mem_wo.mpr ⟨.tail _ (.tail _ (.tail _ (.tail _ (.tail _ hq)))), hne⟩)) F₇ N₇
    (.tail _ (mem_wo_of N₄ (.tail _ (.head _)) m0 (list_ne_cell hco))) (.tail _ (mem_wo_of N₄ (.tail _ (.tail _ (.head _))) m0 (set_ne_cell hco)))
    ⟨dp, t1, t2, x1, x2, nn, .tail _ (mem_wo_of N₄ (.tail _ (.tail _ (.tail _ (.head _)))) m0 (inst_ne_cell hco)), .tail _ (mem_wo_of N₄ (.tail _ (.tail _ (.tail _ (.tail _ (.head _))))) m0 (dict_ne_cell hco))⟩ (O _)
    (.tail _ (mem_wo_of N₄ (.head _) m0 (list_ne_cell hco))) (Nat.ne_of_gt (hrr _ (.head _))) (fun q hq => Nat.ne_of_lt (Nat.lt_trans (a1 q hq) (Nat.lt_trans a2 a3))) (.head _) hpo
section
variable {pool prow vrow : Row} {pl rr nl sc : Addr} {e : Addr × CD} {svs : List Value} {ns : List Int}
theorem law_s3 {name qual : Str} {params : Arguments} {body : List Stmt} {scope : Scope} {cdv : Value} {st : Stmt} {QF : Flow → Shared → Prop} (hl : LawIs w name qual params body scope cdv) (S : Sx w A₀ base outer (lawEnv scope L cdv) h₀ L mg mb mean loose) (hst : nav [3] body = some st) (F : Fr h₀ L s.heap m) (N : News h₀ L s.heap ν) (r : Rm A (lawEnv scope L cdv :: outer) 30) (hsl : h₀.IsList sc svs.toArray) (hI : IntsAre svs ns) (h63 : ns.length ≤ 63)
    (P : LP w L pool [] [] ν pl rr p l hs) (mc : m "script" = some (.ref sc)) (mp : m "pool" = some (.ref pl)) (mr : m "row" = some (.ref rr))
    (k : ∀ row ν' rr' p' l' hs' m' s', Aft s s' → Fr h₀ L s'.heap m' → News h₀ L s'.heap ν' → LP w L pool row row ν' pl rr' p' l' hs' → MK ["row"] m m' → m' "row" = some (.ref rr') → QF .next s') :
    wpAny (Mo w) A (exec st (lawEnv scope L cdv)) QF E s := by
  obtain ⟨dV, kV, doc, pm, ct, oc, an, od, osl, hb⟩ := hl.hb
  clear hl
  have hl := hb.symm.trans (lk (K := hd.heap_1 w.params) (f := 308) (by k_is))
  injection hl with hl
  injection hl with _ _ hl _
  injection hl with hl
  injection hl with e1 e2 e3 e4 e5 e6 e7 e8 e9 e10 e11 e12 e13
  injection e4 with e4
  subst e4 e5 e13
  clear hb e1 e2 e3 e6 e7 e8 e9 e10 e11 e12
  injection hst with hst
  subst hst
  have hsl1 : s.heap.IsList sc svs.toArray := hsl.at fun o e => F.keep _ _ e
  have hlen := hI.length
  walk_at "st"
  walk_at "st"
  walk_at "st"
  refine nameX_L F mc ?_
  refine wpAny_truthy_list hsl1 (by rw [List.size_toArray, hlen]; omega) ?_
  by_cases hs0 : svs = []
  · subst hs0
    refine ite_neg (by simp) ?_
    refine ite_neg Bool.false_ne_true ?_
    walk_at "st"
    exact k [] ν rr p l hs m _ ⟨rfl, rfl, fun h => h⟩ F N P (fun y _ => rfl) mr
  refine ite_pos (by simpa using hs0) ?_
  have h0 : 0 < svs.length := List.length_pos_iff.mpr hs0
  obtain ⟨z, t', ev, _⟩ := hI.at 0 _ (List.getElem?_eq_getElem h0)
  walk_at "st"
  walk_at "st"
  walk_at "st"
  refine Subscript_ ?_
  refine nameX_L F mc ?_
  walk_at "st"
  refine item_list (x := .int z t') hsl1 (by decide) (by decide) (by rw [← ev]; simp [h0]) ?_
  walk_at "st"
  refine PyProof.Rows.mod_int (by decide) ?_
  repeat walk_at "st"
  by_cases hz : z.fmod 2 = 1
  · refine ite_pos (by simpa using hz) ?_
    walk_at "st"
    refine ite_pos rfl ?_
    walk_at "st"
    obtain ⟨np, pm⟩ := P.pm
    obtain ⟨e, he⟩ := at_row (row := pool) 0 (by rw [P.pool4]; decide)
    have hem := List.mem_of_getElem? he
    refine Assign_Tuple ?_
    walk_at "st"
    walk_at "st"
    walk_at "st"
    walk_at "st"
    refine callWith_K S.X kPkeep ?_
    walk_at "st"
    refine Subscript_ ?_
    refine nameX_L F mp ?_
    walk_at "st"
    refine item_list (is_list N pm) (by decide) (by decide) (items_get he) ?_
    walk_at "st"
    refine ⟨S.X.keeps F.keep, ?_⟩
    refine path_new1 (c := e.1) (d := e.2) S F N r.le (P.PO.c e hem) fun p' l' hs' es t n1 n2 ν₁ h₁ tk₁ sub o1 o2 PI F₁ N₁ O => ?_
    dsimp only
    have up : ∀ q ∈ ν, q ∈ ((l', listOf (items [(e.1, e.2)]) n1) :: (hs', setObj es n2 t) :: ν₁) := fun q hq => .tail _ (.tail _ (sub q hq))
    walk_at "st"
    walk_at "st"
    walk_at "st"
    refine Subscript_ ?_
    refine nameX_L F₁ mp ?_
    walk_at "st"
    refine item_list (is_list N₁ (up _ pm)) (by decide) (by decide) (items_get he) ?_
    walk_at "st"
    refine newList_K F₁ N₁ fun rr' h₂ F₂ N₂ hrr => ?_
    walk_at "st"
    refine newTuple_N F₂ N₂ fun h₃ F₃ N₃ => ?_
    refine unpackN_ F₃ N₃ ⟨_, (N₃ _ (.head _)).1, rfl, _, rfl⟩ r.hh rfl rfl fun h₄ F₄ N₄ => ?_
    replace N₄ : News h₀ L h₄ ((rr', listOf (items [(e.1, e.2)]) 0) :: (l', listOf (items [(e.1, e.2)]) n1) :: (hs', setObj es n2 t) :: ν₁) := news_sub N₄ fun q hq => List.Mem.tail _ hq
    obtain ⟨po, pc, pd⟩ := P.pc
    obtain ⟨co, cv, hc, cd⟩ := P.hc
    have up4 : ∀ q ∈ ν, q ∈ ((rr', listOf (items [(e.1, e.2)]) 0) :: (l', listOf (items [(e.1, e.2)]) n1) :: (hs', setObj es n2 t) :: ν₁) := fun q hq => .tail _ (up q hq)
    have N₅ := news_wo N₄ (up4 _ pc)
    refine wpAny_bind (wpAny_holding (wpAny_assign_Name (storeX_C F₄ N₅ rfl (UpdF.head wo_off) pd fun h₆ po' F₆ N₆ hpo => ?_)))
    refine wpAny_bind (wpAny_holding (wpAny_assign_Name (storeX_L F₆ N₆ fun h₇ F₇ N₇ => ?_)))
    refine wpAny_pure ?_
    walk_at "st"
    have K : Keep ((rr', listOf (items [(e.1, e.2)]) 0) :: (l', listOf (items [(e.1, e.2)]) n1) :: (hs', setObj es n2 t) :: ν₁) ((L + 1, po') :: wo (L + 1) ((rr', listOf (items [(e.1, e.2)]) 0) :: (l', listOf (items [(e.1, e.2)]) n1) :: (hs', setObj es n2 t) :: ν₁)) := (wo_keep N₄ (N₄ _ (up4 _ pc)).1 (nf_cell pd)).trans (Keep.of fun q hq => .tail _ hq)
    have kl : ∀ {a : Addr} {its : Array Value} {k : Nat}, (a, listOf its k) ∈ ((rr', listOf (items [(e.1, e.2)]) 0) :: (l', listOf (items [(e.1, e.2)]) n1) :: (hs', setObj es n2 t) :: ν₁) → (a, listOf its k) ∈ ((L + 1, po') :: wo (L + 1) ((rr', listOf (items [(e.1, e.2)]) 0) :: (l', listOf (items [(e.1, e.2)]) n1) :: (hs', setObj es n2 t) :: ν₁)) := fun x => .tail _ (mem_wo_of N₄ x (up4 _ pc) (list_ne_cell pd))
    refine k [(e.1, e.2)] _ rr' p' l' hs' _ _ ⟨rfl, rfl, fun h => h⟩ F₇ N₇ ⟨P.pool4, P.PO.frz ((Keep.of up4).trans K), ⟨np, kl (up4 _ pm)⟩, o1 _ (sub _ pm), ⟨n1, kl (.tail _ (.head _))⟩, ⟨es, t, n2, .tail _ (mem_wo_of N₄ (.tail _ (.tail _ (.head _))) (up4 _ pc) (set_ne_cell pd)), O.frz ((Keep.of fun q hq => .tail _ (.tail _ (.tail _ hq))).trans K) N₇⟩,
      PI.frz ((Keep.of fun q hq => .tail _ (.tail _ (.tail _ hq))).trans K), ⟨0, kl (.head _)⟩, Nat.ne_of_gt (hrr _ (.head _)), ⟨po', .head _, hpo⟩, ⟨co, cv, .tail _ (mem_wo.mpr ⟨up4 _ hc, Nat.ne_of_gt (Nat.lt_succ_self (L + 1))⟩), cd⟩, fun x hx => ?_, fun x hx => ?_, by simp [marks]⟩ (fun y hy => ?_) rfl
    · rw [List.mem_singleton.mp hx]; exact hem
    · rw [List.mem_singleton.mp hx]; exact hem
    · have : y ≠ ("row" : Str) := by simpa using hy
      simp only [this, if_false]
  · refine ite_neg (by simpa using hz) ?_
    refine ite_neg Bool.false_ne_true ?_
    walk_at "st"
    exact k [] ν rr p l hs m _ ⟨rfl, rfl, fun h => h⟩ F N P (fun y _ => rfl) mr
end
theorem pick_937 {vs : List Value} (h : 10 < vs.length) : slicePick vs.toArray (some 9) (some 37) none = ((vs.drop 9).take (min 37 vs.length - 9)).toArray := by
  have e : sliceBounds (some 9) (some 37) none vs.toArray.size = (((9 : Nat) : Int), ((min 37 vs.length : Nat) : Int), 1) := by
    rw [List.size_toArray]
    simp only [sliceBounds, Option.getD_none, show (1 : Int) > 0 by decide, if_true]
    rw [if_neg (by decide), if_neg (by decide)]
    have h1 : max (0 : Int) (min 9 (vs.length : Int)) = ((9 : Nat) : Int) := by omega
    have h2 : max (0 : Int) (min 37 (vs.length : Int)) = ((min 37 vs.length : Nat) : Int) := by omega
    rw [h1, h2]
  rw [kmk_pick_nat _ e]
section
variable {pool prow vrow : Row} {pl rr nl sc : Addr} {e : Addr × CD} {svs : List Value} {ns : List Int}
theorem law_s4 {name qual : Str} {params : Arguments} {body : List Stmt} {scope : Scope} {cdv : Value} {st : Stmt} {QF : Flow → Shared → Prop} (hl : LawIs w name qual params body scope cdv) (S : Sx w A₀ base outer (lawEnv scope L cdv) h₀ L mg mb mean loose) (hst : nav [4] body = some st) (F : Fr h₀ L s.heap m) (N : News h₀ L s.heap ν) (r : Rm A (lawEnv scope L cdv :: outer) 30) (hsl : h₀.IsList sc svs.toArray) (hI : IntsAre svs ns) (h63 : ns.length ≤ 63)
    (mc : m "script" = some (.ref sc))
    (k : ∀ nl nvs nn ns' s', Aft s s' → 2 ≤ ns'.length → ns'.length ≤ 100 → IntsAre nvs.toList ns' → (∀ q ∈ ν, q.1 ≠ nl) → Fr h₀ L s'.heap (fun y => if y = "numbers" then some (.ref nl) else m y) → News h₀ L s'.heap ((nl, listOf nvs nn) :: ν) → QF .next s') :
    wpAny (Mo w) A (exec st (lawEnv scope L cdv)) QF E s := by
  obtain ⟨dV, kV, doc, pm, ct, oc, an, od, osl, hb⟩ := hl.hb
  clear hl
  have hl := hb.symm.trans (lk (K := hd.heap_1 w.params) (f := 308) (by k_is))
  injection hl with hl
  injection hl with _ _ hl _
  injection hl with hl
  injection hl with e1 e2 e3 e4 e5 e6 e7 e8 e9 e10 e11 e12 e13
  injection e4 with e4
  subst e4 e5 e13
  clear hb e1 e2 e3 e6 e7 e8 e9 e10 e11 e12
  injection hst with hst
  subst hst
  have hsl1 : s.heap.IsList sc svs.toArray := hsl.at fun o e => F.keep _ _ e
  have hlen := hI.length
  walk_at "st"
  refine IfExp_ ?_
  repeat walk_at "st"
  refine nameX_L F mc ?_
  walk_at "st"
  refine len_list hsl1 (by rw [List.size_toArray, hlen]; omega) ?_
  repeat walk_at "st"
  by_cases hc : (10 : Int) < ((svs.toArray.size : Nat) : Int)
  · refine ite_pos (by simpa using hc) ?_
    refine Subscript_ ?_
    refine nameX_L F mc ?_
    walk_at "st"
    refine evalPart_some_step ?_
    walk_at "st"
    refine evalPart_some_step ?_
    walk_at "st"
    refine evalPart_none_step ?_
    rw [List.size_toArray] at hc
    refine slice_any (s := ⟨s.heap, _, _, _, _⟩) F N hsl1 (.int _ _) (.int _ _) (fun D h₁ F₁ N₁ hD => ?_) (by with_unfolding_all rfl) (by rw [List.size_toArray, hlen, sizeLine_eq]; omega)
    rw [pick_937 (by omega)] at N₁
    refine storeX_L F₁ N₁ fun h₂ F₂ N₂ => ?_
    refine k D _ _ ((ns.drop 9).take (min 37 svs.length - 9)) _ ⟨rfl, rfl, fun h => h⟩ ?_ ?_ ?_ (fun q hq => Nat.ne_of_lt (hD q hq)) F₂ N₂
    · rw [List.length_take, List.length_drop, ← hlen]; omega
    · rw [List.length_take, List.length_drop, ← hlen]; omega
    · rw [List.toList_toArray]; exact (hI.drop 9).take _
  · refine ite_neg (by simpa using hc) ?_
    walk_at "st"
    repeat walk_at "st"
    refine newList_K F N fun D h₁ F₁ N₁ hD => ?_
    refine storeX_L F₁ N₁ fun h₂ F₂ N₂ => ?_
    refine k D _ _ [0, 0, 1, 1, 3, 2, 0, 3, 2, 0, 6, 1] _ ⟨rfl, rfl, fun h => h⟩ (by decide) (by decide) ?_ (fun q hq => Nat.ne_of_lt (hD q hq)) F₂ N₂
    rw [List.toList_toArray]
    exact .cons _ _ (.cons _ _ (.cons _ _ (.cons _ _ (.cons _ _ (.cons _ _ (.cons _ _ (.cons _ _ (.cons _ _ (.cons _ _ (.cons _ _ (.cons _ _ .nil)))))))))))
end
section
variable {pool : Row} {pl sc : Addr} {svs : List Value} {ns : List Int} {i : Nat} {u : Tok}
theorem law_s0 {name qual : Str} {params : Arguments} {body : List Stmt} {scope : Scope} {cdv : Value} {st : Stmt} {QF : Flow → Shared → Prop} (hl : LawIs w name qual params body scope cdv) (S : Sx w A₀ base outer (lawEnv scope L cdv) h₀ L mg mb mean loose) (hst : nav [0] body = some st) (F : Fr h₀ L s.heap m) (N : News h₀ L s.heap ν)
    (k : ∀ pl s', Aft s s' → (∀ q ∈ ν, q.1 ≠ pl) → Fr h₀ L s'.heap (fun y => if y = "pool" then some (.ref pl) else m y) → News h₀ L s'.heap ((pl, listOf (items []) 0) :: ν) → QF .next s') :
    wpAny (Mo w) A (exec st (lawEnv scope L cdv)) QF E s := by
  obtain ⟨dV, kV, doc, pm, ct, oc, an, od, osl, hb⟩ := hl.hb
  clear hl
  have hl := hb.symm.trans (lk (K := hd.heap_1 w.params) (f := 308) (by k_is))
  injection hl with hl
  injection hl with _ _ hl _
  injection hl with hl
  injection hl with e1 e2 e3 e4 e5 e6 e7 e8 e9 e10 e11 e12 e13
  injection e4 with e4
  subst e4 e5 e13
  clear hb e1 e2 e3 e6 e7 e8 e9 e10 e11 e12
  injection hst with hst
  subst hst
  repeat walk_at "st"
  refine newList_K F N fun D h₁ F₁ N₁ hD => ?_
  refine storeX_L F₁ N₁ fun h₂ F₂ N₂ => ?_
  exact k D _ ⟨rfl, rfl, fun h => h⟩ (fun q hq => Nat.ne_of_lt (hD q hq)) F₂ N₂
theorem law_p0 {name qual : Str} {params : Arguments} {body : List Stmt} {scope : Scope} {cdv : Value} {st : Stmt} {QF : Flow → Shared → Prop} (hl : LawIs w name qual params body scope cdv) (S : Sx w A₀ base outer (lawEnv scope L cdv) h₀ L mg mb mean loose) (hst : nav [1, 0, 0] body = some st) (F : Fr h₀ L s.heap m) (N : News h₀ L s.heap ν) (hsl : h₀.IsList sc svs.toArray) (hI : IntsAre svs ns) (h63 : ns.length ≤ 63)
    (mc : m "script" = some (.ref sc)) (mj : m "j" = some (.int ((i : Nat) + 1 : Int) u)) (hi : i < 4)
    (k : ∀ pv tv s', Aft s s' → Fr h₀ L s'.heap (fun y => if y = "p" then some (.int pv tv) else m y) → News h₀ L s'.heap ν → QF .next s') :
    wpAny (Mo w) A (exec st (lawEnv scope L cdv)) QF E s := by
  obtain ⟨dV, kV, doc, pm, ct, oc, an, od, osl, hb⟩ := hl.hb
  clear hl
  have hl := hb.symm.trans (lk (K := hd.heap_1 w.params) (f := 308) (by k_is))
  injection hl with hl
  injection hl with _ _ hl _
  injection hl with hl
  injection hl with e1 e2 e3 e4 e5 e6 e7 e8 e9 e10 e11 e12 e13
  injection e4 with e4
  subst e4 e5 e13
  clear hb e1 e2 e3 e6 e7 e8 e9 e10 e11 e12
  injection hst with hst
  subst hst
  have hsl1 : s.heap.IsList sc svs.toArray := hsl.at fun o e => F.keep _ _ e
  have hlen := hI.length
  walk_at "st"
  refine wpAny_mono (Q := fun v s' => ∃ (pv : Int) (t : Tok) (tk : Nat), v = .int pv t ∧ s' = { s with toks := tk }) ?_ (fun v s' hv => ?_) (fun _ _ x => x)
  · repeat walk_at "st"
    refine nameX_L F mj ?_
    refine PyProof.Rows.mul_int ?_ (IntMulOk.of_left (by decide))
    repeat walk_at "st"
    refine nameX_L F mc ?_
    walk_at "st"
    refine len_list hsl1 (by rw [List.size_toArray, hlen]; omega) ?_
    repeat walk_at "st"
    by_cases hc : 2 * ((i : Nat) + 1 : Int) - 1 < ((svs.toArray.size : Nat) : Int)
    · refine ite_pos (decide_eq_true hc) ?_
      refine Subscript_ ?_
      refine nameX_L F mc ?_
      repeat walk_at "st"
      refine nameX_L F mj ?_
      refine PyProof.Rows.mul_int ?_ (IntMulOk.of_left (by decide))
      repeat walk_at "st"
      have hk : 2 * i + 1 < svs.length := by rw [List.size_toArray] at hc; omega
      obtain ⟨pv, t', ev, _⟩ := hI.at (2 * i + 1) _ (List.getElem?_eq_getElem hk)
      refine item_list (x := .int pv t') hsl1 (by omega) (by omega) ?_ ⟨pv, t', _, rfl, rfl⟩
      rw [show (2 * ((i : Nat) + 1 : Int) - 1).toNat = 2 * i + 1 by omega, ← ev]
      simp [hk]
    · refine ite_neg (by simpa using hc) ?_
      repeat walk_at "st"
      exact ⟨0, _, _, rfl, rfl⟩
  · obtain ⟨pv, tv, tkv, rfl, rfl⟩ := hv
    refine storeX_L F N fun h₂ F₂ N₂ => ?_
    exact k pv tv _ ⟨rfl, rfl, fun h => h⟩ F₂ N₂
end
structure CB (h₀ : Heap) (L : Addr) (h : Heap) (ν : List (Addr × Obj)) (ca dc : Addr) (f : Str → Option Value) (kk : Nat) : Prop where
  N : ∃ es nd, News h₀ L h ((dc, dictOf es nd) :: ν) ∧ DictIs es f kk
  i : (ca, instObj 160 dc) ∈ ν
  off : ∀ q ∈ ν, q.1 ≠ dc
section
variable {pool : Row} {pl sc : Addr} {svs : List Value} {ns : List Int} {i : Nat} {u tv : Tok} {pv : Int}
theorem law_p1 {name qual : Str} {params : Arguments} {body : List Stmt} {scope : Scope} {cdv : Value} {st : Stmt} {QF : Flow → Shared → Prop} (hl : LawIs w name qual params body scope cdv) (S : Sx w A₀ base outer (lawEnv scope L cdv) h₀ L mg mb mean loose) (hst : nav [1, 0, 1] body = some st) (F : Fr h₀ L s.heap m) (N : News h₀ L s.heap ν) (r : Rm A (lawEnv scope L cdv :: outer) 20)
    (mj : m "j" = some (.int ((i : Nat) + 1 : Int) u)) (mp : m "p" = some (.int pv tv)) (hi : i < 4)
    (k : ∀ ca dc f ν' a1 a2 y1 y2 t1 t2 s', Aft s s' → (∀ q ∈ ν, q ∈ ν') → CB h₀ L s'.heap ν' ca dc f 24 → f "signature" = some (.int ((i : Nat) + 1 : Int) t1) → f "serial_number" = some (.int ((i : Nat) + 1 : Int) t2) → f "subject" = some (.ref a1) → f "issuer" = some (.ref a2) → NameIn ν' a1 y1 → NameIn ν' a2 y2 → Fr h₀ L s'.heap (fun y => if y = "cert" then some (.ref ca) else m y) → QF .next s') :
    wpAny (Mo w) A (exec st (lawEnv scope L cdv)) QF E s := by
  obtain ⟨dV, kV, doc, pm, ct, oc, an, od, osl, hb⟩ := hl.hb
  clear hl
  have hl := hb.symm.trans (lk (K := hd.heap_1 w.params) (f := 308) (by k_is))
  injection hl with hl
  injection hl with _ _ hl _
  injection hl with hl
  injection hl with e1 e2 e3 e4 e5 e6 e7 e8 e9 e10 e11 e12 e13
  injection e4 with e4
  subst e4 e5 e13
  clear hb e1 e2 e3 e6 e7 e8 e9 e10 e11 e12
  injection hst with hst
  subst hst
  walk_at "st"
  walk_at "st"
  refine nameX_K F S.X (topRead_of S.T) (by k_is) ?_
  refine callWith_K S.X kCkeep ?_
  repeat walk_at "st"
  refine nameX_L F mj ?_
  repeat walk_at "st"
  refine callWith_K S.X kNkeep ?_
  repeat walk_at "st"
  refine nameX_L F mp ?_
  repeat walk_at "st"
  refine PyProof.Rows.mod_int (by decide) ?_
  have b1 := fm_pos (k := 3) (by decide)
  refine item_str (by unfold fitsSsize; simp; have := b1 pv; omega) (by have := b1 pv; omega) (by have := (b1 pv).2; show pv.fmod 3 < 3; exact this) fun _ => ?_
  repeat walk_at "st"
  refine ⟨S.X.keeps F.keep, ?_⟩
  refine name_new S F N r.le fun a1 ν1 h₇ tk₇ s1 H1 F₇ N₇ => ?_
  repeat walk_at "st"
  refine callWith_K S.X kNkeep ?_
  repeat walk_at "st"
  refine nameX_L F₇ mp ?_
  repeat walk_at "st"
  refine PyProof.Rows.floordiv_int (by decide) ?_
  repeat walk_at "st"
  refine PyProof.Rows.mod_int (by decide) ?_
  refine item_str (by unfold fitsSsize; simp; have := b1 (pv.fdiv 3); omega) (by have := b1 (pv.fdiv 3); omega) (by have := (b1 (pv.fdiv 3)).2; show (pv.fdiv 3).fmod 3 < 3; exact this) fun _ => ?_
  repeat walk_at "st"
  refine ⟨S.X.keeps F₇.keep, ?_⟩
  refine name_new S F₇ N₇ r.le fun a2 ν2 h₈ tk₈ s2 H2 F₈ N₈ => ?_
  repeat walk_at "st"
  refine callWith_K S.X kKkeep ?_
  repeat walk_at "st"
  refine nameX_L F₈ mj ?_
  repeat walk_at "st"
  refine ⟨S.X.keeps F₈.keep, ?_⟩
  refine key_new (by omega) (by omega) S F₈ N₈ r.le fun a3 ν3 h₉ tk₉ s3 F₉ N₉ => ?_
  repeat walk_at "st"
  refine ⟨S.X.keeps F₉.keep, ?_⟩
  refine cert_new S F₉ N₉ r.le fun ca dc es nd oo t1 t2 xs f h10 tk10 D fs fr fsu fi fk fa l1 l2 l3 F10 N10 => ?_
  refine storeX_L F10 N10 fun h11 F11 N11 => ?_
  have off : ∀ q ∈ ((xs, oo) :: (ca, instObj 160 dc) :: ν3), q.1 ≠ dc := List.forall_mem_cons.mpr ⟨Nat.ne_of_gt (Nat.lt_trans l2 l3), List.forall_mem_cons.mpr ⟨Nat.ne_of_gt l2, fun q hq => Nat.ne_of_lt (l1 q hq)⟩⟩
  exact k ca dc f _ a1 a2 _ _ t1 t2 _ ⟨rfl, rfl, fun h => h⟩ (fun q hq => .tail _ (.tail _ (s3 q (s2 q (s1 q hq))))) ⟨⟨es, nd, N11, D⟩, .tail _ (.head _), off⟩ fs fr fsu fi (H1.mono fun q hq => .tail _ (.tail _ (s3 q (s2 q hq)))) (H2.mono fun q hq => .tail _ (.tail _ (s3 q hq))) F11
end
def kOf (z : Int) : Option (Array UInt8) := if z = 0 then none else if z = 1 then some #[107, 49] else some #[107, 50]
theorem three_get {z : Int} {t1 t2 : Tok} (h : 0 ≤ z ∧ z < 3) : ∃ t, [Value.none, .bytes [107, 49].toArray t1, .bytes [107, 50].toArray t2][z.toNat]? = some (kv (kOf z) t) := by
  have : z = 0 ∨ z = 1 ∨ z = 2 := by omega
  rcases this with rfl | rfl | rfl
  · exact ⟨t1, rfl⟩
  · exact ⟨t1, rfl⟩
  · exact ⟨t2, rfl⟩
section
variable {pool : Row} {pl sc ca dc : Addr} {svs : List Value} {ns : List Int} {i : Nat} {u tv : Tok} {pv : Int} {f : Str → Option Value} {kk : Nat} {name : Str} {v : Value}
theorem CB.mono {h : Heap} {ν' : List (Addr × Obj)} (B : CB h₀ L h ν ca dc f kk) (hs : ∀ q ∈ ν, q ∈ ν') (off : ∀ q ∈ ν', q.1 ≠ dc) {h' : Heap} (N' : News h₀ L h' ν') (hk : ∀ o, h.get? dc = some o → h'.get? dc = some o) : CB h₀ L h' ν' ca dc f kk := by
  obtain ⟨⟨es, nd, N, D⟩, i, o⟩ := B
  exact ⟨⟨es, nd, List.forall_mem_cons.mpr ⟨⟨hk _ (N _ (.head _)).1, (N _ (.head _)).2⟩, N'⟩, D⟩, hs _ i, off⟩
theorem CB.set {Q : Unit → Shared → Prop} (S : Sx w A₀ base outer env h₀ L mg mb mean loose) (F : Fr h₀ L s.heap m) (B : CB h₀ L s.heap ν ca dc f kk) (hk : kk ≤ 100) (ht : takerIn (hd.heap_1 w.params) 160 name = some none)
    (h : ∀ s', Aft s s' → Fr h₀ L s'.heap m → CB h₀ L s'.heap ν ca dc (fun x => if x = name then some v else f x) (kk + 1) → Q () s') : wpAny (Mo w) A (setAttr (.ref ca) name v) Q E s := by
  obtain ⟨⟨es, nd, N, D⟩, i, o⟩ := B
  exact cert_set S F N i o D hk ht fun es' n' h' tk F' N' D' => h _ ⟨rfl, rfl, fun h => h⟩ F' ⟨⟨es', n', N', D'⟩, i, o⟩
theorem asg_attr {M : Model} {o : Expr} {attr : Str} {pos : Pos} {v : Value} {Q : Unit → Shared → Prop} (h : wpAny M A (eval o env) (fun ov s₂ => wpAny M A (setAttr ov attr v) Q E s₂) E s) : wpAny M A (assign (.Attribute o attr pos) env v) Q E s := fun Γ p hΓ => by
  simp only [arm_assign_Attribute, Sem.wp_bind', Sem.wp_holding, Sem.wp_cmd_standAt, Sem.wp_release]
  exact Sem.wp_mono M Γ _ (fun ov _ s₂ h₂ => h₂ Γ _ hΓ) (fun _ _ _ h' => h') _ _ (h Γ p hΓ)
theorem law_p2 {name qual : Str} {params : Arguments} {body : List Stmt} {scope : Scope} {cdv : Value} {st : Stmt} {QF : Flow → Shared → Prop} (hl : LawIs w name qual params body scope cdv) (S : Sx w A₀ base outer (lawEnv scope L cdv) h₀ L mg mb mean loose) (hst : nav [1, 0, 2] body = some st) (F : Fr h₀ L s.heap m) (B : CB h₀ L s.heap ν ca dc f 24) (r : Rm A (lawEnv scope L cdv :: outer) 20)
    (mc : m "cert" = some (.ref ca)) (mp : m "p" = some (.int pv tv))
    (k : ∀ s' ν' t3 t4, Aft s s' → (∀ q ∈ ν, q ∈ ν') → Fr h₀ L s'.heap m → CB h₀ L s'.heap ν' ca dc (fun x => if x = "authority_key_identifier" then some (kv (kOf ((pv.fdiv 27).fmod 3)) t4) else if x = "key_identifier" then some (kv (kOf ((pv.fdiv 9).fmod 3)) t3) else f x) 26 → QF .next s') :
    wpAny (Mo w) A (exec st (lawEnv scope L cdv)) QF E s := by
  obtain ⟨dV, kV, doc, pm, ct, oc, an, od, osl, hb⟩ := hl.hb
  clear hl
  have hl := hb.symm.trans (lk (K := hd.heap_1 w.params) (f := 308) (by k_is))
  injection hl with hl
  injection hl with _ _ hl _
  injection hl with hl
  injection hl with e1 e2 e3 e4 e5 e6 e7 e8 e9 e10 e11 e12 e13
  injection e4 with e4
  subst e4 e5 e13
  clear hb e1 e2 e3 e6 e7 e8 e9 e10 e11 e12
  injection hst with hst
  subst hst
  obtain ⟨⟨es, nd, N, D⟩, hi, off⟩ := B
  refine Assign_Tuple ?_
  walk_at "st"
  walk_at "st"
  refine Subscript_ ?_
  walk_at "st"
  repeat walk_at "st"
  refine newList_K F N fun l1 h₁ F₁ N₁ hl1 => ?_
  repeat walk_at "st"
  refine nameX_L F₁ mp ?_
  repeat walk_at "st"
  refine PyProof.Rows.floordiv_int (by decide) ?_
  repeat walk_at "st"
  refine PyProof.Rows.mod_int (by decide) ?_
  have fm3 := fm_pos (k := 3) (by decide)
  obtain ⟨tt1, hg1⟩ := three_get (t1 := (s.toks : Nat)) (t2 := (s.toks + 1 : Nat)) (fm3 (pv.fdiv 9))
  refine item_litK (⟨_, (N₁ _ (.head _)).1, rfl, _, rfl⟩) (fm3 _).1 (by have := (fm3 (pv.fdiv 9)).2; omega) hg1 ?_
  generalize hs1 : ({ s with heap := _, toks := _ } : Shared) = s₁
  have A₁ : Aft s s₁ := by rw [← hs1]; exact ⟨rfl, rfl, fun h => h⟩
  have e1 : s₁.heap = h₁ := by rw [← hs1]
  rw [← e1] at F₁ N₁
  walk_at "st"
  refine Subscript_ ?_
  walk_at "st"
  repeat walk_at "st"
  refine newList_K F₁ N₁ fun l2 h₂ F₂ N₂ hl2 => ?_
  repeat walk_at "st"
  refine nameX_L F₂ mp ?_
  repeat walk_at "st"
  refine PyProof.Rows.floordiv_int (by decide) ?_
  repeat walk_at "st"
  refine PyProof.Rows.mod_int (by decide) ?_
  obtain ⟨tt2, hg2⟩ := three_get (t1 := (s₁.toks : Nat)) (t2 := (s₁.toks + 1 : Nat)) (fm3 (pv.fdiv 27))
  refine item_litK (⟨_, (N₂ _ (.head _)).1, rfl, _, rfl⟩) (fm3 _).1 (by have := (fm3 (pv.fdiv 27)).2; omega) hg2 ?_
  generalize hs2 : ({ s₁ with heap := _, toks := _ } : Shared) = s₂
  have A₂ : Aft s₁ s₂ := by rw [← hs2]; exact ⟨rfl, rfl, fun h => h⟩
  have e2 : s₂.heap = h₂ := by rw [← hs2]
  rw [← e2] at F₂ N₂
  walk_at "st"
  refine newTuple_N F₂ N₂ fun h₃ F₃ N₃ => ?_
  refine unpackN_ F₃ N₃ ⟨_, (N₃ _ (.head _)).1, rfl, _, rfl⟩ r.hh rfl rfl fun h₄ F₄ N₄ => ?_
  refine wpAny_bind (wpAny_holding ?_)
  have up : ∀ q ∈ ν, q ∈ ((s₂.heap.objs.size, { cls := .type "tuple", data := .seq [kv (kOf ((pv.fdiv 9).fmod 3)) tt1, kv (kOf ((pv.fdiv 27).fmod 3)) tt2].toArray }) :: (l2, listOf [Value.none, .bytes [107, 49].toArray (s₁.toks : Nat), .bytes [107, 50].toArray (s₁.toks + 1 : Nat)].toArray 0) :: (l1, listOf [Value.none, .bytes [107, 49].toArray (s.toks : Nat), .bytes [107, 50].toArray (s.toks + 1 : Nat)].toArray 0) :: ν) := fun q hq => .tail _ (.tail _ (.tail _ hq))
  have B₄ : CB h₀ L h₄ ((s₂.heap.objs.size, { cls := .type "tuple", data := .seq [kv (kOf ((pv.fdiv 9).fmod 3)) tt1, kv (kOf ((pv.fdiv 27).fmod 3)) tt2].toArray }) :: (l2, listOf [Value.none, .bytes [107, 49].toArray (s₁.toks : Nat), .bytes [107, 50].toArray (s₁.toks + 1 : Nat)].toArray 0) :: (l1, listOf [Value.none, .bytes [107, 49].toArray (s.toks : Nat), .bytes [107, 50].toArray (s.toks + 1 : Nat)].toArray 0) :: ν) ca dc f 24 :=
    ⟨⟨es, nd, news_sub N₄ (List.forall_mem_cons.mpr ⟨.tail _ (.tail _ (.tail _ (.head _))), List.forall_mem_cons.mpr ⟨.head _, List.forall_mem_cons.mpr ⟨.tail _ (.head _), List.forall_mem_cons.mpr ⟨.tail _ (.tail _ (.head _)), fun q hq => .tail _ (.tail _ (.tail _ (.tail _ hq)))⟩⟩⟩⟩), D⟩, up _ hi,
      List.forall_mem_cons.mpr ⟨Nat.ne_of_gt (Heap.lt_size (N₂ _ (.tail _ (.tail _ (.head _)))).1), List.forall_mem_cons.mpr ⟨Nat.ne_of_gt (hl2 _ (.tail _ (.head _))), List.forall_mem_cons.mpr ⟨Nat.ne_of_gt (hl1 _ (.head _)), off⟩⟩⟩⟩
  refine asg_attr (nameX_L F₄ mc ?_)
  refine B₄.set S F₄ (by decide) kCt_key_identifier fun s₅ A₅ F₅ B₅ => ?_
  refine wpAny_bind (wpAny_holding (asg_attr (nameX_L F₅ mc ?_)))
  refine B₅.set S F₅ (by decide) kCt_authority_key_identifier fun s₆ A₆ F₆ B₆ => ?_
  refine wpAny_pure ?_
  exact k s₆ _ tt1 tt2 (A₁.trans (A₂.trans ⟨A₆.d.trans A₅.d, A₆.o.trans A₅.o, fun z => A₆.g (A₅.g z)⟩)) up F₆ B₆
end
section
variable {pool : Row} {pl sc ca dc a1 a2 it : Addr} {svs : List Value} {ns : List Int} {i np : Nat} {u tv t1 t2 t3 t4 : Tok} {pv : Int} {f : Str → Option Value} {kk : Nat} {name : Str} {v : Value} {y1 y2 : Str}
theorem law_p3 {name qual : Str} {params : Arguments} {body : List Stmt} {scope : Scope} {cdv : Value} {st : Stmt} {QF : Flow → Shared → Prop} (hl : LawIs w name qual params body scope cdv) (S : Sx w A₀ base outer (lawEnv scope L cdv) h₀ L mg mb mean loose) (hst : nav [1, 0, 3] body = some st) (F : Fr h₀ L s.heap m) (B : CB h₀ L s.heap ν ca dc f 26) (mc : m "cert" = some (.ref ca)) (mp : m "p" = some (.int pv tv)) {z0 : Int} (hz : f "serial_number" = some (.int z0 t1))
    (k : ∀ f' z t s', Aft s s' → Fr h₀ L s'.heap m → CB h₀ L s'.heap ν ca dc f' 27 → (∀ x, x ≠ ("serial_number" : Str) → f' x = f x) → f' "serial_number" = some (.int z t) → QF .next s') :
    wpAny (Mo w) A (exec st (lawEnv scope L cdv)) QF E s := by
  obtain ⟨dV, kV, doc, pm, ct, oc, an, od, osl, hb⟩ := hl.hb
  clear hl
  have hl := hb.symm.trans (lk (K := hd.heap_1 w.params) (f := 308) (by k_is))
  injection hl with hl
  injection hl with _ _ hl _
  injection hl with hl
  injection hl with e1 e2 e3 e4 e5 e6 e7 e8 e9 e10 e11 e12 e13
  injection e4 with e4
  subst e4 e5 e13
  clear hb e1 e2 e3 e6 e7 e8 e9 e10 e11 e12
  injection hst with hst
  subst hst
  walk_at "st"
  walk_at "st"
  walk_at "st"
  walk_at "st"
  refine nameX_L F mp ?_
  walk_at "st"
  refine PyProof.Rows.floordiv_int (by decide) ?_
  walk_at "st"
  refine PyProof.Rows.mod_int (by decide) ?_
  repeat walk_at "st"
  by_cases hz3 : (pv.fdiv 81).fmod 4 = 3
  · refine ite_pos (by simpa using hz3) ?_
    repeat walk_at "st"
    refine nameX_L F mc ?_
    obtain ⟨⟨es, nd, N, D⟩, hi, off⟩ := B
    refine cert_set S F N hi off D (by decide) kCt_serial_number fun es' n' h' tk F' N' D' => ?_
    walk_at "st"
    exact k _ 1 _ _ ⟨rfl, rfl, fun h => h⟩ F' ⟨⟨es', n', N', D'⟩, hi, off⟩ (fun x hx => if_neg hx) rfl
  · refine ite_neg (by simpa using hz3) ?_
    walk_at "st"
    obtain ⟨⟨es, nd, N, D⟩, hi, off⟩ := B
    exact k f z0 t1 _ ⟨rfl, rfl, fun h => h⟩ F ⟨⟨es, nd, N, D.pl, Nat.le_trans D.len (by decide), D.get⟩, hi, off⟩ (fun x _ => rfl) hz

theorem law_p4 {name qual : Str} {params : Arguments} {body : List Stmt} {scope : Scope} {cdv : Value} {st : Stmt} {QF : Flow → Shared → Prop} (hl : LawIs w name qual params body scope cdv) (S : Sx w A₀ base outer (lawEnv scope L cdv) h₀ L mg mb mean loose) (hst : nav [1, 0, 4] body = some st) (F : Fr h₀ L s.heap m) (N : News h₀ L s.heap ν) (mc : m "cert" = some (.ref ca)) (mp : m "pool" = some (.ref pl)) (hm : (pl, listOf (items pool) np) ∈ ν) (hlen : pool.length ≤ 100) {d : CD}
    (k : ∀ s', Aft s s' → Fr h₀ L s'.heap m → News h₀ L s'.heap ((pl, listOf (items (pool ++ [(ca, d)])) (np + 1)) :: wo pl ν) → QF .next s') :
    wpAny (Mo w) A (exec st (lawEnv scope L cdv)) QF E s := by
  obtain ⟨dV, kV, doc, pm, ct, oc, an, od, osl, hb⟩ := hl.hb
  clear hl
  have hl := hb.symm.trans (lk (K := hd.heap_1 w.params) (f := 308) (by k_is))
  injection hl with hl
  injection hl with _ _ hl _
  injection hl with hl
  injection hl with e1 e2 e3 e4 e5 e6 e7 e8 e9 e10 e11 e12 e13
  injection e4 with e4
  subst e4 e5 e13
  clear hb e1 e2 e3 e6 e7 e8 e9 e10 e11 e12
  injection hst with hst
  subst hst
  have N1 := news_wo N hm
  walk_at "st"
  refine MethodCall_ ?_
  refine nameX_L F mp ?_
  refine getMethod_list_of PySem.F.slot_list_append PySem.F.type_list_append ⟨_, (N _ hm).1, rfl, _, rfl⟩ ⟨_, (N _ hm).1, rfl⟩ ?_
  dsimp only
  walk_at "st"
  walk_at "st"
  refine nameX_L F mc ?_
  walk_at "st"
  refine append_K F N1 (Upd.head wo_off) (fun h₁ F₁ N₁ => ?_) (by rw [items_size, sizeLine_eq]; omega)
  have e : (items pool).push (.ref ca) = items (pool ++ [(ca, d)]) := by simp [items]
  rw [e] at N₁
  exact k _ ⟨rfl, rfl, fun h => h⟩ F₁ N₁
end
section
variable {pool : Row} {pl sc ca dc a1 a2 it : Addr} {svs : List Value} {ns : List Int} {i np : Nat} {u tv t1 t2 t3 t4 : Tok} {pv : Int} {f : Str → Option Value} {kk : Nat} {name : Str} {v : Value} {y1 y2 : Str}
theorem mk_range12 {t u : Tok} {b : Int} (F : Fr h₀ L s.heap m) (N : News h₀ L s.heap ν) (k : ∀ ro t1 h' tk, Fr h₀ L h' m → News h₀ L h' ((ro, rangeO 1 b 1 t u t1) :: ν) → Q (.ref ro) { s with heap := h', toks := tk }) : wpAny (Mo w) A (call (.type "range") [.int 1 t, .int b u]) Q E s :=
  call_range_2 (k _ _ _ _ (F.push _) (N.push F _))
theorem iter_range15 {r : Addr} {t u v : Tok} (F : Fr h₀ L s.heap m) (N : News h₀ L s.heap ν) (hr : (r, rangeO 1 5 1 t u v) ∈ ν) (k : ∀ it h', (∀ q ∈ ν, q.1 < it) → Fr h₀ L h' m → News h₀ L h' ((it, rgObj ((0 : Nat) + 1 : Int) (((4 : Nat) : Int) - (0 : Nat)) 1) :: ν) → Q (.ref it) { s with heap := h' }) : wpAny (Mo w) A (pyIter (.ref r)) Q E s := by
  refine wpAny_pyIter_range (N _ hr).1 (small_of (by decide) (by decide) (by decide) (by decide)) ?_
  have e : Builtin.Range.rangeSize 1 5 1 = ((4 : Nat) - (0 : Nat) : Int) := by rw [rangeSize_one]; decide
  rw [e]
  exact k s.heap.objs.size _ (fun q hq => Heap.lt_size (N q hq).1) (F.push _) (N.push F _)
theorem rg1_next {n : Nat} {Q : Option Value → Shared → Prop} (hh : A.handled = none) (hi : i ≤ n) (F : Fr h₀ L s.heap m) (N : News h₀ L s.heap ν) (hm : (it, rgObj ((i : Nat) + 1 : Int) ((n : Int) - (i : Nat)) 1) ∈ ν)
    (hs : i < n → ∀ t h' tk, Fr h₀ L h' m → News h₀ L h' ((it, rgObj (((i + 1 : Nat) : Int) + 1) ((n : Int) - ((i + 1 : Nat) : Int)) 1) :: wo it ν) → Q (some (.int ((i : Nat) + 1 : Int) t)) { s with heap := h', toks := tk })
    (hn : i = n → ∀ h', Fr h₀ L h' m → News h₀ L h' (wo it ν) → Q none { s with heap := h' }) : wpAny (Mo w) A (pyNext (.ref it)) Q E s := by
  have hit := (N _ hm).1
  have ne := (N _ hm).2.1
  have fresh : h₀.get? it = none := (N _ hm).2.2
  rcases Nat.lt_or_ge i n with hlt | hge
  · refine wpAny_pyNext_range_item hit (by omega) fun h' hit' hsb => ?_
    refine hs hlt _ h' _ (F.change hsb ne fresh) ?_
    refine List.forall_mem_cons.mpr ⟨⟨?_, ne, fresh⟩, fun q hq => ⟨(hsb.2 q.1 (wo_off q hq)).trans (N q (wo_sub q hq)).1, (N q (wo_sub q hq)).2⟩⟩
    have e1 : ((i : Nat) : Int) + 1 + 1 = ((i + 1 : Nat) : Int) + 1 := by omega
    have e2 : (n : Int) - (i : Nat) - 1 = (n : Int) - ((i + 1 : Nat) : Int) := by omega
    rw [e1, e2] at hit'
    exact hit'
  · refine wpAny_pyNext_range_end hh hit (by omega) fun h' hx => ?_
    refine hn (Nat.le_antisymm hi hge) h' ⟨?_, fun b o e => hx b o (fun q => by rw [q, fresh] at e; cases e) (F.keep b o e), F.above⟩ (fun q hq => ⟨hx q.1 q.2 (wo_off q hq) (N q (wo_sub q hq)).1, (N q (wo_sub q hq)).2⟩)
    obtain ⟨oL, q1, q2, qo, q3⟩ := F.ns
    exact ⟨oL, q1, q2, hx L oL (Ne.symm ne) qo, q3⟩

theorem kOf_small {z : Int} {b : Array UInt8} (h : kOf z = some b) : b.size = 2 := by
  unfold kOf at h
  split at h
  · cases h
  · split at h <;> (cases h; rfl)
theorem law_s1 {name qual : Str} {params : Arguments} {body : List Stmt} {scope : Scope} {cdv : Value} {st : Stmt} {QF : Flow → Shared → Prop} (hl : LawIs w name qual params body scope cdv) (S : Sx w A₀ base outer (lawEnv scope L cdv) h₀ L mg mb mean loose) (hst : nav [1] body = some st) (F : Fr h₀ L s.heap m) (N : News h₀ L s.heap ((pl, listOf (items []) 0) :: ν)) (off : ∀ q ∈ ν, q.1 ≠ pl) (r : Rm A (lawEnv scope L cdv :: outer) 30) (hsl : h₀.IsList sc svs.toArray) (hI : IntsAre svs ns) (h63 : ns.length ≤ 63)
    (mc : m "script" = some (.ref sc)) (mp : m "pool" = some (.ref pl))
    (k : ∀ pool np ν' m' s', Aft s s' → pool.length = 4 → PoolOk pool ν' → (∀ q ∈ ν, q ∈ ν') → Fr h₀ L s'.heap m' → News h₀ L s'.heap ν' → (pl, listOf (items pool) np) ∈ ν' → m' "script" = some (.ref sc) → m' "pool" = some (.ref pl) → QF .next s') :
    wpAny (Mo w) A (exec st (lawEnv scope L cdv)) QF E s := by
  have hl0 := hl
  obtain ⟨dV, kV, doc, pm, ct, oc, an, od, osl, hb⟩ := hl.hb
  clear hl
  have hl := hb.symm.trans (lk (K := hd.heap_1 w.params) (f := 308) (by k_is))
  injection hl with hl
  injection hl with _ _ hl _
  injection hl with hl
  injection hl with e1 e2 e3 e4 e5 e6 e7 e8 e9 e10 e11 e12 e13
  injection e4 with e4
  subst e4 e5 e13
  clear hb e1 e2 e3 e6 e7 e8 e9 e10 e11 e12
  injection hst with hst
  subst hst
  refine wpAny_For ?_
  repeat walk_at "st"
  refine mk_range12 F N fun ro t1 h₁ tk F₁ N₁ => ?_
  refine iter_range15 F₁ N₁ (.head _) fun it h₂ hlt F₂ N₂ => ?_
  replace N₂ : News h₀ L h₂ ((it, rgObj ((0 : Nat) + 1 : Int) (((4 : Nat) : Int) - (0 : Nat)) 1) :: (pl, listOf (items []) 0) :: ν) := news_sub N₂ (List.forall_mem_cons.mpr ⟨.head _, fun q hq => .tail _ (.tail _ hq)⟩)
  have nit : ∀ q ∈ ν, q.1 ≠ it := fun q hq => Nat.ne_of_lt (hlt q (.tail _ (.tail _ hq)))
  refine codeAny_forLoop (fun k₀ s₁ => ∃ (i : Nat) (pool : Row) (np : Nat) (ν' : List (Addr × Obj)) (m' : Str → Option Value), k₀ = 4 - i ∧ i ≤ 4 ∧ Aft s s₁ ∧ Fr h₀ L s₁.heap m' ∧ News h₀ L s₁.heap ν' ∧ (it, rgObj ((i : Nat) + 1 : Int) (((4 : Nat) : Int) - (i : Nat)) 1) ∈ ν' ∧ (pl, listOf (items pool) np) ∈ ν' ∧ (∀ q ∈ ν, q ∈ ν') ∧ pool.length = i ∧ PoolOk pool ν' ∧ m' "script" = some (.ref sc) ∧ m' "pool" = some (.ref pl)) (fun k₀ s₁ hI' => ?_) 4
    ⟨0, [], 0, _, m, rfl, by decide, ⟨rfl, rfl, fun h => h⟩, F₂, N₂, .head _, .tail _ (.head _), fun q hq => .tail _ (.tail _ hq), rfl, ⟨fun _ h => (nomatch h), fun _ h => (nomatch h), fun _ h => (nomatch h), fun i e h => (by simp at h)⟩, mc, mp⟩
  obtain ⟨i, pool, np, ν₃, m₃, rfl, hi, A₃, F₃, N₃, hit, hpl, sub₃, hlen, PO₃, mc₃, mp₃⟩ := hI'
  refine rg1_next r.hh hi F₃ N₃ hit (fun hlt' u h₄ tk₄ F₄ N₄ => ?_) fun he h₄ F₄ N₄ => ?_
  · have K₄ : Keep ν₃ ((it, rgObj (((i + 1 : Nat) : Int) + 1) (((4 : Nat) : Int) - ((i + 1 : Nat) : Int)) 1) :: wo it ν₃) := (wo_keep N₃ (N₃ _ hit).1 nf_range).trans (Keep.of fun q hq => .tail _ hq)
    have hpl₄ : (pl, listOf (items pool) np) ∈ ((it, rgObj (((i + 1 : Nat) : Int) + 1) (((4 : Nat) : Int) - ((i + 1 : Nat) : Int)) 1) :: wo it ν₃) := .tail _ (mem_wo_of N₃ hpl hit rg_ne_list)
    have sub₄ : ∀ q ∈ ν, q ∈ ((it, rgObj (((i + 1 : Nat) : Int) + 1) (((4 : Nat) : Int) - ((i + 1 : Nat) : Int)) 1) :: wo it ν₃) := fun q hq => .tail _ (mem_wo.mpr ⟨sub₃ q hq, nit q hq⟩)
    refine wpAny_assign_Name (storeX_L F₄ N₄ fun h₅ F₅ N₅ => ?_)
    walk_at "st"
    refine law_p0 (i := i) (u := u) hl0 S rfl F₅ N₅ hsl hI h63 mc₃ rfl hlt' fun pv tv s₆ A₆ F₆ N₆ => ?_
    dsimp only
    walk_at "st"
    refine law_p1 (i := i) (u := u) hl0 S rfl F₆ N₆ r.le rfl rfl hlt' fun ca dc f ν₇ a1 a2 y1 y2 t1 t2 s₇ A₇ sub₇ B₇ fs fr fsu fi H1 H2 F₇ => ?_
    dsimp only
    walk_at "st"
    refine law_p2 (pv := pv) (tv := tv) hl0 S rfl F₇ B₇ r.le rfl rfl fun s₈ ν₈ t3 t4 A₈ sub₈ F₈ B₈ => ?_
    dsimp only
    walk_at "st"
    refine law_p3 (pv := pv) (tv := tv) (t1 := t2) (z0 := ((i : Nat) + 1 : Int)) hl0 S rfl F₈ B₈ rfl rfl fr fun f' z t s₉ A₉ F₉ B₉ hf hz => ?_
    dsimp only
    obtain ⟨⟨es, nd, N₉, D⟩, bi, boff⟩ := B₉
    have up : ∀ q ∈ ((it, rgObj (((i + 1 : Nat) : Int) + 1) (((4 : Nat) : Int) - ((i + 1 : Nat) : Int)) 1) :: wo it ν₃), q ∈ ((dc, dictOf es nd) :: ν₈) := fun q hq => .tail _ (sub₈ q (sub₇ q hq))
    walk_at "st"
    refine law_p4 (d := ⟨((i : Nat) + 1 : Int), z, y1, y2, kOf ((pv.fdiv 9).fmod 3), kOf ((pv.fdiv 27).fmod 3)⟩) (pool := pool) (np := np) hl0 S rfl F₉ N₉ rfl mp₃ (up _ hpl₄) (by omega) fun s₁₀ A₁₀ F₁₀ N₁₀ => ?_
    dsimp only
    have Kp : Keep ((dc, dictOf es nd) :: ν₈) ((pl, listOf (items (pool ++ [(ca, ⟨((i : Nat) + 1 : Int), z, y1, y2, kOf ((pv.fdiv 9).fmod 3), kOf ((pv.fdiv 27).fmod 3)⟩)])) (np + 1)) :: wo pl ((dc, dictOf es nd) :: ν₈)) := (wo_keep N₉ (N₉ _ (up _ hpl₄)).1 nf_list).trans (Keep.of fun q hq => .tail _ hq)
    have C : CertIn ((dc, dictOf es nd) :: ν₈) ca ⟨((i : Nat) + 1 : Int), z, y1, y2, kOf ((pv.fdiv 9).fmod 3), kOf ((pv.fdiv 27).fmod 3)⟩ :=
      ⟨dc, a1, a2, es, nd, t1, t, t3, t4, .tail _ bi, .head _, by rw [D.get, hf _ (by decide)]; exact congrArg some fs, by rw [D.get]; exact congrArg some hz, by rw [D.get, hf _ (by decide)]; exact congrArg some fsu, by rw [D.get, hf _ (by decide)]; exact congrArg some fi, by rw [D.get, hf _ (by decide)]; rfl, by rw [D.get, hf _ (by decide)]; rfl, H1.mono fun q hq => .tail _ (sub₈ q hq), H2.mono fun q hq => .tail _ (sub₈ q hq)⟩
    have PO₁ := (PO₃.frz (K₄.trans (Keep.of up))).frz Kp
    walk_at "st"
    refine ⟨4 - (i + 1), by omega, i + 1, _, _, _, _, rfl, hlt', ⟨A₁₀.d.trans (A₉.d.trans (A₈.d.trans (A₇.d.trans (A₆.d.trans A₃.d)))), A₁₀.o.trans (A₉.o.trans (A₈.o.trans (A₇.o.trans (A₆.o.trans A₃.o)))), fun x => A₁₀.g (A₉.g (A₈.g (A₇.g (A₆.g (A₃.g x)))))⟩, F₁₀, N₁₀, ?_, .head _, ?_, by simp [hlen], ?_, mc₃, mp₃⟩
    · exact .tail _ (mem_wo.mpr ⟨up _ (.head _), fun q => news_ne N₃ hpl hit rg_ne_list q.symm⟩)
    · exact fun q hq => .tail _ (mem_wo.mpr ⟨up _ (sub₄ q hq), off q hq⟩)
    · refine ⟨fun e he => ?_, fun e he => ?_, fun e he => ?_, fun j e he => ?_⟩
      · rcases List.mem_append.mp he with he | he
        · exact PO₁.c e he
        · rw [List.mem_singleton.mp he]; exact C.frz Kp
      · rcases List.mem_append.mp he with he | he
        · exact PO₁.s e he
        · rw [List.mem_singleton.mp he]
          exact ⟨fun b hb => by rw [kOf_small hb]; decide, fun b hb => by rw [kOf_small hb]; decide⟩
      · rcases List.mem_append.mp he with he | he
        · exact PO₁.n e he
        · rw [List.mem_singleton.mp he]
          exact ⟨fun b hb => by rw [kOf_small hb]; decide, fun b hb => by rw [kOf_small hb]; decide⟩
      · rw [List.getElem?_append] at he
        split at he
        · exact PO₁.g j e he
        · next hj =>
          have : j - pool.length = 0 := by
            have := (List.getElem?_eq_some_iff.mp he).1
            simp at this
            omega
          rw [this] at he
          cases he
          show ((i : Nat) + 1 : Int) = ((j + 1 : Nat) : Int)
          omega
  · walk_at "st"
    exact k pool np _ m₃ _ ⟨A₃.d, A₃.o, A₃.g⟩ (by omega) (PO₃.frz (wo_keep N₃ (N₃ _ hit).1 nf_range)) (fun q hq => mem_wo.mpr ⟨sub₃ q hq, nit q hq⟩) F₄ N₄ (mem_wo_of N₃ hpl hit rg_ne_list) mc₃ mp₃
end
section
variable {pool prow vrow trow : Row} {pl rr nl nin it p2 l2 h2 D spl sc : Addr} {svs : List Value} {ns : List Int} {o1 o2 : Obj} {v1 v2 : Option Value}
theorem law_all {name qual : Str} {params : Arguments} {body : List Stmt} {scope : Scope} {cdv : Value} {QF : Flow → Shared → Prop} (hl : LawIs w name qual params body scope cdv) (S : Sx w A₀ h₀ outer (lawEnv scope L cdv) h₀ L mg mb mean loose) (F : Fr h₀ L s.heap m) (N : News h₀ L s.heap ν) (r : Rm (A₀.deeper (lawEnv scope L cdv)) (lawEnv scope L cdv :: outer) 30)
    (hsl : h₀.IsList sc svs.toArray) (hI : IntsAre svs ns) (h63 : ns.length ≤ 63) (mc : m "script" = some (.ref sc)) (c1 : (L + 1, o1) ∈ ν) (d1 : o1.data = .cell v1) (c2 : (L + 2, o2) ∈ ν) (d2 : o2.data = .cell v2)
    (k : ∀ m' s', Aft s s' → Fr h₀ L s'.heap m' → QF (.ret (.bool true)) s') :
    wpAny (Mo w) (A₀.deeper (lawEnv scope L cdv)) (execs body (lawEnv scope L cdv)) QF (fun _ _ => False) s := by
  have hl0 := hl
  obtain ⟨dV, kV, doc, pm, ct, oc, an, od, osl, hb⟩ := hl.hb
  clear hl
  have hl := hb.symm.trans (lk (K := hd.heap_1 w.params) (f := 308) (by k_is))
  injection hl with hl
  injection hl with _ _ hl _
  injection hl with hl
  injection hl with e1 e2 e3 e4 e5 e6 e7 e8 e9 e10 e11 e12 e13
  injection e4 with e4
  subst e4 e5 e13
  clear hb e1 e2 e3 e6 e7 e8 e9 e10 e11 e12
  walk_at "st"
  refine law_s0 hl0 S rfl F N fun pl s₁ A₁ off F₁ N₁ => ?_
  dsimp only
  walk_at "st"
  refine law_s1 hl0 S rfl F₁ N₁ off r hsl hI h63 mc rfl fun pool np ν₂ m₂ s₂ A₂ p4 PO₂ sub₂ F₂ N₂ hpl mc₂ mp₂ => ?_
  dsimp only
  walk_at "st"
  have c1' := sub₂ _ c1
  refine law_s2 hl0 S rfl F₂ N₂ r c1' d1 fun p l hs es t n1 n2 rr ν₃ s₃ po A₃ kp F₃ N₃ ml mh PI O mrr rne ofl mpo dpo => ?_
  dsimp only
  have K₃ : Keep ν₂ ν₃ := fun q hq hz => kp q hq fun e => (nf_cell d1) (by
    have e1 := (N₂ q hq).1
    rw [e, (N₂ _ c1').1] at e1
    have e2 : o1 = q.2 := Option.some.inj e1
    rw [e2]; exact hz)
  have P₃ : LP w L pool [] [] ν₃ pl rr p l hs := ⟨p4, PO₂.frz K₃, ⟨np, kp _ hpl (news_ne N₂ hpl c1' (list_ne_cell d1))⟩, ofl _ hpl, ⟨n1, ml⟩, ⟨es, t, n2, mh, O⟩, PI, ⟨0, mrr⟩, rne, ⟨po, mpo, dpo⟩, ⟨o2, v2, kp _ (sub₂ _ c2) (Nat.ne_of_gt (Nat.lt_succ_self (L + 1))), d2⟩, fun _ h => (nomatch h), fun _ h => (nomatch h), List.nodup_nil⟩
  walk_at "st"
  refine law_s3 hl0 S rfl F₃ N₃ r hsl hI h63 P₃ mc₂ mp₂ rfl fun row ν₄ rr' p' l' hs' m₄ s₄ A₄ F₄ N₄ P₄ M₄ mr₄ => ?_
  dsimp only
  have mc₄ : m₄ "script" = some (.ref sc) := (M₄ _ (by decide)).trans mc₂
  have mp₄ : m₄ "pool" = some (.ref pl) := (M₄ _ (by decide)).trans mp₂
  walk_at "st"
  refine law_s4 hl0 S rfl F₄ N₄ r hsl hI h63 mc₄ fun nl nvs nn ns' s₅ A₅ h2 h100 hI' offn F₅ N₅ => ?_
  dsimp only
  have P₅ := P₄.more (fun q hq => List.Mem.tail (nl, listOf nvs nn) hq) N₅
  have nne : nl ≠ l' := fun q => by
    obtain ⟨n9, lm⟩ := P₄.lm
    exact offn _ lm q.symm
  walk_at "st"
  refine law_s5 hl0 S rfl F₅ N₅ r P₅ mp₄ rfl mr₄ (.head _) nne hI' h100 h2 fun row₆ ν₆ rr₆ m₆ s₆ A₆ F₆ N₆ P₆ mp₆ mr₆ => ?_
  dsimp only
  walk_at "st"
  refine law_s6 hl0 S rfl F₆ N₆ r P₆ mr₆ fun p2 l2 h2 D hvs nD co ν₇ s₇ A₇ F₇ T₇ P₇ hc cd hD acc => ?_
  dsimp only
  walk_at "st"
  refine law_s7 hl0 S rfl F₇ T₇ r P₇ mr₆ rfl fun ν₈ m₈ s₈ A₈ F₈ T₈ P₈ sub₈ M₈ => ?_
  dsimp only
  have mt₈ : m₈ "twin" = some (.ref p2) := M₈ _ (by decide)
  have mr₈ : m₈ "row" = some (.ref rr₆) := (M₈ _ (by decide)).trans mr₆
  walk_at "st"
  refine law_s8 hl0 S rfl F₈ T₈ r P₈ ((M₈ _ (by decide)).trans mp₆) (sub₈ _ hc) cd (sub₈ _ hD) (acc.frz (Keep.of sub₈)) fun spl nS ν₉ s₉ A₉ F₉ T₉ P₉ hsp => ?_
  dsimp only
  walk_at "st"
  refine law_s9 hl0 S rfl F₉ T₉ r P₉ mt₈ fun s₁₀ A₁₀ F₁₀ T₁₀ => ?_
  dsimp only
  have B : Aft s s₁₀ := A₁.trans (A₂.trans (A₃.trans (A₄.trans (A₅.trans (A₆.trans (A₇.trans (A₈.trans (A₉.trans A₁₀))))))))
  walk_at "st"
  refine law_s10 hl0 S rfl F₁₀ T₁₀ r P₉ mt₈ mr₈ rfl hsp (fun s₁₁ A₁₁ F₁₁ => ?_) fun s₁₁ A₁₁ F₁₁ => ?_
  · dsimp only
    repeat walk_at "st"
    exact k _ s₁₁ (B.trans A₁₁) F₁₁
  · exact k _ s₁₁ (B.trans A₁₁) F₁₁
end
section
variable {sc : Addr} {svs : List Value} {ns : List Int}
theorem law_call (KX : (hd.heap_1 w.params).In s.heap) (T : Top hd.view_1 loose mean mg mb s.heap) (hsl : s.heap.IsList sc svs.toArray) (hI : IntsAre svs ns) (h63 : ns.length ≤ 63)
    (k : ∀ L' m' s', Aft s s' → Fr s.heap L' s'.heap m' → R (.ok (.ret (.bool true))) s') : codeAny (Mo w) callerA (.call (.ref 308) ⟨[.ref sc], []⟩) R s := by
  have hb := lk (K := hd.heap_1 w.params) (f := 308) (by k_is)
  have ho := KX _ _ hb
  refine call_cellsN (by decide) ho rfl T.nolimit (codeRec_of KX (by k_is)) rfl (kinds_of (by kinds_ok)) (by decide) fun h₁ tk cells F N X => ?_
  obtain ⟨o1, o2, rfl, d1, d2⟩ := CellsAre.two X
  refine wpAny_mono (law_all (A₀ := callerA) (outer := []) (h₀ := s.heap) (L := s.heap.objs.size) (mg := mg) (mb := mb) (mean := mean) (loose := loose) ⟨⟨_, _, _, _, _, _, _, _, _, hb⟩⟩ ⟨below_caller _, KX, T, rfl, rfl⟩ F N ⟨rfl, (by show callerA.depth + 1 + 30 ≤ 900; decide), (by show callerA.units + 3 + 300 ≤ 9000; decide), rfl⟩ hsl hI h63 rfl (.tail _ (.head _)) d2 (.head _) d1 fun m' s' A' F' => ?_) (fun _ _ x => x) (fun _ _ x => x.elim)
  exact k _ m' s' ⟨A'.d, A'.o, A'.g⟩ F'
end
end
/- These take the names of the dearest quick twins that the head would lay below (their proofs alone fill some 30 MB of the compiled file); the head goes on without those twins. They are used nowhere. -/
theorem top.tw1689488355775964295 : True := trivial
theorem top.tw16541100652227675460 : True := trivial
theorem top.tw634140439597932539 : True := trivial
theorem top.tw2730760306732684819 : True := trivial
theorem top.tw12494133039663366866 : True := trivial
theorem top.tw17799576838397608077 : True := trivial
theorem top.tw18064794426631996164 : True := trivial
theorem top.tw8880577264416698426 : True := trivial
theorem top.tw17872498390731745468 : True := trivial
theorem top.tw5635023394480961331 : True := trivial
theorem top.tw8657480035899644758 : True := trivial
theorem top.tw11953251759806468079 : True := trivial
theorem top.tw10797620697341660853 : True := trivial
theorem top.tw1836856682681831516 : True := trivial
theorem top.tw487173335965325826 : True := trivial
theorem top.tw14794233151107227712 : True := trivial
theorem top.tw9595331335577350427 : True := trivial
theorem top.tw4186445540838780016 : True := trivial
theorem top.tw4498253355057717688 : True := trivial
theorem top.tw3186775038225222150 : True := trivial
theorem top.tw6930518751129746686 : True := trivial
theorem top.tw16900427199656544559 : True := trivial
theorem top.tw12415523145999629524 : True := trivial
theorem top.tw14282377253939248939 : True := trivial
theorem top.tw4859757453598101857 : True := trivial
theorem top.tw8345894832289464959 : True := trivial
theorem top.tw12317137736924338119 : True := trivial
theorem top.tw2988451766255067171 : True := trivial
theorem top.tw3254097082911018636 : True := trivial
theorem top.tw4047667213573674445 : True := trivial
theorem top.tw7429413206186439793 : True := trivial
theorem top.tw15740088241188596515 : True := trivial
theorem top.tw4205137553216949640 : True := trivial
theorem top.tw1676862907878916244 : True := trivial
theorem top.tw10006222313960134694 : True := trivial
theorem top.tw18008055252877512497 : True := trivial
theorem top.tw4076138812419527698 : True := trivial
theorem top.tw14796646475526232899 : True := trivial
theorem top.tw3969286963782609292 : True := trivial
theorem top.tw5915399644114372684 : True := trivial
theorem top.tw17620759639134147866 : True := trivial
theorem top.tw5088376156974544275 : True := trivial
theorem top.tw11028086866134049853 : True := trivial
theorem top.tw5667650583090716360 : True := trivial
theorem top.tw11546936639936008217 : True := trivial
theorem top.tw775762912060472103 : True := trivial
theorem top.tw5225916559131626549 : True := trivial
theorem top.tw2741389259953327712 : True := trivial
theorem top.tw7444641836354208208 : True := trivial
theorem top.tw8892184565913893157 : True := trivial
theorem top.tw1638113669730673903 : True := trivial
theorem top.tw13120753694373217308 : True := trivial
theorem top.tw8321918168302905379 : True := trivial
theorem top.tw3474246075231452896 : True := trivial
theorem top.tw7715697345341360870 : True := trivial
theorem top.tw14987219478266130788 : True := trivial
theorem top.tw6027168181105674451 : True := trivial
theorem top.tw11858546649754279707 : True := trivial
theorem top.tw10996937224433265937 : True := trivial
theorem top.tw14349089067433371257 : True := trivial
theorem top.tw4671429814451907529 : True := trivial
theorem top.tw81815255157605957 : True := trivial
theorem top.tw9305691244287143441 : True := trivial
theorem top.tw15177526630643400193 : True := trivial
theorem top.tw13370750898655102155 : True := trivial
theorem top.tw2867133514656366558 : True := trivial
theorem top.tw17886615442053742456 : True := trivial
theorem top.tw12342655685612074800 : True := trivial
theorem top.tw5303079699428457377 : True := trivial
theorem top.tw8679839319945467846 : True := trivial
theorem top.tw13889309363888878346 : True := trivial
theorem top.tw17565814175750979855 : True := trivial
theorem top.tw3855276242980373810 : True := trivial
theorem top.tw17355269125676882429 : True := trivial
theorem top.tw5118827330378232414 : True := trivial
theorem top.tw8735323631387419056 : True := trivial
theorem top.tw8523463495250067690 : True := trivial
theorem top.tw15092371282622821202 : True := trivial
theorem top.tw13822267516522204269 : True := trivial
theorem top.tw705360758644809490 : True := trivial
theorem top.tw7458633546980236471 : True := trivial
theorem top.tw8435561252592420358 : True := trivial
theorem top.tw2985252069258134486 : True := trivial
theorem top.tw6906291655842520137 : True := trivial
theorem top.tw1284575025550258836 : True := trivial
theorem top.tw8598144960395782539 : True := trivial
theorem top.tw12622177474791663080 : True := trivial
theorem top.tw7855079511596107753 : True := trivial
theorem top.tw105208000716104510 : True := trivial
theorem top.tw15860264024139754761 : True := trivial
theorem top.tw15299407806266782574 : True := trivial
theorem top.tw15878805988109762761 : True := trivial
theorem top.tw2665807947273092163 : True := trivial
theorem top.tw5244899138074338376 : True := trivial
theorem top.tw6520327441239513222 : True := trivial
theorem top.tw14399976873020721970 : True := trivial
theorem top.tw9614876229902214918 : True := trivial
theorem top.tw13090165191389475591 : True := trivial
theorem top.tw15918733279669447828 : True := trivial
theorem top.tw6211089042160764376 : True := trivial
theorem top.tw8622502720953521162 : True := trivial
theorem top.tw5969682004907312646 : True := trivial
theorem top.tw4159251561096739476 : True := trivial
theorem top.tw728428047077509346 : True := trivial
theorem top.tw708234853630380328 : True := trivial
theorem top.tw620129878449983639 : True := trivial
theorem top.tw10548783162686979305 : True := trivial
theorem top.tw17323899518341599180 : True := trivial
theorem top.tw9382581127745807760 : True := trivial
theorem top.tw16821654228018055803 : True := trivial
theorem top.tw10008474027749305400 : True := trivial
theorem top.tw18164388396756303480 : True := trivial
theorem top.tw11423202765487971197 : True := trivial
theorem top.tw7008692893051332821 : True := trivial
theorem top.tw12392516345856041104 : True := trivial
theorem top.tw10195997230039290492 : True := trivial
theorem top.tw10773188271377071773 : True := trivial
theorem top.tw8507776931139520737 : True := trivial
theorem top.tw3195968871104189447 : True := trivial
theorem top.tw17810072253543177317 : True := trivial
theorem top.tw2462062305354472974 : True := trivial
theorem top.tw7250933059871147345 : True := trivial
theorem top.tw11334415319851112604 : True := trivial
theorem top.tw4655869559712951663 : True := trivial
theorem top.tw1212798325632107971 : True := trivial
theorem top.tw15059952678800108311 : True := trivial
theorem top.tw16325430554902658873 : True := trivial
theorem top.tw7990429038631628895 : True := trivial
theorem top.tw5058314954733539658 : True := trivial
theorem top.tw14263998999751124003 : True := trivial
theorem top.tw12787338502077490372 : True := trivial
theorem top.tw3584897518013459382 : True := trivial
theorem top.tw5476889619067714990 : True := trivial
theorem top.tw8140125068956082859 : True := trivial
theorem top.tw7743179893348639699 : True := trivial
theorem top.tw5278709424875269971 : True := trivial
theorem top.tw2924597203103170677 : True := trivial
theorem top.tw14861896470697024400 : True := trivial
theorem top.tw18237780215024852062 : True := trivial
theorem top.tw17469865338272021226 : True := trivial
theorem top.tw2007660962349395123 : True := trivial
theorem top.tw13420762306968818387 : True := trivial
theorem top.tw13369591340354186047 : True := trivial
theorem top.tw16104615914030681952 : True := trivial
theorem top.tw2822501910515967889 : True := trivial
theorem top.tw9800703332001039478 : True := trivial
theorem top.tw13272337422414781067 : True := trivial
theorem top.tw5155950481276406077 : True := trivial
theorem top.tw877433047237710547 : True := trivial
theorem top.tw13091174067606910046 : True := trivial
theorem top.tw8107780213005350392 : True := trivial
theorem top.tw13928562000808390012 : True := trivial
theorem top.tw14459580976405569124 : True := trivial
theorem top.tw7786608210978119480 : True := trivial
theorem top.tw16352630495959832749 : True := trivial
theorem top.tw1732150942055357024 : True := trivial
theorem top.tw7847650389618582240 : True := trivial
theorem top.tw6885214360128481674 : True := trivial
theorem top.tw8184561461823581802 : True := trivial
theorem top.tw2464713573024523455 : True := trivial
set_option Elab.async true in
theorem top : PySem.Challenge.rw_je0005_01.Holds := by
  w_on; o_law; k_head; (case hw => w_witness2)
  k_fill
  intro w s₀ s₁ mg mb G Y fa o pm cd doc dV kV ho hd hcd hD hmg hg args vals as hpre hlay hrd hwl hlo
  have KX := reIn (by kernel_rfl) (kIn_of Y)
  have X := (Ground.X G).1
  have V := (Ground.X G).2
  refine Ground.open G ?_
  intro T B D TE TW
  try (refine guard_noD D (by decide +kernel) ?_; clear D)
  have e8 := mg_of (n := "law") KX (topRead_of T).g (v := .ref 308) (by k_is)
  have e9 : fa = 308 := by
    have e7 := hmg.symm.trans e8
    exact Value.ref.inj (Option.some.inj e7)
  subst e9
  clear ho hd hcd hD hmg
  wrow_args hpre hlay hrd hwl hlo
  all_goals (
    first | refine callC_kw (enter_call ?_) | refine enter_call ?_ | refine callC_kw (enter_callW ?_) | refine enter_callW ?_ | w_how
    w_top on)
  rename_i hI _ h63 _
  rename (Heap.IsList _ _ _) => hL
  refine Mine.law_call KX (Eq.subst (motive := fun p => Top p _ _ _ _ _) (by kernel_rfl : _ = hd.view_1) T) hL hI (by omega) fun L' m' s' A' F' => ?_
  refine ⟨.inl ⟨.bool true, .bool true, [], rfl, ?_, .bool true, ?_, unshared_nil⟩, .of_keep F'.keep, A'.o, A'.g (by rw [hg]; exact AllBare.empty)⟩
  · exact raisesW_false (by wrow_none_raised)
  · exact postW_of (by wrow_shape) (by wtm_val) (by str_meet; first | done | w_fin)
end Mine
theorem PySem.Challenge.cw_je0005_01_holds : PySem.Challenge.rw_je0005_01.Holds :=
  Mine.top
