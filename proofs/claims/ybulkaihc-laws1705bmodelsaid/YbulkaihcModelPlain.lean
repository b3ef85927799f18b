/-
  'LawS1705BModel': the plain part: what the votes' map, the voters' codes and the first votes have to do with one another. No Go in sight. By the prover of seat 061 (an AI agent).
-/
namespace Go.Proofs.Ybulkaihc.Vote

/-- One value's entry: the value, how many carry it, its place. -/
abbrev ME := Int × (Int × Int)

def upd (V : Nat → Int) (f : Nat) (x : Int) : Nat → Int := fun j => if j = f then x else V j

/-- What one vote does to the map and the codes. -/
def Step (M : List ME) (V : Nat → Int) (f : Nat) (x : Int) (M' : List ME) (V' : Nat → Int) : Prop :=
  (V f ≠ 0 ∧ M' = M ∧ V' = V) ∨
  (V f = 0 ∧ x = 0 ∧ M' = M ∧ V' = upd V f 1) ∨
  (V f = 0 ∧ x ≠ 0 ∧ (∀ e ∈ M, e.1 ≠ x) ∧ M' = M ++ [(x, (1, (M.length : Int)))] ∧ V' = upd V f (M.length + 2)) ∨
  (V f = 0 ∧ x ≠ 0 ∧ ∃ M1 M2 c p, M = M1 ++ (x, (c, p)) :: M2 ∧ M' = M1 ++ (x, (c + 1, p)) :: M2 ∧ V' = upd V f (p + 2))

/-- How many of the first n votes are y. -/
def cnt (F : Nat → Int) : Nat → Int → Int
  | 0, _ => 0
  | n + 1, y => cnt F n y + if F n = y then 1 else 0

theorem cnt_bd (F : Nat → Int) (n : Nat) (y : Int) : 0 ≤ cnt F n y ∧ cnt F n y ≤ n := by
  induction n with
  | zero => simp [cnt]
  | succ n ih => simp only [cnt]; split <;> omega

theorem cnt_upd_out (F : Nat → Int) (f : Nat) (x y : Int) : ∀ n, n ≤ f → cnt (upd F f x) n y = cnt F n y
  | 0, _ => rfl
  | n + 1, h => by
    simp only [cnt]
    rw [cnt_upd_out F f x y n (by omega)]
    have : upd F f x n = F n := by unfold upd; rw [if_neg (by omega)]
    rw [this]

theorem cnt_upd (F : Nat → Int) (f : Nat) (x y : Int) (hF : F f ≠ y) : ∀ n, f < n → cnt (upd F f x) n y = cnt F n y + if x = y then 1 else 0
  | n + 1, h => by
    simp only [cnt]
    by_cases hn : f = n
    · subst hn
      rw [cnt_upd_out F f x y f (Nat.le_refl _)]
      have : upd F f x f = x := by unfold upd; rw [if_pos rfl]
      rw [this, if_neg hF]
      omega
    · rw [cnt_upd F f x y hF n (by omega)]
      have : upd F f x n = F n := by unfold upd; rw [if_neg (by omega)]
      rw [this]
      omega

theorem cnt_pos (F : Nat → Int) (y : Int) : ∀ n, 1 ≤ cnt F n y ↔ ∃ i, i < n ∧ F i = y
  | 0 => by simp [cnt]
  | n + 1 => by
    have hb := cnt_bd F n y
    have ih := cnt_pos F y n
    simp only [cnt]
    constructor
    · intro h
      by_cases hy : F n = y
      · exact ⟨n, by omega, hy⟩
      · rw [if_neg hy] at h
        obtain ⟨i, hi, e⟩ := ih.1 (by omega)
        exact ⟨i, by omega, e⟩
    · rintro ⟨i, hi, e⟩
      by_cases hn : i = n
      · subst hn; rw [if_pos e]; omega
      · have := ih.2 ⟨i, by omega, e⟩
        split <;> omega

/-- The three agree. -/
structure Good (n : Nat) (F : Nat → Int) (M : List ME) (V : Nat → Int) : Prop where
  first : ∀ i, i < n → -1 ≤ F i ∧ F i ≤ 3
  apart : M.Pairwise (fun a b => a.1 ≠ b.1)
  entry : ∀ e ∈ M, 1 ≤ e.1 ∧ e.1 ≤ 3 ∧ e.2.1 = cnt F n e.1 ∧ 1 ≤ e.2.1
  fnone : ∀ i, i < n → F i = -1 → V i = 0
  fnil : ∀ i, i < n → F i = 0 → V i = 1
  fsome : ∀ i, i < n → 1 ≤ F i → ∃ e ∈ M, e.1 = F i ∧ V i = e.2.2 + 2
  place : ∀ (j : Nat) e, M[j]? = some e → e.2.2 = (j : Int)

theorem Good.start (n : Nat) : Good n (fun _ => -1) [] (fun _ => 0) :=
  ⟨by intros; omega, by simp, by simp, fun _ _ _ => rfl, by intros; omega, by intros; omega, by simp⟩

theorem Good.place_nonneg {n : Nat} {F : Nat → Int} {M : List ME} {V : Nat → Int} (h : Good n F M V) {e : ME} (he : e ∈ M) : 0 ≤ e.2.2 ∧ e.2.2 < M.length := by
  obtain ⟨j, hj, rfl⟩ := List.mem_iff_getElem.1 he
  have := h.place j _ (List.getElem?_eq_getElem hj)
  omega

theorem Good.zero_iff {n : Nat} {F : Nat → Int} {M : List ME} {V : Nat → Int} (h : Good n F M V) {f : Nat} (hf : f < n) : V f = 0 ↔ F f = -1 := by
  have hb := h.first f hf
  constructor
  · intro hv
    by_cases h1 : F f = -1
    · exact h1
    · by_cases h0 : F f = 0
      · have := h.fnil f hf h0; omega
      · obtain ⟨e, he, _, hV⟩ := h.fsome f hf (by omega)
        have := h.place_nonneg he
        omega
  · exact h.fnone f hf

theorem apart_eq {M : List ME} (h : M.Pairwise (fun a b => a.1 ≠ b.1)) {a b : ME} (ha : a ∈ M) (hb : b ∈ M) (he : a.1 = b.1) : a = b := by
  induction M with
  | nil => simp at ha
  | cons p l ih =>
    obtain ⟨h1, h2⟩ := List.pairwise_cons.1 h
    rcases List.mem_cons.1 ha with ea | ha'
    · rcases List.mem_cons.1 hb with eb | hb'
      · rw [ea, eb]
      · rw [ea] at he
        exact absurd he (h1 _ hb')
    · rcases List.mem_cons.1 hb with eb | hb'
      · rw [eb] at he
        exact absurd he.symm (h1 _ ha')
      · exact ih h2 ha' hb'

theorem upd_same (V : Nat → Int) (f : Nat) (x : Int) : upd V f x f = x := by unfold upd; rw [if_pos rfl]
theorem upd_other (V : Nat → Int) (f : Nat) (x : Int) {i : Nat} (h : i ≠ f) : upd V f x i = V i := by unfold upd; rw [if_neg h]

/-- A vote keeps them agreeing. -/
theorem Good.step {n : Nat} {F : Nat → Int} {M : List ME} {V : Nat → Int} (h : Good n F M V) {f : Nat} (hf : f < n) {x : Int} (hx0 : 0 ≤ x) (hx3 : x ≤ 3) {M' : List ME} {V' : Nat → Int} (hs : Step M V f x M' V') :
    Good n (if F f < 0 then upd F f x else F) M' V' := by
  have hz := h.zero_iff hf
  have hb := h.first f hf
  rcases hs with ⟨hv, rfl, rfl⟩ | ⟨hv, rfl, rfl, rfl⟩ | ⟨hv, hx, hno, rfl, rfl⟩ | ⟨hv, hx, M1, M2, c, p, rfl, rfl, rfl⟩
  · have hF : ¬ F f = -1 := fun e => hv (hz.2 e)
    rw [if_neg (by omega)]
    exact h
  · have hF := hz.1 hv
    rw [if_pos (by omega)]
    refine ⟨?_, h.apart, ?_, ?_, ?_, ?_, h.place⟩
    · intro i hi
      by_cases e : i = f
      · subst e; rw [upd_same]; omega
      · rw [upd_other _ _ _ e]; exact h.first i hi
    · intro e he
      obtain ⟨a, b, c, d⟩ := h.entry e he
      refine ⟨a, b, ?_, d⟩
      rw [cnt_upd F f 0 e.1 (by omega) n hf, if_neg (by omega)]
      omega
    · intro i hi hF'
      by_cases e : i = f
      · subst e; rw [upd_same] at hF'; omega
      · rw [upd_other _ _ _ e] at hF' ⊢; exact h.fnone i hi hF'
    · intro i hi hF'
      by_cases e : i = f
      · subst e; rw [upd_same]
      · rw [upd_other _ _ _ e] at hF' ⊢; exact h.fnil i hi hF'
    · intro i hi hF'
      by_cases e : i = f
      · subst e; rw [upd_same] at hF'; omega
      · rw [upd_other _ _ _ e] at hF' ⊢
        rw [upd_other _ _ _ e]
        exact h.fsome i hi hF'
  · have hF := hz.1 hv
    rw [if_pos (by omega)]
    have hc0 : cnt F n x = 0 := by
      have hb' := cnt_bd F n x
      by_cases hp : 1 ≤ cnt F n x
      · obtain ⟨i, hi, e⟩ := (cnt_pos F x n).1 hp
        obtain ⟨e', he', h1, _⟩ := h.fsome i hi (by omega)
        exact absurd (h1.trans e) (hno _ he')
      · omega
    refine ⟨?_, ?_, ?_, ?_, ?_, ?_, ?_⟩
    · intro i hi
      by_cases e : i = f
      · subst e; rw [upd_same]; omega
      · rw [upd_other _ _ _ e]; exact h.first i hi
    · refine List.pairwise_append.2 ⟨h.apart, by simp, fun a ha b hb' => ?_⟩
      rw [List.mem_singleton.1 hb']
      exact hno a ha
    · intro e he
      rcases List.mem_append.1 he with he | he
      · obtain ⟨a, b, c, d⟩ := h.entry e he
        refine ⟨a, b, ?_, d⟩
        rw [cnt_upd F f x e.1 (by omega) n hf, if_neg (fun q => hno e he q.symm)]
        omega
      · rw [List.mem_singleton.1 he]
        refine ⟨by simp only; omega, by simp only; omega, ?_, by simp⟩
        simp only
        rw [cnt_upd F f x x (by omega) n hf, if_pos rfl]
        omega
    · intro i hi hF'
      by_cases e : i = f
      · subst e; rw [upd_same] at hF'; omega
      · rw [upd_other _ _ _ e] at hF' ⊢; exact h.fnone i hi hF'
    · intro i hi hF'
      by_cases e : i = f
      · subst e; rw [upd_same] at hF'; omega
      · rw [upd_other _ _ _ e] at hF' ⊢; exact h.fnil i hi hF'
    · intro i hi hF'
      by_cases e : i = f
      · subst e
        rw [upd_same, upd_same]
        exact ⟨(x, (1, (M.length : Int))), by simp, rfl, rfl⟩
      · rw [upd_other _ _ _ e] at hF' ⊢
        rw [upd_other _ _ _ e]
        obtain ⟨e', he', h1, h2⟩ := h.fsome i hi hF'
        exact ⟨e', by simp [he'], h1, h2⟩
    · intro j e hj
      by_cases hjl : j < M.length
      · rw [List.getElem?_append_left hjl] at hj
        exact h.place j e hj
      · have hlt : j < (M ++ [(x, ((1 : Int), (M.length : Int)))]).length := (List.getElem?_eq_some_iff.1 hj).1
        simp at hlt
        have : j = M.length := by omega
        subst this
        simp at hj
        rw [← hj]
  · have hF := hz.1 hv
    rw [if_pos (by omega)]
    have hent := h.entry (x, (c, p)) (by simp)
    simp only at hent
    obtain ⟨a1, a2, a3, a4⟩ := hent
    have hap := h.apart
    rw [List.pairwise_append, List.pairwise_cons] at hap
    obtain ⟨hp1, ⟨hp2, hp3⟩, hp4⟩ := hap
    refine ⟨?_, ?_, ?_, ?_, ?_, ?_, ?_⟩
    · intro i hi
      by_cases e : i = f
      · subst e; rw [upd_same]; omega
      · rw [upd_other _ _ _ e]; exact h.first i hi
    · rw [List.pairwise_append, List.pairwise_cons]
      refine ⟨hp1, ⟨fun b hb' => hp2 b hb', hp3⟩, fun a ha b hb' => ?_⟩
      rcases List.mem_cons.1 hb' with rfl | hb'
      · exact hp4 a ha (x, (c, p)) (by simp)
      · exact hp4 a ha b (by simp [hb'])
    · intro e he
      have hcase : e = (x, (c + 1, p)) ∨ (e ∈ M1 ++ (x, (c, p)) :: M2 ∧ e.1 ≠ x) := by
        rcases List.mem_append.1 he with he | he
        · exact Or.inr ⟨by simp [he], hp4 e he (x, (c, p)) (by simp)⟩
        · rcases List.mem_cons.1 he with rfl | he
          · exact Or.inl rfl
          · exact Or.inr ⟨by simp [he], fun q => hp2 e he q.symm⟩
      rcases hcase with rfl | ⟨he', hne⟩
      · refine ⟨a1, a2, ?_, by simp only; omega⟩
        simp only
        rw [cnt_upd F f x x (by omega) n hf, if_pos rfl, a3]
      · obtain ⟨b1, b2, b3, b4⟩ := h.entry e he'
        refine ⟨b1, b2, ?_, b4⟩
        rw [cnt_upd F f x e.1 (by omega) n hf, if_neg (fun q => hne q.symm)]
        omega
    · intro i hi hF'
      by_cases e : i = f
      · subst e; rw [upd_same] at hF'; omega
      · rw [upd_other _ _ _ e] at hF' ⊢; exact h.fnone i hi hF'
    · intro i hi hF'
      by_cases e : i = f
      · subst e; rw [upd_same] at hF'; omega
      · rw [upd_other _ _ _ e] at hF' ⊢; exact h.fnil i hi hF'
    · intro i hi hF'
      by_cases e : i = f
      · subst e
        rw [upd_same, upd_same]
        exact ⟨(x, (c + 1, p)), by simp, rfl, rfl⟩
      · rw [upd_other _ _ _ e] at hF' ⊢
        rw [upd_other _ _ _ e]
        obtain ⟨e', he', h1, h2⟩ := h.fsome i hi hF'
        rcases List.mem_append.1 he' with q | q
        · exact ⟨e', by simp [q], h1, h2⟩
        · rcases List.mem_cons.1 q with rfl | q
          · exact ⟨(x, (c + 1, p)), by simp, h1, h2⟩
          · exact ⟨e', by simp [q], h1, h2⟩
    · intro j e hj
      rcases Nat.lt_trichotomy j M1.length with hc | hc | hc
      · rw [List.getElem?_append_left hc] at hj
        exact h.place j e (by rw [List.getElem?_append_left hc]; exact hj)
      · subst hc
        have := h.place M1.length (x, (c, p)) (by simp)
        simp at hj
        rw [← hj]
        exact this
      · rw [List.getElem?_append_right (by omega)] at hj
        obtain ⟨d, hd⟩ : ∃ d, j - M1.length = d + 1 := ⟨j - M1.length - 1, by omega⟩
        rw [hd] at hj
        refine h.place j e ?_
        rw [List.getElem?_append_right (by omega), hd]
        simpa using hj

theorem Step.length {M : List ME} {V : Nat → Int} {f : Nat} {x : Int} {M' : List ME} {V' : Nat → Int} (hs : Step M V f x M' V') : M'.length ≤ M.length + 1 := by
  rcases hs with ⟨_, rfl, _⟩ | ⟨_, _, rfl, _⟩ | ⟨_, _, _, rfl, _⟩ | ⟨_, _, M1, M2, c, p, rfl, rfl, _⟩ <;> simp

/-- How many of the votes for an entry's value count. -/
def vf (V : Nat → Int) (aside : Int) (e : ME) : Int := if aside ≠ 0 ∧ V (aside.toNat - 1) = e.2.2 + 2 then e.2.1 - 1 else e.2.1
def lim (m aside : Int) : Int := if aside ≠ 0 then m - 1 else m

/-- The recount's word on one value. -/
def one (F : Nat → Int) (n : Nat) (m aside x y : Int) : Bool :=
  decide (y ≠ x ∧ cnt F n y ≠ 0 ∧ lim m aside < if aside ≠ 0 ∧ F (aside.toNat - 1) = y then cnt F n y - 1 else cnt F n y)
/-- .. and on the first j values. -/
def wantTo (F : Nat → Int) (n : Nat) (m aside x : Int) : Nat → Bool
  | 0 => false
  | j + 1 => wantTo F n m aside x j || one F n m aside x (j + 1)

/-- The map's word is the recount's. -/
theorem agree {n : Nat} {F : Nat → Int} {M : List ME} {V : Nat → Int} (h : Good n F M V) (m aside x : Int) (ha0 : 0 ≤ aside) (han : aside ≤ n) :
    (∃ e ∈ M, e.1 ≠ x ∧ lim m aside < vf V aside e) ↔ wantTo F n m aside x 3 = true := by
  have hvf : ∀ e ∈ M, vf V aside e = if aside ≠ 0 ∧ F (aside.toNat - 1) = e.1 then cnt F n e.1 - 1 else cnt F n e.1 := by
    intro e he
    obtain ⟨a1, a2, a3, a4⟩ := h.entry e he
    unfold vf
    rw [← a3]
    by_cases h0 : aside ≠ 0
    · have hi : aside.toNat - 1 < n := by omega
      have hiff : V (aside.toNat - 1) = e.2.2 + 2 ↔ F (aside.toNat - 1) = e.1 := by
        have hb := h.first _ hi
        constructor
        · intro hv
          have hp := h.place_nonneg he
          by_cases c1 : F (aside.toNat - 1) = -1
          · have := h.fnone _ hi c1; omega
          · by_cases c2 : F (aside.toNat - 1) = 0
            · have := h.fnil _ hi c2; omega
            · obtain ⟨e', he', h1, h2⟩ := h.fsome _ hi (by omega)
              have hpl : e'.2.2 = e.2.2 := by omega
              obtain ⟨j, hj, rfl⟩ := List.mem_iff_getElem.1 he
              obtain ⟨j', hj', rfl⟩ := List.mem_iff_getElem.1 he'
              have q1 := h.place j _ (List.getElem?_eq_getElem hj)
              have q2 := h.place j' _ (List.getElem?_eq_getElem hj')
              have : j = j' := by omega
              subst this
              exact h1.symm
        · intro hF
          obtain ⟨e', he', h1, h2⟩ := h.fsome _ hi (by omega)
          have := apart_eq h.apart he' he (h1.trans hF)
          subst this
          exact h2
      simp only [hiff]
    · simp only [h0, false_and, if_false]
  have hone : ∀ y : Int, 1 ≤ y → y ≤ 3 → (one F n m aside x y = true ↔ ∃ e ∈ M, e.1 = y ∧ e.1 ≠ x ∧ lim m aside < vf V aside e) := by
    intro y hy1 hy3
    unfold one
    rw [decide_eq_true_eq]
    constructor
    · rintro ⟨hyx, hc, hl⟩
      have hb := cnt_bd F n y
      obtain ⟨i, hi, e⟩ := (cnt_pos F y n).1 (by omega)
      obtain ⟨e', he', h1, _⟩ := h.fsome i hi (by omega)
      have hey : e'.1 = y := h1.trans e
      refine ⟨e', he', hey, by omega, ?_⟩
      rw [hvf e' he', hey]
      exact hl
    · rintro ⟨e, he, rfl, hex, hl⟩
      obtain ⟨a1, a2, a3, a4⟩ := h.entry e he
      rw [hvf e he] at hl
      exact ⟨hex, by omega, hl⟩
  simp only [wantTo, Bool.false_or, Bool.or_eq_true]
  constructor
  · rintro ⟨e, he, hex, hl⟩
    obtain ⟨a1, a2, a3, a4⟩ := h.entry e he
    have hc : e.1 = 1 ∨ e.1 = 2 ∨ e.1 = 3 := by omega
    rcases hc with c | c | c
    · left; left; exact (hone _ (by omega) (by omega)).2 ⟨e, he, by omega, hex, hl⟩
    · left; right; exact (hone _ (by omega) (by omega)).2 ⟨e, he, by omega, hex, hl⟩
    · right; exact (hone _ (by omega) (by omega)).2 ⟨e, he, by omega, hex, hl⟩
  · rintro ((h1 | h1) | h1)
    · obtain ⟨e, he, _, hex, hl⟩ := (hone _ (by omega) (by omega)).1 h1; exact ⟨e, he, hex, hl⟩
    · obtain ⟨e, he, _, hex, hl⟩ := (hone _ (by omega) (by omega)).1 h1; exact ⟨e, he, hex, hl⟩
    · obtain ⟨e, he, _, hex, hl⟩ := (hone _ (by omega) (by omega)).1 h1; exact ⟨e, he, hex, hl⟩

end Go.Proofs.Ybulkaihc.Vote
