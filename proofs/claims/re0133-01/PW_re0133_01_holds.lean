import PyProof.Rows.All
import Wide.All
import OpenK.AllK
import Wide.FinOn
import PySem.Challenge.RW_re0133_01
set_option Elab.async false

-- part Q1
section
namespace Mine
theorem afreshQ1 : True := by
  w_top off
  trivial
/-- the vertices' parities of a pick, after k ties -/
noncomputable def wv (es : List (Nat × Nat)) : Nat → Nat → Nat → Bool
  | 0, _, _ => false
  | k + 1, pick, j => (wv es k pick j) ^^ (pick.testBit k && ((es.getD k (0, 0)).1 == j ^^ (es.getD k (0, 0)).2 == j))

theorem wv_zero (es : List (Nat × Nat)) (j : Nat) : ∀ k, wv es k 0 j = false
  | 0 => rfl
  | k + 1 => by simp [wv, wv_zero es j k]
theorem wv_xor (es : List (Nat × Nat)) (p q j : Nat) : ∀ k, wv es k (p ^^^ q) j = (wv es k p j ^^ wv es k q j)
  | 0 => rfl
  | k + 1 => by
    simp only [wv, wv_xor es p q j k, Nat.testBit_xor]
    cases wv es k p j <;> cases wv es k q j <;> cases p.testBit k <;> cases q.testBit k <;> simp
theorem wv_low (es : List (Nat × Nat)) {k p : Nat} (h : p < 2 ^ k) (j : Nat) : wv es (k + 1) p j = wv es k p j := by
  simp [wv, Nat.testBit_lt_two_pow h]
theorem wv_high (es : List (Nat × Nat)) {k p : Nat} (h : p < 2 ^ k) (j : Nat) : wv es (k + 1) (2 ^ k + p) j = (wv es k p j ^^ ((es.getD k (0, 0)).1 == j ^^ (es.getD k (0, 0)).2 == j)) := by
  have e : 2 ^ k + p = 2 ^ k ^^^ p := by
    rw [Nat.xor_comm]
    apply Nat.eq_of_testBit_eq
    intro i
    rw [Nat.testBit_xor, Nat.testBit_two_pow]
    by_cases hi : i = k
    · subst hi
      rw [Nat.testBit_two_pow_add_eq, Nat.testBit_lt_two_pow h]; simp
    · rcases Nat.lt_or_gt_of_ne hi with hl | hl
      · rw [Nat.testBit_two_pow_add_gt hl]
        simp [Ne.symm hi]
      · rw [Nat.testBit_lt_two_pow (Nat.lt_of_lt_of_le h (Nat.pow_le_pow_right (by decide) (Nat.le_of_lt hl))), Nat.testBit_lt_two_pow (x := 2 ^ k + p)]
        · simp [Ne.symm hi]
        · calc 2 ^ k + p < 2 ^ k + 2 ^ k := by omega
            _ = 2 ^ (k + 1) := by rw [Nat.pow_succ]; omega
            _ ≤ 2 ^ i := Nat.pow_le_pow_right (by decide) hl
  have hp : ∀ i, i < k → (2 ^ k).testBit i = false := fun i hi => by rw [Nat.testBit_two_pow]; simp; omega
  have hz : ∀ n, n ≤ k → wv es n (2 ^ k) j = false := by
    intro n
    induction n with
    | zero => intro _; rfl
    | succ n ih => intro hn; simp [wv, ih (by omega), hp n (by omega)]
  rw [e, wv_xor]
  simp only [wv, hz k (Nat.le_refl _), Nat.testBit_two_pow_self, Nat.testBit_lt_two_pow h, Bool.true_and, Bool.false_and, Bool.xor_false, Bool.false_xor]
  cases wv es k p j <;> simp

theorem wv_stable (es : List (Nat × Nat)) (j : Nat) {k p : Nat} (h : p < 2 ^ k) : ∀ n, k ≤ n → wv es n p j = wv es k p j := by
  intro n hn
  induction n with
  | zero => rw [show k = 0 by omega]
  | succ n ih =>
    rcases Nat.lt_or_ge n k with q | q
    · rw [show k = n + 1 by omega]
    · rw [wv_low es (Nat.lt_of_lt_of_le h (Nat.pow_le_pow_right (by decide) q)), ih q]

/-- the parity of f over the vertices that P picks -/
noncomputable def psum (P f : Nat → Bool) : Nat → Bool
  | 0 => false
  | n + 1 => psum P f n ^^ (P n && f n)
theorem psum_xor (P f g : Nat → Bool) : ∀ n, psum P (fun j => f j ^^ g j) n = (psum P f n ^^ psum P g n)
  | 0 => rfl
  | n + 1 => by
    simp only [psum, psum_xor P f g n]
    cases psum P f n <;> cases psum P g n <;> cases P n <;> cases f n <;> cases g n <;> rfl
theorem psum_or (P P' f : Nat → Bool) : ∀ n, psum (fun j => P j ^^ P' j) f n = (psum P f n ^^ psum P' f n)
  | 0 => rfl
  | n + 1 => by
    simp only [psum, psum_or P P' f n]
    cases psum P f n <;> cases psum P' f n <;> cases P n <;> cases P' n <;> cases f n <;> rfl
theorem psum_congr {P P' f f' : Nat → Bool} : ∀ n, (∀ j, j < n → P j = P' j ∧ f j = f' j) → psum P f n = psum P' f' n
  | 0, _ => rfl
  | n + 1, h => by simp only [psum, psum_congr n (fun j hj => h j (by omega)), (h n (by omega)).1, (h n (by omega)).2]
theorem psum_none (f : Nat → Bool) : ∀ n, psum (fun _ => false) f n = false
  | 0 => rfl
  | n + 1 => by simp [psum, psum_none f n]
theorem psum_zero (P : Nat → Bool) : ∀ n, psum P (fun _ => false) n = false
  | 0 => rfl
  | n + 1 => by simp [psum, psum_zero P n]
theorem psum_one (P : Nat → Bool) (x : Nat) : ∀ n, psum P (fun j => x == j) n = (decide (x < n) && P x)
  | 0 => by simp [psum]
  | n + 1 => by
    simp only [psum, psum_one P x n]
    by_cases h : x = n
    · subst h; simp
    · have h1 : (x == n) = false := by simpa using h
      rw [h1, Bool.and_false, Bool.xor_false]
      congr 1
      simp; omega

/-- the parts after k ties -/
noncomputable def pt (es : List (Nat × Nat)) : Nat → Nat → Nat
  | 0, v => v
  | k + 1, v => if pt es k v = pt es k (es.getD k (0, 0)).1 then pt es k (es.getD k (0, 0)).2 else pt es k v

variable {es : List (Nat × Nat)} {V : Nat}

theorem pt_le (he : ∀ k, (es.getD k (0, 0)).1 ≤ V ∧ (es.getD k (0, 0)).2 ≤ V) : ∀ k v, v ≤ V → pt es k v ≤ V
  | 0, _, h => h
  | k + 1, v, h => by
    unfold pt
    split
    · exact pt_le he k _ (he k).2
    · exact pt_le he k v h

/-- the same part: the pair is the image of a pick -/
theorem inv1 : ∀ k u v, pt es k u = pt es k v → ∃ r, r < 2 ^ k ∧ ∀ j, wv es k r j = (u == j ^^ v == j)
  | 0, u, v, h => ⟨0, by simp, fun j => by have h' : u = v := h; subst h'; simp [wv]⟩
  | k + 1, u, v, h => by
    have lift : ∀ {u v}, pt es k u = pt es k v → ∃ r, r < 2 ^ k ∧ ∀ j, wv es k r j = (u == j ^^ v == j) := fun h => inv1 k _ _ h
    have low : ∀ {u v}, pt es k u = pt es k v → ∃ r, r < 2 ^ (k + 1) ∧ ∀ j, wv es (k + 1) r j = (u == j ^^ v == j) := fun h => by
      obtain ⟨r, hr, hj⟩ := lift h
      exact ⟨r, by rw [Nat.pow_succ]; omega, fun j => by rw [wv_low es hr]; exact hj j⟩
    have mix : ∀ {u v}, pt es k u = pt es k (es.getD k (0, 0)).1 → pt es k (es.getD k (0, 0)).2 = pt es k v → ∃ r, r < 2 ^ (k + 1) ∧ ∀ j, wv es (k + 1) r j = (u == j ^^ v == j) := fun h1 h2 => by
      obtain ⟨r, hr, hj⟩ := lift h1
      obtain ⟨r', hr', hj'⟩ := lift h2
      refine ⟨2 ^ k + (r ^^^ r'), by rw [Nat.pow_succ]; have := Nat.xor_lt_two_pow hr hr'; omega, fun j => ?_⟩
      rw [wv_high es (Nat.xor_lt_two_pow hr hr'), wv_xor, hj, hj']
      generalize (es.getD k (0, 0)).1 = a
      generalize (es.getD k (0, 0)).2 = b
      cases (a == j) <;> cases (b == j) <;> simp
    by_cases hu : pt es k u = pt es k (es.getD k (0, 0)).1
    · by_cases hv : pt es k v = pt es k (es.getD k (0, 0)).1
      · exact low (hu.trans hv.symm)
      · rw [pt, if_pos hu, pt, if_neg hv] at h
        exact mix hu h
    · by_cases hv : pt es k v = pt es k (es.getD k (0, 0)).1
      · rw [pt, if_neg hu, pt, if_pos hv] at h
        obtain ⟨r, hr, hj⟩ := mix hv h.symm
        exact ⟨r, hr, fun j => by rw [hj, Bool.xor_comm]⟩
      · rw [pt, if_neg hu, pt, if_neg hv] at h
        exact low h

/-- on every part a pick's image is even -/
theorem inv2 (he : ∀ k, (es.getD k (0, 0)).1 ≤ V ∧ (es.getD k (0, 0)).2 ≤ V) : ∀ k r c, r < 2 ^ k → psum (fun v => pt es k v == c) (wv es k r) (V + 1) = false
  | 0, r, c, _ => by exact (psum_congr (V + 1) fun j _ => ⟨rfl, rfl⟩).trans (psum_zero _ (V + 1))
  | k + 1, r, c, hr => by
    have base : ∀ r, r < 2 ^ k → psum (fun v => pt es (k + 1) v == c) (wv es k r) (V + 1) = false := fun r hr => by
      by_cases hxy : pt es k (es.getD k (0, 0)).1 = pt es k (es.getD k (0, 0)).2
      · rw [psum_congr (P' := fun v => pt es k v == c) (f' := wv es k r) (V + 1) fun j _ => ⟨?_, rfl⟩]
        · exact inv2 he k r c hr
        · rw [pt]; split
          · rename_i h; rw [h, hxy]
          · rfl
      · by_cases hc : c = pt es k (es.getD k (0, 0)).1
        · rw [psum_congr (P' := fun _ => false) (f' := wv es k r) (V + 1) fun j _ => ⟨?_, rfl⟩]
          · exact psum_none _ _
          · rw [pt]; split
            · rw [hc]; simpa using fun h => hxy h.symm
            · rename_i h; rw [hc]; simpa using h
        · by_cases hy : c = pt es k (es.getD k (0, 0)).2
          · rw [psum_congr (P' := fun v => (pt es k v == pt es k (es.getD k (0, 0)).1) ^^ (pt es k v == c)) (f' := wv es k r) (V + 1) fun j _ => ⟨?_, rfl⟩]
            · rw [psum_or, inv2 he k r _ hr, inv2 he k r _ hr]; rfl
            · rw [pt]; split
              · rename_i h; rw [h, ← hy]
                have : (pt es k (es.getD k (0, 0)).1 == c) = false := by simpa using fun h => hc h.symm
                rw [this, beq_self_eq_true, beq_self_eq_true]; rfl
              · rename_i h
                have : (pt es k j == pt es k (es.getD k (0, 0)).1) = false := by simpa using h
                rw [this, Bool.false_xor]
          · rw [psum_congr (P' := fun v => pt es k v == c) (f' := wv es k r) (V + 1) fun j _ => ⟨?_, rfl⟩]
            · exact inv2 he k r c hr
            · rw [pt]; split
              · rename_i h; rw [h]
                have h1 : (pt es k (es.getD k (0, 0)).2 == c) = false := by simpa using fun h => hy h.symm
                have h2 : (pt es k (es.getD k (0, 0)).1 == c) = false := by simpa using fun h => hc h.symm
                rw [h1, h2]
              · rfl
    rcases Nat.lt_or_ge r (2 ^ k) with hlt | hge
    · rw [psum_congr (P' := fun v => pt es (k + 1) v == c) (f' := wv es k r) (V + 1) fun j _ => ⟨rfl, wv_low es hlt j⟩]
      exact base r hlt
    · have hr' : r - 2 ^ k < 2 ^ k := by rw [Nat.pow_succ] at hr; omega
      have e : r = 2 ^ k + (r - 2 ^ k) := by omega
      rw [psum_congr (P' := fun v => pt es (k + 1) v == c) (f' := fun j => wv es k (r - 2 ^ k) j ^^ ((es.getD k (0, 0)).1 == j ^^ (es.getD k (0, 0)).2 == j)) (V + 1) fun j _ => ⟨rfl, by rw [e, wv_high es hr']; simp⟩]
      rw [psum_xor, base _ hr', psum_xor, psum_one, psum_one]
      have h1 := (he k).1
      have h2 := (he k).2
      have e1 : pt es (k + 1) (es.getD k (0, 0)).1 = pt es (k + 1) (es.getD k (0, 0)).2 := by
        rw [pt, if_pos rfl, pt]
        split <;> rfl
      rw [e1, decide_eq_true (Nat.lt_succ_of_le h1), decide_eq_true (Nat.lt_succ_of_le h2)]
      simp

/-- is the pair of tie k an image already -/
theorem dep_iff (he : ∀ k, (es.getD k (0, 0)).1 ≤ V ∧ (es.getD k (0, 0)).2 ≤ V) (k : Nat) :
    (∃ r, r < 2 ^ k ∧ ∀ j, wv es k r j = ((es.getD k (0, 0)).1 == j ^^ (es.getD k (0, 0)).2 == j)) ↔ pt es k (es.getD k (0, 0)).1 = pt es k (es.getD k (0, 0)).2 := by
  constructor
  · rintro ⟨r, hr, hj⟩
    have h := inv2 he k r (pt es k (es.getD k (0, 0)).1) hr
    rw [psum_congr (P' := fun v => pt es k v == pt es k (es.getD k (0, 0)).1) (f' := fun j => (es.getD k (0, 0)).1 == j ^^ (es.getD k (0, 0)).2 == j) (V + 1) fun j _ => ⟨rfl, hj j⟩,
      psum_xor, psum_one, psum_one, decide_eq_true (Nat.lt_succ_of_le (he k).1), decide_eq_true (Nat.lt_succ_of_le (he k).2)] at h
    simp only [beq_self_eq_true, Bool.true_and, Bool.and_self, Bool.true_xor, Bool.not_eq_false'] at h
    exact (beq_iff_eq.mp h).symm
  · exact inv1 k _ _

theorem filter_but {p : Nat → Bool} {X : Nat} : ∀ {l : List Nat}, l.Nodup → X ∈ l → p X = true → (l.filter p).length = (l.filter fun c => p c && c != X).length + 1
  | [], _, h, _ => nomatch h
  | a :: l, hn, hm, hp => by
    rw [List.nodup_cons] at hn
    by_cases ha : a = X
    · subst ha
      have : l.filter (fun c => p c && c != a) = l.filter p := List.filter_congr fun c hc => by
        have : c ≠ a := fun e => hn.1 (e ▸ hc)
        simp [this]
      simp [hp, this]
    · have ih := filter_but hn.2 ((List.mem_cons.mp hm).resolve_left (Ne.symm ha)) hp
      have e : (a != X) = true := by simpa using ha
      simp only [List.filter_cons, e, Bool.and_true]
      cases p a <;> simp [ih]

/-- how many parts stand -/
noncomputable def dn (es : List (Nat × Nat)) (V k : Nat) : Nat := ((List.range (V + 1)).filter fun c => (List.range (V + 1)).any fun v => pt es k v == c).length
theorem dn_zero : dn es V 0 = V + 1 := by
  unfold dn
  rw [List.filter_eq_self.mpr]
  · simp
  · intro c hc
    rw [List.any_eq_true]
    exact ⟨c, hc, by simp [pt]⟩
theorem dn_le (k : Nat) : dn es V k ≤ V + 1 := by
  have := List.length_filter_le (fun c => (List.range (V + 1)).any fun v => pt es k v == c) (List.range (V + 1))
  rw [List.length_range] at this
  exact this
theorem dn_same {k : Nat} (h : pt es k (es.getD k (0, 0)).1 = pt es k (es.getD k (0, 0)).2) : dn es V (k + 1) = dn es V k := by
  unfold dn
  congr 1
  refine List.filter_congr fun c _ => ?_
  congr 1
  funext v
  rw [pt]; split
  · rename_i h'; rw [h', h]
  · rfl
theorem dn_less (he : ∀ k, (es.getD k (0, 0)).1 ≤ V ∧ (es.getD k (0, 0)).2 ≤ V) {k : Nat} (h : pt es k (es.getD k (0, 0)).1 ≠ pt es k (es.getD k (0, 0)).2) : dn es V k = dn es V (k + 1) + 1 := by
  unfold dn
  have hx := pt_le he k _ (he k).1
  have hany : ((List.range (V + 1)).any fun v => pt es k v == pt es k (es.getD k (0, 0)).1) = true := List.any_eq_true.mpr ⟨(es.getD k (0, 0)).1, List.mem_range.mpr (Nat.lt_succ_of_le (he k).1), by simp⟩
  rw [filter_but (X := pt es k (es.getD k (0, 0)).1) List.nodup_range (List.mem_range.mpr (Nat.lt_succ_of_le hx)) hany]
  congr 2
  refine List.filter_congr fun c _ => ?_
  by_cases hc : c = pt es k (es.getD k (0, 0)).1
  · rw [hc, bne_self_eq_false, Bool.and_false]
    symm
    rw [List.any_eq_false]
    intro v _ e
    have e' := beq_iff_eq.mp e
    rw [pt] at e'
    split at e'
    · exact h e'.symm
    · rename_i h'; exact h' e'
  · have e : (c != pt es k (es.getD k (0, 0)).1) = true := by simpa using hc
    rw [e, Bool.and_true, Bool.eq_iff_iff, List.any_eq_true, List.any_eq_true]
    constructor
    · rintro ⟨v, hv, e⟩
      have e' := beq_iff_eq.mp e
      refine ⟨v, hv, beq_iff_eq.mpr ?_⟩
      rw [pt, if_neg (fun q => hc (e'.symm.trans q))]; exact e'
    · rintro ⟨v, hv, e⟩
      have e' := beq_iff_eq.mp e
      rw [pt] at e'
      split at e'
      · exact ⟨(es.getD k (0, 0)).2, List.mem_range.mpr (Nat.lt_succ_of_le (he k).2), beq_iff_eq.mpr e'⟩
      · exact ⟨v, hv, beq_iff_eq.mpr e'⟩

/-- the picks that are the first of their kind -/
noncomputable def firsts (E : Nat → Nat → Bool) (N : Nat) : List Nat := (List.range N).filter fun p => (List.range p).all fun q => !E q p

theorem firsts_count (he : ∀ k, (es.getD k (0, 0)).1 ≤ V ∧ (es.getD k (0, 0)).2 ≤ V) {n : Nat} {E : Nat → Nat → Bool} (hE : ∀ p q, p < 2 ^ n → q < 2 ^ n → (E p q = true ↔ ∀ j, wv es n p j = wv es n q j)) :
    ∀ k, k ≤ n → (firsts E (2 ^ k)).length = 2 ^ (V + 1 - dn es V k) := by
  intro k
  induction k with
  | zero => intro _; rw [dn_zero, Nat.sub_self]; rfl
  | succ k ih =>
    intro hk
    have ih := ih (by omega)
    have hkn : 2 ^ (k + 1) ≤ 2 ^ n := Nat.pow_le_pow_right (by decide) hk
    have h2 : 2 ^ (k + 1) = 2 ^ k + 2 ^ k := by rw [Nat.pow_succ]; omega
    have hE' : ∀ p q, p < 2 ^ (k + 1) → q < 2 ^ (k + 1) → (E p q = true ↔ ∀ j, wv es (k + 1) p j = wv es (k + 1) q j) := fun p q hp hq => by
      rw [hE p q (by omega) (by omega)]
      constructor
      · intro h j; rw [← wv_stable es j hp n hk, ← wv_stable es j hq n hk]; exact h j
      · intro h j; rw [wv_stable es j hp n hk, wv_stable es j hq n hk]; exact h j
    have split : (firsts E (2 ^ (k + 1))).length = (firsts E (2 ^ k)).length + ((List.range (2 ^ k)).filter fun q => (List.range (2 ^ k + q)).all fun r => !E r (2 ^ k + q)).length := by
      unfold firsts
      rw [h2, List.range_add, List.filter_append, List.length_append, List.filter_map, List.length_map]
      rfl
    by_cases hd : pt es k (es.getD k (0, 0)).1 = pt es k (es.getD k (0, 0)).2
    · obtain ⟨r, hr, hj⟩ := (dep_iff he k).mpr hd
      rw [split, List.filter_eq_nil_iff.mpr, List.length_nil, Nat.add_zero, ih, dn_same hd]
      intro q hq hall
      have hq := List.mem_range.mp hq
      have hx := Nat.xor_lt_two_pow hq hr
      have := List.all_eq_true.mp hall (q ^^^ r) (List.mem_range.mpr (by omega))
      rw [(hE' (q ^^^ r) (2 ^ k + q) (by omega) (by omega)).mpr] at this
      · cases this
      · intro j
        rw [wv_low es hx, wv_high es hq, wv_xor, hj]
    · have hnd : ¬ ∃ r, r < 2 ^ k ∧ ∀ j, wv es k r j = ((es.getD k (0, 0)).1 == j ^^ (es.getD k (0, 0)).2 == j) := fun h => hd ((dep_iff he k).mp h)
      have hlow : ∀ r q, r < 2 ^ k → q < 2 ^ k → E r (2 ^ k + q) = false := fun r q hr hq => by
        refine Bool.eq_false_iff.mpr fun h => hnd ⟨r ^^^ q, Nat.xor_lt_two_pow hr hq, fun j => ?_⟩
        have := (hE' r (2 ^ k + q) (by omega) (by omega)).mp h j
        rw [wv_low es hr, wv_high es hq] at this
        rw [wv_xor, this]
        cases wv es k q j <;> simp
      have hhigh : ∀ r q, r < 2 ^ k → q < 2 ^ k → E (2 ^ k + r) (2 ^ k + q) = E r q := fun r q hr hq => by
        rw [Bool.eq_iff_iff, hE' _ _ (by omega) (by omega), hE' r q (by omega) (by omega)]
        constructor
        · intro h j
          have := h j
          rw [wv_high es hr, wv_high es hq] at this
          rw [wv_low es hr, wv_low es hq]
          exact Bool.xor_right_inj.mp (by rw [Bool.xor_comm, this, Bool.xor_comm])
        · intro h j
          have := h j
          rw [wv_low es hr, wv_low es hq] at this
          rw [wv_high es hr, wv_high es hq, this]
      have eq2 : ((List.range (2 ^ k)).filter fun q => (List.range (2 ^ k + q)).all fun r => !E r (2 ^ k + q)) = firsts E (2 ^ k) := by
        unfold firsts
        refine List.filter_congr fun q hq => ?_
        have hq := List.mem_range.mp hq
        rw [List.range_add, List.all_append, List.all_map]
        have h1 : ((List.range (2 ^ k)).all fun r => !E r (2 ^ k + q)) = true := List.all_eq_true.mpr fun r hr => by rw [hlow r q (List.mem_range.mp hr) hq]; rfl
        rw [h1, Bool.true_and]
        rw [Bool.eq_iff_iff, List.all_eq_true, List.all_eq_true]
        constructor
        · intro h r hr
          have := h r hr
          simp only [Function.comp] at this
          rwa [hhigh r q (by have := List.mem_range.mp hr; omega) hq] at this
        · intro h r hr
          have := h r hr
          simp only [Function.comp]
          rwa [hhigh r q (by have := List.mem_range.mp hr; omega) hq]
      rw [split, eq2, ih]
      have hl := dn_less he hd
      have hb := dn_le (es := es) (V := V) k
      rw [show V + 1 - dn es V (k + 1) = (V + 1 - dn es V k) + 1 by omega, Nat.pow_succ]
      omega
end Mine
end

-- part Q2
section
namespace Mine
theorem afreshQ2 : True := by
  w_top off
  trivial
/-- how many visible cells stand ahead of a place -/
noncomputable def rm (b : Nat → Bool) : Nat → Nat
  | 0 => 0
  | i + 1 => rm b i + (if b i then 1 else 0)
theorem rm_mono (b : Nat → Bool) {i j : Nat} (h : i ≤ j) : rm b i ≤ rm b j := by
  induction j with
  | zero => rw [show i = 0 by omega]; exact Nat.le_refl _
  | succ j ih =>
    rcases Nat.lt_or_ge i (j + 1) with q | q
    · have := ih (by omega); rw [rm]; omega
    · rw [show i = j + 1 by omega]; exact Nat.le_refl _
theorem rm_iff {b : Nat → Bool} {p : Nat} (hp : b p = true) (a : Nat) : a ≤ p ↔ rm b a ≤ rm b p := by
  constructor
  · exact rm_mono b
  · intro h
    refine Nat.le_of_not_lt fun hlt => ?_
    have h1 : rm b (p + 1) ≤ rm b a := rm_mono b hlt
    rw [rm, if_pos hp] at h1
    omega
theorem rm_surj {b : Nat → Bool} : ∀ {n q : Nat}, q < rm b n → ∃ p, p < n ∧ b p = true ∧ rm b p = q
  | 0, q, h => by simp [rm] at h
  | n + 1, q, h => by
    rcases Nat.lt_or_ge q (rm b n) with hq | hq
    · obtain ⟨p, h1, h2, h3⟩ := rm_surj hq
      exact ⟨p, by omega, h2, h3⟩
    · rw [rm] at h
      split at h
      · rename_i hb
        exact ⟨n, by omega, hb, by omega⟩
      · omega

/-- the parity of a pick's marks up to a place -/
noncomputable def vb (ps : List (Nat × Nat)) : Nat → Nat → Nat → Bool
  | 0, _, _ => false
  | k + 1, pick, p => vb ps k pick p ^^ (pick.testBit k && (decide ((ps.getD k (0, 0)).1 ≤ p) ^^ decide ((ps.getD k (0, 0)).2 ≤ p)))

noncomputable def ends (b : Nat → Bool) (ps : List (Nat × Nat)) : List (Nat × Nat) := ps.map fun e => (rm b e.1, rm b e.2)
theorem ends_get (b : Nat → Bool) (ps : List (Nat × Nat)) (k : Nat) : (ends b ps).getD k (0, 0) = (rm b (ps.getD k (0, 0)).1, rm b (ps.getD k (0, 0)).2) := by
  simp only [ends, List.getD_eq_getElem?_getD, List.getElem?_map]
  cases ps[k]? <;> rfl

theorem psum_and (P f : Nat → Bool) (c : Bool) : ∀ n, psum P (fun j => c && f j) n = (c && psum P f n)
  | 0 => by simp [psum]
  | n + 1 => by
    simp only [psum, psum_and P f c n]
    cases c <;> simp

theorem vb_psum {b : Nat → Bool} {ps : List (Nat × Nat)} {p : Nat} (hp : b p = true) (pick : Nat) : ∀ k, vb ps k pick p = psum (fun _ => true) (wv (ends b ps) k pick) (rm b p + 1)
  | 0 => (psum_zero _ _).symm
  | k + 1 => by
    have h : psum (fun _ => true) (wv (ends b ps) (k + 1) pick) (rm b p + 1) = psum (fun _ => true) (fun j => wv (ends b ps) k pick j ^^ (pick.testBit k && (((ends b ps).getD k (0, 0)).1 == j ^^ ((ends b ps).getD k (0, 0)).2 == j))) (rm b p + 1) := rfl
    rw [h, psum_xor, ← vb_psum hp pick k, psum_and, psum_xor, psum_one, psum_one, ends_get]
    simp only [vb, Bool.and_true, Nat.lt_succ_iff]
    rw [decide_eq_decide.mpr (rm_iff hp _), decide_eq_decide.mpr (rm_iff hp _)]

theorem wv_out {es : List (Nat × Nat)} {V : Nat} (he : ∀ k, (es.getD k (0, 0)).1 ≤ V ∧ (es.getD k (0, 0)).2 ≤ V) (pick : Nat) {j : Nat} (hj : V < j) : ∀ k, wv es k pick j = false
  | 0 => rfl
  | k + 1 => by
    have h1 : ((es.getD k (0, 0)).1 == j) = false := by have := (he k).1; simpa using (by omega : (es.getD k (0, 0)).1 ≠ j)
    have h2 : ((es.getD k (0, 0)).2 == j) = false := by have := (he k).2; simpa using (by omega : (es.getD k (0, 0)).2 ≠ j)
    rw [wv, wv_out he pick hj k, h1, h2]; simp
theorem wv_total {es : List (Nat × Nat)} {V : Nat} (he : ∀ k, (es.getD k (0, 0)).1 ≤ V ∧ (es.getD k (0, 0)).2 ≤ V) (pick : Nat) : ∀ k, psum (fun _ => true) (wv es k pick) (V + 1) = false
  | 0 => psum_zero _ _
  | k + 1 => by
    have h : psum (fun _ => true) (wv es (k + 1) pick) (V + 1) = psum (fun _ => true) (fun j => wv es k pick j ^^ (pick.testBit k && ((es.getD k (0, 0)).1 == j ^^ (es.getD k (0, 0)).2 == j))) (V + 1) := rfl
    rw [h, psum_xor, wv_total he pick k, psum_and, psum_xor, psum_one, psum_one, decide_eq_true (Nat.lt_succ_of_le (he k).1), decide_eq_true (Nat.lt_succ_of_le (he k).2)]
    simp

/-- the same parities at the visible places: the same images -/
theorem vb_iff {b : Nat → Bool} {ps : List (Nat × Nat)} {n : Nat} (hps : ∀ k, (ps.getD k (0, 0)).1 ≤ n ∧ (ps.getD k (0, 0)).2 ≤ n) (k p q : Nat) :
    (∀ i, i < n → b i = true → vb ps k p i = vb ps k q i) ↔ ∀ j, wv (ends b ps) k p j = wv (ends b ps) k q j := by
  have he : ∀ k, ((ends b ps).getD k (0, 0)).1 ≤ rm b n ∧ ((ends b ps).getD k (0, 0)).2 ≤ rm b n := fun k => by
    rw [ends_get]; exact ⟨rm_mono b (hps k).1, rm_mono b (hps k).2⟩
  constructor
  · intro h
    have hs : ∀ m, m ≤ rm b n → psum (fun _ => true) (wv (ends b ps) k p) m = psum (fun _ => true) (wv (ends b ps) k q) m := by
      intro m hm
      cases m with
      | zero => rfl
      | succ m =>
        obtain ⟨i, hi, hb, hr⟩ := rm_surj (b := b) (n := n) (q := m) (by omega)
        rw [← hr, ← vb_psum hb, ← vb_psum hb]
        exact h i hi hb
    intro j
    have step : ∀ (f g : Nat → Bool) (m : Nat), psum (fun _ => true) f m = psum (fun _ => true) g m → psum (fun _ => true) f (m + 1) = psum (fun _ => true) g (m + 1) → f m = g m := by
      intro f g m h1 h2
      simp only [psum, h1, Bool.true_and] at h2
      exact Bool.xor_right_inj.mp h2
    rcases Nat.lt_trichotomy j (rm b n) with hj | hj | hj
    · exact step _ _ j (hs j (by omega)) (hs (j + 1) hj)
    · refine step _ _ j (hs j (by omega)) ?_
      rw [hj, wv_total he p k, wv_total he q k]
    · rw [wv_out he p hj, wv_out he q hj]
  · intro h i hi hb
    rw [vb_psum hb, vb_psum hb]
    exact psum_congr _ fun j _ => ⟨rfl, h j⟩
end Mine
end

-- part Q4
section
namespace Mine
theorem afreshQ4 : True := by
  w_top off
  trivial
theorem firsts_succ (E : Nat → Nat → Bool) (N : Nat) : firsts E (N + 1) = firsts E N ++ (if (List.range N).all (fun q => !E q N) then [N] else []) := by
  unfold firsts
  rw [List.range_succ, List.filter_append]
  congr 1
  cases h : (List.range N).all fun q => !E q N <;> simp [h]

/-- the picks of g's kind -/
noncomputable def kind (E : Nat → Nat → Bool) (g N : Nat) : List Nat := (List.range N).filter fun p => E g p
theorem kind_succ (E : Nat → Nat → Bool) (g N : Nat) : kind E g (N + 1) = kind E g N ++ (if E g N then [N] else []) := by
  unfold kind
  rw [List.range_succ, List.filter_append]
  congr 1
  cases h : E g N <;> simp [h]

theorem filter_nodup {p : Nat → Bool} {l : List Nat} (h : l.Nodup) : (l.filter p).Nodup := h.sublist List.filter_sublist

/-- a kind, sorted, is its first xor the still ones -/
theorem kind_sorted {n g : Nat} {E : Nat → Nat → Bool} {S : Nat → Bool} (hg : g < 2 ^ n) (hE : ∀ p q, p < 2 ^ n → q < 2 ^ n → E p q = S (p ^^^ q)) {l : List Nat}
    (hs : l.Pairwise (· ≤ ·)) (hp : l.Perm (((List.range (2 ^ n)).filter S).map (g ^^^ ·))) : l = kind E g (2 ^ n) := by
  have hk : (kind E g (2 ^ n)).Pairwise (· ≤ ·) := ((List.pairwise_lt_range).filter _).imp Nat.le_of_lt
  refine List.Perm.eq_of_pairwise (le := (· ≤ ·)) (fun a b _ _ h1 h2 => Nat.le_antisymm h1 h2) hs hk (hp.trans ?_)
  refine (List.perm_ext_iff_of_nodup ?_ (filter_nodup List.nodup_range)).mpr fun a => ?_
  · rw [List.Nodup, List.pairwise_map]
    refine (filter_nodup (p := S) (List.nodup_range (n := 2 ^ n))).imp fun {a b} hab e => hab ?_
    have := congrArg (g ^^^ ·) e
    simpa [← Nat.xor_assoc] using this
  · simp only [List.mem_map, List.mem_filter, List.mem_range]
    constructor
    · rintro ⟨c, ⟨hc, hS⟩, rfl⟩
      have hx := Nat.xor_lt_two_pow hg hc
      refine ⟨hx, ?_⟩
      rw [hE g _ hg hx, ← Nat.xor_assoc, Nat.xor_self, Nat.zero_xor]; exact hS
    · rintro ⟨ha, hS⟩
      refine ⟨g ^^^ a, ⟨Nat.xor_lt_two_pow hg ha, ?_⟩, ?_⟩
      · rw [← hE g a hg ha]; exact hS
      · rw [← Nat.xor_assoc, Nat.xor_self, Nat.zero_xor]

theorem kind_head {g N : Nat} {E : Nat → Nat → Bool} (hs : ∀ p, E p p = true) (hc : ∀ p q, E p q = E q p) (hg : g ∈ firsts E N) : (kind E g N).head? = some g := by
  obtain ⟨h1, h2⟩ := List.mem_filter.mp hg
  have h1 := List.mem_range.mp h1
  unfold kind
  rw [show N = g + (N - g) by omega, List.range_add, List.filter_append, List.filter_eq_nil_iff.mpr, List.nil_append, show N - g = (N - g - 1) + 1 by omega, List.range_succ_eq_map]
  · simp [hs]
  · intro p hp
    have := List.all_eq_true.mp h2 p hp
    rw [hc g p]
    simpa using this
end Mine
end

section
open PySem PySem.W PyProof.Rows
namespace Mine
-- part M1
theorem afreshM1 : True := by
  w_top off
  trivial
noncomputable abbrev P : Program := PySem.Challenge.pw_re0133_01
noncomputable def bodyAt (i : Nat) : List Stmt := match P.main.body[i]? with | some (.FunctionDef _ _ b _ _ _ _ _ _ _) => b | _ => []
noncomputable def scopeAt (i : Nat) : Scope := match P.main.body[i]? with | some (.FunctionDef _ _ _ _ _ _ sc _ _ _) => sc | _ => default
noncomputable def paramsAt (i : Nat) : Arguments := match P.main.body[i]? with | some (.FunctionDef _ a _ _ _ _ _ _ _ _) => a | _ => default
noncomputable def nameAt (i : Nat) : Str := match P.main.body[i]? with | some (.FunctionDef n _ _ _ _ _ _ _ _ _) => n | _ => default

local macro_rules | `(tactic| walk_at "mlook") => `(tactic| ((repeat (first | rw [if_pos rfl] | rw [if_neg (by decide)])); (first | done | rfl | assumption)))
local macro_rules | `(tactic| walk_at "eval Name") => `(tactic| (refine ld (by assumption) (by walk_at "mlook") ?_))

local macro_rules | `(tactic| walk_at "go") => `(tactic| repeat' ((first | (with_reducible show wpAny _ _ _ _ _ _) | (with_reducible show ite _ _ _)); walk1))

theorem getD_mono {ns : List Int} (hs : ns.Pairwise (· ≤ ·)) {i j : Nat} (hij : i ≤ j) (hj : j < ns.length) : ns.getD i 0 ≤ ns.getD j 0 := by
  have hi : i < ns.length := by omega
  rw [List.getD_eq_getElem?_getD, List.getD_eq_getElem?_getD, List.getElem?_eq_getElem hi, List.getElem?_eq_getElem hj]
  rcases Nat.lt_or_eq_of_le hij with h | rfl
  · exact List.pairwise_iff_getElem.mp hs i j hi hj h
  · exact Int.le_refl _

inductive BisI (h₀ : Heap) (L l : Addr) (ns : List Int) (x : Int) (s₀ : Shared) (n : Nat) (s : Shared) : Prop
  | mk (h : Heap) (tk : Nat) (m : Str → Option Value) (lo hi : Int) (t tl th : Tok) (e : s = { s₀ with heap := h, toks := tk }) (F : Fr h₀ L h m) (ha : m "a" = some (.ref l)) (hx : m "x" = some (.int x t)) (hlo : m "lo" = some (.int lo tl)) (hhi : m "hi" = some (.int hi th))
    (b1 : 0 ≤ lo) (b2 : lo ≤ hi) (b3 : hi ≤ ns.length) (b4 : ∀ i : Nat, (i : Int) < lo → ns.getD i 0 ≤ x) (b5 : ∀ i : Nat, hi ≤ (i : Int) → i < ns.length → x < ns.getD i 0) (b6 : n = (hi - lo).toNat)

/-- a walk carries its last word as one name -/
theorem gen_post {α : Type} {M : Model} {A : Around} {t : Sem α} {post : α → Shared → Prop} {E : Value → Shared → Prop} {s : Shared} (h : ∀ Q : α → Shared → Prop, (∀ a s, post a s → Q a s) → wpAny M A t Q E s) : wpAny M A t post E s := h post fun _ _ x => x

/-- where the count ends: all ahead are at most x, all behind are more -/
noncomputable def BisAt (ns : List Int) (x r : Int) : Prop :=
  0 ≤ r ∧ r ≤ ns.length ∧ (∀ i : Nat, (i : Int) < r → ns.getD i 0 ≤ x) ∧ (∀ i : Nat, r ≤ (i : Int) → i < ns.length → x < ns.getD i 0)

-- part M2
theorem afreshM2 : True := by
  w_top off
  trivial
/-- the names that the text binds -/
noncomputable abbrev nm0 : List Str := ["__name__", "b1_set", "in_table_b1", "b3_exceptions", "map_table_b3", "c9_set", "in_table_c9", "insort_right", "bisect_right", "_iter_escaped_chars", "_strip_quoted_realnames", "_law_cells", "_law_even", "_law_marked", "law"]
noncomputable abbrev GlobM (mg mb : Str → Option Value) (h : Heap) : Prop := Glob 0 mg mb [] [] [] nm0 h

/-- the def number i stands at a, its defaults dV and kV -/
noncomputable def FnAt (i : Nat) (h : Heap) (a : Addr) (cd dV kV : Value) : Prop :=
  ∃ o pm doc, h.get? a = some o ∧ o.data = .func { Calls.docDef (nameAt i) (paramsAt i) (bodyAt i) (scopeAt i) pm cd doc with defaults := dV, kwdefaults := kV } ∧ h.CodeRec cd (nameAt i)
theorem FnAt.keeps {i : Nat} {h h' : Heap} {a : Addr} {cd dV kV : Value} (x : FnAt i h a cd dV kV) (k : ∀ b o, h.get? b = some o → h'.get? b = some o) : FnAt i h' a cd dV kV :=
  let ⟨o, pm, doc, h1, h2, h3⟩ := x; ⟨o, pm, doc, k _ _ h1, h2, h3.keeps k⟩

/-- the defaults of bisect_right and insort_right: (0, None) and key=None -/
structure KwD (h : Heap) (T D : Addr) : Prop where
  tup : ∃ o n t, h.get? T = some o ∧ o.data = .seq #[.int 0 t, .none] n
  dict : ∃ c d hs t ep sl, h.get? D = some ⟨c, d, .dict #[⟨hs, .str "key" t, .none⟩] ep, sl⟩
theorem KwD.keeps {h h' : Heap} {T D : Addr} (x : KwD h T D) (k : ∀ b o, h.get? b = some o → h'.get? b = some o) : KwD h' T D :=
  ⟨(let ⟨o, n, t, a, b⟩ := x.tup; ⟨o, n, t, k _ _ a, b⟩), (let ⟨c, d, hs, t, ep, sl, a⟩ := x.dict; ⟨c, d, hs, t, ep, sl, k _ _ a⟩)⟩

theorem binds_kw {s : Shared} {fd : FuncData} {args : Args} {binds : List (Str × Value)} {T D : Addr} {o oD : Obj} {items : Array Value} {n : Nat} {part : Option Value}
    {k : Option (Array Value) → Sem (List (Str × Value))} {k2 : Obj → Sem (List (Str × Value))} (ho : s.heap.get? T = some o) (hs : o.data = .seq items n) (hD : s.heap.get? D = some oD)
    (h₁ : bindArgs fd args = seqItems? (.ref T) >>= k) (h₂ : k (some items) = Sem.load D part k2) (h₃ : k2 oD = Sem.pure binds) : BindsTo s fd args binds :=
  fun _ _ _ _ hq => by
    rw [h₁]
    refine wpAny_bind (wpAny_seqItems ho hs ?_)
    rw [h₂]
    intro Γ p _
    rw [Sem.wp_load]
    exact ⟨oD, hD, by rw [h₃, Sem.wp_pure]; exact hq⟩

theorem gname {M : Model} {A : Around} {E : Value → Shared → Prop} {s : Shared} {name : Str} {scope : Scope} {L a : Addr} {cd : Value} {h₀ : Heap} {m mg mb : Str → Option Value} {x : Str} {pos : Pos} {v : Value} {Q : Value → Shared → Prop}
    (F : Fr h₀ L s.heap m) (G : GlobM mg mb h₀) (hv : mg x = some v) (h : Q v s) (hk : scope.kind = .function := by rfl) (hx : (envOf name scope L a cd).kindOf x = some .globalImplicit := by rfl) (hd : (x == ("__debug__" : Str)) = false := by decide) :
    wpAny M A (eval (.Name x pos) (envOf name scope L a cd)) Q E s :=
  Calls.Name_function_global hk hx (Calls.loadGlobal_global (G.g.keeps F.keep) hv h) hd
local macro_rules | `(tactic| walk_at "eval Name") => `(tactic| (refine gname (by assumption) (by assumption) (by assumption) ?_))

/-- bisect_right(a, x) and bisect_right(a, x, 0, None) over sorted ints -/
theorem bisect_call {w : World} {A : Around} {s : Shared} {f T D l : Addr} {cd : Value} {mg mb : Str → Option Value} {items : List Value} {ns : List Int} {x : Int} {t : Tok} {rest : List Value} {E : Value → Shared → Prop}
    (hroom : A.depth < recursionLimit) (G : GlobM mg mb s.heap) (hf : FnAt 9 s.heap f cd (.ref T) (.ref D)) (hD : KwD s.heap T D)
    (hl : s.heap.IsList l items.toArray) (hi : IntsAre items ns) (hlen : ns.length < 100) (hs : ns.Pairwise (· ≤ ·)) (hrest : rest = [] ∨ ∃ u, rest = [.int 0 u, .none]) :
    wpAny (model P w) A (call (.ref f) (.ref l :: .int x t :: rest)) (fun v s' => (∃ r u, v = .int r u ∧ BisAt ns x r) ∧ Keeps s s') E s := by
  obtain ⟨o, pm, doc, ho, hdata, hcd⟩ := hf
  obtain ⟨oT, nT, tT, hoT, hdT⟩ := hD.tup
  obtain ⟨cD, dD, hsD, tD, epD, slD, hoD⟩ := hD.dict
  have hb : ∃ u, BindsTo s { Calls.docDef (nameAt 9) (paramsAt 9) (bodyAt 9) (scopeAt 9) pm cd doc with defaults := .ref T, kwdefaults := .ref D } ⟨.ref l :: .int x t :: rest, []⟩
      [("a", .ref l), ("x", .int x t), ("lo", .int 0 u), ("hi", .none), ("key", .none)] := by
    rcases hrest with rfl | ⟨u, rfl⟩
    · exact ⟨tT, by refine' binds_kw hoT hdT hoD ?a ?b ?c; (case a => exact rfl); (case b => exact rfl); (case c => exact rfl)⟩
    · exact ⟨u, by refine' binds_kw hoT hdT hoD ?a ?b ?c; (case a => exact rfl); (case b => exact rfl); (case c => exact rfl)⟩
  obtain ⟨u, hb⟩ := hb
  refine gen_post fun Q hQ => ?_
  refine wpAny_call (call_fullW_ret hroom ho hdata G.nolimit hcd hb (locs rfl) (fun h₁ F => ?_))
  unfold bodyAt
  walk_at "go"
  have hsz : items.toArray.size = ns.length := by rw [List.size_toArray, IntsAre.length hi]
  refine len_list (F.lst hl) (by rw [hsz]; omega) ?_
  walk_at "go"
  rename_i h' F'
  refine wpAny_While (codeAny_whileLoop (BisI s.heap s.heap.objs.size l ns x s) ?_ ns.length ⟨h', _, _, 0, ns.length, t, u, _, rfl, F', by walk_at "mlook", by walk_at "mlook", by walk_at "mlook", by rw [if_pos rfl, hsz], by omega, by omega, by omega, fun i h => by omega, fun i h1 h2 => by omega, by omega⟩)
  rintro n s' ⟨h, tk, m, lo, hi, t, tl, th, rfl, F, ha, hx, hlo, hhi, b1, b2, b3, b4, b5, rfl⟩
  walk_at "go"
  · rename_i c1 _ _ _ c2 h' F'
    have hm : lo ≤ (lo + hi).fdiv 2 ∧ (lo + hi).fdiv 2 < hi := by rw [Int.fdiv_eq_ediv_of_nonneg _ (by omega)]; omega
    refine ⟨_, ?_, h', _, _, lo, (lo + hi).fdiv 2, t, tl, _, rfl, F', by walk_at "mlook", by walk_at "mlook", by walk_at "mlook", by walk_at "mlook", b1, hm.1, by omega, b4, ?_, rfl⟩
    · omega
    · intro i h1 h2
      exact Int.lt_of_lt_of_le c2 (getD_mono hs (by omega) h2)
  · rename_i c1 _ _ _ c2 h' F'
    have hm : lo ≤ (lo + hi).fdiv 2 ∧ (lo + hi).fdiv 2 < hi := by rw [Int.fdiv_eq_ediv_of_nonneg _ (by omega)]; omega
    refine ⟨_, ?_, h', _, _, (lo + hi).fdiv 2 + 1, hi, t, _, th, rfl, F', by walk_at "mlook", by walk_at "mlook", by walk_at "mlook", by walk_at "mlook", by omega, by omega, by omega, ?_, b5, rfl⟩
    · omega
    · intro i h1
      exact Int.le_trans (getD_mono hs (j := ((lo + hi).fdiv 2).toNat) (by omega) (by omega)) (by omega)
  · have e : lo = hi := by omega
    subst e
    exact hQ _ _ ⟨⟨lo, tl, rfl, b1, b3, b4, b5⟩, h, tk, rfl, F.keep⟩

-- part M3
section
theorem afreshM3 : True := by
  w_top off
  trivial
theorem setOf_keeps {prog : Program} {w : World} {K : Type} [DecidableEq K] {knd : KeyKind prog w K} {h h' : Heap} {a : Addr} {S : K → Bool} {n : Nat} (x : h.SetOf knd a S n) (k : ∀ b o, h.get? b = some o → h'.get? b = some o) : h'.SetOf knd a S n :=
  let ⟨o, es, ep, t, e, r⟩ := x; ⟨o, es, ep, t, k _ _ e, r⟩

theorem in_b1_call {w : World} {A : Around} {s : Shared} {f sa : Addr} {cd : Value} {mg mb : Str → Option Value} {c : Nat} {t : Tok} {S : Int → Bool} {n : Nat} {E : Value → Shared → Prop}
    (hroom : A.depth < recursionLimit) (G : GlobM mg mb s.heap) (hf : FnAt 2 s.heap f cd .none .none) (hsa : mg "b1_set" = some (.ref sa)) (hS : s.heap.SetOf (intKind P w) sa S n) :
    wpAny (model P w) A (call (.ref f) [.str ⟨#[c]⟩ t]) (fun v s' => v = .bool (S c) ∧ Keeps s s') E s := by
  obtain ⟨o, pm, doc, ho, hdata, hcd⟩ := hf
  refine wpAny_call (call_fullW_ret hroom ho hdata G.nolimit hcd (BindsTo.of_eq (binds := [("code", .str ⟨#[c]⟩ t)]) rfl) (locs rfl) (fun h₁ F => ?_))
  unfold bodyAt
  walk_at "go"
  exact wpAny_inSet_of (intKind_is P w c _) rfl (setOf_keeps hS F.keep) ⟨rfl, h₁, _, rfl, F.keep⟩

theorem in_c9_call {w : World} {A : Around} {s : Shared} {f sa : Addr} {cd : Value} {mg mb : Str → Option Value} {c : Nat} {t : Tok} {S : Int → Bool} {n : Nat} {E : Value → Shared → Prop}
    (hroom : A.depth < recursionLimit) (G : GlobM mg mb s.heap) (hf : FnAt 6 s.heap f cd .none .none) (hsa : mg "c9_set" = some (.ref sa)) (hS : s.heap.SetOf (intKind P w) sa S n) :
    wpAny (model P w) A (call (.ref f) [.str ⟨#[c]⟩ t]) (fun v s' => v = .bool (S c) ∧ Keeps s s') E s := by
  obtain ⟨o, pm, doc, ho, hdata, hcd⟩ := hf
  refine wpAny_call (call_fullW_ret hroom ho hdata G.nolimit hcd (BindsTo.of_eq (binds := [("code", .str ⟨#[c]⟩ t)]) rfl) (locs rfl) (fun h₁ F => ?_))
  unfold bodyAt
  walk_at "go"
  exact wpAny_inSet_of (intKind_is P w c _) rfl (setOf_keeps hS F.keep) ⟨rfl, h₁, _, rfl, F.keep⟩

/-- what the table B.3 makes of one sign -/
noncomputable def mapped (D : List (PyData × PyData)) (c : Nat) : Str := match Spec.lookup (.int c) D with | some (.str x) => x | _ => Txt.lower ⟨#[c]⟩

theorem map_b3_call {w : World} {A : Around} {s : Shared} {f da : Addr} {cd : Value} {mg mb : Str → Option Value} {c : Nat} {t : Tok} {D : List (PyData × PyData)} {E : Value → Shared → Prop}
    (hroom : A.depth < recursionLimit) (G : GlobM mg mb s.heap) (hf : FnAt 4 s.heap f cd .none .none) (hda : mg "b3_exceptions" = some (.ref da)) (hD : IntTab P w s.heap da D)
    (hc : (∃ x, Spec.lookup (.int c) D = some (.str x)) ∨ Spec.lookup (.int c) D = none) :
    wpAny (model P w) A (call (.ref f) [.str ⟨#[c]⟩ t]) (fun v s' => (∃ u, v = .str (mapped D c) u) ∧ Keeps s s') E s := by
  obtain ⟨o, pm, doc, ho, hdata, hcd⟩ := hf
  refine wpAny_call (call_fullW_ret hroom ho hdata G.nolimit hcd (BindsTo.of_eq (binds := [("code", .str ⟨#[c]⟩ t)]) rfl) (locs rfl) (fun h₁ F => ?_))
  unfold bodyAt
  walk_at "go"
  rename_i v hv h' F'
  rcases hc with ⟨x, hx⟩ | hx
  · rw [hx] at hv
    obtain ⟨u, rfl⟩ := hv.str_inv
    walk_at "go"
    exact ⟨⟨u, by unfold mapped; rw [hx]⟩, _, _, rfl, F'.keep⟩
  · rw [hx] at hv
    obtain rfl := hv.none_inv
    walk_at "go"
    refine SCL.lower (by show (1 : Nat) ≤ _; omega) fun _ => ?_
    exact ⟨⟨_, by unfold mapped; rw [hx]⟩, _, _, rfl, F'.keep⟩

theorem getMethod_list {prog : Program} {w : World} {A : Around} {E : Value → Shared → Prop} {s : Shared} {l : Addr} {items : Array Value} {n : Nat} {name : Str} {id : String} {pl : Sem Bool} {Q : Value × List Value → Shared → Prop} (hl : IsL s.heap l items n)
    (slot : Slot "list" name id) (hty : typeOf (.builtin id) = pure (.type "method_descriptor")) (h : Q (.builtin id, [.ref l]) s) : wpAny (model prog w) A (getMethod (.ref l) name pl) Q E s :=
  PySem.getMethod_builtin hl.isList.typeIs PySem.F.plainAttrs_list slot hty (fun b e => by cases e; exact ⟨_, hl, rfl⟩) h

theorem call_insert {prog : Program} {w : World} {A : Around} {E : Value → Shared → Prop} {s : Shared} {l : Addr} {items : List Value} {n : Nat} {r : Int} {u : Tok} {y : Value} {Q : Value → Shared → Prop} (hl : IsL s.heap l items.toArray n)
    (h0 : 0 ≤ r) (hr : r ≤ items.length) (hlen : items.length < 1000)
    (h : ∀ h', IsL h' l (items.take r.toNat ++ y :: items.drop r.toNat).toArray (n + 1) → (∀ b o, b ≠ l → s.heap.get? b = some o → h'.get? b = some o) → Q .none { s with heap := h' }) :
    wpAny (model prog w) A (call (.builtin "list.insert") [.ref l, .int r u, y]) Q E s := by
  have hf : Builtin.List.listFitsIndex r = true := fitsIndex_of h0 (by omega)
  refine call_meets PySem.F.slot_list_insert ⟨_, hl, rfl⟩ PySem.F.entry_list_insert (PySem.F.args_list_insert_3 _ _ _)
    (PySem.AutoSeq1.list_insert_list_int_val_1 l _ n r u y (by simp [hf]) (by rw [List.size_toArray, sizeLine_eq]; omega)) ⟨hl, h _ ?_ (fun b o hb e => (Heap.SameBut.update ..).extBut b o hb e)⟩
  have q := PySem.IsL.update hl fun xs => have k := if r < 0 then (r + (xs.size : Int)).toNat else min r.toNat xs.size; (xs.extract 0 k).push y ++ xs.extract k
  have e : (have k := if r < 0 then (r + (items.toArray.size : Int)).toNat else min r.toNat items.toArray.size; (items.toArray.extract 0 k).push y ++ items.toArray.extract k) = (items.take r.toNat ++ y :: items.drop r.toNat).toArray := by
    have hk : (if r < 0 then (r + (items.toArray.size : Int)).toNat else min r.toNat items.toArray.size) = r.toNat := by
      rw [if_neg (by omega), List.size_toArray]; omega
    show (items.toArray.extract 0 (if r < 0 then (r + (items.toArray.size : Int)).toNat else min r.toNat items.toArray.size)).push y ++ items.toArray.extract (if r < 0 then (r + (items.toArray.size : Int)).toNat else min r.toNat items.toArray.size) = _
    rw [hk]
    apply Array.toList_inj.mp
    simp only [Array.toList_append, Array.toList_push, List.extract_toArray, List.size_toArray, List.extract_eq_drop_take, List.drop_zero, Nat.sub_zero, List.append_assoc, List.singleton_append]
    rw [List.take_of_length_le (l := List.drop r.toNat items) (by rw [List.length_drop]; omega)]
  rw [e, if_neg (by
    rw [List.size_toArray, List.size_toArray]
    simp only [List.length_append, List.length_cons, List.length_take, List.length_drop, beq_iff_eq]
    omega)] at q
  exact q

theorem insort_call {w : World} {A : Around} {s : Shared} {f fb T D T' D' l : Addr} {cd cb : Value} {mg mb : Str → Option Value} {items : List Value} {ns : List Int} {x : Int} {t : Tok} {n : Nat} {E : Value → Shared → Prop}
    (hroom : A.depth + 1 < recursionLimit) (G : GlobM mg mb s.heap) (hf : FnAt 8 s.heap f cd (.ref T) (.ref D)) (hD : KwD s.heap T D)
    (hfb : FnAt 9 s.heap fb cb (.ref T') (.ref D')) (hD' : KwD s.heap T' D') (hmb : mg "bisect_right" = some (.ref fb))
    (hl : IsL s.heap l items.toArray n) (hi : IntsAre items ns) (hlen : ns.length < 99) (hs : ns.Pairwise (· ≤ ·)) :
    wpAny (model P w) A (call (.ref f) [.ref l, .int x t]) (fun v s' => v = .none ∧ ∃ r h' tk, BisAt ns x r ∧ s' = { s with heap := h', toks := tk } ∧ IsL h' l (items.take r.toNat ++ .int x t :: items.drop r.toNat).toArray (n + 1) ∧ ∀ b o, b ≠ l → s.heap.get? b = some o → h'.get? b = some o) E s := by
  obtain ⟨o, pm, doc, ho, hdata, hcd⟩ := hf
  obtain ⟨oT, nT, tT, hoT, hdT⟩ := hD.tup
  obtain ⟨cD, dD, hsD, tD, epD, slD, hoD⟩ := hD.dict
  have hb : BindsTo s { Calls.docDef (nameAt 8) (paramsAt 8) (bodyAt 8) (scopeAt 8) pm cd doc with defaults := .ref T, kwdefaults := .ref D } ⟨[.ref l, .int x t], []⟩
      [("a", .ref l), ("x", .int x t), ("lo", .int 0 tT), ("hi", .none), ("key", .none)] := by
    refine' binds_kw hoT hdT hoD ?a ?b ?c; (case a => exact rfl); (case b => exact rfl); (case c => exact rfl)
  refine wpAny_call (call_fullW_ret (by omega) ho hdata G.nolimit hcd hb (locs rfl) (fun h₁ F => ?_))
  unfold bodyAt
  have hob := hfb
  obtain ⟨ob, pmb, docb, hob, hdatab, _⟩ := hob
  have hlB : s.heap.IsList l items.toArray := hl.isList
  walk_at "go"
  refine wpAny_mono (bisect_call (show A.depth + 1 < recursionLimit from hroom) (G.keeps F.keep) (hfb.keeps F.keep) (hD'.keeps F.keep) (F.lst hlB) hi (by omega) hs (.inr ⟨_, rfl⟩)) ?_ (fun _ _ x => x)
  rintro v s' ⟨⟨r, u, rfl, hb⟩, h', tk, rfl, hk⟩
  have F' := F.keeps hk
  walk_at "go"
  rename_i h2 F2
  have hl2 : IsL h2 l items.toArray n := F2.keep _ _ hl
  refine getMethod_list hl2 PySem.F.slot_list_insert PySem.F.type_list_insert ?_
  walk_at "go"
  have hn : items.length = ns.length := IntsAre.length hi
  refine call_insert hl2 hb.1 (by have := hb.2.1; omega) (by omega) fun h3 hl3 hk3 => ?_
  exact wpAny_execs_nil ⟨rfl, r, h3, _, hb, rfl, hl3, fun b o hb' e => hk3 b o hb' (F2.keep b o e)⟩
end

-- part M4
local macro_rules | `(tactic| walk_at "loadName") => `(tactic| (refine ldn (by assumption) (by walk_at "mlook") ?_))
section
theorem afreshM4 : True := by
  w_top off
  trivial
section
variable {prog : Program} {w : World} {A : Around} {E : Value → Shared → Prop} {s : Shared} {env : Env} {h₀ : Heap} {x : Str} {body : List Stmt} {Q : Flow → Shared → Prop}

/-- a for over a list that the turns do not change -/
theorem iter_list {l : Addr} {vs : Array Value} {m₀ : Str → Option Value} {news : List (Addr × Obj)} (J : Nat → (Str → Option Value) → List (Addr × Obj) → Prop)
    (hh : A.handled = none) (hl : s.heap.IsList l vs) (hlL : l ≠ env.locals) (F : Fr h₀ env.locals s.heap m₀) (N : News h₀ env.locals s.heap news) (hj : J 0 m₀ news)
    (turn : ∀ i v m₁ news₁ h tk own, vs[i]? = some v → J i m₁ news₁ → (∀ p ∈ own, p.1 = s.heap.objs.size ∨ p.1 = l) → (∀ p ∈ news₁, p.1 ≠ s.heap.objs.size) → Fr h₀ env.locals h (fun y => if y = x then some v else m₁ y) → News h₀ env.locals h (own ++ news₁) →
      wpAny (model prog w) A (execs body env) (LoopStepV h₀ env.locals [s.heap.objs.size] own (J (i + 1)) { s with heap := h, toks := tk } (fun v s' => Q (.ret v) s') fun s' => Q .next s') E { s with heap := h, toks := tk })
    (done : ∀ m₁ news₁ h tk, J vs.size m₁ news₁ → Fr h₀ env.locals h m₁ → News h₀ env.locals h news₁ → Q .next { s with heap := h, toks := tk }) :
    wpAny (model prog w) A (pyIter (.ref l)) (fun it s₂ => LoopAtV prog w A h₀ env x body Q E it s₂) E s := by
  obtain ⟨ol, hol, hol2⟩ := id hl
  have hlt : l < s.heap.objs.size := Heap.lt_size hol
  have hne : l ≠ s.heap.objs.size := Nat.ne_of_lt hlt
  refine wpAny_pyIter_list hl ?_
  have W := Walks.list (prog := prog) (w := w) hh s.heap.objs.size l hne vs
  refine ⟨_, _, _, vs.size, _, _, m₀, news, J, rfl, W, ?_, ?_, ?_, ⟨⟨_, Heap.get?_push_size _ rfl, rfl, rfl⟩, hl.at fun o e => Heap.get?_push_of_some _ e⟩, F.push _, (fun p hp => ⟨Heap.get?_push_of_some _ (N p hp).1, (N p hp).2⟩), hj, ?_, ?_⟩
  · intro hm
    rcases List.mem_cons.mp hm with e | hm
    · exact absurd F.ns.lt (e ▸ Nat.lt_irrefl _)
    · exact hlL (List.mem_singleton.mp hm).symm
  · intro b hb
    rw [List.mem_singleton.mp hb]
    exact next_is_new F
  · intro p hp hI
    exact absurd (Heap.lt_size (N p hp).1) ((List.mem_singleton.mp hI) ▸ Nat.lt_irrefl _)
  · rintro i v m₁ news₁ s₁ own ⟨hh', tk', rfl⟩ hin hP hJ hoff hown _ _ _ F₁ N₁
    exact turn i v m₁ news₁ hh' tk' own hP hJ (fun p hp => by simpa using hown p hp) (fun p hp e => hoff p hp (by simp [e])) F₁ N₁
  · rintro h' tk m' news' F' N' _ hJ
    exact done m' news' h' tk hJ F' N'
end

/-- texts behind one another -/
noncomputable def cat : List Str → Str
  | [] => ""
  | y :: ys => y ++ cat ys
theorem str_empty : (Str.ofString "") = ⟨#[]⟩ := by decide
theorem join_cat : ∀ ys : List Str, Str.join ⟨#[]⟩ ys = cat ys
  | [] => rfl
  | y :: ys => by rw [PyProof.Rows.join_nil_cons, join_cat ys]; rfl
theorem txt_join (ys : List Str) : Txt.join (Str.ofString "") ys = cat ys := by
  have h := join_plain_closes (Str.ofString "") ys
  rw [beq_iff_eq] at h
  rw [h, str_empty, join_cat]
theorem cat_length : ∀ ys : List Str, (cat ys).length = (ys.map (·.length)).sum
  | [] => rfl
  | y :: ys => by show (y ++ cat ys).length = _; rw [Str.length_append, cat_length ys, List.map_cons, List.sum_cons]
theorem sum_le {ys : List Str} {k : Nat} (h : ∀ y ∈ ys, y.length ≤ k) : (ys.map (·.length)).sum ≤ ys.length * k := by
  induction ys with
  | nil => simp
  | cons y ys ih =>
    rw [List.map_cons, List.sum_cons, List.length_cons, Nat.succ_mul]
    have := h y (.head _)
    have := ih fun z hz => h z (.tail _ hz)
    omega

/-- the line with a mark at each of the points -/
noncomputable def markGo (ws : List Str) : Nat → List Int → Str
  | a, [] => cat (ws.drop a)
  | a, p :: ps => cat ((ws.drop a).take (p.toNat - a)) ++ ("\"" : Str) ++ markGo ws p.toNat ps

theorem StrsAre_sub {vs : List Value} {ys : List Str} (h : StrsAre vs ys) : ∀ k, StrsAre (vs.drop k) (ys.drop k) ∧ StrsAre (vs.take k) (ys.take k) := by
  induction h with
  | nil => intro k; simp; exact .nil
  | cons y t _ ih =>
    intro k
    cases k with
    | zero => exact ⟨.cons y t (by simpa using (ih 0).1), .nil⟩
    | succ k => exact ⟨(ih k).1, .cons y t (ih k).2⟩
theorem StrsAre_length {vs : List Value} {ys : List Str} (h : StrsAre vs ys) : vs.length = ys.length := by
  induction h with
  | nil => rfl
  | cons y t _ ih => simp [ih]

inductive MInv (lw : Addr) (ws : List Str) (ns : List Int) (i : Nat) (m : Str → Option Value) : Prop
  | mk (li : Str) (t : Tok) (a : Nat) (u : Tok) (hli : m "line" = some (.str li t)) (ha : m "at" = some (.int a u)) (hw : m "written" = some (.ref lw)) (hal : a ≤ ws.length) (hap : ∀ p ∈ ns.drop i, (a : Int) ≤ p) (hlen : li.length ≤ 16 * i)
    (heq : li ++ markGo ws a (ns.drop i) = markGo ws 0 ns)

theorem marked_call {w : World} {A : Around} {s : Shared} {f lw lm : Addr} {cd : Value} {mg mb : Str → Option Value} {iw im : List Value} {ws : List Str} {ns : List Int} {E : Value → Shared → Prop}
    (hroom : A.depth < recursionLimit) (hh : A.handled = none) (G : GlobM mg mb s.heap) (hf : FnAt 16 s.heap f cd .none .none) (hw : s.heap.IsList lw iw.toArray) (hws : StrsAre iw ws) (hm : s.heap.IsList lm im.toArray) (hns : IntsAre im ns)
    (hwl : ws.length ≤ 5) (hw3 : ∀ y ∈ ws, y.length ≤ 3) (hnl : ns.length ≤ 8) (hsrt : ns.Pairwise (· ≤ ·)) (hrng : ∀ p ∈ ns, 0 ≤ p ∧ p ≤ ws.length) :
    wpAny (model P w) A (call (.ref f) [.ref lw, .ref lm]) (fun v s' => (∃ u, v = .str (markGo ws 0 ns) u) ∧ Keeps s s') E s := by
  obtain ⟨o, pm, doc, ho, hdata, hcd⟩ := hf
  refine gen_post fun Q hQ => ?_
  refine wpAny_call (call_fullW_ret hroom ho hdata G.nolimit hcd (BindsTo.of_eq (binds := [("written", .ref lw), ("marks", .ref lm)]) rfl) (locs rfl) (fun h₁ F => ?_))
  have N0 : News s.heap s.heap.objs.size h₁ [] := News.nil
  have hwlen : iw.length = ws.length := StrsAre_length hws
  have hlt : ∀ {l : Addr} {it : Array Value}, s.heap.IsList l it → l ≠ s.heap.objs.size := fun h => Nat.ne_of_lt (by obtain ⟨o, h, _⟩ := h; exact Heap.lt_size h)
  unfold bodyAt
  iterate 9 walk1
  rename_i h2 F2 N2
  refine For_invV s.heap rfl rfl ?_
  walk1
  refine iter_list (fun i m news => MInv lw ws ns i m) hh (F2.lst hm) (hlt hm) F2 N2
      ⟨_, _, 0, _, by walk_at "mlook", by walk_at "mlook", by walk_at "mlook", Nat.zero_le _, fun p hp => (hrng p (by simpa using hp)).1, by decide, by rw [List.drop_zero, str_empty]; exact Str.empty_append _⟩ ?_ ?_
  · rintro i v m₁ news₁ h tk own hv ⟨li, t1, a, t2, hli, ha, hw1, hal, hap, hlen, heq⟩ hown hnn F3 N3
    replace F3 : Fr s.heap s.heap.objs.size h _ := F3
    replace N3 : News s.heap s.heap.objs.size h _ := N3
    have hi : i < ns.length := by
      have := IntsAre.length hns
      have h1 : i < im.toArray.size := (Array.getElem?_eq_some_iff.mp hv).1
      rw [List.size_toArray] at h1; omega
    obtain ⟨tp, hp⟩ := hns.get i ns[i] (by simp [hi])
    have ev : v = .int ns[i] tp := by
      rw [List.getElem?_toArray, hp] at hv; exact (Option.some.inj hv).symm
    subst ev
    have hdrop : ns.drop i = ns[i] :: ns.drop (i + 1) := List.drop_eq_getElem_cons hi
    have hpi := hrng ns[i] (List.getElem_mem hi)
    have hai : (a : Int) ≤ ns[i] := hap _ (by rw [hdrop]; exact .head _)
    walk_at "go"
    rename_i h4 F4 N4
    have hpick : slicePick iw.toArray (some (a : Int)) (some ns[i]) none = ((iw.drop a).take (ns[i].toNat - a)).toArray := by
      have e : (some ns[i]) = some ((ns[i].toNat : Nat) : Int) := by congr 1; omega
      rw [e, slicePick_run iw.toArray a ns[i].toNat (by rw [List.size_toArray]; omega) (by omega)]
    have hsub : StrsAre ((iw.drop a).take (ns[i].toNat - a)) ((ws.drop a).take (ns[i].toNat - a)) := (StrsAre_sub (StrsAre_sub hws a).1 _).2
    have hmem : ∀ y ∈ (ws.drop a).take (ns[i].toNat - a), y.length ≤ 3 := fun y hy => hw3 y (List.mem_of_mem_drop (List.mem_of_mem_take hy))
    have hll : ((ws.drop a).take (ns[i].toNat - a)).length ≤ 5 := by rw [List.length_take, List.length_drop]; omega
    have hsum := sum_le hmem
    rw [hpick] at N4
    refine join_list (IsL.isList (N4 _ (.head _)).1) (by simpa using hsub) (by rw [show (Str.ofString "").length = 0 from rfl]; omega) fun t' k => ?_
    rw [txt_join]
    have hcl := cat_length ((ws.drop a).take (ns[i].toNat - a))
    walk_at "go"
    rename_i h5 F5 N5
    have hq : (Str.ofString "\"").length = 1 := rfl
    refine LoopStepV.next (LoopStepU.intro (news₂ := news₁) F5 (fun p hp => N5 p (.tail _ hp)) (fun p hp hm => hnn p hp (List.mem_singleton.mp hm)) ?_)
    refine ⟨_, _, ns[i].toNat, tp, by walk_at "mlook", ?_, by walk_at "mlook", by omega, ?_, ?_, ?_⟩
    · rw [show ((ns[i].toNat : Nat) : Int) = ns[i] by omega]; rfl
    · intro p hp
      have h1 : ns[i] ≤ p := by
        have := List.pairwise_append.mp (show (ns.take (i + 1) ++ ns.drop (i + 1)).Pairwise (· ≤ ·) by rw [List.take_append_drop]; exact hsrt)
        exact this.2.2 ns[i] (List.mem_take_iff_getElem.mpr ⟨i, by omega, rfl⟩) p hp
      omega
    · rw [Str.length_append, Str.length_append, hq]; omega
    · rw [← heq, hdrop]
      show _ = li ++ (cat ((ws.drop a).take (ns[i].toNat - a)) ++ ("\"" : Str) ++ markGo ws ns[i].toNat (ns.drop (i + 1)))
      simp only [Str.append_assoc]
  · rintro m₁ news₁ h tk ⟨li, t1, a, t2, hli, ha, hw1, hal, hap, hlen, heq⟩ F3 N3
    replace F3 : Fr s.heap s.heap.objs.size h _ := F3
    replace N3 : News s.heap s.heap.objs.size h _ := N3
    walk_at "go"
    rename_i h4 F4 N4
    have hpick : slicePick iw.toArray (some (a : Int)) none none = (iw.drop a).toArray := slicePick_from iw.toArray a (by rw [List.size_toArray]; omega)
    have hsub : StrsAre (iw.drop a) (ws.drop a) := (StrsAre_sub hws a).1
    have hmem : ∀ y ∈ ws.drop a, y.length ≤ 3 := fun y hy => hw3 y (List.mem_of_mem_drop hy)
    have hll : (ws.drop a).length ≤ 5 := by rw [List.length_drop]; omega
    have hsum := sum_le hmem
    rw [hpick] at N4
    refine join_list (IsL.isList (N4 _ (.head _)).1) (by simpa using hsub) (by rw [show (Str.ofString "").length = 0 from rfl]; omega) fun t' k => ?_
    rw [txt_join]
    have hcl := cat_length (ws.drop a)
    have hsz : im.toArray.size = ns.length := by rw [List.size_toArray, IntsAre.length hns]
    rw [hsz] at hlen heq
    rw [List.drop_length] at heq
    walk_at "go"
    exact hQ _ _ ⟨⟨_, by rw [← heq]; rfl⟩, _, _, rfl, F4.keep⟩
end

-- part M5
section
theorem afreshM5 : True := by
  w_top off
  trivial
section
variable {M : Model} {A : Around} {R : GenEnd} {Y : Protocol} {n : Nat} {s₀ : Shared} {c : Code} {fs : List Frame} {s : Shared} {env : Env}
  {K : Flow → Sem Fin} {H : Value → Sem Fin}

/-- a statement that does not yield -/
theorem seg_plain {st : Stmt} {rest : List Stmt}
    (h : wpAny M (A.over c fs) (exec st env) (fun f s' => f = .next ∧ Seg M A R Y n s₀ c ((execs rest env).wrap K H id id) fs s') (fun _ _ => False) s) :
    Seg M A R Y n s₀ c ((execs (st :: rest) env).wrap K H id id) fs s :=
  seg_execs_cons (seg_wrap (wpAny_mono h (fun f s' h' => by obtain ⟨rfl, h'⟩ := h'; exact h') fun _ _ x => x.elim))

theorem seg_If {test : Expr} {body orelse rest : List Stmt} {pos : Pos}
    (h : wpAny M (A.over c fs) (isTrue test env (eval test env)) (fun b s' =>
      Seg M A R Y n s₀ c ((execs (if b then body else orelse) env).wrap (fun f => match f with | .next => (execs rest env).wrap K H id id | f => K f) H id id) fs s') (fun _ _ => False) s) :
    Seg M A R Y n s₀ c ((execs (.If test body orelse pos :: rest) env).wrap K H id id) fs s := by
  refine seg_execs_cons ?_
  rw [exec_If]
  refine seg_at ?_
  show Seg M A R Y n s₀ c (((isTrue test env (eval test env)) >>= fun b => if b then execs body env else execs orelse env).wrap _ H id id) fs s
  rw [Sem.bind_eq_wrap', Sem.wrap_wrap]
  refine seg_wrap (wpAny_mono h (fun b s' h' => ?_) fun _ _ x => x.elim)
  cases b <;> exact h'
end

section
variable {prog : Program} {w : World} {A : Around} {R : GenEnd} {Y : Protocol} {n : Nat} {s₀ : Shared} {c : Code} {fs : List Frame} {s : Shared} {env : Env}
  {K : Flow → Sem Fin} {H : Value → Sem Fin}

noncomputable abbrev backH (env : Env) (K : Flow → Sem Fin) (H : Value → Sem Fin) : Result → Sem Fin := fun r => ((match r with | .ok f => (.pure f : Sem Flow) | .error e => .raise e).onRaise fun (x : Value) => do
        if (← field x 1) == Value.none then unsupported "frame.own-activation:exception-without-traceback"
        setFlight x env.frame).wrap K H id id

theorem seg_For {target iter : Expr} {body rest : List Stmt} {pos : Pos}
    (h : wpAny (model prog w) (A.over c fs) (eval iter env) (fun x s₁ => wpAny (model prog w) (A.over c fs) (pyIter x) (fun it s₂ => ∀ p,
      Seg (model prog w) A R Y n s₀ (.forLoop target it body [] env) ((model prog w).den (.forLoop target it body [] env)) (.ret (backH env (fun f => match f with | .next => (execs rest env).wrap K H id id | f => K f) H) none false [] c p [] :: fs) s₂) (fun _ _ => False) s₁) (fun _ _ => False) s)
    (hs : ∀ x, foldedSetIterable iter env x = pure x := by intro _; rfl) :
    Seg (model prog w) A R Y n s₀ c ((execs (.For target iter body [] pos :: rest) env).wrap K H id id) fs s := by
  refine seg_execs_cons ?_
  rw [exec_For]
  refine seg_at ?_
  show Seg (model prog w) A R Y n s₀ c ((eval iter env >>= fun x₀ => foldedSetIterable iter env x₀ >>= fun x => standAt iter.pos >>= fun _ => (holding [x] (pyIter x)) >>= fun it => runOwn (.forLoop target it body [] env) env).wrap _ H id id) fs s
  rw [Sem.bind_eq_wrap', Sem.wrap_wrap]
  refine seg_wrap (wpAny_mono h (fun x s₁ h₁ => ?_) fun _ _ x => x.elim)
  rw [hs]
  show Seg (model prog w) A R Y n s₀ c (((standAt iter.pos >>= fun _ => (holding [x] (pyIter x)) >>= fun it => runOwn (.forLoop target it body [] env) env)).wrap _ H id id) fs s₁
  refine seg_at ?_
  show Seg (model prog w) A R Y n s₀ c ((((holding [x] (pyIter x)) >>= fun it => runOwn (.forLoop target it body [] env) env)).wrap _ H id id) fs s₁
  rw [Sem.bind_eq_wrap', Sem.wrap_wrap]
  refine seg_wrap (wpAny_mono (wpAny_holding h₁) (fun it s₂ h₂ => ?_) fun _ _ x => x.elim)
  exact seg_call h₂

theorem seg_forLoop {target : Expr} {it : Value} {body : List Stmt}
    (h : wpAny (model prog w) (A.over (.forLoop target it body [] env) fs) (pyNext it) (fun r s₁ => match r with
      | none => Seg (model prog w) A R Y n s₀ (.block [] env) (leafOf (.ok .next)) fs s₁
      | some v => wpAny (model prog w) (A.over (.forLoop target it body [] env) fs) (letOwnedTupleGo target it v) (fun _ s₂ => wpAny (model prog w) (A.over (.forLoop target it body [] env) fs) (assign target env v) (fun _ s₃ =>
          Seg (model prog w) A R Y n s₀ (.forLoop target it body [] env) ((execs body env).wrap (fun f => match f with
            | .next | .cont => .pure (.again (.forLoop target it body [] env))
            | .brk => .pure (.done .next)
            | .ret v => .pure (.done (.ret v))) (fun e => (do noteFrame e env; theTreesLotGoes e : Sem Unit).wrap (fun _ => .raise e) .raise id id) id id) fs s₃) (fun _ _ => False) s₂) (fun _ _ => False) s₁) (fun _ _ => False) s) :
    Seg (model prog w) A R Y n s₀ (.forLoop target it body [] env) ((model prog w).den (.forLoop target it body [] env)) fs s := by
  show Seg _ A R Y n s₀ _ ((forTurn target it body [] env).onRaise (fun x => do noteFrame x env; theTreesLotGoes x)) fs s
  unfold forTurn
  rw [Sem.onRaise_eq_wrap]
  refine seg_at ?_
  show Seg _ A R Y n s₀ _ ((((pyNext it).onRaise (fun _ => standAt { target.pos with line := 0 })) >>= fun r => _).wrap _ _ id id) fs s
  rw [Sem.bind_eq_wrap', Sem.wrap_wrap]
  refine seg_wrap (wpAny_mono (E := fun _ _ => False) (wpAny_onRaise (wpAny_mono h (fun _ _ x => x) fun _ _ x => x.elim)) (fun r s₁ h₁ => ?_) fun _ _ x => x.elim)
  · cases r with
    | none => exact seg_again rfl h₁
    | some v =>
      show Seg _ A R Y n s₀ _ (((letOwnedTupleGo target it v) >>= fun _ => assign target env v >>= fun _ => execs body env >>= fun f => _).wrap _ _ id id) fs s₁
      rw [Sem.bind_eq_wrap', Sem.wrap_wrap]
      refine seg_wrap (wpAny_mono h₁ (fun _ s₂ h₂ => ?_) fun _ _ x => x.elim)
      show Seg _ A R Y n s₀ _ ((assign target env v >>= fun _ => execs body env >>= fun f => _).wrap _ _ id id) fs s₂
      rw [Sem.bind_eq_wrap', Sem.wrap_wrap]
      refine seg_wrap (wpAny_mono h₂ (fun _ s₃ h₃ => ?_) fun _ _ x => x.elim)
      show Seg _ A R Y n s₀ _ ((execs body env >>= fun f => _).wrap _ _ id id) fs s₃
      rw [Sem.bind_eq_wrap', Sem.wrap_wrap]
      refine cast (congrArg (fun t => Seg _ A R Y n s₀ _ t fs s₃) ?_) h₃
      refine Sem.wrap_congr _ _ _ (fun f => by cases f <;> rfl) (fun e => ?_)
      show _ = ((do noteFrame e env; theTreesLotGoes e : Sem Unit).bind fun _ => .raise e)
      rw [Sem.bind_eq_wrap]
end
end

-- part M6
section
theorem afreshM6 : True := by
  w_top off
  trivial
/-- what the escapes tell -/
noncomputable def escGo (e : Bool) (i : Nat) : List Nat → List (Nat × Str)
  | [] => []
  | c :: cs => if e then (i, ("\\" : Str) ++ ⟨#[c]⟩) :: escGo false (i + 1) cs else if c = 92 then escGo true (i + 1) cs else (i, ⟨#[c]⟩) :: escGo false (i + 1) cs
/-- does an escape stand open at the end -/
noncomputable def escEnd (e : Bool) : List Nat → Bool
  | [] => e
  | c :: cs => escEnd (if e then false else c == 92) cs

noncomputable def trunc (L : Nat) (h : Heap) : Heap := ⟨h.objs.extract 0 L, h.life⟩
theorem trunc_size {L : Nat} {h : Heap} (hL : L ≤ h.objs.size) : (trunc L h).objs.size = L := by
  simp only [trunc, Array.size_extract, Nat.sub_zero]; exact Nat.min_eq_left hL
theorem trunc_get {L : Nat} {h : Heap} (b : Nat) (hb : b < L) : (trunc L h).get? b = h.get? b := by
  unfold Heap.get? trunc
  have : (h.objs.extract 0 L)[b]? = h.objs[b]? := by
    rw [Array.getElem?_extract]
    simp only [Nat.zero_add, Nat.sub_zero]
    by_cases q : b < min L h.objs.size
    · rw [if_pos q]
    · rw [if_neg q, Array.getElem?_eq_none (by omega)]
  simp only [this]
theorem trunc_lt {L : Nat} {h : Heap} {b : Nat} {o : Obj} (e : (trunc L h).get? b = some o) : b < L := by
  have := Heap.lt_size e
  simp only [trunc, Array.size_extract, Nat.sub_zero] at this
  exact Nat.lt_of_lt_of_le this (Nat.min_le_left _ _)
theorem trunc_none {L : Nat} {h : Heap} (b : Nat) (hb : L ≤ b) : (trunc L h).get? b = none := by
  unfold Heap.get? trunc
  have : (h.objs.extract 0 L)[b]? = none := Array.getElem?_eq_none (by rw [Array.size_extract, Nat.sub_zero]; exact Nat.le_trans (Nat.min_le_left _ _) hb)
  simp only [this]

noncomputable def KeepLo (L : Nat) (oa : Obj) (h h' : Heap) : Prop := (∀ b o, b < L → h.get? b = some o → h'.get? b = some o) ∧ h'.get? (L + 1) = some oa

noncomputable def GP (L : Nat) (oa : Obj) (n : Nat) (s₀ s₁ : Shared) : Prop := n = 0 ∧ ∃ h tk, s₁ = { s₀ with heap := h, toks := tk } ∧ KeepLo L oa s₀.heap h
noncomputable abbrev GR (L : Nat) (oa : Obj) : GenEnd := fun n s₀ r s₁ => r = .ok (.ret .none) ∧ GP L oa n s₀ s₁
noncomputable def GY (L : Nat) (oa : Obj) (ys : List (Nat × Str)) : Protocol := fun n s₀ v s' kap =>
  ∃ T p txt tp tt, v = .ref T ∧ ys[ys.length - 1 - n]? = some (p, txt) ∧ s'.heap.IsTuple T #[.int (p : Nat) tp, .str txt tt] ∧ L < T ∧
    (∃ h tk, s' = { s₀ with heap := h, toks := tk } ∧ KeepLo L oa s₀.heap h) ∧ ∃ gn : List (Addr × Obj), (∀ q ∈ gn, L ≤ q.1 ∧ s'.heap.get? q.1 = some q.2) ∧ ∀ s'', (∀ q ∈ gn, s''.heap.get? q.1 = some q.2) → kap (.send .none) s''

noncomputable def gBody : List Stmt := match bodyAt 11 with | _ :: _ :: .For _ _ b _ _ :: _ => b | _ => []

/-- at the loop's head, i signs taken -/
noncomputable def LS (L : Nat) (oa : Obj) (St : Nat → Heap → Prop) (i : Nat) (e : Bool) (s₀ s : Shared) : Prop :=
  ∃ h tk m, s = { s₀ with heap := h, toks := tk } ∧ Fr (trunc L s₀.heap) L h m ∧ L < s₀.heap.objs.size ∧ m "escape" = some (.bool e) ∧ St i h ∧ h.get? (L + 1) = some oa

/-- a yield, told to the consumer -/
theorem give_Y {L : Addr} {oa : Obj} {ys : List (Nat × Str)} {n : Nat} {s₀ : Shared} {h : Heap} {tk : Nat} {m : Str → Option Value} {T : Addr} {p : Nat} {txt : Str} {tp tt : Tok} {k : Nat} {rest : List (Addr × Obj)} {kap : Resume → Shared → Prop}
    (F : Fr (trunc L s₀.heap) L h m) (N : News (trunc L s₀.heap) L h ((T, { cls := .type "tuple", data := .seq #[.int (p : Nat) tp, .str txt tt] k }) :: rest)) (hT : L < T) (hr : ∀ p ∈ rest, L < p.1) (hoa : (L + 1, oa) ∈ rest)
    (hy : ys[ys.length - 1 - n]? = some (p, txt)) 
    (hk : ∀ s'' : Shared, L < s''.heap.objs.size → Fr (trunc L s''.heap) L s''.heap m → News (trunc L s''.heap) L s''.heap rest → kap (.send .none) s'') :
    GY L oa ys n s₀ (.ref T) { s₀ with heap := h, toks := tk } kap := by
  obtain ⟨oL, es, ep, hoL, r⟩ := F.ns
  refine ⟨T, p, txt, tp, tt, rfl, hy, ⟨_, (N _ (.head _)).1, rfl, _, rfl⟩, hT, ⟨h, tk, rfl, fun b o hb ho => F.keep b o ((trunc_get b hb).trans ho), (N _ (.tail _ hoa)).1⟩, (L, oL) :: rest, fun q hq => ?_, fun s'' hi => ?_⟩
  · rcases List.mem_cons.mp hq with rfl | hq
    · exact ⟨Nat.le_refl _, hoL⟩
    · exact ⟨Nat.le_of_lt (hr q hq), (N q (.tail _ hq)).1⟩
  have hn : s''.heap.Ns L m := ⟨oL, es, ep, hi _ (.head _), r⟩
  have hL := hn.lt
  exact hk s'' hL ⟨hn, fun b o hb => (trunc_get b (trunc_lt hb)).symm.trans hb, Nat.le_of_eq (trunc_size (Nat.le_of_lt hL))⟩
    (fun q hq => ⟨hi _ (.tail _ hq), Nat.ne_of_gt (hr q hq), trunc_none _ (Nat.le_of_lt (hr q hq))⟩)

theorem escGo_drop {x : Str} {i : Nat} {c : Nat} (hc : x.cps[i]? = some c) : x.cps.toList.drop i = c :: x.cps.toList.drop (i + 1) := by
  obtain ⟨h, rfl⟩ := Array.getElem?_eq_some_iff.mp hc
  rw [List.drop_eq_getElem_cons (by simpa using h)]
  simp

theorem newsLast {h₀ h : Heap} {L : Addr} {p q r : Addr × Obj} (N : News h₀ L h [p, q, r]) : h.get? r.1 = some r.2 := (N r (.tail _ (.tail _ (.head _)))).1

theorem gen_loop {oa : Obj} {w : World} {A : Around} {L E I a : Addr} {cd : Value} {x : Str} {ys : List (Nat × Str)} {St : Nat → Heap → Prop} {Mid : Nat → Addr → Heap → Prop} {p1 p2 pt pf : Pos} {k1 : Nat} {c : Code} {k : Result → Sem Fin}
    (hh : A.handled = none) (hLE' : L + 1 < E) (hLI' : L + 1 < I)
    (W : ∀ A' : Around, A'.handled = none → WalksT P w A' E [E, I] [E, I] x.cps.size (fun i vals => ∃ t v, (∃ c u, x.cps[i]? = some c ∧ v = .str ⟨#[c]⟩ u) ∧ vals = #[.int i t, v]) St Mid)
    (live : ∀ i h, St i h → (∃ o, h.get? E = some o) ∧ ∃ o, h.get? I = some o)
    (hk : ∀ s₀ s, (∃ h tk m, s = { s₀ with heap := h, toks := tk } ∧ Fr (trunc L s₀.heap) L h m ∧ h.get? (L + 1) = some oa ∧ m "escape" = some (.bool false)) → Seg (model P w) A (GR L oa) (GY L oa ys) 0 s₀ c (k (.ok .next)) [] s) :
    ∀ (j i : Nat) (e : Bool) (s₀ s : Shared), x.cps.size - i = j → i ≤ x.cps.size → escEnd e (x.cps.toList.drop i) = false → ys.drop (ys.length - (escGo e i (x.cps.toList.drop i)).length) = escGo e i (x.cps.toList.drop i) → LS L oa St i e s₀ s →
      Seg (model P w) A (GR L oa) (GY L oa ys) (escGo e i (x.cps.toList.drop i)).length s₀ (.forLoop (.Tuple [.Name "pos" p1, .Name "ch" p2] k1 pt) (.ref E) gBody [] (envOf (nameAt 11) (scopeAt 11) L a cd))
        ((model P w).den (.forLoop (.Tuple [.Name "pos" p1, .Name "ch" p2] k1 pt) (.ref E) gBody [] (envOf (nameAt 11) (scopeAt 11) L a cd))) [.ret k none false [] c pf []] s := by
  have hLE : L < E := Nat.lt_of_succ_lt hLE'
  have hLI : L < I := Nat.lt_of_succ_lt hLI'
  have off : ∀ b, b ≤ L + 1 → b ∉ [E, I] := fun b hb hm => by
    rcases List.mem_cons.mp hm with e | hm
    · exact absurd (e ▸ hb) (Nat.not_le.mpr hLE')
    · exact absurd (List.mem_singleton.mp hm ▸ hb) (Nat.not_le.mpr hLI')
  intro j
  induction j with
  | zero =>
    rintro i e s₀ s hj hi he hys ⟨h, tk, m, rfl, F, hL, hm, hst, hoa⟩
    have hin : i = x.cps.size := by omega
    subst hin
    have hd : x.cps.toList.drop x.cps.size = [] := List.drop_eq_nil_of_le (by simp)
    rw [hd] at he hys ⊢
    obtain rfl : e = false := he
    refine seg_forLoop ((W _ (by exact hh)).done _ _ _ hst fun h' tk' hk' => ?_)
    refine seg_leaf (.ok .next) (hk _ _ ⟨h', tk', m, rfl, ⟨F.ns.at' fun o ho => hk' L o (off L (Nat.le_succ _)) ho, fun b o hb => hk' b o (off b (Nat.le_succ_of_le (Nat.le_of_lt (trunc_lt hb)))) (F.keep b o hb), F.above⟩, hk' _ _ (off _ (Nat.le_refl _)) hoa, hm⟩)
  | succ j ih =>
    rintro i e s₀ s hj hi he hys ⟨h, tk, m, rfl, F, hL, hm, hst, hoa⟩
    have hlt : i < x.cps.size := by omega
    refine seg_forLoop ((W _ (by exact hh)).item i _ _ _ hlt hst fun T vals h' tk' hP hT hT2 hmid hk' => ?_)
    refine (W _ (by exact hh)).go _ _ _ i T _ _ _ hmid fun h2 hst2 hk2 => ?_
    obtain ⟨t, v, ⟨c, u, hc, rfl⟩, rfl⟩ := hP
    have hT3 : h2.IsTuple T #[.int i t, .str ⟨#[c]⟩ u] := by
      obtain ⟨o, ho, r⟩ := hT2
      exact ⟨o, hk2 T o ((W A hh).apart i T _ hmid) ho, r⟩
    refine wpAny_assign_Tuple (by exact hh) hT3 rfl rfl fun h3 hx3 => ?_
    have F2 : Fr (trunc L s₀.heap) L h2 m := ⟨(F.ns.at' fun o ho => hk' L o (off L (Nat.le_succ _)) ho).at' fun o ho => hk2 L o (off L (Nat.le_succ _)) ho,
      fun b o hb => hk2 b o (off b (Nat.le_succ_of_le (Nat.le_of_lt (trunc_lt hb)))) (hk' b o (off b (Nat.le_succ_of_le (Nat.le_of_lt (trunc_lt hb)))) (F.keep b o hb)), F.above⟩
    have hk3 : ∀ b o, h2.get? b = some o → h3.get? b = some o := fun b o hb => hx3 b o (Nat.ne_of_lt (Heap.lt_size hb)) hb
    have F3 : Fr (trunc L s₀.heap) L h3 m := F2.keeps hk3
    obtain ⟨⟨oE, hoE⟩, oI, hoI⟩ := live _ _ hst2
    have N3 : News (trunc L s₀.heap) L h3 [(E, oE), (I, oI), (L + 1, oa)] := by
      intro p hp
      rcases List.mem_cons.mp hp with rfl | hp
      · exact ⟨hk3 _ _ hoE, Nat.ne_of_gt hLE, trunc_none _ (Nat.le_of_lt hLE)⟩
      rcases List.mem_cons.mp hp with rfl | hp
      · exact ⟨hk3 _ _ hoI, Nat.ne_of_gt hLI, trunc_none _ (Nat.le_of_lt hLI)⟩
      · rw [List.mem_singleton.mp hp]
        exact ⟨hk3 _ _ (hk2 _ _ (off _ (Nat.le_refl _)) (hk' _ _ (off _ (Nat.le_refl _)) hoa)), Nat.succ_ne_self _, trunc_none _ (Nat.le_succ _)⟩
    have stE : ∀ g₀ h', News g₀ L h' [(E, oE), (I, oI), (L + 1, oa)] → St (i + 1) h' := fun g₀ h' N' => (W A hh).frame _ _ _ hst2 fun b hb o ho => by
      rcases List.mem_cons.mp hb with rfl | hb
      · rw [hoE] at ho; cases ho; exact (N' (b, oE) (.head _)).1
      · obtain rfl := List.mem_singleton.mp hb
        rw [hoI] at ho; cases ho; exact (N' (b, oI) (.tail _ (.head _))).1
    have hr : ∀ p ∈ [(E, oE), (I, oI), (L + 1, oa)], L < p.1 := by
      intro p hp
      rcases List.mem_cons.mp hp with rfl | hp
      · exact hLE
      rcases List.mem_cons.mp hp with rfl | hp
      · exact hLI
      · rw [List.mem_singleton.mp hp]; exact Nat.lt_succ_self _
    have hd := escGo_drop hc
    refine wpAny_bind (wpAny_holding (wpAny_assign_Name (stN (name := nameAt 11) (scope := scopeAt 11) (a := a) (cd := cd) F3 N3 fun h4 F4 N4 => ?_)))
    refine wpAny_bind (wpAny_holding (wpAny_assign_Name (stN (name := nameAt 11) (scope := scopeAt 11) (a := a) (cd := cd) F4 N4 fun h5 F5 N5 => wpAny_pure ?_)))
    unfold gBody bodyAt
    have hys' : ∀ {p : Nat × Str} {rest : List (Nat × Str)}, ys.drop (ys.length - (p :: rest).length) = p :: rest → ys[ys.length - 1 - rest.length]? = some p ∧ ys.drop (ys.length - rest.length) = rest := by
      intro p rest hp
      have hle : rest.length + 1 ≤ ys.length := by
        have := congrArg List.length hp
        rw [List.length_drop, List.length_cons] at this
        omega
      have e1 : ys.length - 1 - rest.length = ys.length - (p :: rest).length := by rw [List.length_cons]; omega
      refine ⟨?_, ?_⟩
      · rw [e1, ← List.head?_drop, hp]; rfl
      · have := congrArg (List.drop 1) hp
        rw [List.drop_drop, List.drop_one, List.tail_cons] at this
        have e2 : ys.length - (p :: rest).length + 1 = ys.length - rest.length := by rw [List.length_cons]; omega
        rw [← e2]; exact this
    refine seg_If ?_
    rw [hd] at hys he ⊢
    cases e with
    | true =>
      walk_at "go"
      have he2 : escEnd false (x.cps.toList.drop (i + 1)) = false := he
      obtain ⟨hy1, hy2⟩ := hys' hys
      refine seg_execs_cons (seg_Expr_Yield rfl rfl rfl ?_ rfl rfl)
      walk_at "go"
      refine fun kap hkap => give_Y (by assumption) (by assumption) F5.ns.lt hr (.tail _ (.tail _ (.head _))) hy1 (fun s'' hLs Fs Ns => hkap .none s'' ?_)
      show Seg _ _ _ _ _ _ _ _ _ _
      refine seg_plain ?_
      walk_at "go"
      exact ⟨rfl, seg_execs_nil (seg_again rfl (ih (i + 1) false _ _ (by omega) hlt he2 hy2 ⟨_, _, _, rfl, by assumption, hLs, if_pos rfl, stE _ _ (by assumption), newsLast (by assumption)⟩))⟩
    | false =>
      walk_at "go"
      refine seg_If ?_
      walk_at "go"
      by_cases q : c = 92
      · subst q
        have he2 : escEnd true (x.cps.toList.drop (i + 1)) = false := he
        have hy2 : ys.drop (ys.length - (escGo true (i + 1) (x.cps.toList.drop (i + 1))).length) = escGo true (i + 1) (x.cps.toList.drop (i + 1)) := hys
        refine seg_plain ?_
        walk_at "go"
        exact ⟨rfl, seg_execs_nil (seg_execs_nil (seg_again rfl (ih (i + 1) true _ _ (by omega) hlt he2 hy2 ⟨_, _, _, rfl, by assumption, hL, if_pos rfl, stE _ _ (by assumption), newsLast (by assumption)⟩)))⟩
      · have hb : (c == 92) = false := by simpa using q
        have he2 : escEnd false (x.cps.toList.drop (i + 1)) = false := by
          have := he
          simp only [escEnd, hb] at this
          exact this
        have hgo : escGo false i (c :: x.cps.toList.drop (i + 1)) = (i, ⟨#[c]⟩) :: escGo false (i + 1) (x.cps.toList.drop (i + 1)) := by
          simp only [escGo, if_neg q, Bool.false_eq_true, if_false]
        rw [hgo] at hys ⊢
        obtain ⟨hy1, hy2⟩ := hys' hys
        have hs : ((⟨#[c]⟩ : Str) == "\\") = false := by
          refine Bool.eq_false_iff.mpr fun hq => q ?_
          have hq2 : (⟨#[c]⟩ : Str) = ⟨#[92]⟩ := eq_of_beq hq
          injection hq2 with hq3
          injection hq3 with hq4
          injection hq4
        rw [hs]
        refine seg_execs_cons (seg_Expr_Yield rfl rfl rfl ?_ rfl rfl)
        walk_at "go"
        refine fun kap hkap => give_Y (by assumption) (by assumption) F5.ns.lt hr (.tail _ (.tail _ (.head _))) hy1 (fun s'' hLs Fs Ns => hkap .none s'' ?_)
        show Seg _ _ _ _ _ _ _ _ _ _
        exact seg_execs_nil (seg_execs_nil (seg_again rfl (ih (i + 1) false _ _ (by omega) hlt he2 hy2 ⟨_, _, _, rfl, by assumption, hLs, by walk_at "mlook", stE _ _ (by assumption), newsLast (by assumption)⟩)))
end

-- part M7
section
theorem afreshM7 : True := by
  w_top off
  trivial
theorem gen_start {oa : Obj} {w : World} {A : Around} {L a : Addr} {cd : Value} {x : Str} {t : Tok} {mg mb m : Str → Option Value} {s : Shared}
    (hh : A.handled = none) (hend : escEnd false x.cps.toList = false)
    (F : Fr (trunc L s.heap) L s.heap m) (G : GlobM mg mb (trunc L s.heap)) (hm : m "addr" = some (.str x t)) (hoa : s.heap.get? (L + 1) = some oa) :
    Seg (model P w) A (GR L oa) (GY L oa (escGo false 0 x.cps.toList)) (escGo false 0 x.cps.toList).length s (.func (bodyAt 11) (envOf (nameAt 11) (scopeAt 11) L a cd))
      ((model P w).den (.func (bodyAt 11) (envOf (nameAt 11) (scopeAt 11) L a cd))) [] s := by
  have hL : L < s.heap.objs.size := F.ns.lt
  refine seg_func ?_
  unfold bodyAt
  refine seg_plain ?_
  have N : News (trunc L s.heap) L s.heap [(L + 1, oa)] := fun p hp => by rw [List.mem_singleton.mp hp]; exact ⟨hoa, Nat.succ_ne_self _, trunc_none _ (Nat.le_succ _)⟩
  walk_at "go"
  refine ⟨rfl, ?_⟩
  refine seg_plain ?_
  walk_at "go"
  refine ⟨rfl, ?_⟩
  refine seg_For ?_
  walk_at "go"
  refine call_enumerate_str fun h' he hi hz hk => ?_
  rename_i h2 F2 N2
  have hoa2 := (N2 _ (.head _)).1
  have hLi : L + 1 < h2.objs.size := Heap.lt_size hoa2
  have hLe : L + 1 < h2.objs.size + 1 := Nat.lt_succ_of_lt hLi
  obtain ⟨St, W, st0, hlive⟩ : ∃ St : Nat → Heap → Prop, (∀ A' : Around, A'.handled = none → WalksT P w A' (h2.objs.size + 1) [h2.objs.size + 1, h2.objs.size] [h2.objs.size + 1, h2.objs.size] x.cps.size
      (fun i vals => ∃ t v, (∃ c u, x.cps[i]? = some c ∧ v = .str ⟨#[c]⟩ u) ∧ vals = #[.int i t, v]) (fun i h => (∃ old, IsEnum h (h2.objs.size + 1) h2.objs.size i old) ∧ St i h)
      (fun i T h => (∃ x, IsEnumOut h (h2.objs.size + 1) h2.objs.size ((i : Int) + 1) x T) ∧ St (i + 1) h ∧ T ≠ h2.objs.size + 1 ∧ T ≠ h2.objs.size)) ∧ St 0 h' ∧ ∀ i h, St i h → ∃ o, h.get? h2.objs.size = some o := by
    have hne : h2.objs.size + 1 ≠ h2.objs.size := by omega
    by_cases q : strIterType x = "str_ascii_iterator"
    · exact ⟨fun i h => h.IsStrIter h2.objs.size "str_ascii_iterator" x t i, fun A' hA => WalksT.enumerateD (Draws.strAscii (A := A'.in1) hA h2.objs.size x t) _ hne (by simp) (by simp), q ▸ hi, fun i h st => (Draws.strAscii (prog := P) (w := w) (A := A) hh h2.objs.size x t).live i h st⟩
    · have q2 : strIterType x = "str_iterator" := by
        unfold strIterType at q ⊢
        split
        · rename_i h; rw [if_pos h] at q; exact absurd rfl q
        · rfl
      exact ⟨fun i h => h.IsStrIter h2.objs.size "str_iterator" x t i, fun A' hA => WalksT.enumerateD (Draws.strWide (A := A'.in1) hA h2.objs.size x t) _ hne (by simp) (by simp), q2 ▸ hi, fun i h st => (Draws.strWide (prog := P) (w := w) (A := A) hh h2.objs.size x t).live i h st⟩
  refine (W _ (by exact hh)).self 0 _ _ _ ⟨⟨_, he⟩, st0⟩ ?_
  intro p
  have F3 := F2.keeps hk
  refine gen_loop (x := x) (ys := escGo false 0 x.cps.toList) hh hLe hLi W (fun i h st => ⟨(let ⟨_, e⟩ := st.1; ⟨_, e⟩), hlive i h st.2⟩) ?_ x.cps.size 0 false s _ rfl (Nat.zero_le _) (by simpa using hend) (by simp) ⟨h', _, _, rfl, F3, hL, if_pos rfl, ⟨⟨_, he⟩, st0⟩, hk _ _ hoa2⟩
  rintro s₀ s₁ ⟨h, tk, m', rfl, Fm, hoa', hm'⟩
  show Seg _ _ _ _ _ _ _ (backH _ _ _ _) _ _
  refine seg_If ?_
  have Nm : News (trunc L s₀.heap) L h [] := News.nil
  walk_at "go"
  exact seg_execs_nil (seg_execs_nil (seg_end (.ok (.ret .none)) ⟨rfl, rfl, h, tk, rfl, fun b o hb ho => Fm.keep b o ((trunc_get b hb).trans ho), hoa'⟩))
end

-- part M8
section
theorem afreshM8 : True := by
  w_top off
  trivial
theorem news_cons_nil {h₀ h : Heap} {L : Addr} {p : Addr × Obj} {rest : List (Addr × Obj)} (N : News h₀ L h ([] ++ p :: rest)) : News h₀ L h (p :: rest) := N
local macro_rules | `(tactic| walk_at "call builtin:list.append") => `(tactic| (refine append_in (own := []) (by assumption) (by assumption) (fun _ h => nomatch h) (by assumption) (fun _ _ N => ?_) (by assumption); (replace N := news_cons_nil N)))

/-- the rest of the state may grow: heap, names, generators -/
noncomputable def KeepsG (s s' : Shared) : Prop := ∃ h tk gs, s' = { s with heap := h, toks := tk, gens := gs } ∧ (∀ b o, s.heap.get? b = some o → h.get? b = some o) ∧ (AllBare s.gens → AllBare gs)

theorem for_go {prog : Program} {w : World} {A : Around} {E : Value → Shared → Prop} {s : Shared} {env : Env} {target iter : Expr} {body : List Stmt} {pos : Pos} {Q : Flow → Shared → Prop}
    (h : wpAny (model prog w) A (eval iter env) (fun x s₁ => wpAny (model prog w) A (pyIter x) (fun it s₂ => ∃ (n : Nat) (I : Nat → Shared → Prop), I n s₂ ∧ ∀ n s, I n s →
      wpAny (model prog w) A (pyNext it) (fun r s₁ => match r with
        | none => Q .next s₁
        | some v => wpAny (model prog w) A (letOwnedTupleGo target it v) (fun _ s₂ => wpAny (model prog w) A (assign target env v) (fun _ s₃ => wpAny (model prog w) A (execs body env) (fun f s₄ => match f with
            | .next | .cont => ∃ m, m < n ∧ I m s₄
            | .brk => Q .next s₄
            | .ret v => Q (.ret v) s₄) (fun _ _ => False) s₃) (fun _ _ => False) s₂) (fun _ _ => False) s₁) (fun _ _ => False) s) (fun _ _ => False) s₁) (fun _ _ => False) s)
    (hs : ∀ x, foldedSetIterable iter env x = pure x := by intro _; rfl) :
    wpAny (model prog w) A (exec (.For target iter body [] pos) env) Q E s := by
  refine wpAny_For (wpAny_mono h (fun x s₁ h₁ => wpAny_mono h₁ (fun it s₂ h₂ => ?_) fun _ _ x => x.elim) fun _ _ x => x.elim) hs
  obtain ⟨n, I, hI, turn⟩ := h₂
  refine codeAny_forLoop_any I (fun n s hI => ?_) n hI
  refine wpAny_mono (turn n s hI) (fun r s₁ h₁ => ?_) fun _ _ x => x.elim
  cases r with
  | none => rw [execs_nil]; exact wpAny_pure h₁
  | some v => 
    refine wpAny_mono h₁ (fun _ s₂ h₂ => wpAny_mono h₂ (fun _ s₃ h₃ => wpAny_mono h₃ (fun f s₄ h₄ => ?_) fun _ _ x => x.elim) fun _ _ x => x.elim) fun _ _ x => x.elim
    cases f <;> exact h₄

/-- what stands outside the quotes, in pieces -/
noncomputable def stripGo (x : Str) (st : Nat) (op : Option Nat) : List (Nat × Str) → List Str
  | [] => if st < x.length then [Txt.slice x (some (st : Nat)) none] else []
  | (p, t) :: r => if t = "\"" then (match op with | none => stripGo x st (some p) r | some o => (if st = o then [] else [Txt.slice x (some (st : Nat)) (some (o : Nat))]) ++ stripGo x (p + 1) none r) else stripGo x st op r

theorem stripGo_no {x : Str} {st p : Nat} {op : Option Nat} {t : Str} {r : List (Nat × Str)} (h : (t == Str.ofString "\"") = false) : stripGo x st op ((p, t) :: r) = stripGo x st op r := by
  have h' : t ≠ "\"" := fun e => by subst e; exact absurd h (by decide)
  show (if t = _ then _ else _) = _
  rw [if_neg h']
theorem stripGo_open {x : Str} {st p : Nat} {t : Str} {r : List (Nat × Str)} (h : t = "\"") : stripGo x st none ((p, t) :: r) = stripGo x st (some p) r := by
  show (if t = _ then _ else _) = _
  rw [if_pos h]
theorem stripGo_close {x : Str} {st p o : Nat} {t : Str} {r : List (Nat × Str)} (h : t = "\"") : stripGo x st (some o) ((p, t) :: r) = (if st = o then [] else [Txt.slice x (some (st : Nat)) (some (o : Nat))]) ++ stripGo x (p + 1) none r := by
  show (if t = _ then _ else _) = _
  rw [if_pos h]

theorem iter_call {w : World} {A : Around} {s : Shared} {g : Addr} {cg : Value} {mg mb : Str → Option Value} {x : Str} {t : Tok} {E : Value → Shared → Prop}
    (hroom : A.depth < recursionLimit) (G : GlobM mg mb s.heap) (hg : FnAt 11 s.heap g cg .none .none) (hend : escEnd false x.cps.toList = false) :
    wpAny (model P w) A (call (.ref g) [.str x t]) (fun v s' => ∃ oL oa gs tk h, v = .ref (s.heap.objs.size + 1) ∧ s' = { s with heap := h, toks := tk, gens := s.gens.push gs } ∧ gs.bare = true ∧
      (∀ b o, s.heap.get? b = some o → h.get? b = some o) ∧ h.get? s.heap.objs.size = some oL ∧ h.get? (s.heap.objs.size + 1) = some oa ∧ (∀ h' : Heap, h'.get? (s.heap.objs.size + 1) = some oa → h'.IsGen (s.heap.objs.size + 1) s.gens.size) ∧
      ∀ (A' : Around) (hb : Heap) (s'' : Shared), A'.handled = none → GlobM mg mb hb → hb.objs.size ≤ s.heap.objs.size → (∀ b o, hb.get? b = some o → s''.heap.get? b = some o) → s''.heap.get? s.heap.objs.size = some oL → s''.heap.get? (s.heap.objs.size + 1) = some oa →
        gs.Goes (model P w) A' (GR s.heap.objs.size oa) (GY s.heap.objs.size oa (escGo false 0 x.cps.toList)) (escGo false 0 x.cps.toList).length (.send .none) s'') E s := by
  obtain ⟨og, pmg, docg, hog, hdatag, hcg⟩ := id hg
  refine wpAny_call (codeAny_call_generator hroom hog hdatag rfl rfl rfl hcg ?_)
  refine BindsTo.of_eq (binds := [("addr", .str x t)]) rfl _ _ _ _ ?_
  refine wpAny_newFunctionEnv (show ∀ x ∈ (scopeAt 11).names, x.2 ≠ .cell by decide) (locs rfl) fun h3 hns hsb => ?_
  have keep3 : ∀ b o, s.heap.get? b = some o → h3.get? b = some o := fun b o e => hsb.extBut b o (Nat.ne_of_lt (Heap.lt_size e)) (Heap.get?_push_of_some _ e)
  have hsz : h3.objs.size = s.heap.objs.size + 1 := by rw [hsb.1, Heap.size_push]
  refine ⟨G.nolimit.keeps keep3, ?_⟩
  obtain ⟨oL, es, ep, hoL, hr⟩ := hns
  refine ⟨oL, _, _, _, _, by rw [hsz], rfl, rfl, fun b o e => Heap.get?_push_of_some _ (keep3 b o e), Heap.get?_push_of_some _ hoL, by rw [← hsz]; exact Heap.get?_push_size _ rfl, fun h' e => ⟨_, _, _, e, rfl, rfl, rfl⟩, ?_⟩
  intro A' hb s'' hA Gb hbs hk hL hoa
  have hns : s''.heap.Ns s.heap.objs.size _ := ⟨oL, es, ep, hL, hr⟩
  have hlt := hns.lt
  refine ⟨rfl, gen_start (mg := mg) (mb := mb) hA hend ⟨hns, fun b o e => (trunc_get b (trunc_lt e)).symm.trans e, Nat.le_of_eq (trunc_size (Nat.le_of_lt hlt))⟩ (Gb.keeps fun b o e => (trunc_get b (Nat.lt_of_lt_of_le (Heap.lt_size e) hbs)).trans (hk b o e)) rfl hoa⟩

theorem escGo_bound : ∀ (cs : List Nat) (e : Bool) (i : Nat), ∀ q ∈ escGo e i cs, i ≤ q.1 ∧ q.1 < i + cs.length
  | [], _, _, q, hq => nomatch hq
  | c :: cs, e, i, q, hq => by
    have go : ∀ e', q ∈ escGo e' (i + 1) cs → i ≤ q.1 ∧ q.1 < i + (c :: cs).length := fun e' h => by
      have := escGo_bound cs e' (i + 1) q h
      rw [List.length_cons]; omega
    unfold escGo at hq
    split at hq
    · rcases List.mem_cons.mp hq with rfl | hq
      · rw [List.length_cons]; exact ⟨Nat.le_refl _, by show i < _; omega⟩
      · exact go _ hq
    · split at hq
      · exact go _ hq
      · rcases List.mem_cons.mp hq with rfl | hq
        · rw [List.length_cons]; exact ⟨Nat.le_refl _, by show i < _; omega⟩
        · exact go _ hq
theorem escGo_length : ∀ (cs : List Nat) (e : Bool) (i : Nat), (escGo e i cs).length ≤ cs.length
  | [], _, _ => Nat.le_refl _
  | c :: cs, e, i => by
    unfold escGo
    split
    · exact Nat.succ_le_succ (escGo_length cs _ _)
    · split
      · exact Nat.le_succ_of_le (escGo_length cs _ _)
      · exact Nat.succ_le_succ (escGo_length cs _ _)

noncomputable def opVal : Option (Nat × Tok) → Value
  | none => .none
  | some (p, u) => .int p u

theorem letGo_gen {prog : Program} {w : World} {A : Around} {E : Value → Shared → Prop} {s : Shared} {elts : List Expr} {k : Nat} {pos : Pos} {a T : Addr} {g : Nat} {Q : Unit → Shared → Prop} (hg : s.heap.IsGen a g) (hQ : Q () s) :
    wpAny (model prog w) A (letOwnedTupleGo (.Tuple elts k pos) (.ref a) (.ref T)) Q E s := by
  obtain ⟨o, nm, qn, ho, hc, hd, _⟩ := hg
  unfold letOwnedTupleGo
  refine wpAny_bind (wpAny_load ho ?_)
  simp only [hc, hd]
  exact wpAny_pure hQ

theorem news_of {h₀ h : Heap} {ns : List (Addr × Obj)} (x : ∀ q ∈ ns, h.get? q.1 = some q.2 ∧ h₀.objs.size < q.1) : News h₀ h₀.objs.size h ns :=
  fun q hq => ⟨(x q hq).1, Nat.ne_of_gt (x q hq).2, Heap.get?_none_of_le (Nat.le_of_lt (x q hq).2)⟩

theorem strs_snoc {vs : List Value} {ys : List Str} {y : Str} {t : Tok} (h : StrsAre vs ys) : StrsAre (vs ++ [.str y t]) (ys ++ [y]) := by
  induction h with
  | nil => exact StrsAre.cons _ _ StrsAre.nil
  | cons _ _ _ ih => exact StrsAre.cons _ _ ih

noncomputable def sBody : List Stmt := match bodyAt 12 with | _ :: _ :: _ :: _ :: .For _ _ b _ _ :: _ => b | _ => []

inductive SPost (s : Shared) (h₀ : Heap) (L l : Addr) (x : Str) (t : Tok) (gn : List (Addr × Obj)) (out : List Str) (st : Nat) (op : Option (Nat × Tok)) (p : Nat) (txt : Str) (s' : Shared) : Prop
  | mk (st' : Nat) (op' : Option (Nat × Tok)) (out' : List Str) (items' : List Value) (ep' : Nat) (m' : Str → Option Value) (h : Heap) (tk : Nat) (u' : Tok) (e : s' = { s with heap := h, toks := tk }) (F : Fr h₀ L h m')
    (N : News h₀ L h ((l, { cls := .type "list", data := .seq (List.toArray items') ep' }) :: gn)) (e1 : m' "addr" = some (.str x t)) (e2 : m' "start" = some (.int (st' : Nat) u')) (e3 : m' "open_pos" = some (opVal op')) (e4 : m' "result" = some (.ref l))
    (ho : StrsAre items' out') (hl : out'.length ≤ out.length + 1) (hol : ∀ y ∈ out', y.length ≤ 1000) (hst : st' ≤ x.length) (hop : ∀ q, op' = some q → q.1 ≤ x.length)
    (hgo : ∀ r, out' ++ stripGo x st' (op'.map (·.1)) r = out ++ stripGo x st (op.map (·.1)) ((p, txt) :: r))

theorem strip_body {w : World} {A : Around} {s : Shared} {h₀ : Heap} {L f l : Addr} {cd : Value} {x : Str} {t u tp tt : Tok} {m : Str → Option Value} {items : List Value} {out : List Str} {ep st p : Nat} {op : Option (Nat × Tok)} {gn : List (Addr × Obj)} {txt : Str}
    (F : Fr h₀ L s.heap m) (N : News h₀ L s.heap ((l, { cls := .type "list", data := .seq (List.toArray items) ep }) :: gn)) (hln : ∀ q ∈ gn, q.1 ≠ l)
    (hma : m "addr" = some (.str x t)) (hms : m "start" = some (.int (st : Nat) u)) (hmo : m "open_pos" = some (opVal op)) (hmr : m "result" = some (.ref l)) (hmp : m "pos" = some (.int (p : Nat) tp)) (hmc : m "ch" = some (.str txt tt))
    (hout : StrsAre items out) (hoj : out.length ≤ 2000) (hol : ∀ y ∈ out, y.length ≤ 1000) (hx : x.length ≤ 1000) (hst : st ≤ x.length) (hp : p < x.length) (hop : ∀ q, op = some q → q.1 ≤ x.length) :
    wpAny (model P w) A (execs sBody (envOf (nameAt 12) (scopeAt 12) L f cd)) (fun fl s' => fl = .next ∧ SPost s h₀ L l x t gn out st op p txt s') (fun _ _ => False) s := by
  have hil : items.length = out.length := StrsAre_length hout
  have hsz : items.length ≤ sizeLine := by rw [hil]; exact Nat.le_trans hoj (by decide)
  unfold sBody bodyAt
  cases op with
  | none =>
    replace hmo : m "open_pos" = some .none := hmo
    walk_at "go"
    · rename_i hq h F1 N1
      exact ⟨rfl, st, some (p, tp), out, items, ep, _, _, _, u, rfl, F1, N1, by walk_at "mlook", by walk_at "mlook", by walk_at "mlook", by walk_at "mlook", hout, Nat.le_succ _, hol, hst, (fun q e => by cases e; exact Nat.le_of_lt hp),
        fun r => by rw [show (Option.map (·.1) (none : Option (Nat × Tok)) : Option Nat) = none from rfl, stripGo_open (eq_of_beq hq)]; rfl⟩
    · rename_i hq
      exact ⟨rfl, st, none, out, items, ep, _, _, _, u, rfl, F, N, by walk_at "mlook", by walk_at "mlook", by walk_at "mlook", by walk_at "mlook", hout, Nat.le_succ _, hol, hst, hop,
        fun r => by rw [stripGo_no hq]⟩
  | some q =>
    obtain ⟨q, uq⟩ := q
    replace hmo : m "open_pos" = some (.int (q : Nat) uq) := hmo
    walk_at "go"
    · rename_i hq hne h t' k F1 N1 hle h1 F2 N2 h2 F3' N3' h3 F3 N3
      refine ⟨rfl, p + 1, none, out ++ [Txt.slice x (some (st : Nat)) (some (q : Nat))], _, ep + 1, _, _, _, _, rfl, F3, N3, by walk_at "mlook", by walk_at "mlook", by walk_at "mlook", by walk_at "mlook", ?_, by rw [List.length_append]; exact Nat.le_refl _, ?_, hp, (fun _ e => nomatch e), fun r => ?_⟩
      · exact strs_snoc hout
      · intro y hy
        rcases List.mem_append.mp hy with hy | hy
        · exact hol y hy
        · rw [List.mem_singleton.mp hy]; exact Nat.le_trans hle hx
      · rw [show ((some (q, uq)).map (·.1) : Option Nat) = some q from rfl, stripGo_close (eq_of_beq hq), if_neg (fun e => hne (by rw [e])), ← List.append_assoc]; rfl
    · rename_i hq he h' F0 N0 h3 F3 N3
      refine ⟨rfl, p + 1, none, out, items, ep, _, _, _, _, rfl, F3, N3, by walk_at "mlook", by walk_at "mlook", by walk_at "mlook", by walk_at "mlook", hout, Nat.le_succ _, hol, hp, (fun _ e => nomatch e), fun r => ?_⟩
      rw [show ((some (q, uq)).map (·.1) : Option Nat) = some q from rfl, stripGo_close (eq_of_beq hq), if_pos (by exact Int.ofNat.inj he)]; rfl
    · rename_i hq
      exact ⟨rfl, st, some (q, uq), out, items, ep, _, _, _, u, rfl, F, N, by walk_at "mlook", by walk_at "mlook", by walk_at "mlook", by walk_at "mlook", hout, Nat.le_succ _, hol, hst, hop,
        fun r => by rw [stripGo_no hq]⟩
end

-- part M9
section
theorem afreshM9 : True := by
  w_top off
  trivial
noncomputable def strip (x : Str) : Str := if (Builtin.Str.occurrences x (Str.ofString "\"") 0 x.length 1).isEmpty = true then x else cat (stripGo x 0 none (escGo false 0 x.cps.toList))

local macro_rules | `(tactic| walk_at "call builtin:list.append") => `(tactic| (refine append_in (own := []) (by assumption) (by assumption) (fun _ h => nomatch h) (by assumption) (fun _ _ N => ?_) (by assumption); (replace N := news_cons_nil N)))

theorem strip_tail {w : World} {A : Around} {s : Shared} {h₀ : Heap} {L f l : Addr} {cd : Value} {x : Str} {t u : Tok} {m mg mb : Str → Option Value} {items : List Value} {out : List Str} {ep st : Nat}
    (F : Fr h₀ L s.heap m) (N : News h₀ L s.heap [(l, { cls := .type "list", data := .seq (List.toArray items) ep })]) (G : GlobM mg mb h₀)
    (hma : m "addr" = some (.str x t)) (hms : m "start" = some (.int (st : Nat) u)) (hmr : m "result" = some (.ref l))
    (hout : StrsAre items out) (hoj : out.length ≤ 2000) (hol : ∀ y ∈ out, y.length ≤ 1000) (hx : x.length ≤ 1000) :
    wpAny (model P w) A (execs ((bodyAt 12).drop 5) (envOf (nameAt 12) (scopeAt 12) L f cd)) (fun fl s' => (∃ u, fl = .ret (.str (cat (out ++ stripGo x st none [])) u)) ∧ ∃ h tk, s' = { s with heap := h, toks := tk } ∧ ∀ b o, h₀.get? b = some o → h.get? b = some o) (fun _ _ => False) s := by
  have hil : items.length = out.length := StrsAre_length hout
  have hsz : items.length ≤ sizeLine := by rw [hil]; exact Nat.le_trans hoj (by decide)
  have hnil : ∀ q : Addr × Obj, q ∈ ([] : List (Addr × Obj)) → q.1 ≠ l := fun _ h => nomatch h
  unfold bodyAt
  walk_at "go"
  · rename_i hlt h1 t' k F1 hle h2 F2 N2
    rw [show items.toArray.push (Value.str (Txt.slice x (some (st : Nat)) none) t') = (items ++ [Value.str (Txt.slice x (some (st : Nat)) none) t']).toArray by simp] at N2
    have hs := strs_snoc (t := t') (y := Txt.slice x (some (st : Nat)) none) hout
    have hmem : ∀ y ∈ out ++ [Txt.slice x (some (st : Nat)) none], y.length ≤ 1000 := fun y hy => by
      rcases List.mem_append.mp hy with hy | hy
      · exact hol y hy
      · rw [List.mem_singleton.mp hy]; exact Nat.le_trans hle hx
    have hsum := sum_le hmem
    have hll : (out ++ [Txt.slice x (some (st : Nat)) none]).length ≤ 2001 := by rw [List.length_append]; simpa using hoj
    refine join_list (IsL.isList (N2 _ (.head _)).1) (by simpa using hs) (by rw [show (Str.ofString "").length = 0 from rfl]; have : sizeLine = sizeLine := rfl; omega) fun t' k => ?_
    rw [txt_join]
    exact ⟨⟨t', by rw [show stripGo x st none [] = [Txt.slice x (some (st : Nat)) none] from if_pos (Int.ofNat_lt.mp hlt)]⟩, _, _, rfl, F2.keep⟩
  · rename_i hlt
    have hsum := sum_le hol
    refine join_list (IsL.isList (N _ (.head _)).1) (by simpa using hout) (by rw [show (Str.ofString "").length = 0 from rfl]; omega) fun t' k => ?_
    rw [txt_join]
    exact ⟨⟨t', by rw [show stripGo x st none [] = [] from if_neg (fun h => hlt (Int.ofNat_lt.mpr h)), List.append_nil]⟩, _, _, rfl, F.keep⟩

inductive SInv (w : World) (A : Around) (s : Shared) (f : Addr) (cd : Value) (x : Str) (t : Tok) (ys : List (Nat × Str)) (l g : Addr) (oa : Obj) (n : Nat) (s' : Shared) : Prop
  | mk (j st : Nat) (op : Option (Nat × Tok)) (out : List Str) (items : List Value) (ep : Nat) (m : Str → Option Value) (h : Heap) (tk : Nat) (gens : Array GenState) (gs : GenState) (gn : List (Addr × Obj)) (u : Tok)
    (hn : n = ys.length - j) (hj : j ≤ ys.length) (hs : s' = { s with heap := h, toks := tk, gens := gens }) (F : Fr s.heap s.heap.objs.size h m)
    (N : News s.heap s.heap.objs.size h ((l, { cls := .type "list", data := .seq (List.toArray items) ep }) :: (g + 1, oa) :: gn)) (hgn : ∀ q ∈ gn, g ≤ q.1)
    (hgs : gens[s.gens.size]? = some gs) (hgo : GenOnly s.gens.size (s.gens.push .finished) gens) (e1 : m "addr" = some (.str x t)) (e2 : m "start" = some (.int (st : Nat) u)) (e3 : m "open_pos" = some (opVal op)) (e4 : m "result" = some (.ref l))
    (ho : StrsAre items out) (hoj : out.length ≤ j) (hol : ∀ y ∈ out, y.length ≤ 1000) (hst : st ≤ x.length) (hop : ∀ q, op = some q → q.1 ≤ x.length) (heq : out ++ stripGo x st (op.map (·.1)) (ys.drop j) = stripGo x 0 none ys)
    (hgoes : ∀ s'', (∀ q ∈ gn, s''.heap.get? q.1 = some q.2) → (∀ b o, s.heap.get? b = some o → s''.heap.get? b = some o) →
        gs.Goes (model P w) (A.deeper (envOf (nameAt 12) (scopeAt 12) s.heap.objs.size f cd)).in1 (GR g oa) (GY g oa ys) (ys.length - j) (.send .none) s'')

theorem strip_call {w : World} {A : Around} {s : Shared} {f g : Addr} {cd cg : Value} {mg mb : Str → Option Value} {x : Str} {t : Tok} {E : Value → Shared → Prop}
    (hroom : A.depth + 2 < recursionLimit) (hh : A.handled = none) (G : GlobM mg mb s.heap) (hf : FnAt 12 s.heap f cd .none .none) (hg : FnAt 11 s.heap g cg .none .none) (hgn : mg "_iter_escaped_chars" = some (.ref g))
    (hlen : x.length ≤ 1000) (hend : escEnd false x.cps.toList = false) :
    wpAny (model P w) A (call (.ref f) [.str x t]) (fun v s' => (∃ u, v = .str (strip x) u) ∧ KeepsG s s') E s := by
  obtain ⟨o, pm, doc, ho, hdata, hcd⟩ := hf
  refine wpAny_call (call_fullW_ret (Nat.lt_of_le_of_lt (by omega) hroom) ho hdata G.nolimit hcd (BindsTo.of_eq (binds := [("addr", .str x t)]) rfl) (locs rfl) (fun h₁ F => ?_))
  have N0 : News s.heap s.heap.objs.size h₁ [] := News.nil
  unfold bodyAt
  obtain ⟨og, pmg, docg, hog, hdatag, hcg⟩ := id hg
  walk_at "go"
  · rename_i hocc
    exact ⟨⟨t, by show Value.str x t = _; rw [strip, if_pos hocc]⟩, _, _, _, rfl, F.keep, fun h => h⟩
  · rename_i hocc hz0 Fz0 Nz0 h1' F1 N1 hm Fm Nm h2 F2 N2
    have hl0 : s.heap.objs.size ≤ h2.objs.size := Nat.le_of_lt F2.ns.lt
    refine for_go ?_
    walk_at "go"
    refine wpAny_mono (iter_call (by show A.depth + 1 < _; exact Nat.lt_of_le_of_lt (by omega) hroom) (G.keeps F2.keep) (hg.keeps F2.keep) hend) ?_ (fun _ _ x => x)
    rintro v s' ⟨oL, oa, gs, tk, h3, rfl, rfl, hbare, hk3, hoL, hoa, hisg, hgo⟩
    have F3 := F2.keeps hk3
    refine wpAny_pyIter_gen (hisg _ hoa) ?_
    have hyl := escGo_length x.cps.toList false 0
    rw [Array.length_toList] at hyl
    replace hyl : _ ≤ 2000 := Nat.le_trans hyl (Nat.le_trans hlen (by decide))
    generalize hys : escGo false 0 x.cps.toList = ys at hgo hyl
    have hlL : h1'.objs.size < h2.objs.size := Heap.lt_size (N2 _ (.head _)).1
    have hL0 : s.heap.objs.size < h2.objs.size := F2.ns.lt
    refine ⟨ys.length, SInv w A s f cd x t ys h1'.objs.size h2.objs.size oa, ?_, ?_⟩
    · refine ⟨0, 0, none, [], [], 0, _, h3, _, _, gs, [(h2.objs.size, oL), (h2.objs.size + 1, oa)], _, by omega, Nat.zero_le _, rfl, F3, ?_, ?_, ?_, ?_, rfl, rfl, rfl, rfl, .nil, Nat.le_refl _, (fun _ h => nomatch h), Nat.zero_le _, (fun _ h => nomatch h), rfl, ?_⟩
      · refine news_of fun q hq => ?_
        rcases List.mem_cons.mp hq with rfl | hq
        · exact ⟨hk3 _ _ (N2 _ (.head _)).1, F1.ns.lt⟩
        rcases List.mem_cons.mp hq with rfl | hq
        · exact ⟨hoa, Nat.lt_succ_of_lt hL0⟩
        rcases List.mem_cons.mp hq with rfl | hq
        · exact ⟨hoL, hL0⟩
        · rw [List.mem_singleton.mp hq]; exact ⟨hoa, Nat.lt_succ_of_lt hL0⟩
      · intro q hq
        rcases List.mem_cons.mp hq with rfl | hq
        · exact Nat.le_refl _
        · rw [List.mem_singleton.mp hq]; exact Nat.le_succ _
      · exact Array.getElem?_push_size
      · refine ⟨by simp, fun k hk => ?_⟩
        rcases Nat.lt_or_ge k s.gens.size with q | q
        · rw [Array.getElem?_push_lt q, Array.getElem?_push_lt q]
        · have q2 : s.gens.size < k := Nat.lt_of_le_of_ne q (Ne.symm hk)
          rw [Array.getElem?_eq_none (by rw [Array.size_push]; exact q2), Array.getElem?_eq_none (by rw [Array.size_push]; exact q2)]
      · intro s'' hq hk
        exact hgo _ s.heap s'' hh G (Nat.le_of_lt hL0) hk (hq _ (.head _)) (hq _ (.tail _ (.head _)))
    · rintro n s' ⟨j, st, op, out, items, ep, m, h, tk, gens, gs', gn, u, rfl, hj, rfl, Fh, Nh, hgn, hgs, hgo1, hma, hms, hmo, hmr, hout, hoj, hol, hst, hop, heq, hgoes⟩
      refine wpAny_pyNext_gen (by exact hh) ((G.keeps Fh.keep).nolimit) (by show A.depth + 1 < _; exact Nat.lt_of_le_of_lt (by omega) hroom) (hisg _ (Nh _ (.tail _ (.head _))).1) hgs (hgoes _ (fun q hq => (Nh q (.tail _ (.tail _ hq))).1) Fh.keep) (fun v s₁ gs'' hY => ?_) (fun s₁ hP h' hk' => ?_)
      · obtain ⟨T, p, txt, tp, tt, rfl, hyv, hT, hLT, ⟨h4, tk4, rfl, klo⟩, gn', hgn', hkap⟩ := hY
        have hjlt : j < ys.length := by
          rcases Nat.lt_or_ge j ys.length with q | q
          · exact q
          · have := hkap _ fun q hq => (hgn' q hq).2
            rw [show ys.length - j = 0 by omega] at this
            exact this.elim
        have hsucc : ys.length - j = (ys.length - (j + 1)) + 1 := by omega
        simp only [hsucc] at hkap
        rw [show ys.length - 1 - (ys.length - j - 1) = j by omega] at hyv
        have hpx : p < x.length := by
          have hmem : (p, txt) ∈ escGo false 0 x.cps.toList := hys ▸ List.mem_of_getElem? hyv
          have := (escGo_bound _ _ _ _ hmem).2
          rw [Nat.zero_add, Array.length_toList] at this; exact this
        have hl2 : h1'.objs.size < h2.objs.size := hlL
        have N4 : News s.heap s.heap.objs.size h4 ((h1'.objs.size, { cls := .type "list", data := .seq (List.toArray items) ep }) :: (h2.objs.size + 1, oa) :: gn') := by
          refine news_of fun q hq => ?_
          rcases List.mem_cons.mp hq with rfl | hq
          · exact ⟨klo.1 _ _ hl2 (Nh _ (.head _)).1, F1.ns.lt⟩
          rcases List.mem_cons.mp hq with rfl | hq
          · exact ⟨klo.2, Nat.lt_succ_of_lt hL0⟩
          · exact ⟨(hgn' q hq).2, Nat.lt_of_lt_of_le hL0 (hgn' q hq).1⟩
        have F4 : Fr s.heap s.heap.objs.size h4 m := ⟨Fh.ns.at' fun o e => klo.1 _ _ hL0 e, fun b o e => klo.1 _ _ (Nat.lt_trans (Heap.lt_size e) hL0) (Fh.keep b o e), Nat.le_refl _⟩
        refine letGo_gen (hisg _ (N4 _ (.tail _ (.head _))).1) ?_
        refine wpAny_assign_Tuple (by exact hh) hT rfl rfl fun h5 hx5 => ?_
        have hk5 : ∀ b o, h4.get? b = some o → h5.get? b = some o := fun b o hb => hx5 b o (Nat.ne_of_lt (Heap.lt_size hb)) hb
        have F5 := F4.keeps hk5
        have N5 : News s.heap s.heap.objs.size h5 ((h1'.objs.size, { cls := .type "list", data := .seq (List.toArray items) ep }) :: (h2.objs.size + 1, oa) :: gn') := fun q hq => ⟨hk5 _ _ (N4 q hq).1, (N4 q hq).2⟩
        refine wpAny_bind (wpAny_holding (wpAny_assign_Name (stN (name := nameAt 12) (scope := scopeAt 12) (a := f) (cd := cd) F5 N5 fun h6 F6 N6 => ?_)))
        refine wpAny_bind (wpAny_holding (wpAny_assign_Name (stN (name := nameAt 12) (scope := scopeAt 12) (a := f) (cd := cd) F6 N6 fun h7 F7 N7 => wpAny_pure ?_)))
        refine wpAny_mono (strip_body (u := u) (tp := tp) (tt := tt) (p := p) (txt := txt) (st := st) (op := op) (out := out) F7 N7 ?_ (by walk_at "mlook") (by walk_at "mlook") (by walk_at "mlook") (by walk_at "mlook") (by walk_at "mlook") (by walk_at "mlook") hout ?_ hol hlen hst hpx hop) ?_ (fun _ _ x => x)
        · intro q hq
          rcases List.mem_cons.mp hq with rfl | hq
          · exact Nat.ne_of_gt (Nat.lt_succ_of_lt hlL)
          · exact Nat.ne_of_gt (Nat.lt_of_lt_of_le hlL (hgn' q hq).1)
        · exact Nat.le_trans hoj (Nat.le_trans hj hyl)
        · rintro fl s8 ⟨rfl, st', op', out', items', ep', m', h8, tk8, u', rfl, F8, N8, e1, e2, e3, e4, ho', hol1, hol2, hst', hop', hgo'⟩
          refine ⟨ys.length - (j + 1), by omega, j + 1, st', op', out', items', ep', m', h8, tk8, _, gs'', gn', u', rfl, hjlt, rfl, F8, N8, fun q hq => (hgn' q hq).1, ?_, ?_, e1, e2, e3, e4, ho', ?_, hol2, hst', hop', ?_, ?_⟩
          · exact setGen_self (gs := .running) (setGen_self hgs)
          · exact hgo1.trans ((GenOnly.setGen { s with heap := h, toks := tk, gens := gens } _ .running).trans (GenOnly.setGen _ _ gs''))
          · omega
          · rw [hgo', ← heq, show ys.drop j = (p, txt) :: ys.drop (j + 1) from ?_]
            obtain ⟨hj', e⟩ := List.getElem?_eq_some_iff.mp hyv
            rw [← e]; exact List.drop_eq_getElem_cons hj'
          · intro s'' hq hk
            exact hkap s'' hq
      · obtain ⟨hz, h4, tk4, rfl, klo⟩ := hP
        have hjy : j = ys.length := by omega
        subst hjy
        rw [List.drop_length] at heq
        have hF : Fr s.heap s.heap.objs.size h' m := ⟨(Fh.ns.at' fun o e => klo.1 _ _ hL0 e).at' fun o e => hk' _ _ e, fun b o e => hk' _ _ (klo.1 _ _ (Nat.lt_trans (Heap.lt_size e) hL0) (Fh.keep b o e)), Nat.le_refl _⟩
        have hN : News s.heap s.heap.objs.size h' [(h1'.objs.size, { cls := .type "list", data := .seq (List.toArray items) ep })] := by
          refine news_of fun q hq => ?_
          rw [List.mem_singleton.mp hq]
          exact ⟨hk' _ _ (klo.1 _ _ hlL (Nh _ (.head _)).1), F1.ns.lt⟩
        have hbare : AllBare s.gens → AllBare ((gens.setIfInBounds s.gens.size .running).setIfInBounds s.gens.size .finished) := fun hb => by
          have hb' : AllBare (s.gens.push .finished) := hb.push rfl
          refine hb'.moved (GenOnlyQ.of (g := s.gens.size) (y := .finished) (hgo1.trans ((GenOnly.setGen { s with heap := h, toks := tk, gens := gens } _ .running).trans (GenOnly.setGen _ _ .finished))) ?_ rfl)
          exact setGen_self (gs := .running) (setGen_self (s := { s with heap := h, toks := tk, gens := gens }) hgs)
        refine wpAny_mono (strip_tail (m := m) (u := u) (st := st) (out := out) hF hN (G := G) hma hms hmr hout (Nat.le_trans hoj hyl) hol hlen) ?_ (fun _ _ x => x)
        rintro fl s9 ⟨⟨u9, rfl⟩, h9, tk9, rfl, hk9⟩
        refine ⟨⟨u9, ?_⟩, h9, tk9, _, rfl, hk9, hbare⟩
        show Value.str _ _ = _
        rw [show stripGo x st none [] = stripGo x st (op.map (·.1)) [] from rfl, heq, strip, if_neg (by rw [hocc]; decide), hys]
end

-- part M10
section
theorem afreshM10 : True := by
  w_top off
  trivial
noncomputable abbrev frBase {h₀ h : Heap} {L : Addr} {m : Str → Option Value} (_ : Fr h₀ L h m) : Heap := h₀

section
variable {prog : Program} {w : World} {A : Around} {E : Value → Shared → Prop} {s : Shared} {env : Env} {h₀ : Heap} {x : Str} {body : List Stmt} {Q : Flow → Shared → Prop}

/-- a for over any iterator that stands at the heap's end -/
theorem iter_any {v : Value} {m₀ : Str → Option Value} {news : List (Addr × Obj)} {o : Obj} {fp : List Addr} {n : Nat} {Pz : Nat → Value → Prop} {St : Nat → Heap → Prop} (J : Nat → (Str → Option Value) → List (Addr × Obj) → Prop)
    (hit : ∀ Q, Q (.ref s.heap.objs.size) { s with heap := s.heap.push o } → wpAny (model prog w) A (pyIter v) Q E s)
    (W : Walks prog w A s.heap.objs.size fp [s.heap.objs.size] n Pz St) (hfp : env.locals ∉ fp) (hst : St 0 (s.heap.push o))
    (F : Fr h₀ env.locals s.heap m₀) (N : News h₀ env.locals s.heap news) (hj : J 0 m₀ news)
    (turn : ∀ i v m₁ news₁ h tk own, i < n → Pz i v → J i m₁ news₁ → (∀ p ∈ own, p.1 ∈ fp) → (∀ p ∈ news₁, p.1 ≠ s.heap.objs.size) → Fr h₀ env.locals h (fun y => if y = x then some v else m₁ y) → News h₀ env.locals h (own ++ news₁) →
      wpAny (model prog w) A (execs body env) (LoopStepV h₀ env.locals [s.heap.objs.size] own (J (i + 1)) { s with heap := h, toks := tk } (fun v s' => Q (.ret v) s') fun s' => Q .next s') E { s with heap := h, toks := tk })
    (done : ∀ m₁ news₁ h tk, J n m₁ news₁ → Fr h₀ env.locals h m₁ → News h₀ env.locals h news₁ → Q .next { s with heap := h, toks := tk }) :
    wpAny (model prog w) A (pyIter v) (fun it s₂ => LoopAtV prog w A h₀ env x body Q E it s₂) E s := by
  refine hit _ ?_
  refine ⟨_, _, _, n, _, _, m₀, news, J, rfl, W, hfp, ?_, ?_, hst, F.push _, (fun p hp => ⟨Heap.get?_push_of_some _ (N p hp).1, (N p hp).2⟩), hj, ?_, ?_⟩
  · intro b hb
    rw [List.mem_singleton.mp hb]
    exact next_is_new F
  · intro p hp hI
    exact absurd (Heap.lt_size (N p hp).1) ((List.mem_singleton.mp hI) ▸ Nat.lt_irrefl _)
  · rintro i v m₁ news₁ s₁ own ⟨hh', tk', rfl⟩ hin hP hJ hoff hown _ _ _ F₁ N₁
    exact turn i v m₁ news₁ hh' tk' own hin hP hJ (fun p hp => hown p hp) (fun p hp e => hoff p hp (by simp [e])) F₁ N₁
  · rintro h' tk m' news' F' N' _ hJ
    exact done m' news' h' tk hJ F' N'

theorem iter_range {r : Addr} {b : Int} {t u t' : Tok} {n : Nat} {m₀ : Str → Option Value} {news : List (Addr × Obj)} (J : Nat → (Str → Option Value) → List (Addr × Obj) → Prop)
    (hh : A.handled = none) (hr : IsRange s.heap r 0 b 1 t u t') (hb : b = (n : Nat)) (hn : n < 1000000)
    (F : Fr h₀ env.locals s.heap m₀) (N : News h₀ env.locals s.heap news) (hj : J 0 m₀ news)
    (turn : ∀ (i : Nat) (tv : Tok) m₁ news₁ h tk own, i < n → J i m₁ news₁ → (∀ p ∈ own, p.1 = s.heap.objs.size) → (∀ p ∈ news₁, p.1 ≠ s.heap.objs.size) → Fr h₀ env.locals h (fun y => if y = x then some (.int (i : Nat) tv) else m₁ y) → News h₀ env.locals h (own ++ news₁) →
      wpAny (model prog w) A (execs body env) (LoopStepV h₀ env.locals [s.heap.objs.size] own (J (i + 1)) { s with heap := h, toks := tk } (fun v s' => Q (.ret v) s') fun s' => Q .next s') E { s with heap := h, toks := tk })
    (done : ∀ m₁ news₁ h tk, J n m₁ news₁ → Fr h₀ env.locals h m₁ → News h₀ env.locals h news₁ → Q .next { s with heap := h, toks := tk }) :
    wpAny (model prog w) A (pyIter (.ref r)) (fun it s₂ => LoopAtV prog w A h₀ env x body Q E it s₂) E s := by
  subst hb
  have hz : Builtin.Range.rangeSize 0 (n : Int) 1 = (n : Int) := by rw [rangeSize_nat]; omega
  refine iter_any (o := { cls := .type "range_iterator", data := .fields #[rawInt 0, rawInt (Builtin.Range.rangeSize 0 (n : Int) 1), rawInt 1] }) J
    (fun Q hQ => wpAny_pyIter_range hr (small_one (by omega) (by omega) (by omega) (by omega)) hQ) (Walks.range hh s.heap.objs.size 0 1 n)
    (fun hm => absurd F.ns.lt ((List.mem_singleton.mp hm) ▸ Nat.lt_irrefl _)) ?_ F N hj ?_ done
  · show IsRangeIter _ _ _ _ _
    rw [hz]
    have := Heap.get?_push_size s.heap (o := { cls := .type "range_iterator", data := .fields #[rawInt 0, rawInt (n : Int), rawInt 1] }) rfl
    simpa [IsRangeIter] using this
  · rintro i v m₁ news₁ h tk own hi ⟨tv, rfl⟩ hJ hown hnn F1 N1
    have e : (0 : Int) + (i : Nat) * 1 = (i : Nat) := by omega
    rw [e] at F1
    exact turn i tv m₁ news₁ h tk own hi hJ (fun p hp => List.mem_singleton.mp (hown p hp)) hnn F1 N1

theorem iter_tuple {l : Addr} {vs : Array Value} {m₀ : Str → Option Value} {news : List (Addr × Obj)} (J : Nat → (Str → Option Value) → List (Addr × Obj) → Prop)
    (hh : A.handled = none) (hl : s.heap.IsTuple l vs) (hlL : l ≠ env.locals) (F : Fr h₀ env.locals s.heap m₀) (N : News h₀ env.locals s.heap news) (hj : J 0 m₀ news)
    (turn : ∀ i v m₁ news₁ h tk own, vs[i]? = some v → J i m₁ news₁ → (∀ p ∈ own, p.1 = s.heap.objs.size ∨ p.1 = l) → (∀ p ∈ news₁, p.1 ≠ s.heap.objs.size) → Fr h₀ env.locals h (fun y => if y = x then some v else m₁ y) → News h₀ env.locals h (own ++ news₁) →
      wpAny (model prog w) A (execs body env) (LoopStepV h₀ env.locals [s.heap.objs.size] own (J (i + 1)) { s with heap := h, toks := tk } (fun v s' => Q (.ret v) s') fun s' => Q .next s') E { s with heap := h, toks := tk })
    (done : ∀ m₁ news₁ h tk, J vs.size m₁ news₁ → Fr h₀ env.locals h m₁ → News h₀ env.locals h news₁ → Q .next { s with heap := h, toks := tk }) :
    wpAny (model prog w) A (pyIter (.ref l)) (fun it s₂ => LoopAtV prog w A h₀ env x body Q E it s₂) E s := by
  obtain ⟨ol, hol, hol2⟩ := id hl
  have hne : l ≠ s.heap.objs.size := Nat.ne_of_lt (Heap.lt_size hol)
  refine iter_any (o := { cls := .type "tuple_iterator", data := .fields #[.ref l, .int 0 0] }) J (fun Q hQ => wpAny_pyIter_tuple hl hQ) (Walks.tuple hh s.heap.objs.size l hne vs) ?_
    ⟨⟨_, Heap.get?_push_size _ rfl, rfl, rfl⟩, hl.at fun o e => Heap.get?_push_of_some _ e⟩ F N hj ?_ done
  · intro hm
    rcases List.mem_cons.mp hm with e | hm
    · exact absurd F.ns.lt (e ▸ Nat.lt_irrefl _)
    · exact hlL (List.mem_singleton.mp hm).symm
  · rintro i v m₁ news₁ h tk own hi hP hJ hown hnn F1 N1
    exact turn i v m₁ news₁ h tk own hP hJ (fun p hp => by simpa using hown p hp) hnn F1 N1

theorem iter_str {y : Str} {t : Tok} {m₀ : Str → Option Value} {news : List (Addr × Obj)} (J : Nat → (Str → Option Value) → List (Addr × Obj) → Prop)
    (hh : A.handled = none) (F : Fr h₀ env.locals s.heap m₀) (N : News h₀ env.locals s.heap news) (hj : J 0 m₀ news)
    (turn : ∀ i c u m₁ news₁ h tk own, y.cps[i]? = some c → J i m₁ news₁ → (∀ p ∈ own, p.1 = s.heap.objs.size) → (∀ p ∈ news₁, p.1 ≠ s.heap.objs.size) → Fr h₀ env.locals h (fun z => if z = x then some (.str ⟨#[c]⟩ u) else m₁ z) → News h₀ env.locals h (own ++ news₁) →
      wpAny (model prog w) A (execs body env) (LoopStepV h₀ env.locals [s.heap.objs.size] own (J (i + 1)) { s with heap := h, toks := tk } (fun v s' => Q (.ret v) s') fun s' => Q .next s') E { s with heap := h, toks := tk })
    (done : ∀ m₁ news₁ h tk, J y.cps.size m₁ news₁ → Fr h₀ env.locals h m₁ → News h₀ env.locals h news₁ → Q .next { s with heap := h, toks := tk }) :
    wpAny (model prog w) A (pyIter (.str y t)) (fun it s₂ => LoopAtV prog w A h₀ env x body Q E it s₂) E s := by
  have hfp : env.locals ∉ [s.heap.objs.size] := fun hm => absurd F.ns.lt ((List.mem_singleton.mp hm) ▸ Nat.lt_irrefl _)
  by_cases q : strIterType y = "str_ascii_iterator"
  · refine iter_any (o := { cls := .type (strIterType y), data := .fields #[.str y t, .int 0 0] }) J (fun Q hQ => wpAny_pyIter_strU hQ) (Walks.strAscii hh s.heap.objs.size y t) hfp ⟨_, Heap.get?_push_size _ rfl, by rw [q], rfl⟩ F N hj ?_ done
    rintro i v m₁ news₁ h tk own hi ⟨c, u, hc, rfl⟩ hJ hown hnn F1 N1
    exact turn i c u m₁ news₁ h tk own hc hJ (fun p hp => by simpa using hown p hp) hnn F1 N1
  · have q2 : strIterType y = "str_iterator" := by
      unfold strIterType at q ⊢
      split
      · rename_i h; rw [if_pos h] at q; exact absurd rfl q
      · rfl
    refine iter_any (o := { cls := .type (strIterType y), data := .fields #[.str y t, .int 0 0] }) J (fun Q hQ => wpAny_pyIter_strU hQ) (Walks.strWide hh s.heap.objs.size y t) hfp ⟨_, Heap.get?_push_size _ rfl, by rw [q2], rfl⟩ F N hj ?_ done
    rintro i v m₁ news₁ h tk own hi ⟨c, u, hc, rfl⟩ hJ hown hnn F1 N1
    exact turn i c u m₁ news₁ h tk own hc hJ (fun p hp => by simpa using hown p hp) hnn F1 N1
end
end

-- part M11
local macro_rules | `(tactic| walk_at "lst") => `(tactic| (first | assumption | exact Fr.lst (by assumption) (by assumption) | exact News.isList (by assumption) (by first | exact .head _ | exact .tail _ (.head _) | exact .tail _ (.tail _ (.head _)) | exact .tail _ (.tail _ (.tail _ (.head _))) | exact .tail _ (.tail _ (.tail _ (.tail _ (.head _)))) | exact .tail _ (.tail _ (.tail _ (.tail _ (.tail _ (.head _))))) | exact .tail _ (.tail _ (.tail _ (.tail _ (.tail _ (.tail _ (.head _)))))))))
local macro_rules | `(tactic| walk_at "call builtin:len") => `(tactic| (refine len_list (by walk_at "lst") (by simp only [List.size_toArray]; omega) ?_))
local macro_rules | `(tactic| walk_at "exec For") => `(tactic| (refine For_invV (frBase (show Fr _ _ _ _ by assumption)) rfl rfl ?_))
section
theorem afreshM11 : True := by
  w_top off
  trivial
noncomputable def toggle (v : Int) (o : List Int) : List Int := if v ∈ o then o.erase v else o ++ [v]
noncomputable def oddGo (pick : Nat) (rs : List Int) (k : Nat) (o : List Int) : List (Nat × Nat) → List Int
  | [] => o
  | p :: r => oddGo pick rs (k + 1) (if pick / 2 ^ k % 2 = 1 then toggle (rs.getD p.2 0) (toggle (rs.getD p.1 0) o) else o) r
noncomputable def tg (rs : List Int) (p : Nat × Nat) (j : Nat) (o : List Int) : List Int :=
  match j with | 0 => o | 1 => toggle (rs.getD p.1 0) o | _ => toggle (rs.getD p.2 0) (toggle (rs.getD p.1 0) o)
/-- the ties' tuples -/
noncomputable def TiesAt (h : Heap) (items : List Value) (ps : List (Nat × Nat)) : Prop :=
  items.length = ps.length ∧ ∀ (k : Nat) (p : Nat × Nat), ps[k]? = some p → ∃ (T : Addr) (t u : Tok), items[k]? = some (Value.ref T) ∧ h.IsTuple T #[.int (p.1 : Nat) t, .int (p.2 : Nat) u]

theorem erase_ints {k : Int} : ∀ {items : List Value} {ns : List Int}, IntsAre items ns → k ∈ ns →
    ∃ (j : Nat) (hj : j < items.length), isInt k items[j] = true ∧ (∀ (m : Nat) (hm : m < items.length), m < j → isInt k items[m] = false) ∧ IntsAre (items.eraseIdx j) (ns.erase k)
  | _, _, .nil, h => nomatch h
  | _, _, .cons n t h, hk => by
    by_cases q : n = k
    · subst q
      exact ⟨0, Nat.succ_pos _, by simp [isInt], fun m _ hm => absurd hm (Nat.not_lt_zero _), by simpa using h⟩
    · have hk' := (List.mem_cons.mp hk).resolve_left (fun e => q e.symm)
      obtain ⟨j, hj, h1, h2, h3⟩ := erase_ints h hk'
      refine ⟨j + 1, Nat.succ_lt_succ hj, by simpa using h1, fun m hm hlt => ?_, ?_⟩
      · cases m with
        | zero => simpa [isInt] using q
        | succ m => simpa using h2 m (Nat.lt_of_succ_lt_succ hm) (Nat.lt_of_succ_lt_succ hlt)
      · rw [List.erase_cons_tail (by simpa using q)]
        exact .cons n t h3

theorem call_remove {prog : Program} {w : World} {A : Around} {E : Value → Shared → Prop} {s : Shared} {l : Addr} {items : List Value} {ns : List Int} {n : Nat} {k : Int} {u : Tok} {Q : Value → Shared → Prop} (hl : IsL s.heap l items.toArray n)
    (hi : IntsAre items ns) (hk : k ∈ ns) (hlen : items.length < 1000)
    (h : ∀ h' items' n', IsL h' l (List.toArray items') n' → IntsAre items' (ns.erase k) → Heap.SameBut l s.heap h' → Q .none { s with heap := h' }) :
    wpAny (model prog w) A (call (.builtin "list.remove") [.ref l, .int k u]) Q E s := by
  obtain ⟨j, hj, h1, h2, h3⟩ := erase_ints hi hk
  have q := PySem.IsL.update hl fun xs => xs.eraseIdxIfInBounds j
  have e : items.toArray.eraseIdxIfInBounds j = (items.eraseIdx j).toArray := by
    simp [Array.eraseIdxIfInBounds, hj]
  rw [e] at q
  exact call_meets PySem.F.slot_list_remove ⟨_, hl, rfl⟩ PySem.F.entry_list_remove (PySem.F.args_list_remove_2 _ _)
    (PySem.MeetsSeq.list_remove l items.toArray n (.int k u) (isInt k) (fun y hy => eq_isInt k u hi y (by simpa using hy)) j (by simpa using hj) (by simpa using h1) (fun m hm hlt => by simpa using h2 m (by simpa using hm) hlt)
      (by rw [List.size_toArray]; exact Nat.le_trans (Nat.le_of_lt hlen) (by decide))) ⟨hl, h _ (items.eraseIdx j) _ q h3 (Heap.SameBut.update ..)⟩

theorem ints_snoc {vs : List Value} {ns : List Int} {n : Int} {t : Tok} (h : IntsAre vs ns) : IntsAre (vs ++ [.int n t]) (ns ++ [n]) := by
  induction h with
  | nil => exact IntsAre.cons _ _ IntsAre.nil
  | cons _ _ _ ih => exact IntsAre.cons _ _ ih

noncomputable def eBody : List Stmt := match bodyAt 15 with | _ :: .For _ _ [.If _ [.For _ _ b _ _] _ _] _ _ :: _ => b | _ => []

theorem even_body {w : World} {A : Around} {s : Shared} {h₀ : Heap} {L f l lr : Addr} {cd : Value} {m : Str → Option Value} {ir items : List Value} {rs o : List Int} {ep c : Nat} {tc : Tok} {gn : List (Addr × Obj)}
    (F : Fr h₀ L s.heap m) (N : News h₀ L s.heap ((l, { cls := .type "list", data := .seq (List.toArray items) ep }) :: gn)) (hln : ∀ q ∈ gn, q.1 ≠ l)
    (hlr : h₀.IsList lr ir.toArray) (hrs : IntsAre ir rs) (hc : c < rs.length) (hrl : rs.length ≤ 6) (hio : IntsAre items o) (hol : o.length ≤ 100)
    (m1 : m "room" = some (.ref lr)) (m2 : m "odd" = some (.ref l)) (m3 : m "point" = some (.int (c : Nat) tc)) :
    wpAny (model P w) A (execs eBody (envOf (nameAt 15) (scopeAt 15) L f cd)) (fun fl s' => fl = .next ∧ ∃ items' ep' h tk, s' = { s with heap := h, toks := tk } ∧ Fr h₀ L h m ∧
      News h₀ L h ((l, { cls := .type "list", data := .seq (List.toArray items') ep' }) :: gn) ∧ IntsAre items' (toggle (rs.getD c 0) o)) (fun _ _ => False) s := by
  unfold eBody bodyAt
  iterate 8 walk1
  refine in_list_ints (News.isList N (.head _)) hio ?_
  walk1
  rw [Int.toNat_natCast]
  by_cases q : rs.getD c 0 ∈ o
  · have e : (o.any fun x => x == rs.getD c 0) = true := by simpa using q
    rw [e, if_pos rfl]
    iterate 4 walk1
    have hl : IsL s.heap l items.toArray ep := (N _ (.head _)).1
    refine getMethod_list hl PySem.F.slot_list_remove PySem.F.type_list_remove ?_
    iterate 7 walk1
    rw [Int.toNat_natCast]
    have hm := N _ (.head _)
    refine call_remove hl hio q (by rw [IntsAre.length hio]; omega) fun h' items' n' hl' hi' hsb => ?_
    have F' := F.change hsb hm.2.1 hm.2.2
    have N' := News.setIn (own := []) (o' := { cls := .type "list", data := .seq (List.toArray items') n' }) N (fun _ h => nomatch h) hln hsb hl'
    iterate 2 walk1
    exact ⟨rfl, items', n', h', _, rfl, F', N', by rw [toggle, if_pos q]; exact hi'⟩
  · have e : (o.any fun x => x == rs.getD c 0) = false := by
      rw [List.any_eq_false]
      intro y hy e
      exact q ((beq_iff_eq.mp e) ▸ hy)
    rw [e, if_neg (by decide)]
    iterate 4 walk1
    have hl : IsL s.heap l items.toArray ep := (N _ (.head _)).1
    refine getMethod_list hl PySem.F.slot_list_append PySem.F.type_list_append ?_
    iterate 7 walk1
    rw [Int.toNat_natCast]
    refine append_in (own := []) F N (fun _ h => nomatch h) hln (fun h' F' N' => ?_) (by rw [IntsAre.length hio]; exact Nat.le_trans hol (by decide))
    iterate 2 walk1
    exact ⟨rfl, _, _, h', _, rfl, F', N', by rw [toggle, if_neg q]; exact ints_snoc hio⟩
end

-- part M12
section
theorem afreshM12 : True := by
  w_top off
  trivial
theorem toggle_len (v : Int) (o : List Int) : (toggle v o).length ≤ o.length + 1 := by
  unfold toggle
  split
  · rename_i h
    rw [List.length_erase_of_mem h]; omega
  · simp
theorem bit_eq (pick i : Nat) : Int.fmod (Int.fdiv (pick : Nat) (2 ^ (i : Int).toNat)) 2 = ((pick / 2 ^ i % 2 : Nat) : Int) := by
  have h2 : (0 : Int) ≤ 2 ^ i := Int.le_of_lt (Int.pow_pos (by decide))
  rw [Int.toNat_natCast, Int.fdiv_eq_ediv_of_nonneg _ h2, Int.fmod_eq_emod_of_nonneg _ (by decide)]
  simp
theorem bit_of {pick i : Nat} (h : Int.fmod (Int.fdiv (pick : Nat) (2 ^ (i : Int).toNat)) 2 = 1) : pick / 2 ^ i % 2 = 1 := by
  rw [bit_eq] at h; exact Int.ofNat.inj h
theorem of_bit {pick i : Nat} (h : pick / 2 ^ i % 2 = 1) : Int.fmod (Int.fdiv (pick : Nat) (2 ^ (i : Int).toNat)) 2 = 1 := by
  rw [bit_eq, h]; rfl

inductive EInv (pick : Nat) (tp : Tok) (lt lr l : Addr) (rs : List Int) (ps : List (Nat × Nat)) (i : Nat) (m : Str → Option Value) (news : List (Addr × Obj)) : Prop
  | mk (items : List Value) (ep : Nat) (o : List Int) (e : news = [(l, { cls := .type "list", data := .seq (List.toArray items) ep })]) (e1 : m "pick" = some (.int (pick : Nat) tp)) (e2 : m "ties" = some (.ref lt)) (e3 : m "room" = some (.ref lr)) (e4 : m "odd" = some (.ref l))
    (hi : IntsAre items o) (hgo : oddGo pick rs i o (ps.drop i) = oddGo pick rs 0 [] ps) (hl : o.length ≤ 2 * i)
inductive EInv2 (pick : Nat) (tp : Tok) (lt lr l : Addr) (own : List (Addr × Obj)) (o : List Int) (k : Nat) (m : Str → Option Value) (news : List (Addr × Obj)) : Prop
  | mk (items : List Value) (ep : Nat) (e : news = (l, { cls := .type "list", data := .seq (List.toArray items) ep }) :: own) (e1 : m "pick" = some (.int (pick : Nat) tp)) (e2 : m "ties" = some (.ref lt)) (e3 : m "room" = some (.ref lr)) (e4 : m "odd" = some (.ref l))
    (hi : IntsAre items o) (hl : o.length ≤ k)

set_option maxHeartbeats 1000000 in
theorem even_call {w : World} {A : Around} {s : Shared} {f lt lr : Addr} {cd : Value} {mg mb : Str → Option Value} {it ir : List Value} {ps : List (Nat × Nat)} {rs : List Int} {pick : Nat} {tp : Tok} {E : Value → Shared → Prop}
    (hroom : A.depth < recursionLimit) (hu : A.units + 3 < cLine) (hh : A.handled = none) (G : GlobM mg mb s.heap) (hf : FnAt 15 s.heap f cd .none .none) (hlt : s.heap.IsList lt it.toArray) (hps : TiesAt s.heap it ps) (hlr : s.heap.IsList lr ir.toArray) (hrs : IntsAre ir rs)
    (hpl : ps.length ≤ 4) (hrng : ∀ p ∈ ps, p.1 < rs.length ∧ p.2 < rs.length) (hrl : rs.length ≤ 6) :
    wpAny (model P w) A (call (.ref f) [.int (pick : Nat) tp, .ref lt, .ref lr]) (fun v s' => v = .bool (decide (oddGo pick rs 0 [] ps = [])) ∧ Keeps s s') E s := by
  obtain ⟨o, pm, doc, ho, hdata, hcd⟩ := hf
  refine gen_post fun Q hQ => ?_
  refine wpAny_call (call_fullW_ret hroom ho hdata G.nolimit hcd (BindsTo.of_eq (binds := [("pick", .int (pick : Nat) tp), ("ties", .ref lt), ("room", .ref lr)]) rfl) (locs rfl) (fun h₁ F => ?_))
  have N0 : News s.heap s.heap.objs.size h₁ [] := News.nil
  have hltn : it.length = ps.length := hps.1
  unfold bodyAt
  walk_at "go"
  rename_i h2 tk2 t2 u2 v2 hR F2 N2 k2
  have hrs2 : IntsAre ir rs := by assumption
  have hrl2 : ir.length = rs.length := IntsAre.length hrs2
  have hlne : ∀ {l : Addr} {it : Array Value}, s.heap.IsList l it → l ≠ s.heap.objs.size := fun h => Nat.ne_of_lt (by obtain ⟨o, h, _⟩ := h; exact Heap.lt_size h)
  have hlo2 : s.heap.get? h₁.objs.size = none := (N2 _ (.head _)).2.2
  refine iter_range (n := ps.length) (fun i m news => EInv pick tp lt lr h₁.objs.size rs ps i m news) hh hR (by rw [hltn]) (by omega) F2 N2
      ⟨[], 0, [], rfl, by walk_at "mlook", by walk_at "mlook", by walk_at "mlook", by walk_at "mlook", .nil, rfl, Nat.le_refl _⟩ ?_ ?_
  · rintro i tv m₁ news₁ h tk own hi ⟨items, ep, od, rfl, e1, e2, e3, e4, hio, hgo, hol⟩ hown hnn F5 N5
    replace F5 : Fr s.heap s.heap.objs.size h _ := F5
    replace N5 : News s.heap s.heap.objs.size h ((h₁.objs.size, { cls := .type "list", data := .seq (List.toArray items) ep }) :: own) := fun p hp => N5 p (by rcases List.mem_cons.mp hp with rfl | hp <;> simp_all)
    have hlI : ∀ p ∈ own, p.1 ≠ h₁.objs.size := fun p hp e => hnn _ (List.mem_singleton.mpr rfl) (by rw [← e]; exact hown p hp)
    obtain ⟨T, ta, tb, hT, hTT⟩ := hps.2 i ps[i] (by simp [hi])
    have hdrop : ps.drop i = ps[i] :: ps.drop (i + 1) := List.drop_eq_getElem_cons hi
    clear F2 N2 hR k2
    have hpw : (2 : Int) ^ (i : Int).toNat ≠ 0 := by rw [Int.toNat_natCast]; exact_mod_cast Nat.ne_of_gt (Nat.two_pow_pos i)
    have hpl2 : ((2 : Int) ^ (i : Int).toNat).natAbs < 1073741824 := by
      rw [Int.toNat_natCast, Int.natAbs_pow]
      exact Nat.lt_of_le_of_lt (Nat.pow_le_pow_right (by decide) (show i ≤ 4 by omega)) (by decide)
    walk_at "go"
    · rename_i hbit
      refine item_listL (F5.lst hlt) (by omega) (by omega) (by rw [Int.toNat_natCast]; exact hT) ?_ (by with_unfolding_all rfl) (by intro _; with_unfolding_all rfl)
      refine iter_tuple (fun j m news => EInv2 pick tp lt lr h₁.objs.size own (tg rs ps[i] j od) (2 * i + j) m news) hh (show Heap.IsTuple _ _ _ from let ⟨o, ho, r⟩ := hTT; ⟨o, F5.keep _ _ ho, r⟩) ?_ F5 N5 ⟨items, ep, rfl, by walk_at "mlook", by walk_at "mlook", by walk_at "mlook", by walk_at "mlook", hio, hol⟩ ?_ ?_
      · obtain ⟨o, h, _⟩ := hTT; exact Nat.ne_of_lt (Heap.lt_size h)
      · rintro j v m₂ news₂ h6 tk6 own6 hv ⟨items', ep', rfl, a1, a2, a3, a4, hio', hol'⟩ hown6 hnn6 F6 N6
        replace F6 : Fr s.heap s.heap.objs.size h6 _ := F6
        have hr := hrng ps[i] (List.getElem_mem hi)
        obtain ⟨c, tc, hj2, hv2, hc, hstep⟩ : ∃ (c : Nat) (tc : Tok), j < 2 ∧ v = .int c tc ∧ c < rs.length ∧ tg rs ps[i] (j + 1) od = toggle (rs.getD c 0) (tg rs ps[i] j od) := by
          match j, hv with
          | 0, hv => exact ⟨_, _, by decide, (Option.some.inj hv).symm, hr.1, rfl⟩
          | 1, hv => exact ⟨_, _, by decide, (Option.some.inj hv).symm, hr.2, rfl⟩
          | j + 2, hv => simp at hv
        subst hv2
        have hap : ∀ p ∈ own6 ++ own, p.1 ≠ h₁.objs.size := by
          intro p hp
          rcases List.mem_append.mp hp with hp | hp
          · intro e
            rcases hown6 p hp with q | q
            · exact hnn6 _ (.head _) (e.symm.trans q)
            · obtain ⟨oT, hoT, _⟩ := hTT
              rw [← q, e] at hoT; rw [hoT] at hlo2; cases hlo2
          · exact hlI p hp
        replace N6 : News s.heap s.heap.objs.size h6 ((h₁.objs.size, { cls := .type "list", data := .seq (List.toArray items') ep' }) :: (own6 ++ own)) := fun p hp => N6 p (by
          rcases List.mem_cons.mp hp with rfl | hp
          · simp
          · rcases List.mem_append.mp hp with hp | hp <;> simp [hp])
        have hb := IntsAre.length hio'
        refine wpAny_mono (even_body (c := c) (tc := tc) F6 N6 hap hlr hrs2 hc hrl hio' (by omega) (by walk_at "mlook") (by walk_at "mlook") (by walk_at "mlook")) ?_ (fun _ _ x => x)
        rintro fl s7 ⟨rfl, items7, ep7, h7, tk7, rfl, F7, N7, hi7⟩
        refine LoopStepV.next (LoopStepU.intro (news₂ := (h₁.objs.size, { cls := .type "list", data := .seq (List.toArray items7) ep7 }) :: own) F7 (fun p hp => N7 p ?_) ?_ ?_)
        · rcases List.mem_append.mp hp with hp | hp
          · exact .tail _ (List.mem_append_left _ hp)
          · rcases List.mem_cons.mp hp with rfl | hp
            · exact .head _
            · exact .tail _ (List.mem_append_right _ hp)
        · intro p hp hm
          have hm' := List.mem_singleton.mp hm
          rcases List.mem_cons.mp hp with rfl | hp
          · exact hnn6 _ (.head _) hm'
          · exact hnn6 _ (.tail _ hp) hm'
        · refine ⟨items7, ep7, rfl, by walk_at "mlook", by walk_at "mlook", by walk_at "mlook", by walk_at "mlook", by rw [hstep]; exact hi7, ?_⟩
          rw [hstep]
          exact Nat.le_trans (toggle_len _ _) (by omega)
      · rintro m₂ news₂ h6 tk6 ⟨items', ep', rfl, a1, a2, a3, a4, hio', hol'⟩ F6 N6
        replace F6 : Fr s.heap s.heap.objs.size h6 _ := F6
        walk_at "go"
        refine LoopStepV.next (LoopStepU.intro (news₂ := [(h₁.objs.size, { cls := .type "list", data := .seq (List.toArray items') ep' })]) F6 (fun p hp => N6 p ?_) ?_ ?_)
        · rcases List.mem_append.mp hp with hp | hp
          · exact .tail _ hp
          · rw [List.mem_singleton.mp hp]; exact .head _
        · intro p hp hm
          rw [List.mem_singleton.mp hp] at hm
          exact hnn _ (.head _) (List.mem_singleton.mp hm)
        · refine ⟨items', ep', _, rfl, a1, a2, a3, a4, hio', ?_, by exact hol'⟩
          rw [← hgo, hdrop]
          show _ = oddGo pick rs (i + 1) (if _ then _ else _) _
          rw [if_pos (bit_of hbit)]; rfl
    · rename_i hbit
      walk_at "go"
      refine LoopStepV.next (LoopStepU.intro (news₂ := [(h₁.objs.size, { cls := .type "list", data := .seq (List.toArray items) ep })]) F5 (fun p hp => N5 p ?_) ?_ ?_)
      · rcases List.mem_append.mp hp with hp | hp
        · exact .tail _ hp
        · rw [List.mem_singleton.mp hp]; exact .head _
      · intro p hp hm
        exact hnn _ hp (List.mem_singleton.mp hm)
      · refine ⟨items, ep, od, rfl, by walk_at "mlook", by walk_at "mlook", by walk_at "mlook", by walk_at "mlook", hio, ?_, by omega⟩
        rw [← hgo, hdrop]
        show _ = oddGo pick rs (i + 1) (if _ then _ else _) _
        rw [if_neg (fun h => hbit (of_bit h))]
  · rintro m₁ news₁ h tk ⟨items, ep, od, rfl, e1, e2, e3, e4, hio, hgo, hol⟩ F5 N5
    replace F5 : Fr s.heap s.heap.objs.size h _ := F5
    replace N5 : News s.heap s.heap.objs.size h _ := N5
    rw [List.drop_length] at hgo
    replace hgo : od = oddGo pick rs 0 [] ps := hgo
    clear F2 N2
    walk_at "go"
    rename_i h6 F6 N6
    have hlo' : IsL h6 h₁.objs.size items.toArray ep := (N6 _ (.tail _ (.head _))).1
    have hln' : IsL h6 h.objs.size #[] 0 := (N6 _ (.head _)).1
    rw [← hgo] at hQ
    by_cases q : od = []
    · subst q
      cases hio
      refine PySem.P.eq_list (e := fun _ => true) hlo' hln' rfl (fun j h1 => absurd h1 (Nat.not_lt_zero _)) hu ?_
      exact hQ _ _ ⟨rfl, _, _, rfl, F6.keep⟩
    · refine PySem.P.eq_list_lengths hlo' hln' ?_ hu (hQ _ _ ⟨by rw [decide_eq_false q], _, _, rfl, F6.keep⟩)
      cases hio with
      | nil => exact absurd rfl q
      | cons => rfl
end

-- part M13
section
theorem afreshM13 : True := by
  w_top off
  trivial
section
variable {prog : Program} {w : World} {A : Around} {E : Value → Shared → Prop} {s : Shared} {Q : Value → Shared → Prop}
theorem item_get {value slice : Expr} {l : Addr} {vs : List Value} {ns : List Int} {p : Nat} {v : Int} {u : Tok} (hl : s.heap.IsList l vs.toArray) (hi : IntsAre vs ns) (hv : ns[p]? = some v) (hp : p < 1000) (h : ∀ t, Q (.int v t) s)
    (hs : subscripted slice false (.ref l) (.int (p : Nat) u) = operate [.ref l, .int (p : Nat) u] (getItem (.ref l) (.int (p : Nat) u)) := by with_unfolding_all rfl) (hg : ∀ r, letTemporaryGo value (.ref l) r = pure () := by intro _; with_unfolding_all rfl) :
    wpAny (model prog w) A (subscriptTail value slice (.ref l) (.int (p : Nat) u)) Q E s := by
  obtain ⟨t, ht⟩ := hi.get p v hv
  exact item_listL hl (by omega) (by omega) (by rw [Int.toNat_natCast]; exact ht) (h t) hs hg
theorem fd_lit {a : Nat} {t u : Tok} (b : Nat) (hb : 0 < b) (hb2 : b < 1073741824) (h : Q (.int ((a / b : Nat) : Int) s.toks) { s with toks := s.toks + 1 }) :
    wpAny (model prog w) A (binaryOp .FloorDiv (.int (a : Nat) t) (.int (@OfNat.ofNat Int b (@instOfNat b)) u)) Q E s := by
  have e : (@OfNat.ofNat Int b (@instOfNat b)) = ((b : Nat) : Int) := rfl
  rw [e]
  refine floordiv_int (by omega) ?_ (.inl (PyProof.noPylong_small (by rw [Int.natAbs_natCast]; exact hb2)))
  rw [Int.fdiv_eq_ediv_of_nonneg _ (Int.natCast_nonneg b), ← Int.natCast_ediv]; exact h
theorem md_lit {a : Nat} {t u : Tok} (b : Nat) (hb : 0 < b) (h : Q (.int ((a % b : Nat) : Int) s.toks) { s with toks := s.toks + 1 }) :
    wpAny (model prog w) A (binaryOp .Mod (.int (a : Nat) t) (.int (@OfNat.ofNat Int b (@instOfNat b)) u)) Q E s := by
  have e : (@OfNat.ofNat Int b (@instOfNat b)) = ((b : Nat) : Int) := rfl
  rw [e]
  refine mod_int' (by omega) ?_
  rw [Int.fmod_eq_emod_of_nonneg _ (Int.natCast_nonneg b), ← Int.natCast_emod]; exact h
end
theorem item_str {prog : Program} {w : World} {A : Around} {E : Value → Shared → Prop} {s : Shared} {Q : Value → Shared → Prop} {value slice : Expr} {x : Str} {t u : Tok} {p c : Nat} (hp : p < 1000) (hc : x.cps[p]? = some c) (h : Q (.str ⟨#[c]⟩ s.toks) { s with toks := s.toks + 1 })
    (hs : subscripted slice false (.str x t) (.int (p : Nat) u) = operate [.str x t, .int (p : Nat) u] (getItem (.str x t) (.int (p : Nat) u)) := by with_unfolding_all rfl) :
    wpAny (model prog w) A (subscriptTail value slice (.str x t) (.int (p : Nat) u)) Q E s := by
  have hlt : p < x.length := (Array.getElem?_eq_some_iff.mp hc).1
  refine subscriptTail_builtin_flat (typeIs_str s x t) slot_str_getitem.lookup (PyProof.Rows.getItem_str ?_ ?_ ⟨(fun _ e => nomatch e), h⟩) hs
  · simp only [Bool.or_eq_false_iff, decide_eq_false_iff_not]; omega
  · rw [StrLaws.seqIndex_nonneg (by omega) (by omega)]
    simpa using hc

local macro_rules | `(tactic| walk_at "subscriptTail Name Name ref int") => `(tactic| (refine item_list_ints (by walk_at "lst") (by assumption) (by omega) (by omega) (by omega) (fun _ => ?_)))
local macro_rules | `(tactic| walk_at "subscriptTail Name Name ref int") => `(tactic| (refine item_get (by walk_at "lst") (by assumption) (by assumption) (by omega) (fun _ => ?_)))
local macro_rules | `(tactic| walk_at "binaryOp FloorDiv int int") => `(tactic| (refine fd_lit _ (by decide) (by decide) ?_))
local macro_rules | `(tactic| walk_at "binaryOp Mod int int") => `(tactic| (refine md_lit _ (by decide) ?_))
noncomputable def cBody : List Stmt := match bodyAt 14 with | [_, _, _, _, _, _, .For _ _ b _ _, _] => b | _ => []
noncomputable def unseenL : List Int := [173, 847, 6150, 6155, 6156, 6157, 8203, 8204, 8205, 8288, 65279] ++ (List.range 16).map (fun i : Nat => 65024 + (i : Int))
noncomputable def tagsL : List Int := [917505, 917536, 917631]
noncomputable def besideL : List Int := [65040, 917504, 917535, 917632]
noncomputable def greatL : List Int := [119808, 119860, 119912, 120016, 120172, 120224, 120276, 120328, 120380, 120432]

theorem getD_all {l : List Int} {a b : Int} (h : ∀ v ∈ l, a ≤ v ∧ v ≤ b) (ha : a ≤ 0) (hb : 0 ≤ b) (k : Nat) : a ≤ l.getD k 0 ∧ l.getD k 0 ≤ b := by
  rw [List.getD_eq_getElem?_getD]
  cases e : l[k]? with
  | none => exact ⟨ha, hb⟩
  | some v => exact h v (List.mem_of_getElem? e)
theorem unseen_b (k : Nat) : 0 ≤ unseenL.getD k 0 ∧ unseenL.getD k 0 ≤ 1114111 := getD_all (by decide) (by decide) (by decide) k
theorem tags_b (k : Nat) : 0 ≤ tagsL.getD k 0 ∧ tagsL.getD k 0 ≤ 1114111 := getD_all (by decide) (by decide) (by decide) k
theorem beside_b (k : Nat) : 0 ≤ besideL.getD k 0 ∧ besideL.getD k 0 ≤ 1114111 := getD_all (by decide) (by decide) (by decide) k
theorem great_b (k p : Nat) (hp : p < 10) : 0 ≤ greatL.getD k 0 + (p : Int) ∧ greatL.getD k 0 + (p : Int) ≤ 1114111 := by
  have := getD_all (l := greatL) (a := 0) (b := 1000000) (by decide) (by decide) (by decide) k
  omega
local macro_rules | `(tactic| walk_at "call builtin:chr") => `(tactic| (refine chr_of_range (by first | exact (unseen_b _).1 | exact (tags_b _).1 | exact (beside_b _).1 | exact (great_b _ _ (by omega)).1) (by first | exact (unseen_b _).2 | exact (tags_b _).2 | exact (beside_b _).2 | exact (great_b _ _ (by omega)).2) ?_))

noncomputable def ahead (d : Nat) : Str := match d / 3 % 4 with | 0 => "" | 1 => "\\" | 2 => "\\\"" | _ => ⟨#[(besideL.getD (d / 12 % 27 % 4) 0).toNat]⟩
noncomputable def cellW (d p : Nat) : Str := if d % 3 = 0 then (if d / 3 % 4 < 2 then ⟨#[(unseenL.getD (d / 12 % 27) 0).toNat]⟩ else ⟨#[(tagsL.getD (d / 12 % 27 % 3) 0).toNat]⟩) else ahead d ++ ⟨#[(greatL.getD (d / 12 % 27 % 10) 0 + (p : Int)).toNat]⟩
noncomputable def cellM (d p : Nat) : Str := if d % 3 = 0 then "" else ahead d ++ ⟨#[97 + p]⟩
theorem ahead_len (d : Nat) : (ahead d).length ≤ 2 := by
  unfold ahead
  split <;> first | decide | exact Nat.le_succ 1
theorem news_tail {h₀ h : Heap} {L : Addr} {p : Addr × Obj} {rest : List (Addr × Obj)} (N : News h₀ L h (p :: rest)) : News h₀ L h rest := fun q hq => N q (.tail _ hq)
theorem ahead_at (d : Nat) (t0 t1 t2 t3 : Tok) : ∃ t, (#[Value.str (Str.ofString "") t0, Value.str (Str.ofString "\\") t1, Value.str (Str.ofString "\\\"") t2, Value.str ⟨#[(besideL.getD ((d / 12 % 27 % 4 : Nat) : Int).toNat 0).toNat]⟩ t3])[((d / 3 % 4 : Nat) : Int).toNat]? = some (.str (ahead d) t) := by
  rw [Int.toNat_natCast, Int.toNat_natCast]
  unfold ahead
  have h : d / 3 % 4 < 4 := Nat.mod_lt _ (by decide)
  match e : d / 3 % 4, h with
  | 0, _ => exact ⟨t0, rfl⟩
  | 1, _ => exact ⟨t1, rfl⟩
  | 2, _ => exact ⟨t2, rfl⟩
  | 3, _ => exact ⟨t3, rfl⟩
local macro_rules | `(tactic| walk_at "call builtin:list.append") => `(tactic| (refine append_in (own := []) (by assumption) (by assumption) (fun _ h => nomatch h) (by assumption) (fun _ _ N => ?_) (by assumption); (replace N := news_cons_nil N)))
theorem news_cons_one {h₀ h : Heap} {L : Addr} {p q : Addr × Obj} {rest : List (Addr × Obj)} (N : News h₀ L h ([p] ++ q :: rest)) : News h₀ L h (p :: q :: rest) := N
local macro_rules | `(tactic| walk_at "call builtin:list.append") => `(tactic| (refine append_in (own := [_]) (by assumption) (by assumption) (by intro q hq; rw [List.mem_singleton.mp hq]; assumption) (by assumption) (fun _ _ N => ?_) (by assumption); (replace N := news_cons_one N)))

inductive CPost (s : Shared) (h₀ : Heap) (L : Addr) (m : Str → Option Value) (x y : Str) (lw lm : Addr) (iw im : List Value) (gn : List (Addr × Obj)) (s' : Shared) : Prop
  | mk (t1 t2 : Tok) (ew' em' : Nat) (m' : Str → Option Value) (h : Heap) (tk : Nat) (e : s' = { s with heap := h, toks := tk }) (F : Fr h₀ L h m')
    (N : News h₀ L h ((lw, { cls := .type "list", data := .seq (List.toArray (iw ++ [.str x t1])) ew' }) :: (lm, { cls := .type "list", data := .seq (List.toArray (im ++ [.str y t2])) em' }) :: gn))
    (c1 : m' "draws" = m "draws") (c3 : m' "unseen" = m "unseen") (c4 : m' "tags" = m "tags") (c5 : m' "beside" = m "beside") (c6 : m' "great" = m "great") (c7 : m' "written" = m "written") (c8 : m' "meant" = m "meant")

set_option maxHeartbeats 2000000 in
theorem cells_body {w : World} {A : Around} {s : Shared} {h₀ : Heap} {L f lw lm lu lt lb lg ld : Addr} {cd : Value} {m mg mb : Str → Option Value} {id iw im iu it ib ig : List Value} {ds : List Int} {ew em eu et eb eg p d : Nat} {tp : Tok} {gn : List (Addr × Obj)}
    (G : GlobM mg mb h₀) (F : Fr h₀ L s.heap m) (N : News h₀ L s.heap ((lw, { cls := .type "list", data := .seq (List.toArray iw) ew }) :: (lm, { cls := .type "list", data := .seq (List.toArray im) em }) :: (lu, { cls := .type "list", data := .seq (List.toArray iu) eu }) :: (lt, { cls := .type "list", data := .seq (List.toArray it) et }) :: (lb, { cls := .type "list", data := .seq (List.toArray ib) eb }) :: (lg, { cls := .type "list", data := .seq (List.toArray ig) eg }) :: gn))
    (hld : h₀.IsList ld id.toArray) (hd : IntsAre id ds) (hu : IntsAre iu unseenL) (ht : IntsAre it tagsL) (hb : IntsAre ib besideL) (hg : IntsAre ig greatL)
    (hwm : lw ≠ lm) (hap1 : ∀ q ∈ ((lm, { cls := .type "list", data := .seq (List.toArray im) em }) :: (lu, { cls := .type "list", data := .seq (List.toArray iu) eu }) :: (lt, { cls := .type "list", data := .seq (List.toArray it) et }) :: (lb, { cls := .type "list", data := .seq (List.toArray ib) eb }) :: (lg, { cls := .type "list", data := .seq (List.toArray ig) eg }) :: gn), q.1 ≠ lw) (hap2 : ∀ q ∈ ((lu, { cls := .type "list", data := .seq (List.toArray iu) eu }) :: (lt, { cls := .type "list", data := .seq (List.toArray it) et }) :: (lb, { cls := .type "list", data := .seq (List.toArray ib) eb }) :: (lg, { cls := .type "list", data := .seq (List.toArray ig) eg }) :: gn), q.1 ≠ lm)
    (hiw : iw.length ≤ sizeLine) (him : im.length ≤ sizeLine) (hp : p < ds.length) (hdp : ds[p]? = some ((d : Nat) : Int)) (hp5 : ds.length ≤ 5)
    (m1 : m "draws" = some (.ref ld)) (m2 : m "place" = some (.int (p : Nat) tp)) (m3 : m "unseen" = some (.ref lu)) (m4 : m "tags" = some (.ref lt)) (m5 : m "beside" = some (.ref lb)) (m6 : m "great" = some (.ref lg)) (m7 : m "written" = some (.ref lw)) (m8 : m "meant" = some (.ref lm)) :
    wpAny (model P w) A (execs cBody (envOf (nameAt 14) (scopeAt 14) L f cd)) (fun fl s' => fl = .next ∧ CPost s h₀ L m (cellW d p) (cellM d p) lw lm iw im ((lu, { cls := .type "list", data := .seq (List.toArray iu) eu }) :: (lt, { cls := .type "list", data := .seq (List.toArray it) et }) :: (lb, { cls := .type "list", data := .seq (List.toArray ib) eb }) :: (lg, { cls := .type "list", data := .seq (List.toArray ig) eg }) :: gn) s') (fun _ _ => False) s := by
  have q1 : unseenL.length = 27 := by decide
  have q2 : tagsL.length = 3 := rfl
  have q3 : besideL.length = 4 := rfl
  have q4 : greatL.length = 10 := rfl
  unfold cBody bodyAt
  walk_at "go"
  · rename_i e3 e2 t3 h5 F5 N5 h6 F6 N6
    have e3' : d % 3 = 0 := Int.ofNat.inj e3
    have ew : cellW d p = ⟨#[(unseenL.getD (d / 12 % 27) 0).toNat]⟩ := by unfold cellW; rw [if_pos e3', if_pos (by omega)]
    have em : cellM d p = "" := by unfold cellM; rw [if_pos e3']
    rw [Int.toNat_natCast, ← ew, ← em] at N6
    exact ⟨rfl, _, _, _, _, _, _, _, rfl, F6, N6, by walk_at "mlook", by walk_at "mlook", by walk_at "mlook", by walk_at "mlook", by walk_at "mlook", by walk_at "mlook", by walk_at "mlook"⟩
  · rename_i e3 e2 t3 h5 F5 N5 h6 F6 N6
    have e3' : d % 3 = 0 := Int.ofNat.inj e3
    have ew : cellW d p = ⟨#[(tagsL.getD (d / 12 % 27 % 3) 0).toNat]⟩ := by unfold cellW; rw [if_pos e3', if_neg (by omega)]
    have em : cellM d p = "" := by unfold cellM; rw [if_pos e3']
    rw [Int.toNat_natCast, ← ew, ← em] at N6
    exact ⟨rfl, _, _, _, _, _, _, _, rfl, F6, N6, by walk_at "mlook", by walk_at "mlook", by walk_at "mlook", by walk_at "mlook", by walk_at "mlook", by walk_at "mlook", by walk_at "mlook"⟩
  · rename_i e3 t3 h5 F5 N5
    obtain ⟨ta, hta⟩ := ahead_at d _ _ _ _
    refine item_listR (IsL.isList (N5 _ (.head _)).1) (by omega) (by omega) hta ?_
    have hal := ahead_len d
    replace N5 := news_tail N5
    walk_at "go"
    have hpc : (Str.ofString "abcde").cps[p]? = some (97 + p) := by
      match p, (show p < 5 by omega) with
      | 0, _ => rfl
      | 1, _ => rfl
      | 2, _ => rfl
      | 3, _ => rfl
      | 4, _ => rfl
    refine item_str (by omega) hpc ?_
    walk_at "go"
    rename_i h7 F7 N7
    have e3' : ¬ d % 3 = 0 := fun e => e3 (by rw [e]; rfl)
    have ew : cellW d p = ahead d ++ ⟨#[(greatL.getD (d / 12 % 27 % 10) 0 + (p : Int)).toNat]⟩ := by unfold cellW; rw [if_neg e3']
    have em : cellM d p = ahead d ++ ⟨#[97 + p]⟩ := by unfold cellM; rw [if_neg e3']
    rw [Int.toNat_natCast, ← ew, ← em] at N7
    exact ⟨rfl, _, _, _, _, _, _, _, rfl, F7, N7, by walk_at "mlook", by walk_at "mlook", by walk_at "mlook", by walk_at "mlook", by walk_at "mlook", by walk_at "mlook", by walk_at "mlook"⟩
end

-- part M14
section
theorem afreshM14 : True := by
  w_top off
  trivial
theorem range_ints {acc : Array Value} {a : Int} {n : Nat} (h : ItemsOf (fun i v => ∃ t, v = .int (a + i * 1) t) acc n) : IntsAre acc.toList ((List.range n).map fun i : Nat => a + (i : Int)) := by
  obtain ⟨hs, hx⟩ := h
  have go : ∀ (k : Nat), k ≤ n → IntsAre (acc.toList.drop (n - k)) (((List.range n).map fun i : Nat => a + (i : Int)).drop (n - k)) := by
    intro k
    induction k with
    | zero =>
      intro _
      rw [List.drop_eq_nil_of_le (by rw [Array.length_toList, hs]; omega), List.drop_eq_nil_of_le (by rw [List.length_map, List.length_range]; omega)]
      exact .nil
    | succ k ih =>
      intro hk
      have h1 : n - (k + 1) < acc.toList.length := by rw [Array.length_toList, hs]; omega
      have h2 : n - (k + 1) < ((List.range n).map fun i : Nat => a + (i : Int)).length := by rw [List.length_map, List.length_range]; omega
      rw [List.drop_eq_getElem_cons h1, List.drop_eq_getElem_cons h2, show n - (k + 1) + 1 = n - k by omega]
      obtain ⟨t, ht⟩ := hx (n - (k + 1)) (acc.toList[n - (k + 1)]) (by simp [Array.getElem?_eq_getElem (show n - (k + 1) < acc.size by rw [hs]; omega)])
      rw [ht, Int.mul_one, List.getElem_map, List.getElem_range]
      exact .cons _ _ (ih (by omega))
  have := go n (Nat.le_refl _)
  rwa [Nat.sub_self, List.drop_zero, List.drop_zero] at this

noncomputable def cellsW (ds : List Nat) (k : Nat) : List Str := (List.range k).map fun p => cellW (ds.getD p 0) p
noncomputable def cellsM (ds : List Nat) (k : Nat) : List Str := (List.range k).map fun p => cellM (ds.getD p 0) p
theorem cellsW_succ (ds : List Nat) (k : Nat) : cellsW ds (k + 1) = cellsW ds k ++ [cellW (ds.getD k 0) k] := by simp [cellsW, List.range_succ]
theorem cellsM_succ (ds : List Nat) (k : Nat) : cellsM ds (k + 1) = cellsM ds k ++ [cellM (ds.getD k 0) k] := by simp [cellsM, List.range_succ]

inductive CInv (ds : List Nat) (ld lw lm lu lt lb lg : Addr) (iu it ib ig : List Value) (eu et eb eg : Nat) (i : Nat) (m : Str → Option Value) (news : List (Addr × Obj)) : Prop
  | mk (iw im : List Value) (ew em : Nat) (e : news = (lw, { cls := .type "list", data := .seq (List.toArray iw) ew }) :: (lm, { cls := .type "list", data := .seq (List.toArray im) em }) :: (lu, { cls := .type "list", data := .seq (List.toArray iu) eu }) :: (lt, { cls := .type "list", data := .seq (List.toArray it) et }) :: (lb, { cls := .type "list", data := .seq (List.toArray ib) eb }) :: (lg, { cls := .type "list", data := .seq (List.toArray ig) eg }) :: [])
    (hw : StrsAre iw (cellsW ds i)) (hm : StrsAre im (cellsM ds i)) (b1 : m "draws" = some (.ref ld)) (b3 : m "unseen" = some (.ref lu)) (b4 : m "tags" = some (.ref lt)) (b5 : m "beside" = some (.ref lb)) (b6 : m "great" = some (.ref lg)) (b7 : m "written" = some (.ref lw)) (b8 : m "meant" = some (.ref lm))

set_option maxHeartbeats 1000000 in
theorem cells_loop {w : World} {A : Around} {s : Shared} {h₀ : Heap} {L f lw lm lu lt lb lg ld r : Addr} {cd : Value} {m mg mb : Str → Option Value} {id iu it ib ig : List Value} {ds : List Nat} {eu et eb eg : Nat} {t1 t2 t3 : Tok} {Q : Flow → Shared → Prop}
    (hh : A.handled = none) (G : GlobM mg mb h₀) (F : Fr h₀ L s.heap m) (N : News h₀ L s.heap [(lw, { cls := .type "list", data := .seq #[] 0 }), (lm, { cls := .type "list", data := .seq #[] 0 }), (lu, { cls := .type "list", data := .seq (List.toArray iu) eu }), (lt, { cls := .type "list", data := .seq (List.toArray it) et }), (lb, { cls := .type "list", data := .seq (List.toArray ib) eb }), (lg, { cls := .type "list", data := .seq (List.toArray ig) eg })])
    (hld : h₀.IsList ld id.toArray) (hd : IntsAre id (ds.map fun n : Nat => (n : Int))) (hu : IntsAre iu unseenL) (ht : IntsAre it tagsL) (hb : IntsAre ib besideL) (hg : IntsAre ig greatL)
    (hwm : lw ≠ lm) (ha1 : lu ≠ lw ∧ lt ≠ lw ∧ lb ≠ lw ∧ lg ≠ lw) (ha2 : lu ≠ lm ∧ lt ≠ lm ∧ lb ≠ lm ∧ lg ≠ lm) (hp5 : ds.length ≤ 5) (hR : IsRange s.heap r 0 (id.length : Nat) 1 t1 t2 t3)
    (m1 : m "draws" = some (.ref ld)) (m3 : m "unseen" = some (.ref lu)) (m4 : m "tags" = some (.ref lt)) (m5 : m "beside" = some (.ref lb)) (m6 : m "great" = some (.ref lg)) (m7 : m "written" = some (.ref lw)) (m8 : m "meant" = some (.ref lm))
    (hQ : ∀ h tk m' iw im ew em, Fr h₀ L h m' → News h₀ L h [(lw, { cls := .type "list", data := .seq (List.toArray iw) ew }), (lm, { cls := .type "list", data := .seq (List.toArray im) em })] → m' "written" = some (.ref lw) → m' "meant" = some (.ref lm) →
      StrsAre iw (cellsW ds ds.length) → StrsAre im (cellsM ds ds.length) → Q .next { s with heap := h, toks := tk }) :
    wpAny (model P w) A (pyIter (.ref r)) (fun it s₂ => LoopAtV P w A h₀ (envOf (nameAt 14) (scopeAt 14) L f cd) "place" cBody Q (fun _ _ => False) it s₂) (fun _ _ => False) s := by
  have hdl : id.length = ds.length := by rw [IntsAre.length hd, List.length_map]
  refine iter_range (n := ds.length) (fun i m news => CInv ds ld lw lm lu lt lb lg iu it ib ig eu et eb eg i m news)
      hh hR (by rw [hdl]) (by omega) F N ⟨[], [], 0, 0, rfl, .nil, .nil, m1, m3, m4, m5, m6, m7, m8⟩ ?_ ?_
  · rintro i tv m₁ news₁ h tk own hi ⟨iw, im, ew, em, rfl, hiw, him, b1, b3, b4, b5, b6, b7, b8⟩ hown hnn F5 N5
    have hnw : ∀ p ∈ own, p.1 ≠ lw := fun p hp e => hnn _ (.head _) (by rw [← hown p hp]; exact e.symm)
    have hnm : ∀ p ∈ own, p.1 ≠ lm := fun p hp e => hnn _ (.tail _ (.head _)) (by rw [← hown p hp]; exact e.symm)
    have lw5 := StrsAre_length hiw
    have lm5 := StrsAre_length him
    simp only [cellsW, cellsM, List.length_map, List.length_range] at lw5 lm5
    refine wpAny_mono (cells_body (gn := own) (iw := iw) (im := im) (ew := ew) (em := em) (eu := eu) (et := et) (eb := eb) (eg := eg) (p := i) (d := ds.getD i 0) (ds := ds.map fun n : Nat => (n : Int)) G F5 ?_ hld hd hu ht hb hg hwm ?_ ?_ ?_ ?_ (by rw [List.length_map]; exact hi) ?_ (by rw [List.length_map]; exact hp5) (by walk_at "mlook") (by walk_at "mlook") (by walk_at "mlook") (by walk_at "mlook") (by walk_at "mlook") (by walk_at "mlook") (by walk_at "mlook") (by walk_at "mlook")) ?_ (fun _ _ x => x)
    · intro p hp
      refine N5 p ?_
      simp only [List.mem_cons, List.mem_append, List.not_mem_nil, or_false] at hp ⊢
      rcases hp with e | e | e | e | e | e | e
      · exact .inr (.inl e)
      · exact .inr (.inr (.inl e))
      · exact .inr (.inr (.inr (.inl e)))
      · exact .inr (.inr (.inr (.inr (.inl e))))
      · exact .inr (.inr (.inr (.inr (.inr (.inl e)))))
      · exact .inr (.inr (.inr (.inr (.inr (.inr e)))))
      · exact .inl e
    · intro p hp
      simp only [List.mem_cons] at hp
      rcases hp with rfl | rfl | rfl | rfl | rfl | e
      · exact hwm.symm
      · exact ha1.1
      · exact ha1.2.1
      · exact ha1.2.2.1
      · exact ha1.2.2.2
      · exact hnw p e
    · intro p hp
      simp only [List.mem_cons] at hp
      rcases hp with rfl | rfl | rfl | rfl | e
      · exact ha2.1
      · exact ha2.2.1
      · exact ha2.2.2.1
      · exact ha2.2.2.2
      · exact hnm p e
    · rw [lw5]; exact Nat.le_trans (Nat.le_of_lt (Nat.lt_of_lt_of_le hi hp5)) (by decide)
    · rw [lm5]; exact Nat.le_trans (Nat.le_of_lt (Nat.lt_of_lt_of_le hi hp5)) (by decide)
    · simp [hi]
    · rintro fl s6 ⟨rfl, t6, u6, ew6, em6, m6', h6, tk6, rfl, F6, N6, c1, c3, c4, c5, c6, c7, c8⟩
      refine LoopStepV.next (LoopStepU.intro (news₂ := _) F6 (fun p hp => N6 p ?_) ?_ ⟨iw ++ [.str (cellW (ds.getD i 0) i) t6], im ++ [.str (cellM (ds.getD i 0) i) u6], ew6, em6, rfl, ?_, ?_, ?_, ?_, ?_, ?_, ?_, ?_, ?_⟩)
      · simp only [List.mem_cons, List.mem_append, List.not_mem_nil, or_false] at hp ⊢
        rcases hp with e | e | e | e | e | e | e
        · exact .inr (.inr (.inr (.inr (.inr (.inr e)))))
        · exact .inl e
        · exact .inr (.inl e)
        · exact .inr (.inr (.inl e))
        · exact .inr (.inr (.inr (.inl e)))
        · exact .inr (.inr (.inr (.inr (.inl e))))
        · exact .inr (.inr (.inr (.inr (.inr (.inl e)))))
      · intro p hp hm
        have hm' := List.mem_singleton.mp hm
        simp only [List.mem_cons, List.not_mem_nil, or_false] at hp
        rcases hp with rfl | rfl | rfl | rfl | rfl | rfl
        · exact hnn _ (.head _) hm'
        · exact hnn _ (.tail _ (.head _)) hm'
        · exact hnn _ (.tail _ (.tail _ (.head _))) hm'
        · exact hnn _ (.tail _ (.tail _ (.tail _ (.head _)))) hm'
        · exact hnn _ (.tail _ (.tail _ (.tail _ (.tail _ (.head _))))) hm'
        · exact hnn _ (.tail _ (.tail _ (.tail _ (.tail _ (.tail _ (.head _)))))) hm'
      · rw [cellsW_succ]; exact strs_snoc hiw
      · rw [cellsM_succ]; exact strs_snoc him
      · rw [c1]; walk_at "mlook"
      · rw [c3]; walk_at "mlook"
      · rw [c4]; walk_at "mlook"
      · rw [c5]; walk_at "mlook"
      · rw [c6]; walk_at "mlook"
      · rw [c7]; walk_at "mlook"
      · rw [c8]; walk_at "mlook"
  · rintro m₁ news₁ h tk ⟨iw, im, ew, em, rfl, hiw, him, b1, b3, b4, b5, b6, b7, b8⟩ F5 N5
    refine hQ h tk m₁ iw im ew em F5 (fun p hp => N5 p ?_) b7 b8 hiw him
    rcases List.mem_cons.mp hp with rfl | hp
    · exact .head _
    · rw [List.mem_singleton.mp hp]; exact .tail _ (.head _)

theorem news_perm6 {h₀ h : Heap} {L : Addr} {a b c d e f : Addr × Obj} (N : News h₀ L h [a, b, c, d, e, f]) : News h₀ L h [b, a, f, e, d, c] := fun p hp => N p (by
  simp only [List.mem_cons, List.not_mem_nil, or_false] at hp ⊢
  rcases hp with e | e | e | e | e | e
  · exact .inr (.inl e)
  · exact .inl e
  · exact .inr (.inr (.inr (.inr (.inr e))))
  · exact .inr (.inr (.inr (.inr (.inl e))))
  · exact .inr (.inr (.inr (.inl e)))
  · exact .inr (.inr (.inl e)))

inductive CCPost (s : Shared) (ds : List Nat) (v : Value) (s' : Shared) : Prop
  | mk (T lw lm : Addr) (iw im : List Value) (ew em : Nat) (h : Heap) (tk : Nat) (ev : v = .ref T) (es : s' = { s with heap := h, toks := tk }) (hk : ∀ b o, s.heap.get? b = some o → h.get? b = some o)
    (N : News s.heap s.heap.objs.size h [(T, { cls := .type "tuple", data := .seq #[.ref lw, .ref lm] }), (lw, { cls := .type "list", data := .seq (List.toArray iw) ew }), (lm, { cls := .type "list", data := .seq (List.toArray im) em })])
    (n1 : lw ≠ lm) (n2 : T ≠ lw) (n3 : T ≠ lm) (hw : StrsAre iw (cellsW ds ds.length)) (hm : StrsAre im (cellsM ds ds.length))

set_option maxHeartbeats 1000000 in
theorem cells_call {w : World} {A : Around} {s : Shared} {f ld : Addr} {cd : Value} {mg mb : Str → Option Value} {id : List Value} {ds : List Nat} {E : Value → Shared → Prop}
    (hroom : A.depth < recursionLimit) (hh : A.handled = none) (G : GlobM mg mb s.heap) (hf : FnAt 14 s.heap f cd .none .none) (hld : s.heap.IsList ld id.toArray) (hd : IntsAre id (ds.map fun n : Nat => (n : Int))) (hdl : ds.length ≤ 5) :
    wpAny (model P w) A (call (.ref f) [.ref ld]) (fun v s' => CCPost s ds v s') E s := by
  obtain ⟨o, pm, doc, ho, hdata, hcd⟩ := hf
  refine gen_post fun Q hQ => ?_
  refine wpAny_call (call_fullW_ret hroom ho hdata G.nolimit hcd (BindsTo.of_eq (binds := [("draws", .ref ld)]) rfl) (locs rfl) (fun h₁ F => ?_))
  have N0 : News s.heap s.heap.objs.size h₁ [] := News.nil
  have hdl2 := IntsAre.length hd
  rw [List.length_map] at hdl2
  unfold bodyAt
  walk_at "go"
  rename_i h2 F2 N2 h3 tk3 t3 u3 v3 hR F3 N3 k3
  refine call_list_range (n := 16) hh hR (by decide) (by decide) (by decide) fun h4 tk4 acc c4 k4 hacc hit => ?_
  have F4 := F3.keeps k4
  have N4 : News s.heap s.heap.objs.size h4 _ := fun p hp => ⟨k4 _ _ (N3 p hp).1, (N3 p hp).2⟩
  have hai := range_ints hit
  refine add_lists_ints F4 N4 (vs := [_, _, _, _, _, _, _, _, _, _, _]) (ws := acc.toList) (IsL.isList (N4 _ (.head _)).1) ⟨_, hacc, rfl, c4, by simp⟩ (.cons _ _ (.cons _ _ (.cons _ _ (.cons _ _ (.cons _ _ (.cons _ _ (.cons _ _ (.cons _ _ (.cons _ _ (.cons _ _ (.cons _ _ .nil))))))))))) hai (fun h5 F5 N5 hiu => ?_) (by rw [List.length_map, List.length_range]; decide)
  generalize hxs : ([_, _, _, _, _, _, _, _, _, _, _] ++ acc.toList : List Value) = iu at N5 hiu
  replace hiu : IntsAre iu unseenL := hiu
  clear N4 F4 N3 F3 N2 F2 hR k3 N0 F
  replace N5 : News s.heap s.heap.objs.size h5 [_] := fun p hp => N5 p (by rw [List.mem_singleton.mp hp]; exact .head _)
  walk_at "go"
  rename_i k11 F11 N11 k10 F10 N10 k9 F9 N9 k8 F8 N8 k7 F7 N7 k6 F6 N6 k5 F5' N5' k4' F4' N4' k3' F3' N3' k2' F2' N2' k1' F1' N1' e0 hr tkr tr ur vr hR Fr Nr kr
  have hx1 := fun p hp => Heap.lt_size (N5' p hp).1
  have hx2 := fun p hp => Heap.lt_size (N3' p hp).1
  refine cells_loop (s := { s with heap := hr, toks := tkr }) (lw := k5.objs.size) (lm := k3'.objs.size) (lg := k7.objs.size) (lb := k9.objs.size) (lt := k11.objs.size) (lu := h4.objs.size) (iu := iu) (it := [_, _, _]) (ib := [_, _, _, _]) (ig := [_, _, _, _, _, _, _, _, _, _]) (ld := ld) (ds := ds)
    hh (by assumption) Fr (news_perm6 Nr) hld hd (by assumption) (.cons _ _ (.cons _ _ (.cons _ _ .nil))) (.cons _ _ (.cons _ _ (.cons _ _ (.cons _ _ .nil)))) (.cons _ _ (.cons _ _ (.cons _ _ (.cons _ _ (.cons _ _ (.cons _ _ (.cons _ _ (.cons _ _ (.cons _ _ (.cons _ _ .nil))))))))))
    ?_ ?_ ?_ hdl hR (by walk_at "mlook") (by walk_at "mlook") (by walk_at "mlook") (by walk_at "mlook") (by walk_at "mlook") (by walk_at "mlook") (by walk_at "mlook") ?_
  · exact Nat.ne_of_lt (hx2 _ (.head _))
  · exact ⟨Nat.ne_of_lt (hx1 _ (.tail _ (.tail _ (.tail _ (.head _))))), Nat.ne_of_lt (hx1 _ (.tail _ (.tail _ (.head _)))), Nat.ne_of_lt (hx1 _ (.tail _ (.head _))), Nat.ne_of_lt (hx1 _ (.head _))⟩
  · exact ⟨Nat.ne_of_lt (hx2 _ (.tail _ (.tail _ (.tail _ (.tail _ (.head _)))))), Nat.ne_of_lt (hx2 _ (.tail _ (.tail _ (.tail _ (.head _))))), Nat.ne_of_lt (hx2 _ (.tail _ (.tail _ (.head _)))), Nat.ne_of_lt (hx2 _ (.tail _ (.head _)))⟩
  · intro h tk m' iw im ew em Fz Nz z1 z2 z3 z4
    replace Fz : PyProof.Rows.Fr s.heap s.heap.objs.size h m' := Fz
    replace Nz : News s.heap s.heap.objs.size h _ := Nz
    clear Nr Fr N1' F11 N11 F10 N10 F9 N9 F8 N8 F7 N7 F6 N6 F5' F4' N4' F3' F2' N2'
    walk_at "go"
    rename_i h9 F9 N9
    have hy := fun p hp => Heap.lt_size (Nz p hp).1
    exact hQ _ _ ⟨_, _, _, iw, im, ew, em, h9, _, rfl, rfl, F9.keep, N9, Nat.ne_of_lt (hx2 _ (.head _)), Nat.ne_of_gt (hy _ (.head _)), Nat.ne_of_gt (hy _ (.tail _ (.head _))), z3, z4⟩
end

-- part Q3
section
theorem toggle_nodup {v : Int} {o : List Int} (h : o.Nodup) : (toggle v o).Nodup := by
  unfold toggle
  split
  · exact h.erase v
  · rename_i hv
    rw [List.nodup_append]
    exact ⟨h, by simp, fun a ha c hc e => hv (by rw [List.mem_singleton.mp hc] at e; exact e ▸ ha)⟩
theorem toggle_mem {v : Int} {o : List Int} (h : o.Nodup) (x : Int) : decide (x ∈ toggle v o) = (decide (x ∈ o) ^^ decide (v = x)) := by
  unfold toggle
  by_cases hv : v ∈ o
  · rw [if_pos hv]
    by_cases e : v = x
    · subst e
      simp [h.mem_erase_iff, hv]
    · have : x ≠ v := Ne.symm e
      simp [h.mem_erase_iff, this, e]
  · rw [if_neg hv]
    by_cases e : v = x
    · subst e; simp [hv]
    · have : x ≠ v := Ne.symm e
      simp [this, e]

theorem testBit_div (p k : Nat) : p.testBit k = decide (p / 2 ^ k % 2 = 1) := Nat.testBit_eq_decide_div_mod_eq

theorem oddGo_cons (pick : Nat) (rs : List Int) (k : Nat) (o : List Int) (e : Nat × Nat) (l : List (Nat × Nat)) :
    oddGo pick rs k o (e :: l) = oddGo pick rs (k + 1) (if pick / 2 ^ k % 2 = 1 then toggle (rs.getD e.2 0) (toggle (rs.getD e.1 0) o) else o) l := rfl
theorem oddGo_spec {b : Nat → Bool} {rs : List Int} {ps : List (Nat × Nat)} {pick : Nat} (hr : ∀ e ∈ ps, rs.getD e.1 0 = (rm b e.1 : Nat) ∧ rs.getD e.2 0 = (rm b e.2 : Nat)) :
    ∀ (l : List (Nat × Nat)) (k : Nat) (o : List Int), l = ps.drop k → o.Nodup → (∀ x ∈ o, ∃ j : Nat, x = j) → (∀ j : Nat, decide ((j : Int) ∈ o) = wv (ends b ps) k pick j) →
      (∀ x ∈ oddGo pick rs k o l, ∃ j : Nat, x = j) ∧ ∀ j : Nat, decide ((j : Int) ∈ oddGo pick rs k o l) = wv (ends b ps) (k + l.length) pick j
  | [], k, o, _, _, hx, hj => ⟨hx, hj⟩
  | e :: l, k, o, hl, hn, hx, hj => by
    have he : e ∈ ps := List.mem_of_mem_drop (hl ▸ List.mem_cons_self)
    have hl' : l = ps.drop (k + 1) := by
      have := congrArg (List.drop 1) hl
      rw [List.drop_drop] at this
      simpa using this
    have hg : ps.getD k (0, 0) = e := by
      have h0 : (ps.drop k)[0]? = some e := by rw [← hl]; rfl
      rw [List.getElem?_drop, Nat.add_zero] at h0
      rw [List.getD_eq_getElem?_getD, h0]; rfl
    obtain ⟨h1, h2⟩ := hr e he
    have hlen : k + (e :: l).length = (k + 1) + l.length := by rw [List.length_cons]; omega
    rw [hlen]
    by_cases hb : pick / 2 ^ k % 2 = 1
    · rw [oddGo_cons, if_pos hb, h1, h2]
      refine oddGo_spec hr l (k + 1) _ hl' (toggle_nodup (toggle_nodup hn)) ?_ ?_
      · intro x hx'
        have t1 := toggle_mem (v := (rm b e.2 : Nat)) (toggle_nodup (v := (rm b e.1 : Nat)) hn) x
        have t2 := toggle_mem (v := (rm b e.1 : Nat)) hn x
        rw [t2, decide_eq_true hx'] at t1
        by_cases q1 : x ∈ o
        · exact hx x q1
        · by_cases q2 : ((rm b e.1 : Nat) : Int) = x
          · exact ⟨_, q2.symm⟩
          · by_cases q3 : ((rm b e.2 : Nat) : Int) = x
            · exact ⟨_, q3.symm⟩
            · simp [q1, q2, q3] at t1
      · intro j
        rw [toggle_mem (toggle_nodup hn), toggle_mem hn, hj, wv, testBit_div, decide_eq_true hb, ends_get, hg, Bool.true_and]
        have c1 : decide (((rm b e.1 : Nat) : Int) = (j : Int)) = (rm b e.1 == j) := by rw [Bool.eq_iff_iff, decide_eq_true_eq, beq_iff_eq]; omega
        have c2 : decide (((rm b e.2 : Nat) : Int) = (j : Int)) = (rm b e.2 == j) := by rw [Bool.eq_iff_iff, decide_eq_true_eq, beq_iff_eq]; omega
        rw [c1, c2, Bool.xor_assoc]
    · rw [oddGo_cons, if_neg hb]
      refine oddGo_spec hr l (k + 1) _ hl' hn hx ?_
      intro j
      rw [hj, wv, testBit_div, decide_eq_false hb]; simp

/-- a pick is even when its image is nothing -/
theorem even_iff {b : Nat → Bool} {rs : List Int} {ps : List (Nat × Nat)} (hr : ∀ e ∈ ps, rs.getD e.1 0 = (rm b e.1 : Nat) ∧ rs.getD e.2 0 = (rm b e.2 : Nat)) (pick : Nat) :
    oddGo pick rs 0 [] ps = [] ↔ ∀ j, wv (ends b ps) ps.length pick j = false := by
  obtain ⟨h1, h2⟩ := oddGo_spec (pick := pick) hr ps 0 [] rfl .nil (fun _ h => nomatch h) (fun _ => rfl)
  rw [Nat.zero_add] at h2
  constructor
  · intro h j
    rw [← h2 j, h]; rfl
  · intro h
    refine List.eq_nil_iff_forall_not_mem.mpr fun x hx => ?_
    obtain ⟨j, rfl⟩ := h1 x hx
    have := h2 j
    rw [h j, decide_eq_true hx] at this
    cases this
end

-- part Q5
section
theorem escEnd_append : ∀ (a b : List Nat) (e : Bool), escEnd e (a ++ b) = escEnd (escEnd e a) b
  | [], _, _ => rfl
  | c :: a, b, e => by
    show escEnd _ (a ++ b) = escEnd (escEnd _ a) b
    rw [escEnd_append a b]
theorem escGo_cons (e : Bool) (i c : Nat) (cs : List Nat) : escGo e i (c :: cs) = if e then (i, ("\\" : Str) ++ ⟨#[c]⟩) :: escGo false (i + 1) cs else if c = 92 then escGo true (i + 1) cs else (i, ⟨#[c]⟩) :: escGo false (i + 1) cs := rfl
theorem escEnd_cons (e : Bool) (c : Nat) (cs : List Nat) : escEnd e (c :: cs) = escEnd (if e then false else c == 92) cs := rfl
theorem escGo_append : ∀ (a b : List Nat) (e : Bool) (i : Nat), escGo e i (a ++ b) = escGo e i a ++ escGo (escEnd e a) (i + a.length) b
  | [], _, _, _ => rfl
  | c :: a, b, e, i => by
    have h := fun e' => escGo_append a b e' (i + 1)
    have hl : i + (c :: a).length = i + 1 + a.length := by rw [List.length_cons]; omega
    rw [hl, List.cons_append, escGo_cons, escGo_cons, escEnd_cons]
    cases e with
    | true => simp only [if_true, h, List.cons_append]
    | false =>
      by_cases q : c = 92
      · subst q; simp only [Bool.false_eq_true, if_false, if_true, h, beq_self_eq_true]
      · have q' : (c == 92) = false := by simpa using q
        simp only [Bool.false_eq_true, if_false, if_neg q, h, q', List.cons_append]

/-- signs that open no quote and leave no escape open -/
noncomputable def Safe (l : List Nat) : Prop := escEnd false l = false ∧ ∀ i, ∀ q ∈ escGo false i l, (q.2 == Str.ofString "\"") = false
theorem Safe.nil : Safe [] := ⟨rfl, fun _ _ h => nomatch h⟩
theorem Safe.append {a b : List Nat} (ha : Safe a) (hb : Safe b) : Safe (a ++ b) := by
  refine ⟨by rw [escEnd_append, ha.1, hb.1], fun i q hq => ?_⟩
  rw [escGo_append, ha.1] at hq
  rcases List.mem_append.mp hq with h | h
  · exact ha.2 i q h
  · exact hb.2 _ q h

theorem stripGo_skip {x : Str} {st : Nat} {op : Option Nat} {r : List (Nat × Str)} : ∀ {l : List (Nat × Str)}, (∀ q ∈ l, (q.2 == Str.ofString "\"") = false) → stripGo x st op (l ++ r) = stripGo x st op r
  | [], _ => rfl
  | (p, t) :: l, h => by
    rw [List.cons_append, stripGo_no (h (p, t) (.head _))]
    exact stripGo_skip fun q hq => h q (.tail _ hq)

theorem slice_pp {x : Str} {a b : Nat} (hab : a ≤ b) (hb : b ≤ x.length) : Txt.slice x (some (a : Nat)) (some (b : Nat)) = ⟨((x.cps.toList.drop a).take (b - a)).toArray⟩ := by
  have := eq_of_beq (slice_closesL (x := x) (i := (a : Nat)) (j := (b : Nat)) (by omega) (by omega) (by omega))
  rw [this, Int.toNat_natCast, show (((b : Nat) : Int) - ((a : Nat) : Int)).toNat = b - a by omega]
theorem slice_pn {x : Str} {a : Nat} (ha : a ≤ x.length) : Txt.slice x (some (a : Nat)) none = ⟨(x.cps.toList.drop a).toArray⟩ := by
  rw [slice_from_eq (b := x.length) (by omega) (by omega) rfl, Int.toNat_natCast, List.take_of_length_le]
  rw [List.length_drop, Array.length_toList]
  show x.cps.size - a ≤ _
  have : x.length = x.cps.size := rfl
  omega

noncomputable abbrev chars (x : Str) : List Nat := x.cps.toList
theorem chars_append (a b : Str) : chars (a ++ b) = chars a ++ chars b := by
  show (a.cps ++ b.cps).toList = _
  rw [Array.toList_append]
theorem Safe_cat {W : List Str} (hW : ∀ y ∈ W, Safe (chars y)) : Safe (chars (cat W)) := by
  induction W with
  | nil => exact Safe.nil
  | cons y W ih =>
    show Safe (chars (y ++ cat W))
    rw [chars_append]
    exact (hW y (.head _)).append (ih fun z hz => hW z (.tail _ hz))

/-- what stands outside the marks' pairs -/
noncomputable def kept (W : List Str) : Nat → List Int → Str
  | a, [] => cat (W.drop a)
  | a, [p] => cat ((W.drop a).take (p.toNat - a))
  | a, p :: q :: r => cat ((W.drop a).take (p.toNat - a)) ++ kept W q.toNat r

theorem chars_quote : chars ("\"" : Str) = [34] := by decide
theorem escGo_quote (i : Nat) (r : List Nat) : escGo false i (34 :: r) = (i, Str.ofString "\"") :: escGo false (i + 1) r := by
  rw [escGo_cons, if_neg (by decide), if_neg (by decide)]
  rfl
theorem nil_app (a : Str) : (⟨#[]⟩ : Str) ++ a = a := Str.empty_append a
theorem app_nil (a : Str) : a ++ (⟨#[]⟩ : Str) = a := Str.append_empty a
theorem cat_cons (y : Str) (l : List Str) : cat (y :: l) = y ++ cat l := rfl
theorem cat_nil : cat [] = ⟨#[]⟩ := str_empty
theorem cat_app : ∀ a b : List Str, cat (a ++ b) = cat a ++ cat b
  | [], b => by rw [List.nil_append, cat_nil, nil_app]
  | y :: a, b => by rw [List.cons_append, cat_cons, cat_cons, cat_app a b, Str.append_assoc]

theorem strip_mark {W : List Str} (hW : ∀ y ∈ W, Safe (chars y)) : ∀ (ns : List Int) (a : Nat) (pre : List Nat) (x : Str), ns.length % 2 = 0 → chars x = pre ++ chars (markGo W a ns) →
    cat (stripGo x pre.length none (escGo false pre.length (chars (markGo W a ns)))) = kept W a ns
  | [], a, pre, x, _, hx => by
    have hs : Safe (chars (cat (W.drop a))) := Safe_cat fun y hy => hW y (List.mem_of_mem_drop hy)
    show cat (stripGo x pre.length none (escGo false pre.length (chars (cat (W.drop a))))) = cat (W.drop a)
    have hskip := stripGo_skip (x := x) (st := pre.length) (op := none) (r := []) (hs.2 pre.length)
    rw [List.append_nil] at hskip
    rw [hskip]
    have hxl : x.length = pre.length + (chars (cat (W.drop a))).length := by
      have := congrArg List.length hx
      rw [List.length_append, Array.length_toList] at this
      exact this
    have hcat : (⟨(chars x).drop pre.length |>.toArray⟩ : Str) = cat (W.drop a) := by
      rw [hx, List.drop_left]
      exact ext_toList rfl
    show cat (if pre.length < x.length then _ else _) = _
    split
    · rw [slice_pn (by omega), cat_cons, cat_nil, app_nil]
      exact hcat
    · rw [cat_nil, ← hcat, List.drop_eq_nil_of_le (by rw [Array.length_toList]; have : x.length = x.cps.size := rfl; omega)]
  | [p], a, pre, x, h, _ => by simp at h
  | p :: q :: r, a, pre, x, hl, hx => by
    have h0 : Safe (chars (cat ((W.drop a).take (p.toNat - a)))) := Safe_cat fun y hy => hW y (List.mem_of_mem_drop (List.mem_of_mem_take hy))
    have h1 : Safe (chars (cat ((W.drop p.toNat).take (q.toNat - p.toNat)))) := Safe_cat fun y hy => hW y (List.mem_of_mem_drop (List.mem_of_mem_take hy))
    have hm : chars (markGo W a (p :: q :: r)) = chars (cat ((W.drop a).take (p.toNat - a))) ++ 34 :: (chars (cat ((W.drop p.toNat).take (q.toNat - p.toNat))) ++ 34 :: chars (markGo W q.toNat r)) := by
      show chars (cat _ ++ _ ++ (cat _ ++ _ ++ markGo W q.toNat r)) = _
      rw [chars_append, chars_append, chars_append, chars_append, chars_quote]
      simp
    generalize hc0 : chars (cat ((W.drop a).take (p.toNat - a))) = c0 at h0 hm
    generalize hc1 : chars (cat ((W.drop p.toNat).take (q.toNat - p.toNat))) = c1 at h1 hm
    have ih := strip_mark hW r q.toNat (pre ++ c0 ++ 34 :: (c1 ++ [34])) x (by simp at hl; omega) (by rw [hx, hm]; simp)
    rw [hm, escGo_append, h0.1, stripGo_skip (h0.2 _), escGo_quote, stripGo_open rfl, escGo_append, h1.1, stripGo_skip (h1.2 _), escGo_quote, stripGo_close rfl, cat_app]
    have hlen : (pre ++ c0 ++ 34 :: (c1 ++ [34])).length = pre.length + c0.length + 1 + c1.length + 1 := by simp; omega
    rw [hlen] at ih
    rw [ih]
    show _ = cat _ ++ kept W q.toNat r
    congr 1
    have hxl : pre.length + c0.length ≤ x.length := by
      have := congrArg List.length hx
      rw [hm, List.length_append, List.length_append, Array.length_toList] at this
      have e : x.length = x.cps.size := rfl
      omega
    have hcat : (⟨(((chars x).drop pre.length).take (pre.length + c0.length - pre.length)).toArray⟩ : Str) = cat ((W.drop a).take (p.toNat - a)) := by
      rw [hx, List.drop_left, hm, Nat.add_sub_cancel_left, List.take_left]
      exact ext_toList hc0.symm
    split
    · rename_i he
      rw [cat_nil, ← hcat, show pre.length + c0.length - pre.length = 0 by omega, List.take_zero]
    · rw [slice_pp (by omega) hxl, cat_cons, cat_nil, app_nil]
      exact hcat
end

-- part Q6
section
theorem markGo_end {W : List Str} (hW : ∀ y ∈ W, Safe (chars y)) : ∀ (ns : List Int) (a : Nat), escEnd false (chars (markGo W a ns)) = false
  | [], a => (Safe_cat fun y hy => hW y (List.mem_of_mem_drop hy)).1
  | p :: r, a => by
    have h0 : Safe (chars (cat ((W.drop a).take (p.toNat - a)))) := Safe_cat fun y hy => hW y (List.mem_of_mem_drop (List.mem_of_mem_take hy))
    show escEnd false (chars (cat _ ++ _ ++ markGo W p.toNat r)) = false
    rw [chars_append, chars_append, chars_quote, escEnd_append, escEnd_append, h0.1, escEnd_cons]
    exact markGo_end hW r p.toNat

theorem strip_marked {W : List Str} (hW : ∀ y ∈ W, Safe (chars y)) {ns : List Int} (hn : ns.length % 2 = 0) : strip (markGo W 0 ns) = kept W 0 ns := by
  unfold strip
  split
  · rename_i h
    have e : (Builtin.Str.occurrences (markGo W 0 ns) ⟨#[34]⟩ 0 (markGo W 0 ns).length 1).isEmpty = true := h
    rw [empty_one] at e
    have hno : (34 : Nat) ∉ chars (markGo W 0 ns) := by simpa using e
    cases ns with
    | nil => rfl
    | cons p r =>
      refine absurd ?_ hno
      show 34 ∈ chars (cat _ ++ _ ++ markGo W p.toNat r)
      rw [chars_append, chars_append, chars_quote]
      simp
  · exact strip_mark hW ns 0 [] _ hn rfl

/-- the places outside the marks' pairs -/
noncomputable def evens (ns : List Int) (a n : Nat) : List Nat := (List.range' a n).filter fun (i : Nat) => (ns.countP fun x => decide (x ≤ (i : Int))) % 2 = 0

theorem cat_take {W : List Str} {a n : Nat} (h : a + n ≤ W.length) : (W.drop a).take n = (List.range' a n).map fun i => W.getD i "" := by
  apply List.ext_getElem
  · simp; omega
  · intro i h1 h2
    simp at h1 h2
    rw [List.getElem_take, List.getElem_drop, List.getElem_map, List.getElem_range', List.getD_eq_getElem?_getD, List.getElem?_eq_getElem (by omega)]
    simp

theorem kept_evens {W : List Str} : ∀ (ns : List Int) (a : Nat), ns.length % 2 = 0 → a ≤ W.length → ns.Pairwise (· ≤ ·) → (∀ x ∈ ns, (a : Int) ≤ x ∧ x ≤ W.length) →
    kept W a ns = cat ((evens ns a (W.length - a)).map fun i => W.getD i "")
  | [], a, _, ha, _, _ => by
    have e : evens [] a (W.length - a) = List.range' a (W.length - a) := by
      unfold evens
      rw [List.filter_eq_self.mpr]
      intro i _; simp
    show cat (W.drop a) = _
    rw [e, ← cat_take (by omega), List.take_of_length_le (by rw [List.length_drop]; omega)]
  | [p], a, h, _, _, _ => by simp at h
  | p :: q :: r, a, hl, ha, hs, hx => by
    obtain ⟨hp1, hp2⟩ := hx p (.head _)
    obtain ⟨hq1, hq2⟩ := hx q (.tail _ (.head _))
    rw [List.pairwise_cons] at hs
    obtain ⟨hs1, hs2⟩ := hs
    rw [List.pairwise_cons] at hs2
    obtain ⟨hs3, hs4⟩ := hs2
    have hpq := hs1 q (.head _)
    have ih := kept_evens r q.toNat (by simp at hl; omega) (by omega) hs4 (fun x hx' => ⟨by have := hs3 x hx'; omega, (hx x (.tail _ (.tail _ hx'))).2⟩)
    show cat ((W.drop a).take (p.toNat - a)) ++ kept W q.toNat r = _
    have split : List.range' a (W.length - a) = List.range' a (p.toNat - a) ++ (List.range' p.toNat (q.toNat - p.toNat) ++ List.range' q.toNat (W.length - q.toNat)) := by
      have e1 := List.range'_append_1 (s := p.toNat) (m := q.toNat - p.toNat) (n := W.length - q.toNat)
      have e2 := List.range'_append_1 (s := a) (m := p.toNat - a) (n := (q.toNat - p.toNat) + (W.length - q.toNat))
      rw [show p.toNat + (q.toNat - p.toNat) = q.toNat by omega] at e1
      rw [show a + (p.toNat - a) = p.toNat by omega] at e2
      rw [e1, e2, show p.toNat - a + (q.toNat - p.toNat + (W.length - q.toNat)) = W.length - a by omega]
    have c0 : (List.range' a (p.toNat - a)).filter (fun (i : Nat) => ((p :: q :: r).countP fun x => decide (x ≤ (i : Int))) % 2 = 0) = List.range' a (p.toNat - a) := by
      rw [List.filter_eq_self.mpr]
      intro i hi
      have hi := List.mem_range'_1.mp hi
      have : ((p :: q :: r).countP fun x => decide (x ≤ (i : Int))) = 0 := by
        rw [List.countP_eq_zero]
        intro x hx'
        rcases List.mem_cons.mp hx' with rfl | hx'
        · simp; omega
        · have := hs1 x hx'; simp; omega
      rw [this]; rfl
    have c1 : (List.range' p.toNat (q.toNat - p.toNat)).filter (fun (i : Nat) => ((p :: q :: r).countP fun x => decide (x ≤ (i : Int))) % 2 = 0) = [] := by
      rw [List.filter_eq_nil_iff]
      intro i hi
      have hi := List.mem_range'_1.mp hi
      have h0 : ((q :: r).countP fun x => decide (x ≤ (i : Int))) = 0 := by
        rw [List.countP_eq_zero]
        intro x hx'
        rcases List.mem_cons.mp hx' with rfl | hx'
        · simp; omega
        · have := hs3 x hx'; simp; omega
      rw [List.countP_cons, h0, if_pos (by simp; omega)]
      decide
    have c2 : (List.range' q.toNat (W.length - q.toNat)).filter (fun (i : Nat) => ((p :: q :: r).countP fun x => decide (x ≤ (i : Int))) % 2 = 0) = evens r q.toNat (W.length - q.toNat) := by
      unfold evens
      refine List.filter_congr fun i hi => ?_
      have hi := List.mem_range'_1.mp hi
      rw [List.countP_cons, List.countP_cons, if_pos (by simp; omega), if_pos (by simp; omega)]
      simp only [decide_eq_decide]
      omega
    have hev : evens (p :: q :: r) a (W.length - a) = List.range' a (p.toNat - a) ++ evens r q.toNat (W.length - q.toNat) := by
      show (List.range' a (W.length - a)).filter _ = _
      rw [split, List.filter_append, List.filter_append, c0, c1, c2, List.nil_append]
    rw [hev, List.map_append, cat_app, ih, cat_take (by omega)]

/-- sign by sign -/
noncomputable def fm (fc : Nat → Str) (x : Str) : Str := cat ((chars x).map fc)
theorem fm_app (fc : Nat → Str) (a b : Str) : fm fc (a ++ b) = fm fc a ++ fm fc b := by
  unfold fm
  rw [chars_append, List.map_append, cat_app]
theorem fm_cat (fc : Nat → Str) : ∀ l : List Str, fm fc (cat l) = cat (l.map (fm fc))
  | [] => rfl
  | y :: l => by rw [cat_cons, fm_app, fm_cat fc l]; rfl

/-- what is told is what is meant outside the marks' pairs -/
theorem told_eq {W : List Str} {fc : Nat → Str} {M : Nat → Str} (hW : ∀ y ∈ W, Safe (chars y)) (hM : ∀ i, i < W.length → fm fc (W.getD i "") = M i) {ns : List Int} (hn : ns.length % 2 = 0) (hs : ns.Pairwise (· ≤ ·)) (hx : ∀ x ∈ ns, 0 ≤ x ∧ x ≤ W.length) :
    fm fc (strip (markGo W 0 ns)) = cat ((evens ns 0 W.length).map M) := by
  rw [strip_marked hW hn, kept_evens ns 0 hn (Nat.zero_le _) hs hx, fm_cat, List.map_map, Nat.sub_zero]
  congr 1
  refine List.map_congr_left fun i hi => ?_
  have := List.mem_range'_1.mp (List.mem_filter.mp hi).1
  exact hM i (by omega)
end

-- part Q7
section
theorem chars_cat (l : List Str) : chars (cat l) = l.flatMap chars := by
  induction l with
  | nil => rfl
  | cons y l ih => rw [cat_cons, chars_append, ih, List.flatMap_cons]

theorem cat_drop_none {M : Nat → Str} {b : Nat → Bool} (h0 : ∀ i, b i = false → M i = ⟨#[]⟩) : ∀ l : List Nat, cat (l.map M) = cat ((l.filter b).map M)
  | [] => rfl
  | i :: l => by
    rw [List.map_cons, cat_cons, cat_drop_none h0 l, List.filter_cons]
    cases hb : b i with
    | false => rw [h0 i hb, nil_app]; rfl
    | true => rfl

/-- the texts tell the visible places that they hold -/
theorem text_iff {M : Nat → Str} {b : Nat → Bool} {n : Nat} (h0 : ∀ i, b i = false → M i = ⟨#[]⟩) (h1 : ∀ i, b i = true → 97 + i ∈ chars (M i)) (h2 : ∀ i j, i < n → j < n → 97 + j ∈ chars (M i) → i = j) (e e' : Nat → Bool) :
    cat (((List.range' 0 n).filter e).map M) = cat (((List.range' 0 n).filter e').map M) ↔ ∀ i, i < n → b i = true → e i = e' i := by
  constructor
  · intro h
    have key : ∀ (e : Nat → Bool) i, i < n → b i = true → (97 + i ∈ chars (cat (((List.range' 0 n).filter e).map M)) ↔ e i = true) := fun e i hi hb => by
      rw [chars_cat, List.mem_flatMap]
      constructor
      · rintro ⟨y, hy, hm⟩
        obtain ⟨j, hj, rfl⟩ := List.mem_map.mp hy
        obtain ⟨hj1, hj2⟩ := List.mem_filter.mp hj
        have hjn := (List.mem_range'_1.mp hj1).2
        rw [← h2 j i (by omega) hi hm]; exact hj2
      · intro he
        exact ⟨M i, List.mem_map.mpr ⟨i, List.mem_filter.mpr ⟨List.mem_range'_1.mpr ⟨Nat.zero_le _, by omega⟩, he⟩, rfl⟩, h1 i hb⟩
    intro i hi hb
    rw [Bool.eq_iff_iff, ← key e i hi hb, ← key e' i hi hb, h]
  · intro h
    rw [cat_drop_none h0 ((List.range' 0 n).filter e), cat_drop_none h0 ((List.range' 0 n).filter e'), List.filter_filter, List.filter_filter]
    congr 2
    refine List.filter_congr fun i hi => ?_
    have hin := (List.mem_range'_1.mp hi).2
    cases hb : b i with
    | false => rfl
    | true => rw [h i (by omega) hb]

theorem Safe.one {c : Nat} (h1 : c ≠ 92) (h2 : c ≠ 34) : Safe [c] := by
  refine ⟨by show (if false = true then false else c == 92) = false; simpa using h1, fun i q hq => ?_⟩
  rw [escGo_cons, if_neg (by decide), if_neg h1] at hq
  rw [List.mem_singleton.mp hq]
  refine Bool.eq_false_iff.mpr fun e => h2 ?_
  have e2 : (⟨#[c]⟩ : Str) = ⟨#[34]⟩ := eq_of_beq e
  injection e2 with e3
  injection e3 with e4
  injection e4
theorem Safe.esc (c : Nat) : Safe [92, c] := by
  refine ⟨rfl, fun i q hq => ?_⟩
  have hq : q ∈ [(i + 1, ("\\" : Str) ++ ⟨#[c]⟩)] := hq
  rw [List.mem_singleton.mp hq]
  refine Bool.eq_false_iff.mpr fun e => ?_
  have e2 : (("\\" : Str) ++ ⟨#[c]⟩).length = (Str.ofString "\"").length := congrArg Str.length (eq_of_beq e)
  rw [Str.length_append] at e2
  exact absurd e2 (by show ¬ (1 + 1 = 1); decide)

theorem tab_ge {l : List Int} {a : Nat} (h : ∀ v ∈ l, (a : Int) ≤ v) {k : Nat} (hk : k < l.length) : a ≤ (l.getD k 0).toNat := by
  rw [List.getD_eq_getElem?_getD, List.getElem?_eq_getElem hk]
  have := h _ (List.getElem_mem hk)
  show a ≤ (l[k]).toNat
  omega

theorem cellW_safe (d p : Nat) : Safe (chars (cellW d p)) := by
  have hm : d / 12 % 27 < 27 := Nat.mod_lt _ (by decide)
  have hg : 119808 ≤ (greatL.getD (d / 12 % 27 % 10) 0 + (p : Int)).toNat := by
    have := tab_ge (l := greatL) (a := 119808) (by decide) (k := d / 12 % 27 % 10) (by show _ < 10; exact Nat.mod_lt _ (by decide))
    omega
  have hone : Safe [(greatL.getD (d / 12 % 27 % 10) 0 + (p : Int)).toNat] := Safe.one (by omega) (by omega)
  unfold cellW
  split
  · split
    · have := tab_ge (l := unseenL) (a := 173) (by decide) (k := d / 12 % 27) (by show _ < unseenL.length; rw [show unseenL.length = 27 by decide]; exact hm)
      exact Safe.one (by omega) (by omega)
    · have := tab_ge (l := tagsL) (a := 917505) (by decide) (k := d / 12 % 27 % 3) (by show _ < 3; exact Nat.mod_lt _ (by decide))
      exact Safe.one (by omega) (by omega)
  · rw [chars_append]
    unfold ahead
    split
    · exact Safe.append Safe.nil hone
    · exact Safe.append (a := [92, _]) (b := []) (Safe.esc _) Safe.nil
    · exact Safe.append (a := [92, 34]) (Safe.esc 34) hone
    · have := tab_ge (l := besideL) (a := 65040) (by decide) (k := d / 12 % 27 % 4) (by show _ < 4; exact Nat.mod_lt _ (by decide))
      exact Safe.append (a := [_]) (Safe.one (by omega) (by omega)) hone

theorem ahead_far (d : Nat) : ∀ c ∈ chars (ahead d), c = 92 ∨ c = 34 ∨ 1000 ≤ c := by
  intro c hc
  unfold ahead at hc
  split at hc
  · rw [show chars (Str.ofString "") = [] by decide] at hc; cases hc
  · have : c ∈ [92] := hc
    exact .inl (List.mem_singleton.mp this)
  · have : c ∈ [92, 34] := hc
    rcases List.mem_cons.mp this with e | e
    · exact .inl e
    · exact .inr (.inl (List.mem_singleton.mp e))
  · have h : c ∈ [(besideL.getD (d / 12 % 27 % 4) 0).toNat] := hc
    have := tab_ge (l := besideL) (a := 65040) (by decide) (k := d / 12 % 27 % 4) (by show _ < 4; exact Nat.mod_lt _ (by decide))
    rw [List.mem_singleton.mp h]
    omega

theorem cellM_none {d p : Nat} (h : d % 3 = 0) : cellM d p = ⟨#[]⟩ := by unfold cellM; rw [if_pos h]; exact str_empty
theorem cellM_some {d p : Nat} (h : ¬ d % 3 = 0) : 97 + p ∈ chars (cellM d p) := by
  unfold cellM
  rw [if_neg h, chars_append]
  exact List.mem_append_right _ (List.mem_singleton.mpr rfl)
theorem cellM_only {d p q : Nat} (hq : q < 5) (h : 97 + q ∈ chars (cellM d p)) : p = q := by
  unfold cellM at h
  split at h
  · exact absurd h (by rw [show chars (Str.ofString "") = [] by decide]; simp)
  · rw [chars_append] at h
    rcases List.mem_append.mp h with h | h
    · rcases ahead_far d _ h with e | e | e <;> omega
    · have h : 97 + q ∈ [97 + p] := h
      have := List.mem_singleton.mp h
      omega
end

-- part Q8
section
theorem bis_take {ns : List Int} {x r : Int} (h : BisAt ns x r) : ∀ y ∈ ns.take r.toNat, y ≤ x := by
  obtain ⟨h0, h1, h2, h3⟩ := h
  intro y hy
  obtain ⟨i, hi, rfl⟩ := List.mem_iff_getElem.mp hy
  rw [List.length_take] at hi
  have := h2 i (by omega)
  rw [List.getD_eq_getElem?_getD, List.getElem?_eq_getElem (by omega)] at this
  rw [List.getElem_take]
  exact this
theorem bis_drop {ns : List Int} {x r : Int} (h : BisAt ns x r) : ∀ y ∈ ns.drop r.toNat, x < y := by
  obtain ⟨h0, h1, h2, h3⟩ := h
  intro y hy
  obtain ⟨i, hi, rfl⟩ := List.mem_iff_getElem.mp hy
  rw [List.length_drop] at hi
  have := h3 (r.toNat + i) (by omega) (by omega)
  rw [List.getD_eq_getElem?_getD, List.getElem?_eq_getElem (by omega)] at this
  rw [List.getElem_drop]
  exact this

/-- insertion keeps the order -/
theorem ins_sorted {ns : List Int} {x r : Int} (hs : ns.Pairwise (· ≤ ·)) (h : BisAt ns x r) : (ns.take r.toNat ++ x :: ns.drop r.toNat).Pairwise (· ≤ ·) := by
  have h1 := bis_take h
  have h2 := bis_drop h
  rw [List.pairwise_append, List.pairwise_cons]
  refine ⟨hs.sublist (List.take_sublist _ _), ⟨fun y hy => Int.le_of_lt (h2 y hy), hs.sublist (List.drop_sublist _ _)⟩, fun a ha b hb => ?_⟩
  have := h1 a ha
  rcases List.mem_cons.mp hb with rfl | hb
  · exact this
  · have := h2 b hb; omega
theorem ins_perm (ns : List Int) (x : Int) (k : Nat) : (ns.take k ++ x :: ns.drop k).Perm (x :: ns) := by
  refine List.perm_middle.trans ?_
  rw [List.take_append_drop]
theorem ins_count (ns : List Int) (x : Int) (k : Nat) (i : Int) : (ns.take k ++ x :: ns.drop k).countP (fun y => decide (y ≤ i)) = ns.countP (fun y => decide (y ≤ i)) + if x ≤ i then 1 else 0 := by
  rw [(ins_perm ns x k).countP_eq, List.countP_cons]
  by_cases h : x ≤ i <;> simp [h]

/-- bisect_right counts -/
theorem bis_count {ns : List Int} {x r : Int} (h : BisAt ns x r) : r = (ns.countP fun y => decide (y ≤ x) : Nat) := by
  have h1 := bis_take h
  have h2 := bis_drop h
  have h0 := h.1
  have hl := h.2.1
  have e : ns.countP (fun y => decide (y ≤ x)) = r.toNat := by
    rw [← List.take_append_drop r.toNat ns, List.countP_append]
    have e1 : (ns.take r.toNat).countP (fun y => decide (y ≤ x)) = (ns.take r.toNat).length := List.countP_eq_length.mpr fun y hy => decide_eq_true (h1 y hy)
    have e2 : (ns.drop r.toNat).countP (fun y => decide (y ≤ x)) = 0 := List.countP_eq_zero.mpr fun y hy => by have := h2 y hy; simp; omega
    rw [e1, e2, List.length_take]; omega
  rw [e]; omega

/-- the marks of a pick after k ties -/
structure Marks (ps : List (Nat × Nat)) (n k pick : Nat) (ns : List Int) : Prop where
  srt : ns.Pairwise (· ≤ ·)
  rng : ∀ x ∈ ns, 0 ≤ x ∧ x ≤ (n : Int)
  len : ns.length % 2 = 0 ∧ ns.length ≤ 2 * k
  cnt : ∀ i : Nat, (ns.countP fun y => decide (y ≤ (i : Int))) % 2 = if vb ps k pick i then 1 else 0

theorem Marks.nil {ps : List (Nat × Nat)} {n pick : Nat} : Marks ps n 0 pick [] := ⟨.nil, (fun _ h => nomatch h), ⟨rfl, Nat.le_refl _⟩, fun _ => rfl⟩
theorem Marks.skip {ps : List (Nat × Nat)} {n k pick : Nat} {ns : List Int} (x : Marks ps n k pick ns) (h : ¬ pick / 2 ^ k % 2 = 1) : Marks ps n (k + 1) pick ns := by
  refine ⟨x.srt, x.rng, ⟨x.len.1, by have := x.len.2; omega⟩, fun i => ?_⟩
  rw [x.cnt i, vb, testBit_div, decide_eq_false h]; simp
theorem Marks.put {ps : List (Nat × Nat)} {n k pick : Nat} {ns : List Int} {r r' : Int} (x : Marks ps n k pick ns) (h : pick / 2 ^ k % 2 = 1) (hn : (ps.getD k (0, 0)).1 ≤ n ∧ (ps.getD k (0, 0)).2 ≤ n)
    (h1 : BisAt ns ((ps.getD k (0, 0)).1 : Nat) r) (h2 : BisAt (ns.take r.toNat ++ (((ps.getD k (0, 0)).1 : Nat) : Int) :: ns.drop r.toNat) ((ps.getD k (0, 0)).2 : Nat) r') :
    Marks ps n (k + 1) pick ((ns.take r.toNat ++ (((ps.getD k (0, 0)).1 : Nat) : Int) :: ns.drop r.toNat).take r'.toNat ++ (((ps.getD k (0, 0)).2 : Nat) : Int) :: (ns.take r.toNat ++ (((ps.getD k (0, 0)).1 : Nat) : Int) :: ns.drop r.toNat).drop r'.toNat) := by
  have p1 := ins_perm ns (((ps.getD k (0, 0)).1 : Nat) : Int) r.toNat
  have p2 := ins_perm (ns.take r.toNat ++ (((ps.getD k (0, 0)).1 : Nat) : Int) :: ns.drop r.toNat) (((ps.getD k (0, 0)).2 : Nat) : Int) r'.toNat
  refine ⟨ins_sorted (ins_sorted x.srt h1) h2, fun y hy => ?_, ?_, fun i => ?_⟩
  · rcases List.mem_cons.mp (p2.mem_iff.mp hy) with rfl | hy
    · omega
    · rcases List.mem_cons.mp (p1.mem_iff.mp hy) with rfl | hy
      · omega
      · exact x.rng y hy
  · have e1 := p1.length_eq
    have e2 := p2.length_eq
    rw [List.length_cons] at e1 e2
    have := x.len
    omega
  · rw [ins_count, ins_count, vb, testBit_div, decide_eq_true h, Bool.true_and]
    have hc := x.cnt i
    by_cases a : (ps.getD k (0, 0)).1 ≤ i <;> by_cases c : (ps.getD k (0, 0)).2 ≤ i
    · rw [if_pos (by omega), if_pos (by omega), decide_eq_true a, decide_eq_true c]
      cases hv : vb ps k pick i <;> rw [hv] at hc <;> simp at hc ⊢ <;> omega
    · rw [if_pos (by omega), if_neg (by omega), decide_eq_true a, decide_eq_false c]
      cases hv : vb ps k pick i <;> rw [hv] at hc <;> simp at hc ⊢ <;> omega
    · rw [if_neg (by omega), if_pos (by omega), decide_eq_false a, decide_eq_true c]
      cases hv : vb ps k pick i <;> rw [hv] at hc <;> simp at hc ⊢ <;> omega
    · rw [if_neg (by omega), if_neg (by omega), decide_eq_false a, decide_eq_false c]
      cases hv : vb ps k pick i <;> rw [hv] at hc <;> simp at hc ⊢ <;> omega

/-- the text of a pick -/
noncomputable def textOf (M : Nat → Str) (ps : List (Nat × Nat)) (n pick : Nat) : Str := cat (((List.range' 0 n).filter fun i => !vb ps ps.length pick i).map M)
theorem evens_of {ps : List (Nat × Nat)} {n pick : Nat} {ns : List Int} (x : Marks ps n ps.length pick ns) : evens ns 0 n = (List.range' 0 n).filter fun i => !vb ps ps.length pick i := by
  unfold evens
  refine List.filter_congr fun i _ => ?_
  rw [x.cnt i]
  cases vb ps ps.length pick i <;> rfl

section
variable {b : Nat → Bool} {M : Nat → Str} {ps : List (Nat × Nat)} {n : Nat} {rs : List Int}
    (h0 : ∀ i, b i = false → M i = ⟨#[]⟩) (h1 : ∀ i, b i = true → 97 + i ∈ chars (M i)) (h2 : ∀ i j, i < n → j < n → 97 + j ∈ chars (M i) → i = j)
    (hps : ∀ k, (ps.getD k (0, 0)).1 ≤ n ∧ (ps.getD k (0, 0)).2 ≤ n)

noncomputable def same (M : Nat → Str) (ps : List (Nat × Nat)) (n : Nat) (p q : Nat) : Bool := decide (textOf M ps n p = textOf M ps n q)

include h0 h1 h2 hps in
theorem same_iff (p q : Nat) : same M ps n p q = true ↔ ∀ j, wv (ends b ps) ps.length p j = wv (ends b ps) ps.length q j := by
  rw [same, decide_eq_true_eq, textOf, textOf, text_iff h0 h1 h2, ← vb_iff hps]
  constructor
  · intro h i hi hb; have := h i hi hb; exact Bool.not_inj this
  · intro h i hi hb; rw [h i hi hb]

include h0 h1 h2 hps in
theorem same_xor (hr : ∀ e ∈ ps, rs.getD e.1 0 = (rm b e.1 : Nat) ∧ rs.getD e.2 0 = (rm b e.2 : Nat)) (p q : Nat) : same M ps n p q = decide (oddGo (p ^^^ q) rs 0 [] ps = []) := by
  rw [Bool.eq_iff_iff, same_iff h0 h1 h2 hps, decide_eq_true_eq, even_iff hr]
  constructor
  · intro h j; rw [wv_xor, h j, Bool.xor_self]
  · intro h j
    have := h j
    rw [wv_xor] at this
    cases e1 : wv (ends b ps) ps.length p j <;> cases e2 : wv (ends b ps) ps.length q j <;> simp_all

include h0 h1 h2 hps in
/-- the number of texts -/
theorem texts_count : (firsts (same M ps n) (2 ^ ps.length)).length = 2 ^ (rm b n + 1 - dn (ends b ps) (rm b n) ps.length) :=
  firsts_count (fun k => by rw [ends_get]; exact ⟨rm_mono b (hps k).1, rm_mono b (hps k).2⟩) (fun p q _ _ => same_iff h0 h1 h2 hps p q) ps.length (Nat.le_refl _)

include h0 h1 h2 hps in
/-- a group of picks is its first xor the still ones, sorted -/
theorem group_sorted (hr : ∀ e ∈ ps, rs.getD e.1 0 = (rm b e.1 : Nat) ∧ rs.getD e.2 0 = (rm b e.2 : Nat)) {g : Nat} (hg : g < 2 ^ ps.length) {l : List Nat} (hs : l.Pairwise (· ≤ ·))
    (hp : l.Perm (((List.range (2 ^ ps.length)).filter fun p => decide (oddGo p rs 0 [] ps = [])).map (g ^^^ ·))) : l = kind (same M ps n) g (2 ^ ps.length) :=
  kind_sorted hg (fun p q _ _ => same_xor h0 h1 h2 hps hr p q) hs hp
end
end

-- part M15
section
theorem afreshM15 : True := by
  w_top off
  trivial
/-- the cells of law -/
noncomputable abbrev csL (L : Addr) : List (Str × Addr) := cellsFrom (L + 1) (scopeAt 17).names []
theorem csL_eq (L : Addr) : csL L = [((Str.ofString "group"), L + 1 + 1 + 1 + 1 + 1 + 1 + 1 + 1 + 1), ((Str.ofString "marks"), L + 1 + 1 + 1 + 1 + 1 + 1 + 1 + 1), ((Str.ofString "other"), L + 1 + 1 + 1 + 1 + 1 + 1 + 1), ((Str.ofString "one"), L + 1 + 1 + 1 + 1 + 1 + 1), ((Str.ofString "parts"), L + 1 + 1 + 1 + 1 + 1), ((Str.ofString "room"), L + 1 + 1 + 1 + 1), ((Str.ofString "ties"), L + 1 + 1 + 1), ((Str.ofString "meant"), L + 1 + 1), ((Str.ofString "size"), L + 1)] := rfl
theorem csL_apart (L : Addr) : (csL L).Pairwise fun x y => x.2 ≠ y.2 := by
  rw [csL_eq]
  have h : ∀ a b : Nat, b < a → a ≠ b := fun a b h => Nat.ne_of_gt h
  simp only [List.pairwise_cons, List.mem_cons, List.not_mem_nil, or_false, forall_eq_or_imp, forall_eq]
  refine ⟨⟨?_, ?_, ?_, ?_, ?_, ?_, ?_, ?_⟩, ⟨?_, ?_, ?_, ?_, ?_, ?_, ?_⟩, ⟨?_, ?_, ?_, ?_, ?_, ?_⟩, ⟨?_, ?_, ?_, ?_, ?_⟩, ⟨?_, ?_, ?_, ?_⟩, ⟨?_, ?_, ?_⟩, ⟨?_, ?_⟩, ?_, ?_⟩ <;> first | (apply h; show (_ : Nat) < _; omega) | simp
theorem csL_above (L : Addr) : ∀ n c, (n, c) ∈ csL L → L < c := by
  intro n c hm
  rw [csL_eq] at hm
  simp only [List.mem_cons, Prod.mk.injEq, List.not_mem_nil, or_false] at hm
  rcases hm with ⟨_, e⟩ | ⟨_, e⟩ | ⟨_, e⟩ | ⟨_, e⟩ | ⟨_, e⟩ | ⟨_, e⟩ | ⟨_, e⟩ | ⟨_, e⟩ | ⟨_, e⟩ <;> (rw [e]; show (_ : Nat) < _; omega)

section
variable {M : Model} {A : Around} {E : Value → Shared → Prop} {s : Shared} {L a : Addr} {cd : Value} {h₀ : Heap} {m cm : Str → Option Value} {news front cells : List (Addr × Obj)}

theorem cellsCl (N : News h₀ L s.heap news) (X : CellsAre cm (csL L) cells) (hsub : ∀ q ∈ cells, q ∈ news) : Cl L (csL L) s.heap cm :=
  Cl.of_news (own := []) (h₀ := h₀) (fun p hp => N p (hsub p hp)) X (csL_apart L) (csL_above L)

theorem ldCell {x : Str} {c : Addr} {pos : Pos} {v : Value} {Q : Value → Shared → Prop} (N : News h₀ L s.heap news) (X : CellsAre cm (csL L) cells) (hsub : ∀ q ∈ cells, q ∈ news) (hv : cm x = some v) (h : Q v s)
    (hc : (csL L).lookup x = some c := by rfl) (hl : (envOfC (nameAt 17) (scopeAt 17) L a cd).kindOf x = some .cell := by rfl) (hd : (x == ("__debug__" : Str)) = false := by decide) :
    wpAny M A (eval (.Name x pos) (envOfC (nameAt 17) (scopeAt 17) L a cd)) Q E s := ldC (cellsCl N X hsub) hc hv h rfl hl hd

theorem cells_news {h : Heap} (F : Fr h₀ L h m) (C : Cl L (csL L) h cm) : ∃ cells, News h₀ L h cells ∧ CellsAre cm (csL L) cells := by
  refine Cl.news F.above fun n c hm => ⟨C.cell n c (lookup_of_mem_nodup ?_ hm), csL_above L n c hm⟩
  exact (by decide : (List.map (·.1) [(Str.ofString "group", 0), (Str.ofString "marks", 0), (Str.ofString "other", 0), (Str.ofString "one", 0), (Str.ofString "parts", 0), (Str.ofString "room", 0), (Str.ofString "ties", 0), (Str.ofString "meant", 0), (Str.ofString "size", 0)]).Nodup)

/-- a store into a cell: what stands in front is no cell -/
theorem stCell {x : Str} {c : Addr} {v : Value} {Q : Unit → Shared → Prop} (F : Fr h₀ L s.heap m) (N : News h₀ L s.heap (front ++ cells)) (X : CellsAre cm (csL L) cells) (hf : ∀ p ∈ front, ∀ v, p.2.data ≠ .cell v)
    (h : ∀ h' cells', Fr h₀ L h' m → News h₀ L h' (front ++ cells') → CellsAre (fun y => if y = x then some v else cm y) (csL L) cells' → Q () { s with heap := h' })
    (hc : (csL L).lookup x = some c := by rfl) (hl : (envOfC (nameAt 17) (scopeAt 17) L a cd).kindOf x = some .cell := by rfl) :
    wpAny M A (storeName (envOfC (nameAt 17) (scopeAt 17) L a cd) x v) Q E s := by
  have C := cellsCl N X (fun q hq => List.mem_append_right _ hq)
  have hic := C.cell x c hc
  refine wpAny_storeName_cell rfl hl hc hic fun h' hv hs => ?_
  have hLc : L < c := C.above x c (mem_of_lookup hc)
  have F' : Fr h₀ L h' m := ⟨F.ns.sameBut hs (Nat.ne_of_lt hLc), fun b o e => (hs.2 b (Nat.ne_of_lt (Nat.lt_trans (Nat.lt_of_lt_of_le (Heap.lt_size e) F.above) hLc))).trans (F.keep b o e), F.above⟩
  have C' : Cl L (csL L) h' (fun y => if y = x then some v else cm y) := by
    refine ⟨fun n c' e => ?_, C.apart, C.above⟩
    by_cases hn : n = x
    · subst hn; rw [hc] at e; cases e; simpa using hv
    · have hcc : c' ≠ c := fun q => hn (name_of_addr C.apart (mem_of_lookup e) (q ▸ mem_of_lookup hc))
      simpa [hn] using (C.cell n c' e).sameBut hs hcc
  obtain ⟨cells', N', X'⟩ := cells_news F' C'
  refine h h' cells' F' (fun p hp => ?_) X'
  rcases List.mem_append.mp hp with hp | hp
  · have hN := N p (List.mem_append_left _ hp)
    refine ⟨(hs.2 p.1 fun e => ?_).trans hN.1, hN.2⟩
    obtain ⟨o, ho, hd⟩ := hic
    have hN1 := hN.1
    rw [e, ho] at hN1
    exact hf p hp _ ((congrArg Obj.data (Option.some.inj hN1)).symm.trans hd)
  · exact N' p hp
end
end

-- part M16
section
theorem afreshM16 : True := by
  w_top off
  trivial
/-- the sets and the table that the top makes -/
noncomputable def S1 (c : Int) : Bool := decide (c ∈ unseenL)
noncomputable def S9 (c : Int) : Bool := decide (c = 917505) || (decide (917536 ≤ c) && decide (c < 917632))

/-- what the top has left: the names that law reaches -/
structure TopOk (w : World) (D : List (PyData × PyData)) (mg mb : Str → Option Value) (h : Heap) : Prop where
  G : GlobM mg mb h
  b1 : ∃ sa n, mg "b1_set" = some (.ref sa) ∧ h.SetOf (intKind P w) sa S1 n
  c9 : ∃ sa n, mg "c9_set" = some (.ref sa) ∧ h.SetOf (intKind P w) sa S9 n
  b3 : ∃ da, mg "b3_exceptions" = some (.ref da) ∧ IntTab P w h da D
  f2 : ∃ a cd, mg "in_table_b1" = some (.ref a) ∧ FnAt 2 h a cd .none .none
  f4 : ∃ a cd, mg "map_table_b3" = some (.ref a) ∧ FnAt 4 h a cd .none .none
  f6 : ∃ a cd, mg "in_table_c9" = some (.ref a) ∧ FnAt 6 h a cd .none .none
  f8 : ∃ a cd T D, mg "insort_right" = some (.ref a) ∧ FnAt 8 h a cd (.ref T) (.ref D) ∧ KwD h T D
  f9 : ∃ a cd T D, mg "bisect_right" = some (.ref a) ∧ FnAt 9 h a cd (.ref T) (.ref D) ∧ KwD h T D
  f11 : ∃ a cd, mg "_iter_escaped_chars" = some (.ref a) ∧ FnAt 11 h a cd .none .none
  f12 : ∃ a cd, mg "_strip_quoted_realnames" = some (.ref a) ∧ FnAt 12 h a cd .none .none
  f14 : ∃ a cd, mg "_law_cells" = some (.ref a) ∧ FnAt 14 h a cd .none .none
  f15 : ∃ a cd, mg "_law_even" = some (.ref a) ∧ FnAt 15 h a cd .none .none
  f16 : ∃ a cd, mg "_law_marked" = some (.ref a) ∧ FnAt 16 h a cd .none .none

theorem TopOk.keeps {w : World} {D : List (PyData × PyData)} {mg mb : Str → Option Value} {h h' : Heap} (x : TopOk w D mg mb h) (k : ∀ b o, h.get? b = some o → h'.get? b = some o) : TopOk w D mg mb h' where
  G := x.G.keeps k
  b1 := let ⟨sa, n, a, b⟩ := x.b1; ⟨sa, n, a, setOf_keeps b k⟩
  c9 := let ⟨sa, n, a, b⟩ := x.c9; ⟨sa, n, a, setOf_keeps b k⟩
  b3 := let ⟨da, a, b⟩ := x.b3; ⟨da, a, b.keep k⟩
  f2 := let ⟨a, cd, e, b⟩ := x.f2; ⟨a, cd, e, b.keeps k⟩
  f4 := let ⟨a, cd, e, b⟩ := x.f4; ⟨a, cd, e, b.keeps k⟩
  f6 := let ⟨a, cd, e, b⟩ := x.f6; ⟨a, cd, e, b.keeps k⟩
  f8 := let ⟨a, cd, T, D, e, b, c⟩ := x.f8; ⟨a, cd, T, D, e, b.keeps k, c.keeps k⟩
  f9 := let ⟨a, cd, T, D, e, b, c⟩ := x.f9; ⟨a, cd, T, D, e, b.keeps k, c.keeps k⟩
  f11 := let ⟨a, cd, e, b⟩ := x.f11; ⟨a, cd, e, b.keeps k⟩
  f12 := let ⟨a, cd, e, b⟩ := x.f12; ⟨a, cd, e, b.keeps k⟩
  f14 := let ⟨a, cd, e, b⟩ := x.f14; ⟨a, cd, e, b.keeps k⟩
  f15 := let ⟨a, cd, e, b⟩ := x.f15; ⟨a, cd, e, b.keeps k⟩
  f16 := let ⟨a, cd, e, b⟩ := x.f16; ⟨a, cd, e, b.keeps k⟩
end

-- part M17
theorem afreshM17 : True := by
  w_top off
  trivial
theorem gnameC {M : Model} {A : Around} {E : Value → Shared → Prop} {s : Shared} {name : Str} {scope : Scope} {L a : Addr} {cd : Value} {h₀ : Heap} {m mg mb : Str → Option Value} {x : Str} {pos : Pos} {v : Value} {Q : Value → Shared → Prop}
    (F : Fr h₀ L s.heap m) (G : GlobM mg mb h₀) (hv : mg x = some v) (h : Q v s) (hk : scope.kind = .function := by rfl) (hx : (envOfC name scope L a cd).kindOf x = some .globalImplicit := by rfl) (hd : (x == ("__debug__" : Str)) = false := by decide) :
    wpAny M A (eval (.Name x pos) (envOfC name scope L a cd)) Q E s :=
  Calls.Name_function_global hk hx (Calls.loadGlobal_global (G.g.keeps F.keep) hv h) hd

local macro_rules | `(tactic| walk_at "csub") => `(tactic| (intro q hq; (repeat (first | exact hq | exact List.mem_append_right _ hq | refine List.mem_cons_of_mem _ ?_))))
local macro_rules | `(tactic| walk_at "eval Name") => `(tactic| (refine gnameC (by assumption) (by assumption) (by assumption) ?_))
local macro_rules | `(tactic| walk_at "eval Name") => `(tactic| (refine ldCell (by assumption) (by assumption) (by walk_at "csub") (by walk_at "mlook") ?_))
local macro_rules | `(tactic| walk_at "eval Name") => `(tactic| (refine ldLoc (by assumption) (by walk_at "mlook") ?_))

noncomputable abbrev envL (L a : Addr) (cd : Value) : Env := envOfC (nameAt 17) (scopeAt 17) L a cd
noncomputable def stm (i : Nat) : List Stmt := ((bodyAt 17).drop i).take 1
noncomputable def sizeOf (xs : List Int) : Nat := if 3 < xs.length then 5 else 4

theorem execs_append (env : Env) (l2 : List Stmt) : ∀ l1 : List Stmt, execs (l1 ++ l2) env = (execs l1 env >>= fun f => match f with | .next => execs l2 env | f => pure f)
  | [] => rfl
  | st :: l1 => by
    rw [List.cons_append, execs_cons, execs_cons, bind_assoc]
    congr 1
    funext f
    cases f with
    | next => exact execs_append env l2 l1
    | _ => rfl
theorem execs_app {M : Model} {A : Around} {E : Value → Shared → Prop} {Q : Flow → Shared → Prop} {env : Env} {l1 l2 : List Stmt} {s : Shared}
    (h : wpAny M A (execs l1 env) (fun f s' => match f with | .next => wpAny M A (execs l2 env) Q E s' | f => Q f s') E s) : wpAny M A (execs (l1 ++ l2) env) Q E s := by
  rw [execs_append]
  refine wpAny_bind (wpAny_mono h (fun f s' h' => ?_) fun _ _ x => x)
  cases f with
  | next => exact h'
  | _ => exact wpAny_pure h'

/-- size = 5 if len(script) > 3 else 4 -/
theorem law_size {w : World} {A : Around} {s : Shared} {h₀ : Heap} {L a ls : Addr} {cd : Value} {m cm mg mb : Str → Option Value} {gn cells : List (Addr × Obj)} {is : List Value} {xs : List Int}
    (G : GlobM mg mb h₀) (F : Fr h₀ L s.heap m) (N : News h₀ L s.heap (gn ++ cells)) (X : CellsAre cm (csL L) cells) (hgn : ∀ p ∈ gn, ∀ v, p.2.data ≠ .cell v) (hls : h₀.IsList ls is.toArray) (hi : IntsAre is xs) (hfit : xs.length < 1000000) (m1 : m "script" = some (.ref ls)) :
    wpAny (model P w) A (execs (stm 0) (envL L a cd)) (fun f s' => f = .next ∧ ∃ h tk t cells', s' = { s with heap := h, toks := tk } ∧ Fr h₀ L h m ∧ News h₀ L h (gn ++ cells') ∧ CellsAre (fun y => if y = "size" then some (.int (sizeOf xs : Nat) t) else cm y) (csL L) cells') (fun _ _ => False) s := by
  have hil := IntsAre.length hi
  unfold stm bodyAt
  walk_at "go"
  · rename_i hlt
    refine stCell F N X hgn fun h' cells' F' N' X' => ?_
    refine wpAny_execs_nil ?_
    have e : sizeOf xs = 5 := by unfold sizeOf; rw [if_pos (by simp at hlt; omega)]
    exact ⟨rfl, h', _, _, cells', rfl, F', N', by rw [e]; exact X'⟩
  · rename_i hlt
    refine stCell F N X hgn fun h' cells' F' N' X' => ?_
    refine wpAny_execs_nil ?_
    have e : sizeOf xs = 4 := by unfold sizeOf; rw [if_neg (by simp at hlt; omega)]
    exact ⟨rfl, h', _, _, cells', rfl, F', N', by rw [e]; exact X'⟩

-- part M18
section
theorem afreshM18 : True := by
  w_top off
  trivial
section
variable {prog : Program} {w : World} {A : Around} {E : Value → Shared → Prop} {s : Shared}
theorem sub_any {value slice : Expr} {o i : Value} {T id : String} {ops : List Value} {Q : Value → Shared → Prop} (hT : s.TypeIs o T)
    (hl : typeLookup (.type T) "__getitem__" = pure (some (.builtin id))) (h : wpAny (model prog w) A (getItem o i) Q E s)
    (hs : subscripted slice false o i = operate ops (getItem o i)) : wpAny (model prog w) A (subscriptTail value slice o i) Q E s := by
  unfold subscriptTail
  refine wpAny_bind ?_
  rw [getitemInPython_of_ne hT.not_modules]
  refine wpAny_bind (wpAny_specialOf hT hl ?_)
  have fin : wpAny (model prog w) A (subscripted slice false o i) (fun r s₃ => wpAny (model prog w) A (letTemporaryGo value o r >>= fun _ => pure r) Q E s₃) E s := by
    rw [hs]
    exact wpAny_operating (wpAny_mono h (fun r s₃ h₃ => wpAny_bind (wpAny_letTemporaryGo (wpAny_pure h₃))) fun _ _ x => x)
  first
    | exact wpAny_pure (wpAny_bind fin)
    | exact wpAny_bind (wpAny_pure (wpAny_bind fin))
    | exact wpAny_bind fin

/-- a slice of any list, a temporary one too -/
theorem slice_tmp {value slice : Expr} {l : Addr} {items : Array Value} {vl vu : Value} {lo hi : Option Int} {Q : Value → Shared → Prop}
    (hl : s.heap.IsList l items) (pl : IsPart vl lo) (pu : IsPart vu hi)
    (h : Q (.ref (s.heap.objs.size + 1)) { s with heap := (s.heap.push { cls := .type "slice", data := .fields #[vl, vu, .none] }).push { cls := .type "list", data := .seq (slicePick items lo hi none) } })
    (hs : subscripted slice false (.ref l) (.ref s.heap.objs.size) = operate [.ref s.heap.objs.size, .ref l] (getItem (.ref l) (.ref s.heap.objs.size)) := by with_unfolding_all rfl)
    (hsz : items.size ≤ sizeLine := by size_fits) :
    wpAny (model prog w) A (subscriptTail value slice (.ref l) (.ref s.heap.objs.size)) Q E { s with heap := s.heap.push { cls := .type "slice", data := .fields #[vl, vu, .none] } } := by
  refine sub_any (Heap.IsList.typeIs (s := { s with heap := s.heap.push { cls := .type "slice", data := .fields #[vl, vu, .none] } }) (hl.push _)) list_getitem_lookup
    (wpAny_getItem_list_slice (hl.push _) (Heap.IsSliceOf.new ..) pl pu .none (by simp) ?_ hsz) hs
  show Q (.ref (s.heap.push _).objs.size) _
  rw [Heap.size_push]
  exact h

theorem slice_tmpN {h₀ : Heap} {L : Addr} {m : Str → Option Value} {news : List (Addr × Obj)} {value slice : Expr} {l : Addr} {items : Array Value} {vl vu : Value} {lo hi : Option Int} {Q : Value → Shared → Prop}
    (F : Fr h₀ L s.heap m) (N : News h₀ L s.heap news) (hl : s.heap.IsList l items) (pl : IsPart vl lo) (pu : IsPart vu hi)
    (h : ∀ h', Fr h₀ L h' m → News h₀ L h' ((s.heap.objs.size + 1, { cls := .type "list", data := .seq (slicePick items lo hi none) }) :: news) → Q (.ref (s.heap.objs.size + 1)) { s with heap := h' })
    (hs : subscripted slice false (.ref l) (.ref s.heap.objs.size) = operate [.ref s.heap.objs.size, .ref l] (getItem (.ref l) (.ref s.heap.objs.size)) := by with_unfolding_all rfl)
    (hsz : items.size ≤ sizeLine := by size_fits) :
    wpAny (model prog w) A (subscriptTail value slice (.ref l) (.ref s.heap.objs.size)) Q E { s with heap := s.heap.push { cls := .type "slice", data := .fields #[vl, vu, .none] } } := by
  refine slice_tmp hl pl pu (h _ ((F.push _).push _) ?_) hs hsz
  have N1 := News.push (F.push { cls := .type "slice", data := .fields #[vl, vu, .none] }) (News.push F N { cls := .type "slice", data := .fields #[vl, vu, .none] }) { cls := .type "list", data := .seq (slicePick items lo hi none) }
  intro p hp
  refine N1 p ?_
  rcases List.mem_cons.mp hp with rfl | hp
  · rw [Heap.size_push]; exact .head _
  · exact .tail _ (.tail _ hp)
end
end

-- part M19
section
theorem afreshM19 : True := by
  w_top off
  trivial
section
variable {prog : Program} {w : World} {A : Around} {E : Value → Shared → Prop} {s : Shared} {env : Env} {h₀ : Heap} {L : Addr} {m : Str → Option Value} {news : List (Addr × Obj)}

/-- a comprehension's turn, in a frame of its own above the heap in which the iterable was made -/
structure QuietF (prog : Program) (w : World) (A : Around) (env : Env) (scope : Scope) (cl : List (Str × Addr)) (x : Str) (ifs : List Expr) (elt : Expr) (P : Nat → Value → Prop) (p : Value → Bool) (R : Value → Value → Prop) (h : Heap) : Prop where
  tests : ∀ C i v s₃ m₃ E', P i v → Fr h C s₃.heap m₃ → m₃ x = some v →
    wpAny (model prog w) A (forIn ifs true fun c r => if r = true then do let ok ← isTrue c (compEnvC scope cl C env) (eval c (compEnvC scope cl C env)); pure (ForInStep.yield ok) else pure (ForInStep.yield r))
      (fun ok s₄ => ok = p v ∧ Keeps s₃ s₄) E' s₃
  elt : ∀ C i v s₃ m₃ E', P i v → p v = true → Fr h C s₃.heap m₃ → m₃ x = some v →
    wpAny (model prog w) A (eval elt (compEnvC scope cl C env)) (fun y s₄ => R v y ∧ Keeps s₃ s₄) E' s₃

theorem fr_behind {h : Heap} {o : Obj} {C : Addr} {h₃ : Heap} {m₃ : Str → Option Value} (hC : (h.push o).objs.size ≤ C) (hn : h₃.Ns C m₃)
    (hk : ∀ b o', b ∉ [h.objs.size] → (h.push o).get? b = some o' → h₃.get? b = some o') : Fr h C h₃ m₃ :=
  ⟨hn, fun b o' e => hk b o' (fun hm => Nat.lt_irrefl _ (by have := Heap.lt_size e; rwa [List.mem_singleton.mp hm] at this)) (Heap.get?_push_of_some _ e), by rw [Heap.size_push] at hC; exact Nat.le_of_lt hC⟩

theorem QuietF.toC {scope : Scope} {cl : List (Str × Addr)} {x : Str} {ifs : List Expr} {elt : Expr} {P : Nat → Value → Prop} {p : Value → Bool} {R : Value → Value → Prop} {o : Obj}
    (q : QuietF prog w A env scope cl x ifs elt P p R s.heap) : QuietOnC prog w A env scope cl x ifs elt [s.heap.objs.size] P p R { s with heap := s.heap.push o } where
  tests := fun C i v s₃ m₃ E' hC hP hn hm hk _ => q.tests C i v s₃ m₃ E' hP (fr_behind hC hn hk) hm
  elt := fun C i v s₃ m₃ E' hC hP hp hn hm hk _ => q.elt C i v s₃ m₃ E' hP hp (fr_behind hC hn hk) hm

theorem fr_after {h h' : Heap} {o : Obj} (F : Fr h₀ L h m) (hk : ∀ b o', b ∉ [h.objs.size] → (h.push o).get? b = some o' → h'.get? b = some o') : ∀ b o', h.get? b = some o' → h'.get? b = some o' :=
  fun b o' e => hk b o' (fun hm => Nat.lt_irrefl _ (by have := Heap.lt_size e; rwa [List.mem_singleton.mp hm] at this)) (Heap.get?_push_of_some _ e)

/-- what a comprehension hands on: a list that none knew -/
theorem new_list {h h' : Heap} {o : Obj} {D : Addr} {ys : Array Value} (F : Fr h₀ L h m) (hD : (h.push o).get? D = none) (hp : h'.PlainList D ys) :
    ∃ e, h'.get? D = some { cls := .type "list", data := .seq (List.toArray ys.toList) e } ∧ D ≠ L ∧ h₀.get? D = none ∧ h.get? D = none := by
  obtain ⟨e, ho⟩ := hp
  have hD5 : h.get? D = none := by
    cases q : h.get? D with
    | none => rfl
    | some o' => rw [Heap.get?_push_of_some o q] at hD; cases hD
  refine ⟨e, by simpa using ho, fun q => ?_, ?_, hD5⟩
  · obtain ⟨oL, _, _, hoL, _⟩ := F.ns
    rw [q, hoL] at hD5; cases hD5
  · cases q : h₀.get? D with
    | none => rfl
    | some o' => rw [F.keep _ _ q] at hD5; cases hD5

/-- a comprehension as a value -/
theorem comp_expr {elt : Expr} {x : Str} {ifs : List Expr} {scope : Scope} {cl : List (Str × Addr)} {v : Value} {o : Obj} {fp : List Addr} {n : Nat} {Pz : Nat → Value → Prop} {St : Nat → Heap → Prop} {Q : Value → Shared → Prop}
    (p : Value → Bool) (R : Value → Value → Prop)
    (hit : ∀ Q, Q (.ref s.heap.objs.size) { s with heap := s.heap.push o } → wpAny (model prog w) A (pyIter v) Q E s)
    (W : Walks prog w A s.heap.objs.size fp [s.heap.objs.size] n Pz St) (hsz : n ≤ sizeLine) (hfp : ∀ b ∈ fp, b ≤ s.heap.objs.size) (hst : St 0 (s.heap.push o))
    (F : Fr h₀ L s.heap m) (N : News h₀ L s.heap news)
    (hq : QuietF prog w A env scope cl x ifs elt Pz p R s.heap)
    (k : ∀ D h' tk ys (vs : List Value) e, Fr h₀ L h' m → News h₀ L h' ((D, { cls := .type "list", data := .seq (List.toArray ys) e }) :: news) → (∀ b o', s.heap.get? b = some o' → h'.get? b = some o') → s.heap.get? D = none →
      vs.length = n → (∀ j v, vs[j]? = some v → Pz j v) → Paired R (vs.filter p) ys → Q (.ref D) { s with heap := h', toks := tk }) :
    wpAny (model prog w) A (pyIter v) (fun it s₂ => ∃ I fp wr n P St, it = .ref I ∧ Walks prog w A I fp wr n P St ∧ n ≤ sizeLine ∧ St 0 s₂.heap ∧ (∀ b ∈ fp, b < s₂.heap.objs.size) ∧
      QuietOnC prog w A env scope cl x ifs elt wr P p R s₂ ∧
      (∀ D h' tk ys (vs : List Value), s₂.heap.get? D = none → h'.IsList D ys → h'.PlainList D ys → vs.length = n → (∀ j v, vs[j]? = some v → P j v) → Paired R (vs.filter p) ys.toList →
        (∀ b o, b ∉ wr → s₂.heap.get? b = some o → h'.get? b = some o) → Q (.ref D) { s₂ with heap := h', toks := tk })) E s := by
  refine hit _ ⟨_, fp, _, n, Pz, St, rfl, W, hsz, hst, fun b hb => ?_, hq.toC, fun D h' tk ys vs hD _ hp hl hP hF hk => ?_⟩
  · show b < (s.heap.push o).objs.size
    rw [Heap.size_push]; exact Nat.lt_succ_of_le (hfp b hb)
  · obtain ⟨e, he, h1, h2, h3⟩ := new_list F hD hp
    have hk' := fr_after F hk
    refine k D h' tk ys.toList vs e (F.keeps hk') (fun q hq => ?_) hk' h3 hl hP hF
    rcases List.mem_cons.mp hq with rfl | hq
    · exact ⟨he, h1, h2⟩
    · exact ⟨hk' _ _ (N q hq).1, (N q hq).2⟩

/-- a comprehension that is stored into a local -/
theorem comp_local {elt : Expr} {x y : Str} {ifs : List Expr} {scope : Scope} {cl : List (Str × Addr)} {v : Value} {o : Obj} {fp : List Addr} {n : Nat} {Pz : Nat → Value → Prop} {St : Nat → Heap → Prop} {Q : Flow → Shared → Prop}
    (p : Value → Bool) (R : Value → Value → Prop)
    (hit : ∀ Q, Q (.ref s.heap.objs.size) { s with heap := s.heap.push o } → wpAny (model prog w) A (pyIter v) Q E s)
    (W : Walks prog w A s.heap.objs.size fp [s.heap.objs.size] n Pz St) (hsz : n ≤ sizeLine) (hfp : ∀ b ∈ fp, b ≤ s.heap.objs.size) (hst : St 0 (s.heap.push o))
    (F : Fr h₀ env.locals s.heap m) (N : News h₀ env.locals s.heap news)
    (hq : QuietF prog w A env scope cl x ifs elt Pz p R s.heap)
    (k : ∀ D h' tk ys (vs : List Value) e, Fr h₀ env.locals h' (fun z => if z = y then some (.ref D) else m z) → News h₀ env.locals h' ((D, { cls := .type "list", data := .seq (List.toArray ys) e }) :: news) → s.heap.get? D = none →
      vs.length = n → (∀ j v, vs[j]? = some v → Pz j v) → Paired R (vs.filter p) ys → Q .next { s with heap := h', toks := tk }) :
    wpAny (model prog w) A (pyIter v) (fun it s₂ => ∃ I fp wr n P St m, it = .ref I ∧ Walks prog w A I fp wr n P St ∧ n ≤ sizeLine ∧ St 0 s₂.heap ∧ (∀ b ∈ fp, b < s₂.heap.objs.size) ∧
      env.locals ∉ wr ∧ s₂.heap.Ns env.locals m ∧ QuietOnC prog w A env scope cl x ifs elt wr P p R s₂ ∧
      (∀ D h' tk ys (vs : List Value), s₂.heap.get? D = none → h'.IsList D ys → h'.PlainList D ys → vs.length = n → (∀ j v, vs[j]? = some v → P j v) → Paired R (vs.filter p) ys.toList →
        h'.Ns env.locals (fun z => if z = y then some (.ref D) else m z) → (∀ b o, b ≠ env.locals → b ∉ wr → s₂.heap.get? b = some o → h'.get? b = some o) → Q .next { s₂ with heap := h', toks := tk })) E s := by
  refine hit _ ⟨_, fp, _, n, Pz, St, m, rfl, W, hsz, hst, fun b hb => ?_, fun hm => ?_, (F.push o).ns, hq.toC, fun D h' tk ys vs hD _ hp hl hP hF hns hk => ?_⟩
  · show b < (s.heap.push o).objs.size
    rw [Heap.size_push]; exact Nat.lt_succ_of_le (hfp b hb)
  · exact absurd F.ns.lt ((List.mem_singleton.mp hm) ▸ Nat.lt_irrefl _)
  · obtain ⟨e, he, h1, h2, h3⟩ := new_list F hD hp
    have hk' : ∀ b o', b ≠ env.locals → s.heap.get? b = some o' → h'.get? b = some o' := fun b o' hb e =>
      hk b o' hb (fun hm => Nat.lt_irrefl _ (by have := Heap.lt_size e; rwa [List.mem_singleton.mp hm] at this)) (Heap.get?_push_of_some _ e)
    refine k D h' tk ys.toList vs e ⟨hns, fun b o' q => hk' b o' (Nat.ne_of_lt (Nat.lt_of_lt_of_le (Heap.lt_size q) F.above)) (F.keep b o' q), F.above⟩ (fun q hq => ?_) h3 hl hP hF
    rcases List.mem_cons.mp hq with rfl | hq
    · exact ⟨he, h1, h2⟩
    · exact ⟨hk' _ _ (N q hq).2.1 (N q hq).1, (N q hq).2⟩
end

section
variable {M : Model} {A : Around} {E : Value → Shared → Prop} {s : Shared} {env : Env} {scope : Scope} {cl : List (Str × Addr)} {C : Addr} {h₀ : Heap} {m mg mb : Str → Option Value}
/-- names in a comprehension's own frame -/
theorem cxLoc {x : Str} {pos : Pos} {v : Value} {Q : Value → Shared → Prop} (F : Fr h₀ C s.heap m) (hv : m x = some v) (h : Q v s)
    (hk : (compEnvC scope cl C env).scope.kind = .function := by rfl) (hl : (compEnvC scope cl C env).kindOf x = some .local := by rfl) (hd : (x == ("__debug__" : Str)) = false := by decide) :
    wpAny M A (eval (.Name x pos) (compEnvC scope cl C env)) Q E s := wpAny_Name (wpAny_loadName_local hk hl F.ns hv h) hd
theorem cxCell {x : Str} {c : Addr} {pos : Pos} {v : Value} {Q : Value → Shared → Prop} (F : Fr h₀ C s.heap m) (hv : h₀.IsCell c (some v)) (h : Q v s)
    (hc : cl.lookup x = some c := by rfl) (hk : (compEnvC scope cl C env).scope.kind = .function := by rfl) (hl : (compEnvC scope cl C env).kindOf x = some .cell := by rfl) (hd : (x == ("__debug__" : Str)) = false := by decide) :
    wpAny M A (eval (.Name x pos) (compEnvC scope cl C env)) Q E s := wpAny_Name (wpAny_loadName_cell hk hl hc (hv.keeps F.keep) h) hd
theorem cxGlob {x : Str} {pos : Pos} {v : Value} {Q : Value → Shared → Prop} (F : Fr h₀ C s.heap m) (G : GlobM mg mb h₀) (hv : mg x = some v) (h : Q v s)
    (hg : env.globals = mainGlobals := by rfl) (hk : (compEnvC scope cl C env).scope.kind = .function := by rfl) (hx : (compEnvC scope cl C env).kindOf x = some .globalImplicit := by rfl) (hd : (x == ("__debug__" : Str)) = false := by decide) :
    wpAny M A (eval (.Name x pos) (compEnvC scope cl C env)) Q E s := 
  Calls.Name_function_global hk hx (Calls.loadGlobal_global (show s.heap.Ns env.globals mg from hg ▸ (G.g.keeps F.keep)) hv h) hd
end

section
variable {prog : Program} {w : World} {A : Around} {E : Value → Shared → Prop} {s : Shared} {env : Env}
/-- a for over anything whose walk is known; the state between two turns is any -/
theorem for_walk {target iter : Expr} {body : List Stmt} {pos : Pos} {Q : Flow → Shared → Prop}
    (h : wpAny (model prog w) A (eval iter env) (fun x s₁ => ∃ (o : Obj) (fp : List Addr) (n : Nat) (Pz : Nat → Value → Prop) (St : Nat → Heap → Prop) (I : Nat → Shared → Prop),
      (∀ Q, Q (.ref s₁.heap.objs.size) { s₁ with heap := s₁.heap.push o } → wpAny (model prog w) A (pyIter x) Q (fun _ _ => False) s₁) ∧
      Walks prog w A s₁.heap.objs.size fp [s₁.heap.objs.size] n Pz St ∧ St 0 (s₁.heap.push o) ∧ I 0 { s₁ with heap := s₁.heap.push o } ∧
      (∀ i v s h' tk (own : List (Addr × Obj)), i < n → Pz i v → I i s → (∀ b o, b ≠ s₁.heap.objs.size → s.heap.get? b = some o → h'.get? b = some o) → (∀ p ∈ own, p.1 ∈ fp ∧ h'.get? p.1 = some p.2) → 
        wpAny (model prog w) A (letOwnedTupleGo target (.ref s₁.heap.objs.size) v) (fun _ s₂ => wpAny (model prog w) A (assign target env v) (fun _ s₃ => wpAny (model prog w) A (execs body env) (fun f s₄ => match f with
            | .next | .cont => (∀ p ∈ own, s₄.heap.get? p.1 = some p.2) ∧ I (i + 1) s₄
            | .brk => Q .next s₄
            | .ret v => Q (.ret v) s₄) (fun _ _ => False) s₃) (fun _ _ => False) s₂) (fun _ _ => False) { s with heap := h', toks := tk }) ∧
      (∀ s h' tk, I n s → (∀ b o, b ≠ s₁.heap.objs.size → s.heap.get? b = some o → h'.get? b = some o) → Q .next { s with heap := h', toks := tk })) (fun _ _ => False) s)
    (hs : ∀ x, foldedSetIterable iter env x = pure x := by intro _; rfl) :
    wpAny (model prog w) A (exec (.For target iter body [] pos) env) Q E s := by
  refine for_go (wpAny_mono h (fun x s₁ h₁ => ?_) fun _ _ x => x) hs
  obtain ⟨o, fp, n, Pz, St, I, hit, W, hst, hI, turn, done⟩ := h₁
  refine hit _ ⟨n, fun k s => ∃ i, i ≤ n ∧ k = n - i ∧ St i s.heap ∧ I i s, ⟨0, Nat.zero_le _, rfl, hst, hI⟩, ?_⟩
  rintro k s ⟨i, hi, rfl, hSt, hIi⟩
  rcases Nat.lt_or_ge i n with hlt | hge
  · refine W.item i s _ _ hlt hSt fun v h' tk hP hSt' hk => ?_
    have hk' : ∀ b o, b ≠ s₁.heap.objs.size → s.heap.get? b = some o → h'.get? b = some o := fun b o hb => hk b o (by simpa using hb)
    refine wpAny_mono (turn i v s h' tk (fp.filterMap fun b => (h'.get? b).map fun o => (b, o)) hlt hP hIi hk' fun p hp => ?_) (fun _ s₂ h₂ => wpAny_mono h₂ (fun _ s₃ h₃ => wpAny_mono h₃ (fun f s₄ h₄ => ?_) fun _ _ x => x) fun _ _ x => x) fun _ _ x => x
    · obtain ⟨b, hb, e⟩ := List.mem_filterMap.mp hp
      obtain ⟨o', ho', rfl⟩ := Option.map_eq_some_iff.mp e
      exact ⟨hb, ho'⟩
    · have next : ((∀ p ∈ (fp.filterMap fun b => (h'.get? b).map fun o => (b, o)), s₄.heap.get? p.1 = some p.2) ∧ I (i + 1) s₄) → ∃ m, m < n - i ∧ ∃ i', i' ≤ n ∧ m = n - i' ∧ St i' s₄.heap ∧ I i' s₄ := fun hx =>
        ⟨n - (i + 1), by omega, i + 1, hlt, rfl, W.frame _ _ _ hSt' (fun b hb o' e => hx.1 (b, o') (List.mem_filterMap.mpr ⟨b, hb, by rw [e]; rfl⟩)), hx.2⟩
      cases f with
      | next => exact next h₄
      | cont => exact next h₄
      | brk => exact h₄
      | ret v => exact h₄
  · obtain rfl : i = n := Nat.le_antisymm hi hge
    exact W.done s _ _ hSt fun h' tk hk => done s h' tk hIi fun b o hb => hk b o (by simpa using hb)
end
end

-- part M20
local macro_rules | `(tactic| walk_at "eval Name") => `(tactic| ((with_reducible show wpAny _ _ (eval _ (compEnvC _ _ _ _)) _ _ _); refine cxGlob (by assumption) (by assumption) (by assumption) ?_))
local macro_rules | `(tactic| walk_at "eval Name") => `(tactic| ((with_reducible show wpAny _ _ (eval _ (compEnvC _ _ _ _)) _ _ _); refine cxCell (by assumption) (by assumption) ?_))
local macro_rules | `(tactic| walk_at "eval Name") => `(tactic| ((with_reducible show wpAny _ _ (eval _ (compEnvC _ _ _ _)) _ _ _); refine cxLoc (by assumption) (by walk_at "mlook") ?_))
section
theorem afreshM20 : True := by
  w_top off
  trivial
theorem ints_take {vs : List Value} {ns : List Int} (h : IntsAre vs ns) : ∀ k, IntsAre (vs.take k) (ns.take k) := by
  induction h with
  | nil => intro k; simp; exact .nil
  | cons n t _ ih => intro k; cases k with
    | zero => exact .nil
    | succ k => exact .cons n t (ih k)
theorem ints_drop {vs : List Value} {ns : List Int} (h : IntsAre vs ns) : ∀ k, IntsAre (vs.drop k) (ns.drop k) := by
  induction h with
  | nil => intro k; simp; exact .nil
  | cons n t h' ih => intro k; cases k with
    | zero => exact .cons n t h'
    | succ k => exact ih k

theorem ints_at {vs : List Value} {ns : List Int} (h : IntsAre vs ns) : ∀ {i : Nat} {v : Value}, vs[i]? = some v → ∃ n t, ns[i]? = some n ∧ v = .int n t := by
  induction h with
  | nil => intro i v h; simp at h
  | cons n t h' ih =>
    intro i v h
    cases i with
    | zero => exact ⟨n, t, rfl, (Option.some.inj h).symm⟩
    | succ i => exact ih (by simpa using h)

theorem ints_mapped {f : Int → Int} : ∀ {vs : List Value} {ns : List Int} {ys : List Value}, IntsAre vs ns → Paired (fun v y => ∃ i t u, v = .int i t ∧ y = .int (f i) u) vs ys → IntsAre ys (ns.map f)
  | _, _, _, .nil, .nil => .nil
  | _, _, _, .cons n t h, .cons h1 h2 => by
    obtain ⟨i, t', u, e1, rfl⟩ := h1
    cases e1
    exact .cons _ _ (ints_mapped h h2)

noncomputable def drawsOf (xs : List Int) : List Nat := (((xs.take (sizeOf xs)) ++ ([40, 1728, 5600, 4930, 10356] : List Int).drop xs.length).take (sizeOf xs)).map fun x => (x.fmod 1000000).toNat
theorem drawsOf_length (xs : List Int) : (drawsOf xs).length = sizeOf xs := by
  unfold drawsOf sizeOf
  split
  · simp; omega
  · simp; omega

theorem size5 {is : List Value} {ns : List Int} (h : is.length = ns.length) : min (sizeOf ns) is.length + (5 - is.length) ≤ sizeLine := by
  have h1 : sizeOf ns ≤ 5 := by unfold sizeOf; split <;> decide
  refine Nat.le_trans (m := 10) (by omega) (by decide)

/-- the statement number i of law -/
noncomputable def st17 (i : Nat) : Stmt := match (bodyAt 17)[i]? with | some x => x | none => .Pass default

set_option maxHeartbeats 2000000 in
theorem law_draws {w : World} {A : Around} {s : Shared} {h₀ : Heap} {L a ls : Addr} {cd : Value} {m cm mg mb : Str → Option Value} {gn cells : List (Addr × Obj)} {is : List Value} {xs : List Int} {t : Tok} {Q : Flow → Shared → Prop} {E : Value → Shared → Prop}
    (G : GlobM mg mb h₀) (F : Fr h₀ L s.heap m) (N : News h₀ L s.heap (gn ++ cells)) (X : CellsAre cm (csL L) cells) (hls : h₀.IsList ls is.toArray) (hi : IntsAre is xs) (hfit : xs.length < 1000000) (m1 : m "script" = some (.ref ls))
    (c1 : cm "size" = some (.int (sizeOf xs : Nat) t)) (hh : A.handled = none)
    (k : ∀ D is' e h tk, Fr h₀ L h (fun z => if z = "draws" then some (.ref D) else m z) → News h₀ L h ((D, { cls := .type "list", data := .seq (List.toArray is') e }) :: (gn ++ cells)) →
      IntsAre is' ((drawsOf xs).map fun n : Nat => (n : Int)) → Q .next { s with heap := h, toks := tk }) :
    wpAny (model P w) A (exec (st17 1) (envL L a cd)) Q E s := by
  have hil := IntsAre.length hi
  unfold st17 bodyAt
  refine wpAny_Assign_ListComp_free (cl := []) (fun _ => true) (fun v y => ∃ i t u, v = .int i t ∧ y = .int (Int.fmod i 1000000) u) ?h1 ?h2 ?h3 ?h4 ?h5 ?h6 ?h7 ?h8 ?_ ?h9
  case h1 => exact rfl
  case h2 => exact rfl
  case h3 => decide
  case h4 => exact rfl
  case h5 => decide
  case h6 => exact rfl
  case h7 => exact rfl
  case h8 => exact rfl
  case h9 => intro _; rfl
  · walk_at "go"
    rename_i h1 F1 N1 h2 F2 N2
    refine slice_tmpN (s := { s with heap := h2, toks := _ }) F2 N2 (IsL.isList (N2 _ (.head _)).1) (.int _ _) .none (fun h3 F3 N3 => ?_) (by with_unfolding_all rfl) (show 5 ≤ sizeLine by decide)
    rw [slicePick_from'] at N3
    rw [slicePick_upto'] at N3
    have hi1 : IntsAre (is.take (sizeOf xs)) (xs.take (sizeOf xs)) := ints_take hi _
    refine add_lists_ints (vs := is.take (sizeOf xs)) (ws := _) F3 N3 (IsL.isList (N3 _ (.tail _ (.tail _ (.head _)))).1) (IsL.isList (N3 _ (.head _)).1) hi1 (ints_drop (.cons _ _ (.cons _ _ (.cons _ _ (.cons _ _ (.cons _ _ .nil))))) _) (fun h4 F4 N4 hi4 => ?_) ?_
    · walk_at "go"
      refine slice_tmpN (s := { s with heap := h4, toks := _ }) F4 N4 (IsL.isList (N4 _ (.head _)).1) .none (.int _ _) (fun h5 F5 N5 => ?_) (by with_unfolding_all rfl) ?_
      · rw [slicePick_upto'] at N5
        have hi5 := ints_take hi4 (sizeOf xs)
        have hl5 : h5.IsList (h4.objs.size + 1) _ := IsL.isList (N5 _ (.head _)).1
        obtain ⟨ol, hol, _⟩ := id hl5
        have hlt : h4.objs.size + 1 < h5.objs.size := Heap.lt_size hol
        refine comp_local (s := { s with heap := h5, toks := _ }) (env := envL L a cd) _ _ (fun Q hQ => wpAny_pyIter_list hl5 hQ) (Walks.list hh h5.objs.size (h4.objs.size + 1) (Nat.ne_of_lt hlt) _) ?_ ?_ ⟨⟨_, Heap.get?_push_size _ rfl, rfl, rfl⟩, hl5.at fun o e => Heap.get?_push_of_some _ e⟩ F5 N5 ?_ ?_
        · refine Nat.le_trans ?_ (show 5 ≤ sizeLine by decide)
          rw [List.size_toArray, List.length_take]
          refine Nat.le_trans (Nat.min_le_left _ _) ?_
          unfold sizeOf; split <;> decide
        · intro b hb
          rcases List.mem_cons.mp hb with rfl | hb
          · exact Nat.le_refl _
          · rw [List.mem_singleton.mp hb]; exact Nat.le_of_lt hlt
        · refine ⟨fun C i v s₃ m₃ E' hP Fc hm => wpAny_tests_nil ⟨rfl, _, _, rfl, fun _ _ e => e⟩, fun C i v s₃ m₃ E' hP hp Fc hm => ?_⟩
          obtain ⟨n, t', hn1, rfl⟩ := ints_at hi5 (by simpa using hP)
          walk_at "go"
          exact ⟨⟨n, t', _, rfl, rfl⟩, _, _, rfl, fun _ _ e => e⟩
        · intro D h' tk ys vs e F6 N6 hD hlen hP hF
          refine k D ys e h' tk F6 (fun p hp => N6 p ?_) ?_
          · rcases List.mem_cons.mp hp with rfl | hp
            · exact .head _
            · simp only [List.mem_cons]; exact .inr (.inr (.inr (.inr (.inr (.inr hp)))))
          · have hvs := list_of_places (items := _) (by exact hlen) hP
            have hft : vs.filter (fun _ => true) = vs := List.filter_eq_self.mpr fun _ _ => rfl
            rw [hft, hvs] at hF
            have := ints_mapped (by simpa using hi5) hF
            refine cast (congrArg (IntsAre _) ?_) this
            unfold drawsOf
            rw [List.map_map, ← hil]
            refine List.map_congr_left fun x _ => ?_
            have h0 : 0 ≤ x.fmod 1000000 := Int.fmod_nonneg_of_pos _ (by decide)
            show x.fmod 1000000 = (((x.fmod 1000000).toNat : Nat) : Int)
            omega
      · have := size5 (ns := xs) (is := is) (by omega)
        simp only [List.size_toArray, List.length_append, List.length_take, List.length_drop, List.length_cons, List.length_nil, Nat.zero_add]
        exact this
    · have := size5 (ns := xs) (is := is) (by omega)
      simp only [List.size_toArray, List.length_take, List.length_drop, List.length_cons, List.length_nil, Nat.zero_add, ← hil]
      exact this
end

-- part M21
section
theorem afreshM21 : True := by
  w_top off
  trivial
section
variable {prog : Program} {w : World} {A : Around} {E : Value → Shared → Prop} {s : Shared} {env : Env}

theorem ne_up {b i c k : Nat} (h : b < i) (hc : c = i + k) : b ≠ c := by omega
theorem ne_le {b i c k : Nat} (h : b ≤ i) (hc : c = i + (k + 1)) : b ≠ c := by omega

/-- what a tuple comprehension has so far: new tuples apart from three addresses -/
noncomputable def Tups (h₁ h : Heap) (I D C : Addr) (G : Value → Array Value → Prop) (v y : Value) : Prop :=
  ∃ T its, y = .ref T ∧ T ≠ I ∧ T ≠ D ∧ T ≠ C ∧ h₁.get? T = none ∧ h.IsTuple T its ∧ G v its
theorem Tups.at {h₁ h h' : Heap} {I D C : Addr} {G : Value → Array Value → Prop} {v y : Value} (x : Tups h₁ h I D C G v y) (k : ∀ b o, b ≠ I → b ≠ D → b ≠ C → h.get? b = some o → h'.get? b = some o) : Tups h₁ h' I D C G v y := by
  obtain ⟨T, its, e, a, b, c, d, ⟨o, ho, r⟩, g⟩ := x
  exact ⟨T, its, e, a, b, c, d, ⟨o, k T o a b c ho, r⟩, g⟩

inductive CTInv (s₁ : Shared) (n : Nat) (I D C : Addr) (Pz : Nat → Value → Prop) (St : Nat → Heap → Prop) (Gt : Value → Array Value → Prop) (j : Nat) (s' : Shared) : Prop
  | mk (h : Heap) (tk : Nat) (mm : Str → Option Value) (ys : Array Value) (vs : List Value) (e : s' = { s₁ with heap := h, toks := tk }) (hSt : St vs.length h) (hl : h.PlainList D ys) (hns : h.Ns C mm) (hP : ∀ i v, vs[i]? = some v → Pz i v)
    (hR : Paired (Tups s₁.heap h I D C Gt) vs ys.toList) (hle : vs.length ≤ n) (hj : j = n - vs.length) (hk : ∀ b o', s₁.heap.get? b = some o' → h.get? b = some o')

set_option maxHeartbeats 1000000 in
theorem comp_tup {elt iter : Expr} {x : Str} {px : Pos} {scope : Scope} {cl : List (Str × Addr)} {pos : Pos} {Q : Value → Shared → Prop} (Gt : Value → Array Value → Prop)
    (hclos : closureFor scope env = pure cl) (hcell : ∀ y ∈ scope.names, y.2 ≠ .cell) (hkind : scope.kind = .function)
    (hnames : ∀ y ∈ scope.names, y.2 = .local → scope.names.lookup y.1 = some .local) (hx : scope.names.lookup x = some .local)
    (h : wpAny (model prog w) A (eval iter env) (fun xv s₁ => ∃ (o : Obj) (fp : List Addr) (n : Nat) (Pz : Nat → Value → Prop) (St : Nat → Heap → Prop),
      (∀ Q, Q (.ref s₁.heap.objs.size) { s₁ with heap := s₁.heap.push o } → wpAny (model prog w) A (pyIter xv) Q E s₁) ∧
      Walks prog w A s₁.heap.objs.size fp [s₁.heap.objs.size] n Pz St ∧ n ≤ sizeLine ∧ (∀ b ∈ fp, b ≤ s₁.heap.objs.size) ∧ St 0 (s₁.heap.push o) ∧ (∀ i h, St i h → ∃ o, h.get? s₁.heap.objs.size = some o) ∧
      (∀ C i v s₃ m₃ E', Pz i v → Fr s₁.heap C s₃.heap m₃ → m₃ x = some v →
        wpAny (model prog w) A (eval elt (compEnvC scope cl C env)) (fun y s₄ => (∃ T its, y = .ref T ∧ s₃.heap.get? T = none ∧ s₄.heap.IsTuple T its ∧ Gt v its) ∧ Keeps s₃ s₄) E' s₃) ∧
      (∀ D h' tk ys (vs : List Value) e, h'.get? D = some { cls := .type "list", data := .seq (List.toArray ys) e } → s₁.heap.get? D = none → (∀ b o, s₁.heap.get? b = some o → h'.get? b = some o) →
        vs.length = n → (∀ j v, vs[j]? = some v → Pz j v) → Paired (fun v y => ∃ T its, y = .ref T ∧ s₁.heap.get? T = none ∧ T ≠ D ∧ h'.IsTuple T its ∧ Gt v its) vs ys → Q (.ref D) { s₁ with heap := h', toks := tk })) E s)
    (hs : ∀ x, foldedSetIterable iter env x = pure x := by intro _; rfl) :
    wpAny (model prog w) A (eval (.ListComp elt [⟨.Name x px, iter, [], 0⟩] scope pos) env) Q E s := by
  rw [eval_ListComp]
  refine wpAny_comprehension_free (use := none) rfl hs hclos hkind hnames (wpAny_mono h (fun xv s₁ h₁ => ?_) fun _ _ e => e)
  obtain ⟨o, fp, n, Pz, St, hit, W, hsz, hfp, hst, hlive, helt, k⟩ := h₁
  refine hit _ (wpAny_newObj_type (wpAny_newFunctionEnv hcell (by intro y hy; simp at hy) (fun h₂ hns₂ hsb₂ => ?_) hkind))
  dsimp only at hns₂ hsb₂ ⊢
  generalize hI : s₁.heap.objs.size = I at *
  have hDz : (s₁.heap.push o).objs.size = I + 1 := by rw [Heap.size_push, hI]
  generalize hD : (s₁.heap.push o).objs.size = D at *
  generalize hH : (s₁.heap.push o).push { cls := .type "list", dict := none, data := .seq ([] : List Value).toArray } = H at *
  have hCz : H.objs.size = I + 2 := by rw [← hH, Heap.size_push, hD, hDz]
  generalize hC : H.objs.size = C at *
  have hlow : ∀ b o', s₁.heap.get? b = some o' → b < I := fun b o' e => hI ▸ Heap.lt_size e
  have kC : ∀ b o', b ≠ C → H.get? b = some o' → h₂.get? b = some o' := fun b o' hb e => hsb₂.extBut b o' hb (Heap.get?_push_of_some _ e)
  have nC : ∀ b o', s₁.heap.get? b = some o' → b ≠ C ∧ b ≠ I ∧ b ≠ D := fun b o' e => ⟨ne_up (hlow b o' e) hCz, Nat.ne_of_lt (hlow b o' e), ne_up (hlow b o' e) hDz⟩
  have k1 : ∀ b o', s₁.heap.get? b = some o' → h₂.get? b = some o' := fun b o' e =>
    kC b o' (nC b o' e).1 (hH ▸ Heap.get?_push_of_some _ (Heap.get?_push_of_some _ e))
  have hIC : I ≠ C := ne_le (Nat.le_refl I) hCz
  have hDI : D ≠ I := (ne_le (Nat.le_refl I) hDz).symm
  have hDC : D ≠ C := by rw [hDz, hCz]; exact Nat.ne_of_lt (Nat.lt_succ_self _)
  have hfC : ∀ b ∈ fp, b ≠ C := fun b hb => ne_le (hfp b hb) hCz
  have hfD : ∀ b ∈ fp, b ≠ D := fun b hb => ne_le (hfp b hb) hDz
  have hst2 : St 0 h₂ := W.frame _ _ _ hst fun b hb o' e => kC b o' (hfC b hb) (hH ▸ Heap.get?_push_of_some _ e)
  have hl2 : h₂.PlainList D #[] := ⟨0, kC D _ hDC (by rw [← hH, ← hD]; exact Heap.get?_push_size _ rfl)⟩
  have hDf : D ∉ fp := fun hm => hfD _ hm rfl
  have hCf : C ∉ fp := fun hm => hfC _ hm rfl
  have hDnew : s₁.heap.get? D = none := by
    cases q : s₁.heap.get? D with
    | none => rfl
    | some o' => exact absurd rfl (nC _ _ q).2.2
  suffices loop : codeAny (model prog w) A (.compLoop (.ListComp elt [⟨.Name x px, iter, [], 0⟩] scope pos) 0 (.ref I) (.ref D) (compEnvC scope cl C env)) (compPost (model prog w) A E none Q (.ref D) C) { s₁ with heap := h₂, toks := s₁.toks + 0 } from
    codeAny_compStart_list loop (W.self 0 _ _ _ hst2 loop)
  refine codeAny_compLoop_tests (CTInv s₁ n I D C Pz St Gt) ?_ n
    ⟨h₂, _, _, #[], [], rfl, hst2, hl2, hns₂, (fun _ _ e => by simp at e), .nil, Nat.zero_le _, rfl, k1⟩
  rintro j s' ⟨h, tk, mm, ys, vs, rfl, hSt, hlst, hns, hP, hR, hle, rfl, hk⟩
  have neC := nC
  have hCw : C ∉ [I] := by simpa using hIC.symm
  have hDw : D ∉ [I] := by simpa using hDI
  rcases Nat.lt_or_ge vs.length n with hlt | hge
  · refine W.item vs.length _ _ _ hlt hSt fun v h3 tk3 hPv hSt3 hk3 => ?_
    refine wpAny_assign_Name (wpAny_storeName_local (lookup_relabel_local hx) (hns.at' fun o e => hk3 _ o hCw e) (fun h4 hns4 hs4 => ?_) (by simp [compEnvC, relabel, hkind]))
    replace hs4 : Heap.SameBut C h3 h4 := hs4
    have up4 : ∀ b o', b ≠ C → b ≠ I → h.get? b = some o' → h4.get? b = some o' := fun b o' h1 h2 e => hs4.extBut b o' h1 (hk3 b o' (by simpa using h2) e)
    have hSt4 : St (vs.length + 1) h4 := W.frame _ _ _ hSt3 fun b hb o' e => hs4.extBut b o' (fun q => hCf (q ▸ hb)) e
    refine wpAny_tests_nil ?_
    rw [if_pos rfl]
    have F4 : Fr s₁.heap C h4 (fun y => if y = x then some v else mm y) := ⟨hns4, fun b o' e => up4 b o' (neC b o' e).1 (neC b o' e).2.1 (hk b o' e), by rw [hI, hCz]; exact Nat.le_add_right _ _⟩
    refine wpAny_mono (helt C vs.length v _ _ _ hPv F4 (if_pos rfl)) (fun y s5 h5 => ?_) fun _ _ e => e
    obtain ⟨⟨T, its, rfl, hTn, hT, hG⟩, h5', tk5, rfl, hk5⟩ := h5
    replace hTn : h4.get? T = none := hTn
    replace hk5 : ∀ b o', h4.get? b = some o' → h5'.get? b = some o' := hk5
    have hl5 : h5'.PlainList D ys := hlst.at fun o' e => hk5 _ _ (up4 _ _ hDC hDI e)
    have hys : ys.size ≤ sizeLine := by have e1 : vs.length = ys.toList.length := hR.length; exact Nat.le_trans (Nat.le_of_eq ((Array.length_toList (xs := ys)).symm.trans e1.symm)) (Nat.le_trans hle hsz)
    have ne4 : ∀ b o', h4.get? b = some o' → T ≠ b := fun b o' e q => by rw [← q, hTn] at e; cases e
    have hTC : T ≠ C := let ⟨oc, _, _, hoc, _⟩ := hns4; ne4 _ _ hoc
    have hTD : T ≠ D := let ⟨_, hoD⟩ := hlst; ne4 _ _ (up4 _ _ hDC hDI hoD)
    have hTI : T ≠ I := let ⟨_, hoI⟩ := hlive _ _ hSt4; ne4 _ _ hoI
    refine wpAny_list_append_plain (hsz := hys) hl5 fun h6 hl6 hs6 => ?_
    have up6 : ∀ b o', b ≠ C → b ≠ I → b ≠ D → h.get? b = some o' → h6.get? b = some o' := fun b o' h1 h2 h3 e => hs6.extBut b o' h3 (hk5 b o' (up4 b o' h1 h2 e))
    refine ⟨n - (vs.length + 1), by omega, h6, tk5, _, ys.push (.ref T), vs ++ [v], rfl, ?_, hl6, (hns4.keeps hk5).sameBut hs6 hDC.symm, ?_, ?_, by rw [List.length_append, List.length_singleton]; exact hlt, by simp, fun b o' e => up6 b o' (neC b o' e).1 (neC b o' e).2.1 (neC b o' e).2.2 (hk b o' e)⟩
    · have := W.frame _ _ h6 hSt4 fun b hb o' e => hs6.extBut b o' (fun q => hDf (q ▸ hb)) (hk5 b o' e)
      simpa using this
    · intro i u hi
      rcases Nat.lt_trichotomy i vs.length with q | q | q
      · exact hP i u (by rwa [List.getElem?_append_left q] at hi)
      · subst q; simp at hi; subst hi; exact hPv
      · rw [List.getElem?_eq_none (by simp; omega)] at hi; cases hi
    · rw [Array.toList_push]
      refine Paired.snoc (hR.mono fun a b hab => hab.at fun b' o' h1 h2 h3 e => up6 b' o' h3 h1 h2 e) ⟨T, its, rfl, hTI, hTD, hTC, ?_, ?_, hG⟩
      · cases q : s₁.heap.get? T with
        | none => rfl
        | some o' => exact absurd rfl (ne4 _ _ (up4 _ _ hTC hTI (hk _ _ q)))
      · obtain ⟨oT, hoT, r⟩ := hT
        exact ⟨oT, hs6.extBut _ _ hTD hoT, r⟩
  · have hn : vs.length = n := Nat.le_antisymm hle hge
    refine W.done _ _ _ (hn ▸ hSt) fun h3 tk3 hk3 => ?_
    refine ⟨mm, hns.at' fun o e => hk3 _ o hCw e, fun h7 hs7 => ?_⟩
    have up7 : ∀ b o', b ≠ C → b ≠ I → h.get? b = some o' → h7.get? b = some o' := fun b o' h1 h2 e => hs7.extBut b o' h1 (hk3 b o' (by simpa using h2) e)
    obtain ⟨e, he⟩ := hlst
    refine k D h7 tk3 ys.toList vs e (by simpa using up7 _ _ hDC hDI he) hDnew (fun b o' q => up7 b o' (neC b o' q).1 (neC b o' q).2.1 (hk b o' q)) hn hP (hR.mono fun a b hab => ?_)
    obtain ⟨T, its, e1, e2, e3, e4, e5, ⟨oT, hoT, r⟩, g⟩ := hab
    exact ⟨T, its, e1, e5, e3, ⟨oT, up7 _ _ e4 e2 hoT, r⟩, g⟩
end
end

-- part M22
section
theorem afreshM22 : True := by
  w_top off
  trivial
theorem news_join {h₀ h h' : Heap} {L : Addr} {m : Str → Option Value} {news new : List (Addr × Obj)} (F : Fr h₀ L h m) (N : News h₀ L h news) (hk : ∀ b o, h.get? b = some o → h'.get? b = some o) (Nc : News h h.objs.size h' new) : News h₀ L h' (new ++ news) := by
  intro q hq
  rcases List.mem_append.mp hq with hq | hq
  · obtain ⟨h1, _, h3⟩ := Nc q hq
    refine ⟨h1, fun e => ?_, ?_⟩
    · obtain ⟨oL, _, _, hoL, _⟩ := F.ns
      rw [e, hoL] at h3; cases h3
    · cases e : h₀.get? q.1 with
      | none => rfl
      | some o => rw [F.keep _ _ e] at h3; cases h3
  · exact ⟨hk _ _ (N q hq).1, (N q hq).2⟩

section
variable {M : Model} {A : Around} {E : Value → Shared → Prop} {s : Shared} {L a : Addr} {cd : Value} {h₀ : Heap} {m cm : Str → Option Value} {news : List (Addr × Obj)}
/-- a store into a local of law -/
theorem stL {x : Str} {v : Value} {Q : Unit → Shared → Prop} (F : Fr h₀ L s.heap m) (N : News h₀ L s.heap news)
    (h : ∀ h', Fr h₀ L h' (fun y => if y = x then some v else m y) → News h₀ L h' news → Q () { s with heap := h', toks := s.toks + 1 })
    (hl : (envL L a cd).kindOf x = some .local := by rfl) : wpAny M A (storeName (envL L a cd) x v) Q E s :=
  wpAny_storeName_local hl F.ns (fun h' hn hs => h h' (F.set hn hs) (N.set hs)) (by rfl)
end

/-- written, meant = _law_cells(draws) -/
theorem law_made {w : World} {A : Around} {s : Shared} {h₀ : Heap} {L a ld : Addr} {cd : Value} {m cm mg mb : Str → Option Value} {gn cells : List (Addr × Obj)} {id : List Value} {ds : List Nat} {ed : Nat} {Q : Flow → Shared → Prop} {E : Value → Shared → Prop} {D : List (PyData × PyData)}
    (T : TopOk w D mg mb h₀) (F : Fr h₀ L s.heap m) (N : News h₀ L s.heap (gn ++ cells)) (X : CellsAre cm (csL L) cells) (hgn : ∀ p ∈ gn, ∀ v, p.2.data ≠ .cell v) (hld : (ld, { cls := .type "list", data := .seq (List.toArray id) ed }) ∈ gn) (hd : IntsAre id (ds.map fun n : Nat => (n : Int))) (hdl : ds.length ≤ 5)
    (m1 : m "draws" = some (.ref ld)) (hroom : A.depth + 1 < recursionLimit) (hh : A.handled = none)
    (k : ∀ lw lm iw im ew em h tk cells', lw ≠ lm → Fr h₀ L h (fun z => if z = "written" then some (.ref lw) else m z) → News h₀ L h ((lw, { cls := .type "list", data := .seq (List.toArray iw) ew }) :: (lm, { cls := .type "list", data := .seq (List.toArray im) em }) :: (gn ++ cells')) →
      CellsAre (fun z => if z = "meant" then some (.ref lm) else cm z) (csL L) cells' → StrsAre iw (cellsW ds ds.length) → StrsAre im (cellsM ds ds.length) → Q .next { s with heap := h, toks := tk }) :
    wpAny (model P w) A (exec (st17 2) (envL L a cd)) Q E s := by
  have G := T.G
  obtain ⟨f, cf, hmf, hf⟩ := T.f14
  unfold st17 bodyAt
  refine Assign_Tuple ?_
  have hfc := hf
  obtain ⟨of, pmf, docf, hof, hdataf, hcf⟩ := hfc
  walk_at "go"
  refine wpAny_mono (cells_call (Nat.lt_of_succ_lt hroom) hh (G.keeps F.keep) (hf.keeps F.keep) (N.isList (List.mem_append_left _ hld)) hd hdl) ?_ (fun _ _ x => x)
  rintro v s2 ⟨T, lw, lm, iw, im, ew, em, h2, tk2, rfl, rfl, hk2, N2, hne, hTw, hTm, hiw, him⟩
  have F2 := F.keeps hk2
  have N3 := news_join F N hk2 N2
  refine wpAny_assign_Tuple hh ⟨_, (N2 _ (.head _)).1, rfl, _, rfl⟩ rfl rfl fun h4 hx4 => ?_
  have hk4 : ∀ b o, h2.get? b = some o → h4.get? b = some o := fun b o hb => hx4 b o (Nat.ne_of_lt (Heap.lt_size hb)) hb
  have F4 := F2.keeps hk4
  have N4 : News h₀ L h4 _ := fun q hq => ⟨hk4 _ _ (N3 q hq).1, (N3 q hq).2⟩
  refine wpAny_bind (wpAny_holding (wpAny_assign_Name (stL F4 N4 fun h6 F6 N6 => ?_)))
  refine wpAny_bind (wpAny_holding (wpAny_assign_Name (stCell (front := (T, _) :: (lw, _) :: (lm, _) :: gn) F6 N6 X ?_ fun h7 cells' F7 N7 X7 => wpAny_pure ?_)))
  · intro p hp v
    rcases List.mem_cons.mp hp with rfl | hp
    · exact fun e => nomatch e
    rcases List.mem_cons.mp hp with rfl | hp
    · exact fun e => nomatch e
    rcases List.mem_cons.mp hp with rfl | hp
    · exact fun e => nomatch e
    · exact hgn p hp v
  · exact k lw lm iw im ew em h7 _ cells' hne F7 (fun p hp => N7 p (.tail _ hp)) X7 hiw him
end

-- part M23
section
theorem afreshM23 : True := by
  w_top off
  trivial
noncomputable def tiesOf (sz : Nat) (ds : List Nat) : List (Nat × Nat) := (ds.drop 1).map fun x => (x / 324 % (sz + 1), x / 324 / (sz + 1) % (sz + 1))
noncomputable def isTie (sz : Nat) (v : Value) (its : Array Value) : Prop := ∃ (x : Nat) (t u1 u2 : Tok), v = .int (x : Nat) t ∧ its = #[.int ((x / 324 % (sz + 1) : Nat) : Int) u1, .int ((x / 324 / (sz + 1) % (sz + 1) : Nat) : Int) u2]

section
variable {prog : Program} {w : World} {A : Around} {E : Value → Shared → Prop} {s : Shared} {Q : Value → Shared → Prop}
theorem md_succ {a b : Nat} {t u : Tok} (h : Q (.int ((a % (b + 1) : Nat) : Int) s.toks) { s with toks := s.toks + 1 }) :
    wpAny (model prog w) A (binaryOp .Mod (.int (a : Nat) t) (.int ((b : Nat) + 1) u)) Q E s := by
  have e : ((b : Nat) : Int) + 1 = ((b + 1 : Nat) : Int) := by omega
  rw [e]
  refine mod_int' (by omega) ?_
  rw [Int.fmod_eq_emod_of_nonneg _ (Int.natCast_nonneg (b + 1)), ← Int.natCast_emod]; exact h
theorem fd_succ {a b : Nat} {t u : Tok} (hb : b < 1000) (h : Q (.int ((a / (b + 1) : Nat) : Int) s.toks) { s with toks := s.toks + 1 }) :
    wpAny (model prog w) A (binaryOp .FloorDiv (.int (a : Nat) t) (.int ((b : Nat) + 1) u)) Q E s := by
  have e : ((b : Nat) : Int) + 1 = ((b + 1 : Nat) : Int) := by omega
  rw [e]
  refine floordiv_int (by omega) ?_ (.inl (PyProof.noPylong_small (by rw [Int.natAbs_natCast]; omega)))
  rw [Int.fdiv_eq_ediv_of_nonneg _ (Int.natCast_nonneg (b + 1)), ← Int.natCast_ediv]; exact h
end

theorem ties_ledger {h₀ h₁ h : Heap} {L D : Addr} {m : Str → Option Value} {sz : Nat} (F : Fr h₀ L h₁ m) : ∀ {vs : List Value} {ys : List Value} {xs : List Nat}, IntsAre vs (xs.map fun n : Nat => (n : Int)) →
    Paired (fun v y => ∃ T its, y = .ref T ∧ h₁.get? T = none ∧ T ≠ D ∧ h.IsTuple T its ∧ isTie sz v its) vs ys →
    ∃ tl : List (Addr × Obj), News h₀ L h tl ∧ (∀ p ∈ tl, ∀ v, p.2.data ≠ .cell v) ∧ ∀ h' : Heap, (∀ p ∈ tl, h'.get? p.1 = some p.2) → TiesAt h' ys (xs.map fun x => (x / 324 % (sz + 1), x / 324 / (sz + 1) % (sz + 1)))
  | [], ys, xs, hi, hp => by
    cases hp
    cases xs with
    | nil => exact ⟨[], News.nil, (fun _ h => nomatch h), fun _ _ => ⟨rfl, fun k p h => by simp at h⟩⟩
    | cons x xs => cases hi
  | v :: vs, ys, xs, hi, hp => by
    cases hp with
    | cons h1 h2 =>
      cases xs with
      | nil => cases hi
      | cons x xs =>
        rw [List.map_cons] at hi
        cases hi with
        | cons _ t hi' =>
          obtain ⟨tl, N, hc, ht⟩ := ties_ledger F hi' h2
          obtain ⟨T, its, rfl, hTn, _, ⟨o, ho, ho1, n, ho2⟩, x', t', u1, u2, e, rfl⟩ := h1
          obtain rfl : x = x' := by cases e; rfl
          refine ⟨(T, o) :: tl, fun q hq => ?_, fun q hq v => ?_, fun h' hh => ?_⟩
          · rcases List.mem_cons.mp hq with rfl | hq
            · refine ⟨ho, fun q => ?_, ?_⟩
              · obtain ⟨oL, _, _, hoL, _⟩ := F.ns
                have q' : T = L := q
                rw [q', hoL] at hTn; cases hTn
              · cases q : h₀.get? T with
                | none => rfl
                | some o' => rw [F.keep _ _ q] at hTn; cases hTn
            · exact N q hq
          · rcases List.mem_cons.mp hq with rfl | hq
            · show o.data ≠ _
              rw [ho2]; exact fun e => nomatch e
            · exact hc q hq v
          · obtain ⟨hlen, hall⟩ := ht h' fun p hp => hh p (.tail _ hp)
            refine ⟨by simp [hlen], fun k p hk => ?_⟩
            cases k with
            | zero =>
              simp only [List.map_cons, List.getElem?_cons_zero, Option.some.injEq] at hk
              subst hk
              exact ⟨T, u1, u2, rfl, o, hh _ (.head _), ho1, n, ho2⟩
            | succ k => exact hall k p (by simpa using hk)

theorem isCell {h₀ h : Heap} {L c : Addr} {cm : Str → Option Value} {news cells : List (Addr × Obj)} {x : Str} {v : Value} (N : News h₀ L h news) (X : CellsAre cm (csL L) cells) (hsub : ∀ q ∈ cells, q ∈ news) (hv : cm x = some v) (hc : (csL L).lookup x = some c := by rfl) :
    h.IsCell c (some v) := hv ▸ (Cl.of_news (own := []) (h₀ := h₀) (fun p hp => N p (hsub p hp)) X (csL_apart L) (csL_above L)).cell x c hc

local macro_rules | `(tactic| walk_at "binaryOp FloorDiv int int") => `(tactic| (refine fd_lit _ (by decide) (by decide) ?_))
local macro_rules | `(tactic| walk_at "binaryOp FloorDiv int int") => `(tactic| (refine fd_succ (by omega) ?_))
local macro_rules | `(tactic| walk_at "binaryOp Mod int int") => `(tactic| (refine md_succ ?_))
set_option maxHeartbeats 1000000 in
theorem law_ties {w : World} {A : Around} {s : Shared} {h₀ : Heap} {L a ld : Addr} {cd : Value} {m cm mg mb : Str → Option Value} {gn cells : List (Addr × Obj)} {id : List Value} {ds : List Nat} {ed sz : Nat} {t : Tok} {Q : Flow → Shared → Prop} {E : Value → Shared → Prop}
    (G : GlobM mg mb h₀) (F : Fr h₀ L s.heap m) (N : News h₀ L s.heap ((ld, { cls := .type "list", data := .seq (List.toArray id) ed }) :: (gn ++ cells))) (X : CellsAre cm (csL L) cells) (hgn : ∀ p ∈ gn, ∀ v, p.2.data ≠ .cell v) (hd : IntsAre id (ds.map fun n : Nat => (n : Int))) (hdl : ds.length ≤ 5)
    (m1 : m "draws" = some (.ref ld)) (c1 : cm "size" = some (.int (sz : Nat) t)) (hsz : sz ≤ 5) (hh : A.handled = none)
    (k : ∀ lt it et tl h tk cells', Fr h₀ L h m → News h₀ L h ((lt, { cls := .type "list", data := .seq (List.toArray it) et }) :: (tl ++ ((ld, { cls := .type "list", data := .seq (List.toArray id) ed }) :: (gn ++ cells')))) →
      CellsAre (fun z => if z = "ties" then some (.ref lt) else cm z) (csL L) cells' → (∀ p ∈ tl, ∀ v, p.2.data ≠ .cell v) → (∀ h', (∀ p ∈ tl, h'.get? p.1 = some p.2) → TiesAt h' it (tiesOf sz ds)) → Q .next { s with heap := h, toks := tk }) :
    wpAny (model P w) A (exec (st17 3) (envL L a cd)) Q E s := by
  have hil := IntsAre.length hd
  rw [List.length_map] at hil
  unfold st17 bodyAt
  refine wpAny_Assign_Name ?_
  refine comp_tup (cl := [("size", L + 1)]) (isTie sz) ?h1 ?h2 ?h3 ?h4 ?h5 ?_
  case h1 => rfl
  case h2 => decide
  case h3 => rfl
  case h4 => decide
  case h5 => rfl
  walk_at "go"
  rename_i h1 F1 N1
  rw [show (some (1 : Int)) = some ((1 : Nat) : Int) from rfl, slicePick_from'] at N1
  dsimp only at N1 ⊢
  have hl1 : h1.IsList (s.heap.objs.size + 1) _ := IsL.isList (N1 _ (.head _)).1
  have hlc := hl1
  obtain ⟨ol, hol, _⟩ := hlc
  have hlt : s.heap.objs.size + 1 < h1.objs.size := Heap.lt_size hol
  have hi1 := ints_drop hd 1
  have Cc : h1.IsCell (L + 1) (some (.int (sz : Nat) t)) := isCell N1 X (by walk_at "csub") c1
  refine ⟨_, _, _, _, _, fun Q hQ => wpAny_pyIter_list hl1 hQ, Walks.list hh h1.objs.size (s.heap.objs.size + 1) (Nat.ne_of_lt hlt) _, ?_, ?_, ⟨⟨_, Heap.get?_push_size _ rfl, rfl, rfl⟩, hl1.at fun o e => Heap.get?_push_of_some _ e⟩, ?_, ?_, ?_⟩
  · refine Nat.le_trans ?_ (show 5 ≤ sizeLine by decide)
    rw [List.size_toArray, List.length_drop]
    show id.length - 1 ≤ 5
    omega
  · intro b hb
    rcases List.mem_cons.mp hb with rfl | hb
    · exact Nat.le_refl _
    · rw [List.mem_singleton.mp hb]; exact Nat.le_of_lt hlt
  · rintro i h ⟨⟨o, ho, _⟩, _⟩
    exact ⟨o, ho⟩
  · intro C i v s₃ m₃ E' hP Fc hm
    obtain ⟨n, t', hn1, rfl⟩ := ints_at hi1 (by simpa using hP)
    obtain ⟨x, hx, rfl⟩ : ∃ x : Nat, x ∈ ds ∧ n = (x : Int) := by
      have := List.mem_of_getElem? hn1
      obtain ⟨x, hx, rfl⟩ := List.mem_map.mp (List.mem_of_mem_drop this)
      exact ⟨x, hx, rfl⟩
    clear F1 N1 N F X
    walk_at "go"
    refine wpAny_newTuple ?_ (show 2 ≤ sizeLine by decide)
    exact ⟨⟨_, _, rfl, Heap.get?_none_of_le (Nat.le_refl _), ⟨_, Heap.get?_push_size _ rfl, rfl, _, rfl⟩, x, _, _, _, rfl, rfl⟩, _, _, rfl, fun b o e => Heap.get?_push_of_some _ e⟩
  · intro D h' tk ys vs e hD hDn hk hlen hP hR
    have hvs := list_of_places (items := _) (by exact hlen) hP
    rw [hvs] at hR
    obtain ⟨tl, Nt, hct, htt⟩ := ties_ledger (xs := ds.drop 1) F1 (by rw [List.map_drop]; simpa using hi1) hR
    have F2 := F1.keeps hk
    have N2 : News h₀ L h' ((D, { cls := .type "list", data := .seq (List.toArray ys) e }) :: (tl ++ ((ld, { cls := .type "list", data := .seq (List.toArray id) ed }) :: (gn ++ cells)))) := by
      intro q hq
      rcases List.mem_cons.mp hq with rfl | hq
      · refine ⟨hD, fun q => ?_, ?_⟩
        · obtain ⟨oL, _, _, hoL, _⟩ := F1.ns
          have q' : D = L := q
          rw [q', hoL] at hDn; cases hDn
        · cases q : h₀.get? D with
          | none => rfl
          | some o' => rw [F1.keep _ _ q] at hDn; cases hDn
      rcases List.mem_append.mp hq with hq | hq
      · exact Nt q hq
      · exact ⟨hk _ _ (N1 q (.tail _ hq)).1, (N1 q (.tail _ hq)).2⟩
    have N2' : News h₀ L h' (((D, { cls := .type "list", data := .seq (List.toArray ys) e }) :: (tl ++ ((ld, { cls := .type "list", data := .seq (List.toArray id) ed }) :: gn))) ++ cells) := by
      simpa using N2
    refine stCell F2 N2' X ?_ fun h3 cells' F3 N3 X3 => ?_
    · intro p hp v
      rcases List.mem_cons.mp hp with rfl | hp
      · exact fun e => nomatch e
      rcases List.mem_append.mp hp with hp | hp
      · exact hct p hp v
      rcases List.mem_cons.mp hp with rfl | hp
      · exact fun e => nomatch e
      · exact hgn p hp v
    · exact k D ys e tl h3 tk cells' F3 (by simpa using N3) X3 hct htt
end

-- part M24
local macro_rules | `(tactic| walk_at "csub") => `(tactic| first | assumption | (intro q hq; (repeat (first | exact hq | exact List.mem_append_right _ hq | refine List.mem_cons_of_mem _ ?_)); done) | (intro q hq; exact List.mem_cons_of_mem _ (by assumption)))
section
theorem afreshM24 : True := by
  w_top off
  trivial
local macro_rules | `(tactic| walk_at "idle") => `(tactic| skip)
local macro_rules | `(tactic| walk_at "idle") => `(tactic| skip)
local macro_rules | `(tactic| walk_at "idle") => `(tactic| skip)
noncomputable def rBody : List Stmt := match st17 5 with | .For _ _ b _ _ => b | _ => []

local macro_rules | `(tactic| walk_at "call builtin:list.append") => `(tactic| (refine append_in (own := []) (by assumption) (by assumption) (fun _ h => nomatch h) (by assumption) (fun _ _ N => ?_) (by assumption); (replace N := news_cons_nil N)))
theorem room_body {w : World} {A : Around} {s : Shared} {h₀ : Heap} {L a l : Addr} {cd : Value} {m cm : Str → Option Value} {vi : List Value} {ep c : Nat} {tc : Tok} {gn cells : List (Addr × Obj)} {y : Str} {t : Tok}
    (F : Fr h₀ L s.heap m) (N : News h₀ L s.heap ((l, { cls := .type "list", data := .seq (List.toArray (vi ++ [.int (c : Nat) tc])) ep }) :: gn)) (X : CellsAre cm (csL L) cells) (hsub : ∀ q ∈ cells, q ∈ (l, ({ cls := .type "list", data := .seq (List.toArray (vi ++ [.int (c : Nat) tc])) ep } : Obj)) :: gn) (hln : ∀ q ∈ gn, q.1 ≠ l)
    (hol : (vi ++ [Value.int (c : Nat) tc]).length ≤ sizeLine) (m2 : cm "room" = some (.ref l)) (m3 : m "sense" = some (.str y t)) :
    wpAny (model P w) A (execs rBody (envL L a cd)) (fun fl s' => fl = .next ∧ ∃ u ep' h tk, s' = { s with heap := h, toks := tk } ∧ Fr h₀ L h m ∧
      News h₀ L h ((l, { cls := .type "list", data := .seq (List.toArray (vi ++ [.int (c : Nat) tc] ++ [.int ((c + if y = "" then 0 else 1 : Nat) : Int) u])) ep' }) :: gn)) (fun _ _ => False) s := by
  unfold rBody st17 bodyAt
  walk_at "go"
  refine item_last (vi := vi) (IsL.isList (N _ (.head _)).1) ?_
  walk_at "go"
  · rename_i hy h1 F1 N1
    have e : ¬ y = "" := by simpa using hy
    rw [if_neg e]
    exact ⟨rfl, _, _, h1, _, rfl, F1, N1⟩
  · rename_i hy h1 F1 N1
    have e : y = "" := by simpa using hy
    rw [if_pos e]
    rw [Int.add_zero] at N1
    exact ⟨rfl, _, _, h1, _, rfl, F1, N1⟩

/-- is the place seen -/
noncomputable def vis (ms : List Str) (i : Nat) : Bool := decide (ms.getD i "" ≠ "")
noncomputable def roomOf (ms : List Str) (k : Nat) : List Int := (List.range (k + 1)).map fun j => ((rm (vis ms) j : Nat) : Int)
theorem roomOf_succ (ms : List Str) (k : Nat) : roomOf ms (k + 1) = roomOf ms k ++ [((rm (vis ms) (k + 1) : Nat) : Int)] := by simp [roomOf, List.range_succ]
theorem strs_at {vs : List Value} {ns : List Str} (h : StrsAre vs ns) : ∀ {i : Nat} {v : Value}, vs[i]? = some v → ∃ n t, ns[i]? = some n ∧ v = .str n t := by
  induction h with
  | nil => intro i v h; simp at h
  | cons n t h' ih =>
    intro i v h
    cases i with
    | zero => exact ⟨n, t, rfl, (Option.some.inj h).symm⟩
    | succ i => exact ih (by simpa using h)
theorem cells_addr {cm : Str → Option Value} : ∀ {cs : List (Str × Addr)} {cells : List (Addr × Obj)}, CellsAre cm cs cells → cells.map (·.1) = cs.map (·.2)
  | _, _, .nil => rfl
  | _, _, .cons _ h => by simp [cells_addr h]
theorem cells_apart {cm cm' : Str → Option Value} {cs : List (Str × Addr)} {cells cells' : List (Addr × Obj)} {l : Addr} (X : CellsAre cm cs cells) (X' : CellsAre cm' cs cells') (h : ∀ q ∈ cells, q.1 ≠ l) : ∀ q ∈ cells', q.1 ≠ l := fun q hq e => by
  have : q.1 ∈ cells.map (·.1) := by rw [cells_addr X, ← cells_addr X']; exact List.mem_map_of_mem hq
  obtain ⟨q', hq', e'⟩ := List.mem_map.mp this
  exact h q' hq' (e'.trans e)

theorem news_step {h₀ h h' : Heap} {L it : Addr} {news : List (Addr × Obj)} (N : News h₀ L h news) (hne : ∀ q ∈ news, q.1 ≠ it) (hk : ∀ b o, b ≠ it → h.get? b = some o → h'.get? b = some o) : News h₀ L h' news :=
  fun q hq => ⟨hk _ _ (hne q hq) (N q hq).1, (N q hq).2⟩
theorem fr_step {h₀ h h' : Heap} {L it : Addr} {m : Str → Option Value} (F : Fr h₀ L h m) (hL : L < it) (hk : ∀ b o, b ≠ it → h.get? b = some o → h'.get? b = some o) : Fr h₀ L h' m :=
  ⟨F.ns.at' fun o e => hk _ _ (Nat.ne_of_lt hL) e, fun b o e => hk _ _ (Nat.ne_of_lt (Nat.lt_trans (Nat.lt_of_lt_of_le (Heap.lt_size e) F.above) hL)) (F.keep b o e), F.above⟩
theorem news_own {h₀ h : Heap} {L : Addr} {news own : List (Addr × Obj)} {fp : List Addr} (N : News h₀ L h news) (hown : ∀ p ∈ own, p.1 ∈ fp ∧ h.get? p.1 = some p.2) (hfp : ∀ b ∈ fp, b ≠ L ∧ h₀.get? b = none) : News h₀ L h (own ++ news) := fun q hq => by
  rcases List.mem_append.mp hq with hq | hq
  · exact ⟨(hown q hq).2, hfp _ (hown q hq).1⟩
  · exact N q hq
theorem new_at {h₀ h : Heap} {L : Addr} {m : Str → Option Value} (F : Fr h₀ L h m) : h.objs.size ≠ L ∧ h₀.get? h.objs.size = none :=
  ⟨Nat.ne_of_gt F.ns.lt, Heap.get?_none_of_le (Nat.le_trans F.above (Nat.le_of_lt F.ns.lt))⟩

inductive RoomInv (s : Shared) (h₀ : Heap) (L lr : Addr) (gn cells : List (Addr × Obj)) (ms : List Str) (m : Str → Option Value) (i : Nat) (s' : Shared) : Prop
  | mk (vi : List Value) (tc : Tok) (ep' : Nat) (h : Heap) (tk : Nat) (m' : Str → Option Value) (e : s' = { s with heap := h, toks := tk }) (F : Fr h₀ L h m') (N : News h₀ L h ((lr, { cls := .type "list", data := .seq (List.toArray (vi ++ [.int (rm (vis ms) i : Nat) tc])) ep' }) :: (gn ++ cells)))
    (hv : IntsAre (vi ++ [.int (rm (vis ms) i : Nat) tc]) (roomOf ms i)) (hm : ∀ x : Str, x ≠ "sense" → m' x = m x)

set_option maxHeartbeats 1000000 in
theorem law_room {w : World} {A : Around} {s : Shared} {h₀ : Heap} {L a lr lm : Addr} {cd : Value} {m cm : Str → Option Value} {gn cells : List (Addr × Obj)} {im : List Value} {ms : List Str} {em ep : Nat} {tc : Tok} {Q : Flow → Shared → Prop}
    (F : Fr h₀ L s.heap m) (N : News h₀ L s.heap ((lr, { cls := .type "list", data := .seq (List.toArray [.int 0 tc]) ep }) :: (gn ++ cells))) (X : CellsAre cm (csL L) cells) (hln : ∀ q ∈ gn ++ cells, q.1 ≠ lr)
    (hlm : (lm, { cls := .type "list", data := .seq (List.toArray im) em }) ∈ gn) (hms : StrsAre im ms) (hml : ms.length ≤ 5)
    (c1 : cm "meant" = some (.ref lm)) (c2 : cm "room" = some (.ref lr)) (hh : A.handled = none)
    (k : ∀ ir ep' h tk m', Fr h₀ L h m' → News h₀ L h ((lr, { cls := .type "list", data := .seq (List.toArray ir) ep' }) :: (gn ++ cells)) → IntsAre ir (roomOf ms ms.length) → (∀ x : Str, x ≠ "sense" → m' x = m x) → Q .next { s with heap := h, toks := tk }) :
    wpAny (model P w) A (exec (st17 5) (envL L a cd)) Q (fun _ _ => False) s := by
  have hil := StrsAre_length hms
  unfold st17 bodyAt
  refine for_walk ?_
  walk_at "go"
  have hl : s.heap.IsList lm im.toArray := N.isList (.tail _ (List.mem_append_left _ hlm))
  have hlow : ∀ q ∈ (lr, ({ cls := .type "list", data := .seq (List.toArray [.int 0 tc]) ep } : Obj)) :: (gn ++ cells), q.1 ≠ s.heap.objs.size := fun q hq => Nat.ne_of_lt (Heap.lt_size (N q hq).1)
  have hlr : lr ≠ s.heap.objs.size := hlow _ (.head _)
  obtain ⟨ol, hol, _⟩ := id hl
  have hlt : lm < s.heap.objs.size := Heap.lt_size hol
  refine ⟨_, [s.heap.objs.size, lm], _, _, _, RoomInv s h₀ L lr gn cells ms m,
    fun Q hQ => wpAny_pyIter_list hl hQ, Walks.list hh s.heap.objs.size lm (Nat.ne_of_lt hlt) _, ⟨⟨_, Heap.get?_push_size _ rfl, rfl, rfl⟩, hl.at fun o e => Heap.get?_push_of_some _ e⟩,
    ⟨[], tc, ep, _, _, m, rfl, F.push _, fun q hq => ⟨Heap.get?_push_of_some _ (N q hq).1, (N q hq).2⟩, .cons _ _ .nil, fun _ _ => rfl⟩, ?_, ?_⟩
  · rintro i v s' h' tk' own hi hv ⟨vi, tc', ep', h, tk, m', rfl, F1, N1, hvi, hm⟩ hk hown
    obtain ⟨y, ty, hy, rfl⟩ := strs_at hms (by simpa using hv)
    refine wpAny_pure (wpAny_assign_Name ?_)
    have F2 := fr_step F1 F.ns.lt hk
    have N2 : News h₀ L h' ((lr, { cls := .type "list", data := .seq (List.toArray (vi ++ [.int (rm (vis ms) i : Nat) tc'])) ep' }) :: (own ++ (gn ++ cells))) := by
      have N3 := news_own (news_step N1 (fun q hq => by
        rcases List.mem_cons.mp hq with rfl | hq
        · exact hlr
        · exact hlow q (.tail _ hq)) hk) hown (fun b hb => by
          rcases List.mem_cons.mp hb with e | hb
          · rw [e]; exact new_at F
          · rw [List.mem_singleton.mp hb]; exact (N _ (.tail _ (List.mem_append_left _ hlm))).2)
      intro q hq
      refine N3 q ?_
      simp only [List.mem_cons, List.mem_append] at hq ⊢
      rcases hq with h | h | h
      · exact .inr (.inl h)
      · exact .inl h
      · exact .inr (.inr h)
    refine stL F2 N2 fun h3 F3 N3 => ?_
    have hlen : (vi ++ [Value.int (rm (vis ms) i : Nat) tc']).length ≤ sizeLine := by
      rw [IntsAre.length hvi, roomOf, List.length_map, List.length_range]
      have : im.toArray.size = im.length := List.size_toArray ..
      exact Nat.le_trans (m := 6) (by omega) (by decide)
    refine wpAny_mono (room_body F3 N3 X (fun q hq => .tail _ (List.mem_append_right _ (List.mem_append_right _ hq))) ?_ hlen c2 (if_pos rfl)) ?_ (fun _ _ x => x)
    · intro q hq
      rcases List.mem_append.mp hq with hq | hq
      · rcases List.mem_cons.mp (hown q hq).1 with e | e
        · rw [e]; exact hlr.symm
        · rw [List.mem_singleton.mp e]; exact hln _ (List.mem_append_left _ hlm)
      · exact hln q hq
    · rintro fl s4 ⟨rfl, u, ep4, h4, tk4, rfl, F4, N4⟩
      have e : rm (vis ms) (i + 1) = rm (vis ms) i + if y = "" then 0 else 1 := by
        rw [rm, vis, List.getD_eq_getElem?_getD, hy]
        show _ + (if decide (y ≠ "") = true then 1 else 0) = _
        by_cases q : y = ""
        · rw [if_pos q, if_neg (by simp [q])]
        · rw [if_neg q, if_pos (by simp [q])]
      refine ⟨fun p hp => (N4 p (.tail _ (List.mem_append_left _ hp))).1, vi ++ [.int (rm (vis ms) i : Nat) tc'], u, ep4, h4, tk4, _, rfl, F4, fun q hq => ?_, ?_, fun x hx => ?_⟩
      · rw [e] at hq
        refine N4 q ?_
        rcases List.mem_cons.mp hq with rfl | hq
        · exact .head _
        · exact .tail _ (List.mem_append_right _ hq)
      · rw [roomOf_succ, e]; exact ints_snoc hvi
      · show (if x = _ then _ else _) = _
        rw [if_neg hx]; exact hm x hx
  · rintro s' h' tk' ⟨vi, tc', ep', h, tk, m', rfl, F1, N1, hvi, hm⟩ hk
    have e : im.toArray.size = ms.length := by rw [List.size_toArray]; exact hil
    rw [e] at hvi N1
    refine k _ ep' h' tk' m' (fr_step F1 F.ns.lt hk) (news_step N1 (fun q hq => ?_) hk) hvi hm
    rcases List.mem_cons.mp hq with rfl | hq
    · exact hlr
    · exact hlow q (.tail _ hq)
end

-- part M25
section
theorem afreshM25 : True := by
  w_top off
  trivial
local macro_rules | `(tactic| walk_at "idle") => `(tactic| skip)
local macro_rules | `(tactic| walk_at "idle") => `(tactic| skip)
local macro_rules | `(tactic| walk_at "idle") => `(tactic| skip)
/-- room = [0] -/
theorem law_room0 {w : World} {A : Around} {s : Shared} {h₀ : Heap} {L a : Addr} {cd : Value} {m cm : Str → Option Value} {gn cells : List (Addr × Obj)} {Q : Flow → Shared → Prop} {E : Value → Shared → Prop}
    (F : Fr h₀ L s.heap m) (N : News h₀ L s.heap (gn ++ cells)) (X : CellsAre cm (csL L) cells) (hgn : ∀ p ∈ gn, ∀ v, p.2.data ≠ .cell v)
    (k : ∀ lr tc ep h tk cells', Fr h₀ L h m → News h₀ L h ((lr, { cls := .type "list", data := .seq (List.toArray [.int 0 tc]) ep }) :: (gn ++ cells')) → CellsAre (fun z => if z = "room" then some (.ref lr) else cm z) (csL L) cells' →
      (∀ q ∈ gn ++ cells', q.1 ≠ lr) → Q .next { s with heap := h, toks := tk }) :
    wpAny (model P w) A (exec (st17 4) (envL L a cd)) Q E s := by
  unfold st17 bodyAt
  refine wpAny_Assign_Name ?_
  walk_at "go"
  rename_i h1 F1 N1
  have hne : ∀ q ∈ gn ++ cells, q.1 ≠ s.heap.objs.size := fun q hq => Nat.ne_of_lt (Heap.lt_size (N q hq).1)
  refine stCell (front := (_, _) :: gn) F1 N1 X ?_ fun h3 cells' F3 N3 X3 => ?_
  · intro p hp v
    rcases List.mem_cons.mp hp with rfl | hp
    · exact fun e => nomatch e
    · exact hgn p hp v
  · refine k _ _ _ h3 _ cells' F3 N3 X3 fun q hq => ?_
    rcases List.mem_append.mp hq with hq | hq
    · exact hne q (List.mem_append_left _ hq)
    · exact cells_apart X X3 (fun q hq => hne q (List.mem_append_right _ hq)) q hq

/-- parts = list(range(room[-1] + 1)) -/
theorem law_parts0 {w : World} {A : Around} {s : Shared} {h₀ : Heap} {L a lr : Addr} {cd : Value} {m cm mg mb : Str → Option Value} {gn cells : List (Addr × Obj)} {vi : List Value} {c er : Nat} {tc : Tok} {Q : Flow → Shared → Prop} {E : Value → Shared → Prop}
    (G : GlobM mg mb h₀) (F : Fr h₀ L s.heap m) (N : News h₀ L s.heap ((lr, { cls := .type "list", data := .seq (List.toArray (vi ++ [.int (c : Nat) tc])) er }) :: (gn ++ cells))) (X : CellsAre cm (csL L) cells) (hgn : ∀ p ∈ gn, ∀ v, p.2.data ≠ .cell v)
    (c1 : cm "room" = some (.ref lr)) (hc : c ≤ 10) (hh : A.handled = none)
    (k : ∀ lp ip ep h tk cells', Fr h₀ L h m → News h₀ L h ((lp, { cls := .type "list", data := .seq (List.toArray ip) ep }) :: (lr, { cls := .type "list", data := .seq (List.toArray (vi ++ [.int (c : Nat) tc])) er }) :: (gn ++ cells')) → CellsAre (fun z => if z = "parts" then some (.ref lp) else cm z) (csL L) cells' →
      IntsAre ip ((List.range (c + 1)).map fun i : Nat => (i : Int)) → Q .next { s with heap := h, toks := tk }) :
    wpAny (model P w) A (exec (st17 6) (envL L a cd)) Q E s := by
  unfold st17 bodyAt
  refine wpAny_Assign_Name ?_
  walk_at "go"
  refine item_last (vi := vi) (IsL.isList (N _ (.head _)).1) ?_
  walk_at "go"
  rename_i F1 N1 h2 tk2 t2 u2 v2 hR F2 N2 hk2
  have e : ((c : Nat) : Int) + 1 = ((c + 1 : Nat) : Int) := by omega
  rw [e] at hR
  have hz : Builtin.Range.rangeSize 0 ((c + 1 : Nat) : Int) 1 = ((c + 1 : Nat) : Int) := by rw [rangeSize_nat]; omega
  refine call_list_range (n := c + 1) hh hR (small_one (by omega) (by omega) (by omega) (by omega)) hz (Nat.le_trans (m := 11) (by omega) (by decide)) fun h4 tk4 acc c4 k4 hacc hit => ?_
  have F4 := F2.keeps k4
  have hai := range_ints hit
  have N4 : News h₀ L h4 ((h2.objs.size, { cls := .type "list", data := .seq (List.toArray acc.toList) c4 }) :: (lr, { cls := .type "list", data := .seq (List.toArray (vi ++ [.int (c : Nat) tc])) er }) :: (gn ++ cells)) := by
    intro q hq
    rcases List.mem_cons.mp hq with rfl | hq
    · exact ⟨by simpa using hacc, new_at F2⟩
    · exact ⟨k4 _ _ (N2 q hq).1, (N2 q hq).2⟩
  refine stCell (front := (_, _) :: (_, _) :: gn) F4 N4 X ?_ fun h5 cells' F5 N5 X5 => ?_
  · intro p hp v
    rcases List.mem_cons.mp hp with rfl | hp
    · exact fun e => nomatch e
    rcases List.mem_cons.mp hp with rfl | hp
    · exact fun e => nomatch e
    · exact hgn p hp v
  · refine k _ acc.toList _ h5 _ cells' F5 N5 X5 ?_
    have e2 : (fun i : Nat => (0 : Int) + (i : Int)) = fun i : Nat => (i : Int) := by funext i; omega
    rwa [e2] at hai
end

-- part M26
section
theorem afreshM26 : True := by
  w_top off
  trivial
local macro_rules | `(tactic| walk_at "idle") => `(tactic| skip)
local macro_rules | `(tactic| walk_at "idle") => `(tactic| skip)
local macro_rules | `(tactic| walk_at "idle") => `(tactic| skip)
local macro_rules | `(tactic| walk_at "idle") => `(tactic| skip)
local macro_rules | `(tactic| walk_at "idle") => `(tactic| skip)
section
variable {prog : Program} {w : World} {A : Around} {E : Value → Shared → Prop} {s : Shared} {env : Env}
/-- as for_walk, and the turn knows the iterator -/
theorem for_walkS {target iter : Expr} {body : List Stmt} {pos : Pos} {Q : Flow → Shared → Prop}
    (h : wpAny (model prog w) A (eval iter env) (fun x s₁ => ∃ (o : Obj) (fp : List Addr) (n : Nat) (Pz : Nat → Value → Prop) (St : Nat → Heap → Prop) (I : Nat → Shared → Prop),
      (∀ Q, Q (.ref s₁.heap.objs.size) { s₁ with heap := s₁.heap.push o } → wpAny (model prog w) A (pyIter x) Q (fun _ _ => False) s₁) ∧
      Walks prog w A s₁.heap.objs.size fp [s₁.heap.objs.size] n Pz St ∧ St 0 (s₁.heap.push o) ∧ I 0 { s₁ with heap := s₁.heap.push o } ∧
      (∀ i v s h' tk (own : List (Addr × Obj)), i < n → Pz i v → I i s → (∀ b o, b ≠ s₁.heap.objs.size → s.heap.get? b = some o → h'.get? b = some o) → (∀ p ∈ own, p.1 ∈ fp ∧ h'.get? p.1 = some p.2) → St (i + 1) h' →
        wpAny (model prog w) A (letOwnedTupleGo target (.ref s₁.heap.objs.size) v) (fun _ s₂ => wpAny (model prog w) A (assign target env v) (fun _ s₃ => wpAny (model prog w) A (execs body env) (fun f s₄ => match f with
            | .next | .cont => (∀ p ∈ own, s₄.heap.get? p.1 = some p.2) ∧ I (i + 1) s₄
            | .brk => Q .next s₄
            | .ret v => Q (.ret v) s₄) (fun _ _ => False) s₃) (fun _ _ => False) s₂) (fun _ _ => False) { s with heap := h', toks := tk }) ∧
      (∀ s h' tk, I n s → (∀ b o, b ≠ s₁.heap.objs.size → s.heap.get? b = some o → h'.get? b = some o) → Q .next { s with heap := h', toks := tk })) (fun _ _ => False) s)
    (hs : ∀ x, foldedSetIterable iter env x = pure x := by intro _; rfl) :
    wpAny (model prog w) A (exec (.For target iter body [] pos) env) Q E s := by
  refine for_go (wpAny_mono h (fun x s₁ h₁ => ?_) fun _ _ x => x) hs
  obtain ⟨o, fp, n, Pz, St, I, hit, W, hst, hI, turn, done⟩ := h₁
  refine hit _ ⟨n, fun k s => ∃ i, i ≤ n ∧ k = n - i ∧ St i s.heap ∧ I i s, ⟨0, Nat.zero_le _, rfl, hst, hI⟩, ?_⟩
  rintro k s ⟨i, hi, rfl, hSt, hIi⟩
  rcases Nat.lt_or_ge i n with hlt | hge
  · refine W.item i s _ _ hlt hSt fun v h' tk hP hSt' hk => ?_
    have hk' : ∀ b o, b ≠ s₁.heap.objs.size → s.heap.get? b = some o → h'.get? b = some o := fun b o hb => hk b o (by simpa using hb)
    refine wpAny_mono (turn i v s h' tk (fp.filterMap fun b => (h'.get? b).map fun o => (b, o)) hlt hP hIi hk' (fun p hp => ?_) hSt') (fun _ s₂ h₂ => wpAny_mono h₂ (fun _ s₃ h₃ => wpAny_mono h₃ (fun f s₄ h₄ => ?_) fun _ _ x => x) fun _ _ x => x) fun _ _ x => x
    · obtain ⟨b, hb, e⟩ := List.mem_filterMap.mp hp
      obtain ⟨o', ho', rfl⟩ := Option.map_eq_some_iff.mp e
      exact ⟨hb, ho'⟩
    · have next : ((∀ p ∈ (fp.filterMap fun b => (h'.get? b).map fun o => (b, o)), s₄.heap.get? p.1 = some p.2) ∧ I (i + 1) s₄) → ∃ m, m < n - i ∧ ∃ i', i' ≤ n ∧ m = n - i' ∧ St i' s₄.heap ∧ I i' s₄ := fun hx =>
        ⟨n - (i + 1), by omega, i + 1, hlt, rfl, W.frame _ _ _ hSt' (fun b hb o' e => hx.1 (b, o') (List.mem_filterMap.mpr ⟨b, hb, by rw [e]; rfl⟩)), hx.2⟩
      cases f with
      | next => exact next h₄
      | cont => exact next h₄
      | brk => exact h₄
      | ret v => exact h₄
  · obtain rfl : i = n := Nat.le_antisymm hi hge
    exact W.done s _ _ hSt fun h' tk hk => done s h' tk hIi fun b o hb => hk b o (by simpa using hb)
end

theorem cxCell2 {M : Model} {A : Around} {E : Value → Shared → Prop} {s : Shared} {env : Env} {scope : Scope} {cl : List (Str × Addr)} {C : Addr} {h₀ : Heap} {m : Str → Option Value} {x : Str} {c : Addr} {pos : Pos} {v : Value} {Q : Value → Shared → Prop}
    (hc : cl.lookup x = some c) (F : Fr h₀ C s.heap m) (hv : h₀.IsCell c (some v)) (h : Q v s)
    (hk : (compEnvC scope cl C env).scope.kind = .function := by rfl) (hl : (compEnvC scope cl C env).kindOf x = some .cell := by rfl) (hd : (x == ("__debug__" : Str)) = false := by decide) :
    wpAny M A (eval (.Name x pos) (compEnvC scope cl C env)) Q E s := cxCell F hv h hc hk hl hd
local macro_rules | `(tactic| walk_at "eval Name") => `(tactic| ((with_reducible show wpAny _ _ (eval _ (compEnvC _ _ _ _)) _ _ _); refine cxCell2 (by rfl) (by assumption) (by assumption) ?_))
local macro_rules | `(tactic| walk_at "eval Name") => `(tactic| ((with_reducible show wpAny _ _ (eval _ (compEnvC _ _ _ _)) _ _ _); refine cxLoc (by assumption) (by walk_at "mlook") ?_))
noncomputable def pElt : Expr := match st17 7 with | .For _ _ [.Assign _ (.ListComp e _ _ _) _] _ _ => e | _ => default
noncomputable def pScope : Scope := match st17 7 with | .For _ _ [.Assign _ (.ListComp _ _ sc _) _] _ _ => sc | _ => default
noncomputable abbrev pCl (L : Addr) : List (Str × Addr) := [("room", L + 1 + 1 + 1 + 1), ("parts", L + 1 + 1 + 1 + 1 + 1), ("other", L + 1 + 1 + 1 + 1 + 1 + 1 + 1), ("one", L + 1 + 1 + 1 + 1 + 1 + 1)]

local macro_rules | `(tactic| walk_at "subscriptTail") => `(tactic| (refine item_get (by walk_at "lst") (by assumption) (by assumption) (by omega) (fun _ => ?_)))
theorem part_elt {w : World} {A : Around} {E : Value → Shared → Prop} {s : Shared} {hb : Heap} {L C a lr lp : Addr} {cd : Value} {m₃ : Str → Option Value} {ir ip : List Value} {rs qs : List Int} {p q ra rb : Nat} {x va vb : Int} {t t1 t2 : Tok}
    (F : Fr hb C s.heap m₃) (hm : m₃ "part" = some (.int x t)) (k1 : hb.IsCell (L + 1 + 1 + 1 + 1) (some (.ref lr))) (k2 : hb.IsCell (L + 1 + 1 + 1 + 1 + 1) (some (.ref lp))) (k3 : hb.IsCell (L + 1 + 1 + 1 + 1 + 1 + 1 + 1) (some (.int (q : Nat) t1))) (k4 : hb.IsCell (L + 1 + 1 + 1 + 1 + 1 + 1) (some (.int (p : Nat) t2)))
    (hlr : hb.IsList lr ir.toArray) (hri : IntsAre ir rs) (hlp : hb.IsList lp ip.toArray) (hpi : IntsAre ip qs) (h1 : rs[p]? = some ((ra : Nat) : Int)) (h2 : rs[q]? = some ((rb : Nat) : Int)) (h3 : qs[ra]? = some va) (h4 : qs[rb]? = some vb) (hp : p < 100) (hq : q < 100) (hra : ra < 100) (hrb : rb < 100) :
    wpAny (model P w) A (eval pElt (compEnvC pScope (pCl L) C (envL L a cd))) (fun y s₄ => (∃ u, y = .int (if x = va then vb else x) u) ∧ Keeps s s₄) E s := by
  conv in eval _ _ => arg 1; whnf
  conv in compEnvC _ _ _ _ => arg 1; whnf
  walk_at "go"
  · rename_i e _ _
    exact ⟨⟨_, by rw [if_pos e]⟩, _, _, rfl, fun _ _ e => e⟩
  · rename_i e
    exact ⟨⟨_, by rw [if_neg e]⟩, _, _, rfl, fun _ _ e => e⟩

theorem mapped_ints {f : Int → Int} : ∀ {vs : List Value} {ns : List Int} {ys : List Value}, IntsAre vs ns → Paired (fun v y => ∃ i t u, v = .int i t ∧ y = .int (f i) u) vs ys → IntsAre ys (ns.map f)
  | _, _, _, .nil, .nil => .nil
  | _, _, _, .cons n t h, .cons h1 h2 => by
    obtain ⟨i, t', u, e1, rfl⟩ := h1
    cases e1
    exact .cons _ _ (mapped_ints h h2)

noncomputable def pComp : Expr := match st17 7 with | .For _ _ [.Assign _ e _] _ _ => e | _ => default

set_option maxHeartbeats 1000000 in
/-- [...] with one and other set -/
theorem parts_comp {w : World} {A : Around} {E : Value → Shared → Prop} {s : Shared} {h₀ : Heap} {L a lr lp : Addr} {cd : Value} {m cm : Str → Option Value} {ir ip : List Value} {rs qs : List Int} {er ep p q ra rb : Nat} {va vb : Int} {t1 t2 : Tok} {gn cells : List (Addr × Obj)} {Q : Value → Shared → Prop}
    (F : Fr h₀ L s.heap m) (N : News h₀ L s.heap ((lp, { cls := .type "list", data := .seq (List.toArray ip) ep }) :: (gn ++ cells))) (X : CellsAre cm (csL L) cells)
    (hlr : (lr, { cls := .type "list", data := .seq (List.toArray ir) er }) ∈ gn) (hri : IntsAre ir rs) (hpi : IntsAre ip qs) (h1 : rs[p]? = some ((ra : Nat) : Int)) (h2 : rs[q]? = some ((rb : Nat) : Int)) (h3 : qs[ra]? = some va) (h4 : qs[rb]? = some vb) (hp : p < 100) (hq : q < 100) (hra : ra < 100) (hrb : rb < 100) (hql : qs.length ≤ 100)
    (c1 : cm "room" = some (.ref lr)) (c2 : cm "parts" = some (.ref lp)) (c3 : cm "other" = some (.int (q : Nat) t1)) (c4 : cm "one" = some (.int (p : Nat) t2)) (hh : A.handled = none)
    (k : ∀ D ys e h tk, Fr h₀ L h m → News h₀ L h ((D, { cls := .type "list", data := .seq (List.toArray ys) e }) :: (lp, { cls := .type "list", data := .seq (List.toArray ip) ep }) :: (gn ++ cells)) →
      IntsAre ys (qs.map fun x => if x = va then vb else x) → s.heap.get? D = none → Q (.ref D) { s with heap := h, toks := tk }) :
    wpAny (model P w) A (eval pComp (envL L a cd)) Q E s := by
  have hil := IntsAre.length hpi
  conv in eval _ _ => arg 1; whnf
  refine wpAny_ListComp_free (cl := pCl L) (fun _ => true) (fun v y => ∃ i t u, v = .int i t ∧ y = .int (if i = va then vb else i) u) ?g1 ?g2 ?g3 ?g4 ?g5 ?_
  case g1 => rfl
  case g2 => decide
  case g3 => rfl
  case g4 => decide
  case g5 => rfl
  walk_at "go"
  have hl : s.heap.IsList lp ip.toArray := N.isList (.head _)
  have hlt : lp < s.heap.objs.size := Heap.lt_size (N _ (.head _)).1
  refine comp_expr _ _ (fun Q hQ => wpAny_pyIter_list hl hQ) (Walks.list hh s.heap.objs.size lp (Nat.ne_of_lt hlt) _) ?_ ?_ ⟨⟨_, Heap.get?_push_size _ rfl, rfl, rfl⟩, hl.at fun o e => Heap.get?_push_of_some _ e⟩ F N ?_ ?_
  · rw [List.size_toArray, hil]; exact Nat.le_trans hql (by decide)
  · intro b hb
    rcases List.mem_cons.mp hb with e | hb
    · rw [e]; exact Nat.le_refl _
    · rw [List.mem_singleton.mp hb]; exact Nat.le_of_lt hlt
  · refine ⟨fun C i v s₃ m₃ E' hP Fc hm => wpAny_tests_nil ⟨rfl, _, _, rfl, fun _ _ e => e⟩, fun C i v s₃ m₃ E' hP hp' Fc hm => ?_⟩
    obtain ⟨n, t', hn1, rfl⟩ := ints_at hpi (by simpa using hP)
    refine wpAny_mono (part_elt (a := a) (cd := cd) (L := L) Fc hm (isCell N X (by walk_at "csub") c1) (isCell N X (by walk_at "csub") c2) (isCell N X (by walk_at "csub") c3) (isCell N X (by walk_at "csub") c4) (N.isList (.tail _ (List.mem_append_left _ hlr))) hri hl hpi h1 h2 h3 h4 hp hq hra hrb) ?_ (fun _ _ x => x)
    rintro y s4 ⟨⟨u, rfl⟩, hk⟩
    exact ⟨⟨n, t', u, rfl, rfl⟩, hk⟩
  · intro D h' tk ys vs e F1 N1 hk hDn hlen hP hR
    have hvs := list_of_places (items := _) (by exact hlen) hP
    have hft : vs.filter (fun _ => true) = vs := List.filter_eq_self.mpr fun _ _ => rfl
    rw [hft, hvs] at hR
    exact k D ys e h' tk F1 N1 (mapped_ints (f := fun x => if x = va then vb else x) hpi (by simpa using hR)) hDn
end

-- part M27
section
theorem afreshM27 : True := by
  w_top off
  trivial
theorem no_cell_cons {p : Addr × Obj} {l : List (Addr × Obj)} (h : ∀ v, p.2.data ≠ .cell v) (hl : ∀ p ∈ l, ∀ v, p.2.data ≠ .cell v) : ∀ q ∈ p :: l, ∀ v, q.2.data ≠ .cell v := fun q hq => by
  rcases List.mem_cons.mp hq with rfl | hq
  · exact h
  · exact hl q hq
theorem no_cell_app {l l' : List (Addr × Obj)} (h : ∀ p ∈ l, ∀ v, p.2.data ≠ .cell v) (hl : ∀ p ∈ l', ∀ v, p.2.data ≠ .cell v) : ∀ q ∈ l ++ l', ∀ v, q.2.data ≠ .cell v := fun q hq => by
  rcases List.mem_append.mp hq with hq | hq
  · exact h q hq
  · exact hl q hq

/-- the list of parts after k ties -/
noncomputable def partsL (es : List (Nat × Nat)) (V k : Nat) : List Int := (List.range (V + 1)).map fun v => ((pt es k v : Nat) : Int)
theorem partsL_get {es : List (Nat × Nat)} {V k v : Nat} (h : v ≤ V) : (partsL es V k)[v]? = some ((pt es k v : Nat) : Int) := by
  simp [partsL, List.getElem?_range (show v < V + 1 by omega)]
theorem partsL_succ {es : List (Nat × Nat)} {V k : Nat} : (partsL es V k).map (fun x => if x = ((pt es k (es.getD k (0, 0)).1 : Nat) : Int) then ((pt es k (es.getD k (0, 0)).2 : Nat) : Int) else x) = partsL es V (k + 1) := by
  simp only [partsL, List.map_map]
  refine List.map_congr_left fun v _ => ?_
  show (if ((pt es k v : Nat) : Int) = _ then _ else _) = _
  rw [pt]
  by_cases q : pt es k v = pt es k (es.getD k (0, 0)).1
  · rw [if_pos q, if_pos (by rw [q])]
  · rw [if_neg q, if_neg (fun e => q (by omega))]

theorem roomOf_get {ms : List Str} {n j : Nat} (h : j ≤ n) : (roomOf ms n)[j]? = some ((rm (vis ms) j : Nat) : Int) := by
  simp [roomOf, List.getElem?_range (show j < n + 1 by omega)]
theorem rm_le (b : Nat → Bool) : ∀ n, rm b n ≤ n
  | 0 => Nat.le_refl _
  | n + 1 => by have := rm_le b n; rw [rm]; split <;> omega

inductive PartsInv (s : Shared) (h₀ : Heap) (L u : Addr) (gn : List (Addr × Obj)) (ms : List Str) (ps : List (Nat × Nat)) (n : Nat) (m cm : Str → Option Value) (i : Nat) (s' : Shared) : Prop
  | mk (D : Addr) (ys : List Value) (e : Nat) (h : Heap) (tk : Nat) (cells' : List (Addr × Obj)) (cm' : Str → Option Value) (es : s' = { s with heap := h, toks := tk }) (F : Fr h₀ L h m) (N : News h₀ L h ((D, { cls := .type "list", data := .seq (List.toArray ys) e }) :: (gn ++ cells'))) (hD : D ≠ u)
    (X : CellsAre cm' (csL L) cells') (d1 : cm' "parts" = some (.ref D)) (d2 : ∀ x : Str, x ≠ "one" → x ≠ "other" → x ≠ "parts" → cm' x = cm x) (hy : IntsAre ys (partsL (ends (vis ms) ps) (rm (vis ms) n) i))

set_option maxHeartbeats 1000000 in
theorem law_parts {w : World} {A : Around} {s : Shared} {h₀ : Heap} {L a lr lp lt : Addr} {cd : Value} {m cm : Str → Option Value} {ir ip it : List Value} {ms : List Str} {er ep et n : Nat} {ps : List (Nat × Nat)} {gn cells : List (Addr × Obj)} {Q : Flow → Shared → Prop}
    (F : Fr h₀ L s.heap m) (N : News h₀ L s.heap ((lp, { cls := .type "list", data := .seq (List.toArray ip) ep }) :: (gn ++ cells))) (X : CellsAre cm (csL L) cells) (hgn : ∀ p ∈ gn, ∀ v, p.2.data ≠ .cell v)
    (hlr : (lr, { cls := .type "list", data := .seq (List.toArray ir) er }) ∈ gn) (hri : IntsAre ir (roomOf ms n)) (hlt : (lt, { cls := .type "list", data := .seq (List.toArray it) et }) ∈ gn) (hti : ∀ h', (∀ p ∈ gn, h'.get? p.1 = some p.2) → TiesAt h' it ps)
    (hps : ∀ k, (ps.getD k (0, 0)).1 ≤ n ∧ (ps.getD k (0, 0)).2 ≤ n) (hn : n ≤ 5) (hplz : ps.length ≤ 4) (hpi : IntsAre ip (partsL (ends (vis ms) ps) (rm (vis ms) n) 0))
    (c1 : cm "room" = some (.ref lr)) (c2 : cm "parts" = some (.ref lp)) (c3 : cm "ties" = some (.ref lt)) (hh : A.handled = none)
    (k : ∀ D ys e h tk cells' cm', Fr h₀ L h m → News h₀ L h ((D, { cls := .type "list", data := .seq (List.toArray ys) e }) :: (gn ++ cells')) → CellsAre cm' (csL L) cells' → cm' "parts" = some (.ref D) → (∀ x : Str, x ≠ "one" → x ≠ "other" → x ≠ "parts" → cm' x = cm x) →
      IntsAre ys (partsL (ends (vis ms) ps) (rm (vis ms) n) ps.length) → Q .next { s with heap := h, toks := tk }) :
    wpAny (model P w) A (exec (st17 7) (envL L a cd)) Q (fun _ _ => False) s := by
  have hT0 := hti s.heap fun p hp => (N p (.tail _ (List.mem_append_left _ hp))).1
  unfold st17 bodyAt
  refine for_walkS ?_
  walk_at "go"
  have hl : s.heap.IsList lt it.toArray := N.isList (.tail _ (List.mem_append_left _ hlt))
  have hlow : ∀ q ∈ gn ++ cells, q.1 ≠ s.heap.objs.size := fun q hq => Nat.ne_of_lt (Heap.lt_size (N q (.tail _ hq)).1)
  obtain ⟨ol, hol, _⟩ := id hl
  have hlt' : lt < s.heap.objs.size := Heap.lt_size hol
  refine ⟨_, [s.heap.objs.size, lt], _, _, _, PartsInv s h₀ L s.heap.objs.size gn ms ps n m cm,
    fun Q hQ => wpAny_pyIter_list hl hQ, Walks.list hh s.heap.objs.size lt (Nat.ne_of_lt hlt') _, ⟨⟨_, Heap.get?_push_size _ rfl, rfl, rfl⟩, hl.at fun o e => Heap.get?_push_of_some _ e⟩,
    ⟨lp, ip, ep, _, _, cells, cm, rfl, F.push _, fun q hq => ⟨Heap.get?_push_of_some _ (N q hq).1, (N q hq).2⟩, Nat.ne_of_lt (Heap.lt_size (N _ (.head _)).1), X, c2, fun _ _ _ _ => rfl, hpi⟩, ?_, ?_⟩
  · rintro i v s' h' tk' own0 hi hv ⟨D, ys, e, h, tk, cells', cm', rfl, F1, N1, hD, X1, d1, d2, hys⟩ hk hown0 ⟨hit, _⟩
    obtain ⟨oI, hoI, _, hdI⟩ := id hit
    obtain ⟨own, hown1⟩ : ∃ own, own = (s.heap.objs.size, oI) :: own0 := ⟨_, rfl⟩
    have hown : ∀ p ∈ own, p.1 ∈ [s.heap.objs.size, lt] ∧ h'.get? p.1 = some p.2 := fun p hp => by
      rw [hown1] at hp
      rcases List.mem_cons.mp hp with rfl | hp
      · exact ⟨.head _, hoI⟩
      · exact hown0 p hp
    have hlow' : ∀ q ∈ gn ++ cells', q.1 ≠ s.heap.objs.size := fun q hq => by
      rcases List.mem_append.mp hq with hq | hq
      · exact hlow q (List.mem_append_left _ hq)
      · exact cells_apart X X1 (fun q hq => hlow q (List.mem_append_right _ hq)) q hq
    have N2 := news_step N1 (fun q hq => by
      rcases List.mem_cons.mp hq with rfl | hq
      · exact hD
      · exact hlow' q hq) hk
    have F2 := fr_step F1 F.ns.lt hk
    have N3 := news_own N2 hown (fun b hb => by
      rcases List.mem_cons.mp hb with e | hb
      · rw [e]; exact new_at F
      · rw [List.mem_singleton.mp hb]; exact (N _ (.tail _ (List.mem_append_left _ hlt))).2)
    have hco : ∀ p ∈ own, ∀ v, p.2.data ≠ .cell v := fun p hp v ec => by
      rcases List.mem_cons.mp (hown p hp).1 with e | e
      · obtain ⟨o, ho, _, hd⟩ := hit
        have h5 := (hown p hp).2
        rw [e, ho] at h5
        rw [← Option.some.inj h5, hd] at ec; cases ec
      · have h5 := (hown p hp).2
        have h6 := (N2 _ (.tail _ (List.mem_append_left _ hlt))).1
        rw [List.mem_singleton.mp e, h6] at h5
        rw [← Option.some.inj h5] at ec; cases ec
    have hiv : it[i]? = some v := by simpa using hv
    have hip : i < ps.length := by rw [← hT0.1]; exact (List.getElem?_eq_some_iff.mp hiv).1
    obtain ⟨T, t1, t2, hT1, hT2⟩ := (hti h' fun p hp => (N2 p (.tail _ (List.mem_append_left _ hp))).1).2 i ps[i] (List.getElem?_eq_getElem hip)
    have hgd : ps.getD i (0, 0) = ps[i] := by rw [List.getD_eq_getElem?_getD, List.getElem?_eq_getElem hip]; rfl
    have hpb := hps i
    rw [hgd] at hpb
    obtain rfl : v = .ref T := Option.some.inj (hiv.symm.trans hT1)
    refine wpAny_letOwnedTupleGo_listiter hit ?_
    refine wpAny_assign_Tuple hh hT2 rfl rfl fun h4 hx4 => ?_
    have hk4 : ∀ b o, h'.get? b = some o → h4.get? b = some o := fun b o hb => hx4 b o (Nat.ne_of_lt (Heap.lt_size hb)) hb
    have F4 := F2.keeps hk4
    have N4 : News h₀ L h4 ((own ++ (D, { cls := .type "list", data := .seq (List.toArray ys) e }) :: gn) ++ cells') := fun q hq => by
      have := N3 q (by simpa using hq)
      exact ⟨hk4 _ _ this.1, this.2⟩
    have hf : ∀ p ∈ own ++ (D, ({ cls := .type "list", data := .seq (List.toArray ys) e } : Obj)) :: gn, ∀ v, p.2.data ≠ .cell v := no_cell_app hco (no_cell_cons (fun _ e => nomatch e) hgn)
    refine wpAny_bind (wpAny_holding (wpAny_assign_Name (stCell F4 N4 X1 hf fun h5 cells5 F5 N5 X5 => ?_)))
    refine wpAny_bind (wpAny_holding (wpAny_assign_Name (stCell F5 N5 X5 hf fun h6 cells6 F6 N6 X6 => wpAny_pure ?_)))
    have N6' : News h₀ L h6 ((D, { cls := .type "list", data := .seq (List.toArray ys) e }) :: ((own ++ gn) ++ cells6)) := fun q hq => N6 q (by
      simp only [List.mem_cons, List.mem_append] at hq ⊢
      rcases hq with h | (h | h) | h
      · exact .inl (.inr (.inl h))
      · exact .inl (.inl h)
      · exact .inl (.inr (.inr h))
      · exact .inr h)
    have d3 : cm' "room" = some (.ref lr) := (d2 _ (by decide) (by decide) (by decide)).trans c1
    refine wpAny_execs_cons (wpAny_Assign_Name ?_)
    refine parts_comp (p := ps[i].1) (q := ps[i].2) (ra := rm (vis ms) ps[i].1) (rb := rm (vis ms) ps[i].2) F6 N6' X6 (List.mem_append_right _ hlr) hri hys (roomOf_get hpb.1) (roomOf_get hpb.2) (partsL_get (rm_mono _ hpb.1)) (partsL_get (rm_mono _ hpb.2)) ?_ ?_ ?_ ?_ ?_
      (by walk_at "mlook") (by walk_at "mlook") (by walk_at "mlook") (by walk_at "mlook") hh fun D2 ys2 e2 h7 tk7 F7 N7 hys2 hD2 => ?_
    · omega
    · omega
    · have := rm_le (vis ms) ps[i].1; omega
    · have := rm_le (vis ms) ps[i].2; omega
    · have := rm_le (vis ms) n; rw [partsL, List.length_map, List.length_range]; omega
    · have hf7 : ∀ p ∈ (D2, ({ cls := .type "list", data := .seq (List.toArray ys2) e2 } : Obj)) :: (D, { cls := .type "list", data := .seq (List.toArray ys) e }) :: (own ++ gn), ∀ v, p.2.data ≠ .cell v := no_cell_cons (fun _ e => nomatch e) (no_cell_cons (fun _ e => nomatch e) (no_cell_app hco hgn))
      refine stCell (front := (D2, _) :: (D, _) :: (own ++ gn)) F7 N7 X6 hf7 fun h8 cells8 F8 N8 X8 => wpAny_execs_nil ?_
      refine ⟨fun p hp => (N8 p (.tail _ (.tail _ (List.mem_append_left _ (List.mem_append_left _ (hown1 ▸ .tail _ hp)))))).1, D2, ys2, e2, h8, _, cells8, _, rfl, F8, fun q hq => N8 q ?_, ?_, X8, if_pos rfl, fun x h1 h2 h3 => ?_, ?_⟩
      · rcases List.mem_cons.mp hq with rfl | hq
        · exact .head _
        · refine .tail _ (.tail _ ?_)
          rcases List.mem_append.mp hq with hq | hq
          · exact List.mem_append_left _ (List.mem_append_right _ hq)
          · exact List.mem_append_right _ hq
      · intro q
        have h9 := (N6 (s.heap.objs.size, oI) (List.mem_append_left _ (List.mem_append_left _ (hown1 ▸ .head _)))).1
        have hD2' : h6.get? D2 = none := hD2
        rw [q, h9] at hD2'; cases hD2'
      · rw [if_neg h3, if_neg h2, if_neg h1]
        exact d2 x h1 h2 h3
      · rw [← partsL_succ, ends_get, hgd]; exact hys2
  · rintro s' h' tk' ⟨D, ys, e, h, tk, cells', cm', rfl, F1, N1, hD, X1, d1, d2, hys⟩ hk
    have e1 : it.toArray.size = ps.length := by rw [List.size_toArray]; exact hT0.1
    rw [e1] at hys
    refine k D ys e h' tk' cells' cm' (fr_step F1 F.ns.lt hk) (news_step N1 (fun q hq => ?_) hk) X1 d1 d2 hys
    rcases List.mem_cons.mp hq with rfl | hq
    · exact hD
    · rcases List.mem_append.mp hq with hq | hq
      · exact hlow q (List.mem_append_left _ hq)
      · exact cells_apart X X1 (fun q hq => hlow q (List.mem_append_right _ hq)) q hq
end

-- part M28
section
theorem afreshM28 : True := by
  w_top off
  trivial
local macro_rules | `(tactic| walk_at "eval Name") => `(tactic| ((with_reducible show wpAny _ _ (eval _ (compEnvC _ _ _ _)) _ _ _); refine cxGlob (by assumption) (by assumption) (by assumption) ?_))
local macro_rules | `(tactic| walk_at "eval Name") => `(tactic| ((with_reducible show wpAny _ _ (eval _ (compEnvC _ _ _ _)) _ _ _); refine cxCell2 (by rfl) (by assumption) (by assumption) ?_))
local macro_rules | `(tactic| walk_at "eval Name") => `(tactic| ((with_reducible show wpAny _ _ (eval _ (compEnvC _ _ _ _)) _ _ _); refine cxLoc (by assumption) (by walk_at "mlook") ?_))
noncomputable def sTest : Expr := match st17 8 with | .Assign _ (.ListComp _ [⟨_, _, [c], _⟩] _ _) _ => c | _ => default
noncomputable def sScope : Scope := match st17 8 with | .Assign _ (.ListComp _ _ sc _) _ => sc | _ => default
noncomputable abbrev sCl (L : Addr) : List (Str × Addr) := [("ties", L + 1 + 1 + 1), ("room", L + 1 + 1 + 1 + 1)]

theorem tiesAt_keeps {h h' : Heap} {it : List Value} {ps : List (Nat × Nat)} (x : TiesAt h it ps) (k : ∀ b o, h.get? b = some o → h'.get? b = some o) : TiesAt h' it ps :=
  ⟨x.1, fun i p hp => let ⟨T, t, u, e, o, ho, r⟩ := x.2 i p hp; ⟨T, t, u, e, o, k _ _ ho, r⟩⟩

theorem still_test {w : World} {A : Around} {E : Value → Shared → Prop} {s : Shared} {hb : Heap} {L C a lr lt f : Addr} {cd cf : Value} {m₃ mg mb : Str → Option Value} {ir it : List Value} {rs : List Int} {ps : List (Nat × Nat)} {x : Nat} {t : Tok}
    (G : GlobM mg mb hb) (hmf : mg "_law_even" = some (.ref f)) (hf : FnAt 15 hb f cf .none .none)
    (F : Fr hb C s.heap m₃) (hm : m₃ "pick" = some (.int (x : Nat) t)) (k1 : hb.IsCell (L + 1 + 1 + 1) (some (.ref lt))) (k2 : hb.IsCell (L + 1 + 1 + 1 + 1) (some (.ref lr)))
    (hlr : hb.IsList lr ir.toArray) (hri : IntsAre ir rs) (hlt : hb.IsList lt it.toArray) (hti : TiesAt hb it ps) (hpl : ps.length ≤ 4) (hrng : ∀ p ∈ ps, p.1 < rs.length ∧ p.2 < rs.length) (hrl : rs.length ≤ 6)
    (hroom : A.depth + 1 < recursionLimit) (hu : A.units + 20 < cLine) (hh : A.handled = none) :
    wpAny (model P w) A (isTrue sTest (compEnvC sScope (sCl L) C (envL L a cd)) (eval sTest (compEnvC sScope (sCl L) C (envL L a cd)))) (fun ok s₄ => ok = decide (oddGo x rs 0 [] ps = []) ∧ Keeps s s₄) E s := by
  obtain ⟨of, pmf, docf, hof, hdataf, hcf⟩ := id hf
  conv in isTrue _ _ _ => 
    arg 1; whnf
  conv in eval _ _ => arg 1; whnf
  conv in compEnvC _ _ _ _ => arg 1; whnf
  walk1
  walk_at "go"
  refine wpAny_mono (even_call (Nat.lt_of_succ_lt hroom) (Nat.lt_of_le_of_lt (by omega) hu) hh (G.keeps F.keep) (hf.keeps F.keep) (Fr.lst F hlt) (tiesAt_keeps hti F.keep) (Fr.lst F hlr) hri hpl hrng hrl) ?_ (fun _ _ x => x)
  rintro v s4 ⟨rfl, hk⟩
  walk1
  exact ⟨rfl, hk⟩

theorem range_vals {n : Nat} : ∀ {vs : List Value}, vs.length = n → (∀ (j : Nat) (v : Value), vs[j]? = some v → ∃ t, v = Value.int ((j : Nat) : Int) t) → IntsAre vs ((List.range n).map fun i : Nat => (i : Int)) := by
  induction n with
  | zero => intro vs hl _; rw [List.length_eq_zero_iff.mp hl]; exact .nil
  | succ n ih =>
    intro vs hl hv
    have hlt : n < vs.length := by omega
    have e : vs = vs.take n ++ [vs[n]] := by
      rw [List.take_append_getElem hlt, List.take_of_length_le (by omega : vs.length ≤ n + 1)]
    rw [e, List.range_succ, List.map_append]
    obtain ⟨t, ht⟩ := hv n vs[n] (List.getElem?_eq_getElem hlt)
    rw [ht]
    refine ints_snoc (ih (by rw [List.length_take]; omega) fun j v hj => hv j v ?_)
    rw [List.getElem?_take] at hj
    split at hj
    · exact hj
    · cases hj

/-- a filtered range -/
noncomputable def pickP (q : Nat → Bool) (v : Value) : Bool := match v with | .int i _ => q i.toNat | _ => false
theorem filtered_range {q : Nat → Bool} : ∀ {vs : List Value} {xs : List Nat} {ys : List Value}, IntsAre vs (xs.map fun i : Nat => (i : Int)) → Paired (fun v y => v = y) (vs.filter (pickP q)) ys → IntsAre ys ((xs.filter q).map fun i : Nat => (i : Int))
  | [], xs, ys, hi, hp => by
    cases hp
    cases xs with
    | nil => exact .nil
    | cons x xs => cases hi
  | v :: vs, xs, ys, hi, hp => by
    cases xs with
    | nil => cases hi
    | cons x xs =>
      rw [List.map_cons] at hi
      cases hi with
      | cons _ t hi' =>
        have e : pickP q (.int (x : Int) t) = q x := by show q (x : Int).toNat = q x; rw [Int.toNat_natCast]
        cases hq : q x with
        | true =>
          rw [List.filter_cons_of_pos (by rw [e, hq])] at hp
          rw [List.filter_cons_of_pos hq, List.map_cons]
          cases hp with
          | cons h1 h2 =>
            subst h1
            exact .cons _ _ (filtered_range hi' h2)
        | false =>
          rw [List.filter_cons_of_neg (by rw [e, hq]; decide)] at hp
          rw [List.filter_cons_of_neg (by rw [hq]; decide)]
          exact filtered_range hi' hp

local macro_rules | `(tactic| walk_at "binaryOp Pow int int") => `(tactic| (refine pow_int_small (by omega) (by (try simp only [List.size_toArray]); omega) (by decide) ?_))
set_option maxHeartbeats 1000000 in
theorem law_still {w : World} {A : Around} {s : Shared} {h₀ : Heap} {L a lr lt : Addr} {cd : Value} {m cm mg mb : Str → Option Value} {ir it : List Value} {rs : List Int} {er et : Nat} {ps : List (Nat × Nat)} {gn cells : List (Addr × Obj)} {Q : Flow → Shared → Prop} {E : Value → Shared → Prop} {D : List (PyData × PyData)}
    (T : TopOk w D mg mb h₀) (F : Fr h₀ L s.heap m) (N : News h₀ L s.heap (gn ++ cells)) (X : CellsAre cm (csL L) cells)
    (hlr : (lr, { cls := .type "list", data := .seq (List.toArray ir) er }) ∈ gn) (hri : IntsAre ir rs) (hlt : (lt, { cls := .type "list", data := .seq (List.toArray it) et }) ∈ gn) (hti : ∀ h', (∀ p ∈ gn, h'.get? p.1 = some p.2) → TiesAt h' it ps)
    (hpl : ps.length ≤ 4) (hrng : ∀ p ∈ ps, p.1 < rs.length ∧ p.2 < rs.length) (hrl : rs.length ≤ 6)
    (c1 : cm "room" = some (.ref lr)) (c3 : cm "ties" = some (.ref lt)) (hroom : A.depth + 1 < recursionLimit) (hu : A.units + 20 < cLine) (hh : A.handled = none)
    (k : ∀ ls is e h tk, Fr h₀ L h (fun z => if z = "still" then some (.ref ls) else m z) → News h₀ L h ((ls, { cls := .type "list", data := .seq (List.toArray is) e }) :: (gn ++ cells)) →
      IntsAre is (((List.range (2 ^ ps.length)).filter fun p => decide (oddGo p rs 0 [] ps = [])).map fun i : Nat => (i : Int)) → Q .next { s with heap := h, toks := tk }) :
    wpAny (model P w) A (exec (st17 8) (envL L a cd)) Q E s := by
  have G := T.G
  obtain ⟨f, cf, hmf, hf⟩ := T.f15
  unfold st17 bodyAt
  refine wpAny_Assign_ListComp_free (cl := sCl L) (pickP fun p => decide (oddGo p rs 0 [] ps = [])) (fun v y => v = y) ?h1 ?h2 ?h3 ?h4 ?h5 ?h6 ?h7 ?h8 ?_ ?h9
  case h1 => exact rfl
  case h2 => exact rfl
  case h3 => decide
  case h4 => exact rfl
  case h5 => decide
  case h6 => exact rfl
  case h7 => exact rfl
  case h8 => exact rfl
  case h9 => intro _; rfl
  have hT0 := hti s.heap fun p hp => (N p (List.mem_append_left _ hp)).1
  have hil : it.length = ps.length := hT0.1
  have N1 : News h₀ L s.heap ((lt, { cls := .type "list", data := .seq (List.toArray it) et }) :: (gn ++ cells)) := fun q hq => by
    rcases List.mem_cons.mp hq with rfl | hq
    · exact N _ (List.mem_append_left _ hlt)
    · exact N q hq
  have hib : ((it.length : Nat) : Int) ≤ 4 := by omega
  clear N
  walk_at "go"
  rename_i h2 tk2 t2 u2 v2 hR F2 N2 hk2
  have ep : ((2 : Int) ^ ((it.length : Nat) : Int).toNat) = ((2 ^ ps.length : Nat) : Int) := by rw [Int.toNat_natCast, hil]; norm_cast
  rw [ep] at hR
  have h16 : 2 ^ ps.length ≤ 16 := Nat.pow_le_pow_right (n := 2) (by decide) hpl
  generalize hn : 2 ^ ps.length = n at *
  have hz : Builtin.Range.rangeSize 0 ((n : Nat) : Int) 1 = ((n : Nat) : Int) := by rw [rangeSize_nat]; omega
  refine comp_local (s := { s with heap := h2, toks := tk2 }) (env := envL L a cd) _ _ (fun Q hQ => wpAny_pyIter_range hR (small_one (by omega) (by omega) (by omega) (by omega)) hQ) (Walks.range hh h2.objs.size 0 1 n) (Nat.le_trans h16 (by decide)) ?_ ?_ F2 N2 ?_ ?_
  · intro b hb
    rw [List.mem_singleton.mp hb]; exact Nat.le_refl _
  · show IsRangeIter _ _ _ _ _
    rw [hz]
    have := Heap.get?_push_size h2 (o := { cls := .type "range_iterator", data := .fields #[rawInt 0, rawInt (n : Int), rawInt 1] }) rfl
    simpa [IsRangeIter] using this
  · refine ⟨fun C i v s₃ m₃ E' hP Fc hm => wpAny_tests_one ?_, fun C i v s₃ m₃ E' hP hp' Fc hm => ?_⟩
    · obtain ⟨t, rfl⟩ := hP
      have e0 : (0 : Int) + (i : Nat) * 1 = ((i : Nat) : Int) := by omega
      rw [e0] at hm ⊢
      refine wpAny_mono (still_test (a := a) (cd := cd) (L := L) (G.keeps F2.keep) hmf (hf.keeps F2.keep) Fc hm (isCell N2 X (by walk_at "csub") c3) (isCell N2 X (by walk_at "csub") c1) (N2.isList (.tail _ (List.mem_append_left _ hlr))) (by assumption) (N2.isList (.head _)) (hti h2 fun p hp => (N2 p (.tail _ (List.mem_append_left _ hp))).1) hpl hrng hrl hroom hu hh) ?_ (fun _ _ x => x)
      rintro ok s4 ⟨rfl, hk⟩
      exact ⟨by show _ = decide (oddGo ((i : Nat) : Int).toNat rs 0 [] ps = []); rw [Int.toNat_natCast], hk⟩
    · walk_at "go"
      exact ⟨rfl, _, _, rfl, fun _ _ e => e⟩
  · intro D h' tk ys vs e F3 N3 hD hlen hP hR
    refine k D ys e h' tk F3 (fun q hq => N3 q ?_) (filtered_range (range_vals hlen fun j v hj => ?_) hR)
    · rcases List.mem_cons.mp hq with rfl | hq
      · exact .head _
      · exact .tail _ (.tail _ hq)
    · obtain ⟨t, ht⟩ := hP j v hj
      exact ⟨t, by rw [ht]; congr 1; omega⟩
end

-- part M29
section
theorem afreshM29 : True := by
  w_top off
  trivial
local macro_rules | `(tactic| walk_at "binaryOp Pow int int") => `(tactic| (refine pow_int_small (by omega) (by (try simp only [List.size_toArray]); omega) (by decide) ?_))
/-- the statements of a pick's turn -/
noncomputable def st10 (i : Nat) : Stmt := match st17 10 with | .For _ _ b _ _ => (match b[i]? with | some x => x | none => .Pass default) | _ => .Pass default

/-- marks = [] -/
theorem pick_marks0 {w : World} {A : Around} {s : Shared} {h₀ : Heap} {L a : Addr} {cd : Value} {m cm : Str → Option Value} {gn cells : List (Addr × Obj)} {Q : Flow → Shared → Prop} {E : Value → Shared → Prop}
    (F : Fr h₀ L s.heap m) (N : News h₀ L s.heap (gn ++ cells)) (X : CellsAre cm (csL L) cells) (hgn : ∀ p ∈ gn, ∀ v, p.2.data ≠ .cell v)
    (k : ∀ lk h tk cells', Fr h₀ L h m → News h₀ L h ((lk, { cls := .type "list", data := .seq (List.toArray []) 0 }) :: (gn ++ cells')) → CellsAre (fun z => if z = "marks" then some (.ref lk) else cm z) (csL L) cells' →
      (∀ q ∈ gn ++ cells', q.1 ≠ lk) → Q .next { s with heap := h, toks := tk }) :
    wpAny (model P w) A (exec (st10 0) (envL L a cd)) Q E s := by
  unfold st10 st17 bodyAt
  refine wpAny_Assign_Name ?_
  walk_at "go"
  rename_i h1 F1 N1
  have hne : ∀ q ∈ gn ++ cells, q.1 ≠ s.heap.objs.size := fun q hq => Nat.ne_of_lt (Heap.lt_size (N q hq).1)
  refine stCell (front := (_, _) :: gn) F1 N1 X (no_cell_cons (fun _ e => nomatch e) hgn) fun h3 cells' F3 N3 X3 => ?_
  refine k _ h3 _ cells' F3 N3 X3 fun q hq => ?_
  rcases List.mem_append.mp hq with hq | hq
  · exact hne q (List.mem_append_left _ hq)
  · exact cells_apart X X3 (fun q hq => hne q (List.mem_append_right _ hq)) q hq

theorem after_but {h₀ h h' : Heap} {L l : Addr} {m : Str → Option Value} {o o' : Obj} {rest : List (Addr × Obj)} (F : Fr h₀ L h m) (N : News h₀ L h ((l, o) :: rest)) (hne : ∀ q ∈ rest, q.1 ≠ l) (hl : h'.get? l = some o') (hk : ∀ b ob, b ≠ l → h.get? b = some ob → h'.get? b = some ob) :
    Fr h₀ L h' m ∧ News h₀ L h' ((l, o') :: rest) := by
  have hl1 := (N _ (.head _)).2
  refine ⟨⟨F.ns.at' fun ob e => hk _ _ (fun q => hl1.1 q.symm) e, fun b ob e => hk b ob (fun q => by rw [q] at e; rw [hl1.2] at e; cases e) (F.keep b ob e), F.above⟩, fun q hq => ?_⟩
  rcases List.mem_cons.mp hq with rfl | hq
  · exact ⟨hl, hl1⟩
  · exact ⟨hk _ _ (hne q hq) (N q (.tail _ hq)).1, (N q (.tail _ hq)).2⟩

theorem ints_app {vs vs' : List Value} {ns ns' : List Int} (h : IntsAre vs ns) (h' : IntsAre vs' ns') : IntsAre (vs ++ vs') (ns ++ ns') := by
  induction h with
  | nil => exact h'
  | cons n t _ ih => exact .cons n t ih
theorem ints_put {vs : List Value} {ns : List Int} {r : Nat} {x : Int} {t : Tok} (h : IntsAre vs ns) : IntsAre (vs.take r ++ .int x t :: vs.drop r) (ns.take r ++ x :: ns.drop r) :=
  ints_app (ints_take h r) (.cons x t (ints_drop h r))

noncomputable def kBody : List Stmt := match st10 1 with | .For _ _ b _ _ => b | _ => []

inductive KPost (s : Shared) (h₀ : Heap) (L lk : Addr) (gn cells : List (Addr × Obj)) (m : Str → Option Value) (ps : List (Nat × Nat)) (n i pick : Nat) (s' : Shared) : Prop
  | mk (im' : List Value) (ns' : List Int) (ep' : Nat) (h : Heap) (tk : Nat) (e : s' = { s with heap := h, toks := tk }) (F : Fr h₀ L h m) (N : News h₀ L h ((lk, { cls := .type "list", data := .seq (List.toArray im') ep' }) :: (gn ++ cells)))
    (hi : IntsAre im' ns') (hM : Marks ps n i pick ns')

set_option maxHeartbeats 1000000 in
theorem mark_body {w : World} {A : Around} {s : Shared} {h₀ : Heap} {L a lk lt : Addr} {cd : Value} {m cm mg mb : Str → Option Value} {it im : List Value} {ns : List Int} {et ep i pick n : Nat} {ti tp : Tok} {ps : List (Nat × Nat)} {gn cells : List (Addr × Obj)} {D : List (PyData × PyData)}
    (T : TopOk w D mg mb h₀) (F : Fr h₀ L s.heap m) (N : News h₀ L s.heap ((lk, { cls := .type "list", data := .seq (List.toArray im) ep }) :: (gn ++ cells))) (X : CellsAre cm (csL L) cells) (hne : ∀ q ∈ gn ++ cells, q.1 ≠ lk)
    (hlt : (lt, { cls := .type "list", data := .seq (List.toArray it) et }) ∈ gn) (hti : ∀ h', (∀ p ∈ gn, h'.get? p.1 = some p.2) → TiesAt h' it ps) (hi : i < ps.length) (hpl : ps.length ≤ 4) (hps : ∀ k, (ps.getD k (0, 0)).1 ≤ n ∧ (ps.getD k (0, 0)).2 ≤ n)
    (him : IntsAre im ns) (hM : Marks ps n i pick ns)
    (c1 : cm "marks" = some (.ref lk)) (c3 : cm "ties" = some (.ref lt)) (m1 : m "k" = some (.int (i : Nat) ti)) (m2 : m "pick" = some (.int (pick : Nat) tp)) (hroom : A.depth + 5 < recursionLimit) (hh : A.handled = none) :
    wpAny (model P w) A (execs kBody (envL L a cd)) (fun fl s' => fl = .next ∧ KPost s h₀ L lk gn cells m ps n (i + 1) pick s') (fun _ _ => False) s := by
  have G := T.G
  obtain ⟨f, cf, T8, D8, hmf, hf, hk8⟩ := T.f8
  obtain ⟨fb, cb, T9, D9, hmb, hfb, hk9⟩ := T.f9
  obtain ⟨of, pmf, docf, hof, hdataf, hcf⟩ := id hf
  have hT0 := hti s.heap fun p hp => (N p (.tail _ (List.mem_append_left _ hp))).1
  obtain ⟨Ti, ta, tb, hT, hTT⟩ := hT0.2 i ps[i] (List.getElem?_eq_getElem hi)
  have hpw : (2 : Int) ^ (i : Int).toNat ≠ 0 := by rw [Int.toNat_natCast]; exact_mod_cast Nat.ne_of_gt (Nat.two_pow_pos i)
  have hpl2 : ((2 : Int) ^ (i : Int).toNat).natAbs < 1073741824 := by
    rw [Int.toNat_natCast, Int.natAbs_pow]
    exact Nat.lt_of_le_of_lt (Nat.pow_le_pow_right (by decide) (show i ≤ 4 by omega)) (by decide)
  unfold kBody st10 st17 bodyAt
  walk_at "go"
  · rename_i hbit
    have hgd : ps.getD i (0, 0) = ps[i] := by rw [List.getD_eq_getElem?_getD, List.getElem?_eq_getElem hi]; rfl
    have hl1 := hM.len.2
    refine item_listL (N.isList (.tail _ (List.mem_append_left _ hlt))) (by omega) (by omega) (by rw [Int.toNat_natCast]; exact hT) ?_ (by with_unfolding_all rfl) (by intro _; with_unfolding_all rfl)
    walk1
    refine item_tupleT (l := [_, _]) (j := 0) hTT (by decide) (by decide) rfl rfl ?_
    walk1
    refine wpAny_mono (insort_call (n := ep) (show A.depth + 1 < recursionLimit by omega) (G.keeps F.keep) (hf.keeps F.keep) (hk8.keeps F.keep) (hfb.keeps F.keep) (hk9.keeps F.keep) hmb (N _ (.head _)).1 him (by omega) hM.srt) ?_ (fun _ _ x => x)
    rintro v s2 ⟨rfl, r, h2, tk2, hb1, rfl, hl2, hk2⟩
    obtain ⟨F2, N2⟩ := after_but F N hne hl2 hk2
    obtain ⟨Tj, tc, td, hT2, hTT2⟩ := (hti h2 fun p hp => (N2 p (.tail _ (List.mem_append_left _ hp))).1).2 i ps[i] (List.getElem?_eq_getElem hi)
    have him2 := ints_put (r := r.toNat) (x := (ps[i].1 : Nat)) (t := ta) him
    clear N F
    walk_at "go"
    refine item_listL (N2.isList (.tail _ (List.mem_append_left _ hlt))) (by omega) (by omega) (by rw [Int.toNat_natCast]; exact hT2) ?_ (by with_unfolding_all rfl) (by intro _; with_unfolding_all rfl)
    walk1
    refine item_tupleT (l := [_, _]) (j := 1) hTT2 (by decide) (by decide) rfl rfl ?_
    walk1
    have hlen1 : (ns.take r.toNat ++ (((ps[i].1 : Nat)) : Int) :: ns.drop r.toNat).length = ns.length + 1 := (ins_perm ns _ r.toNat).length_eq
    refine wpAny_mono (insort_call (n := ep + 1) (show A.depth + 1 < recursionLimit by omega) (G.keeps F2.keep) (hf.keeps F2.keep) (hk8.keeps F2.keep) (hfb.keeps F2.keep) (hk9.keeps F2.keep) hmb (N2 _ (.head _)).1 him2 (by omega) (ins_sorted hM.srt hb1)) ?_ (fun _ _ x => x)
    rintro v s3 ⟨rfl, r', h3, tk3, hb2, rfl, hl3, hk3⟩
    obtain ⟨F3, N3⟩ := after_but F2 N2 hne hl3 hk3
    clear N2 F2
    walk_at "go"
    have hput := hM.put (r := r) (r' := r') (bit_of hbit) (hps i) (by rw [hgd]; exact hb1) (by rw [hgd]; exact hb2)
    rw [hgd] at hput
    exact ⟨rfl, _, _, _, h3, _, rfl, F3, N3, ints_put him2, hput⟩
  · rename_i hbit
    exact ⟨rfl, im, ns, ep, _, _, rfl, F, N, him, hM.skip fun e => hbit (of_bit e)⟩
end

-- part M30
section
theorem afreshM30 : True := by
  w_top off
  trivial
theorem range_iter_new {h : Heap} {n : Nat} : (fun (i : Nat) (h' : Heap) => IsRangeIter h' h.objs.size (0 + (i : Int) * 1) ((n : Int) - i) 1) 0 (h.push { cls := .type "range_iterator", data := .fields #[rawInt 0, rawInt (Builtin.Range.rangeSize 0 (n : Int) 1), rawInt 1] }) := by
  have hz : Builtin.Range.rangeSize 0 (n : Int) 1 = (n : Int) := by rw [rangeSize_nat]; omega
  show IsRangeIter _ _ _ _ _
  rw [hz]
  have := Heap.get?_push_size h (o := { cls := .type "range_iterator", data := .fields #[rawInt 0, rawInt (n : Int), rawInt 1] }) rfl
  simpa [IsRangeIter] using this

inductive KInv (s : Shared) (h₀ : Heap) (L lk : Addr) (gn cells : List (Addr × Obj)) (m : Str → Option Value) (ps : List (Nat × Nat)) (n pick i : Nat) (s' : Shared) : Prop
  | mk (im : List Value) (ns : List Int) (ep : Nat) (h : Heap) (tk : Nat) (m' : Str → Option Value) (e : s' = { s with heap := h, toks := tk }) (F : Fr h₀ L h m') (N : News h₀ L h ((lk, { cls := .type "list", data := .seq (List.toArray im) ep }) :: (gn ++ cells)))
    (hi : IntsAre im ns) (hM : Marks ps n i pick ns) (hm : ∀ x : Str, x ≠ "k" → m' x = m x)

set_option maxHeartbeats 1000000 in
/-- for k in range(len(ties)): ... -/
theorem pick_marks {w : World} {A : Around} {s : Shared} {h₀ : Heap} {L a lk lt : Addr} {cd : Value} {m cm mg mb : Str → Option Value} {it : List Value} {et ep pick n : Nat} {tp : Tok} {ps : List (Nat × Nat)} {gn cells : List (Addr × Obj)} {Q : Flow → Shared → Prop} {D : List (PyData × PyData)}
    (T : TopOk w D mg mb h₀) (F : Fr h₀ L s.heap m) (N : News h₀ L s.heap ((lk, { cls := .type "list", data := .seq (List.toArray []) ep }) :: (gn ++ cells))) (X : CellsAre cm (csL L) cells) (hne : ∀ q ∈ gn ++ cells, q.1 ≠ lk)
    (hlt : (lt, { cls := .type "list", data := .seq (List.toArray it) et }) ∈ gn) (hti : ∀ h', (∀ p ∈ gn, h'.get? p.1 = some p.2) → TiesAt h' it ps) (hpl : ps.length ≤ 4) (hps : ∀ k, (ps.getD k (0, 0)).1 ≤ n ∧ (ps.getD k (0, 0)).2 ≤ n)
    (c1 : cm "marks" = some (.ref lk)) (c3 : cm "ties" = some (.ref lt)) (m2 : m "pick" = some (.int (pick : Nat) tp)) (hroom : A.depth + 5 < recursionLimit) (hh : A.handled = none)
    (k : ∀ im ns ep h tk m', Fr h₀ L h m' → News h₀ L h ((lk, { cls := .type "list", data := .seq (List.toArray im) ep }) :: (gn ++ cells)) → IntsAre im ns → Marks ps n ps.length pick ns → (∀ x : Str, x ≠ "k" → m' x = m x) → Q .next { s with heap := h, toks := tk }) :
    wpAny (model P w) A (exec (st10 1) (envL L a cd)) Q (fun _ _ => False) s := by
  have hT0 := hti s.heap fun p hp => (N p (.tail _ (List.mem_append_left _ hp))).1
  have hil : it.length = ps.length := hT0.1
  have G := T.G
  have N1 : News h₀ L s.heap ((lt, { cls := .type "list", data := .seq (List.toArray it) et }) :: (lk, { cls := .type "list", data := .seq (List.toArray []) ep }) :: (gn ++ cells)) := fun q hq => by
    rcases List.mem_cons.mp hq with rfl | hq
    · exact N _ (.tail _ (List.mem_append_left _ hlt))
    · exact N q hq
  clear N
  unfold st10 st17 bodyAt
  refine for_walkS ?_
  walk_at "go"
  rename_i h2 tk2 t2 u2 v2 hR F2 N2 hk2
  simp only [List.size_toArray] at hR
  dsimp only at hR ⊢
  have hlow : ∀ q ∈ gn ++ cells, q.1 ≠ h2.objs.size := fun q hq => Nat.ne_of_lt (Heap.lt_size (N2 q (.tail _ (.tail _ hq))).1)
  have hlk : lk ≠ h2.objs.size := Nat.ne_of_lt (Heap.lt_size (N2 _ (.tail _ (.head _))).1)
  refine ⟨_, [h2.objs.size], _, _, _, KInv s h₀ L lk gn cells m ps n pick,
    fun Q hQ => wpAny_pyIter_range hR (small_one (by omega) (by omega) (by omega) (by omega)) hQ, Walks.range hh h2.objs.size 0 1 it.length, range_iter_new, ⟨[], [], ep, _, _, m, rfl, F2.push _, fun q hq => ⟨Heap.get?_push_of_some _ (N2 q (.tail _ hq)).1, (N2 q (.tail _ hq)).2⟩, .nil, .nil, fun _ _ => rfl⟩, ?_, ?_⟩
  · rintro i v s' h' tk' own hi hv ⟨im, ns, ep', h, tk, m', rfl, F3, N3, him, hM, hm⟩ hk hown hst
    obtain ⟨tv, rfl⟩ := hv
    have e0 : (0 : Int) + (i : Nat) * 1 = ((i : Nat) : Int) := by omega
    rw [e0]
    have N4 := news_step N3 (fun q hq => by
      rcases List.mem_cons.mp hq with rfl | hq
      · exact hlk
      · exact hlow q hq) hk
    have F4 := fr_step F3 F2.ns.lt hk
    have N5 := news_own N4 hown (fun b hb => by rw [List.mem_singleton.mp hb]; exact new_at F2)
    refine wpAny_pure (wpAny_assign_Name (stL F4 (m := m') N5 fun h5 F5 N5 => ?_))
    have N6 : News h₀ L h5 ((lk, { cls := .type "list", data := .seq (List.toArray im) ep' }) :: ((own ++ gn) ++ cells)) := fun q hq => N5 q (by
      simp only [List.mem_cons, List.mem_append] at hq ⊢
      rcases hq with h | (h | h) | h
      · exact .inr (.inl h)
      · exact .inl h
      · exact .inr (.inr (.inl h))
      · exact .inr (.inr (.inr h)))
    refine wpAny_mono (mark_body T F5 N6 X ?_ (List.mem_append_right _ hlt) (fun h' hq => hti h' fun p hp => hq p (List.mem_append_right _ hp)) (by omega) hpl hps him hM c1 c3 (if_pos rfl) ((if_neg (by decide)).trans ((hm _ (by decide)).trans m2)) hroom hh) ?_ (fun _ _ x => x)
    · intro q hq
      rcases List.mem_append.mp hq with hq | hq
      · rcases List.mem_append.mp hq with hq | hq
        · rw [List.mem_singleton.mp (hown q hq).1]; exact hlk.symm
        · exact hne q (List.mem_append_left _ hq)
      · exact hne q (List.mem_append_right _ hq)
    · rintro fl s7 ⟨rfl, im7, ns7, ep7, h7, tk7, rfl, F7, N7, him7, hM7⟩
      refine ⟨fun p hp => (N7 p (.tail _ (List.mem_append_left _ (List.mem_append_left _ hp)))).1, im7, ns7, ep7, h7, tk7, _, rfl, F7, fun q hq => N7 q ?_, him7, hM7, fun x hx => by rw [if_neg hx]; exact hm x hx⟩
      rcases List.mem_cons.mp hq with rfl | hq
      · exact .head _
      · refine .tail _ ?_
        rcases List.mem_append.mp hq with hq | hq
        · exact List.mem_append_left _ (List.mem_append_right _ hq)
        · exact List.mem_append_right _ hq
  · rintro s' h' tk' ⟨im, ns, ep', h, tk, m', rfl, F3, N3, him, hM, hm⟩ hk
    rw [hil] at hM
    refine k im ns ep' h' tk' m' (fr_step F3 F2.ns.lt hk) (news_step N3 (fun q hq => ?_) hk) him hM hm
    rcases List.mem_cons.mp hq with rfl | hq
    · exact hlk
    · exact hlow q hq
end

-- part M31
section
theorem afreshM31 : True := by
  w_top off
  trivial
local macro_rules | `(tactic| walk_at "idle") => `(tactic| skip)
local macro_rules | `(tactic| walk_at "storeName") => `(tactic| (refine stL (by assumption) (by assumption) (fun h' F' N' => ?_)))
theorem lnL {M : Model} {A : Around} {E : Value → Shared → Prop} {s : Shared} {L a : Addr} {cd : Value} {h₀ : Heap} {m : Str → Option Value} {x : Str} {v : Value} {Q : Value → Shared → Prop} (F : Fr h₀ L s.heap m) (hv : m x = some v) (h : Q v s)
    (hl : (envL L a cd).kindOf x = some .local := by rfl) : wpAny M A (loadName (envL L a cd) x) Q E s := wpAny_loadName_local rfl hl F.ns hv h
local macro_rules | `(tactic| walk_at "loadName") => `(tactic| (refine lnL (by assumption) (by walk_at "mlook") ?_))

noncomputable def sBody10 : List Stmt := match st10 3 with | .For _ _ b _ _ => b | _ => []
/-- what a sign is prepared to -/
noncomputable def prep (D : List (PyData × PyData)) (c : Nat) : Str := if S1 c = true then "" else if S9 c = true then "" else mapped D c

theorem app_nil' (y : Str) : y ++ (Str.ofString "") = y := by rw [str_empty]; exact app_nil y
set_option maxHeartbeats 1000000 in
theorem sign_body {w : World} {A : Around} {s : Shared} {h₀ : Heap} {L a : Addr} {cd : Value} {m mg mb : Str → Option Value} {news : List (Addr × Obj)} {c : Nat} {t tt : Tok} {y : Str} {D : List (PyData × PyData)}
    (T : TopOk w D mg mb h₀) (F : Fr h₀ L s.heap m) (N : News h₀ L s.heap news)
    (m1 : m "sign" = some (.str ⟨#[c]⟩ t)) (m2 : m "told" = some (.str y tt)) (hy : y.length ≤ 2000) (hp : S1 c = false → S9 c = false → (mapped D c).length ≤ 100 ∧ ((∃ x, Spec.lookup (.int c) D = some (.str x)) ∨ Spec.lookup (.int c) D = none))
    (hroom : A.depth + 5 < recursionLimit) :
    wpAny (model P w) A (execs sBody10 (envL L a cd)) (fun fl s' => fl = .next ∧ ∃ h tk m' u, s' = { s with heap := h, toks := tk } ∧ Fr h₀ L h m' ∧ News h₀ L h news ∧ m' "told" = some (.str (y ++ prep D c) u) ∧ ∀ x : Str, x ≠ "told" → m' x = m x) (fun _ _ => False) s := by
  have G := T.G
  obtain ⟨sa1, n1, hb1, hS1⟩ := T.b1
  obtain ⟨sa9, n9, hb9, hS9⟩ := T.c9
  obtain ⟨da, hb3, hI3⟩ := T.b3
  obtain ⟨f2, cd2, hm2, hf2⟩ := T.f2
  obtain ⟨f4, cd4, hm4, hf4⟩ := T.f4
  obtain ⟨f6, cd6, hm6, hf6⟩ := T.f6
  obtain ⟨o2, pm2, doc2, ho2, hd2, hc2⟩ := id hf2
  obtain ⟨o4, pm4, doc4, ho4, hd4, hc4⟩ := id hf4
  obtain ⟨o6, pm6, doc6, ho6, hd6, hc6⟩ := id hf6
  unfold sBody10 st10 st17 bodyAt
  walk_at "go"
  refine wpAny_mono (in_b1_call (show A.depth < recursionLimit by omega) (G.keeps F.keep) (hf2.keeps F.keep) hb1 (setOf_keeps hS1 F.keep)) ?_ (fun _ _ x => x)
  rintro v s2 ⟨rfl, h2, tk2, rfl, hk2⟩
  have F2 := F.keeps hk2
  have N2 : News h₀ L h2 news := fun q hq => ⟨hk2 _ _ (N q hq).1, (N q hq).2⟩
  clear F N
  walk_at "go"
  · rename_i hs1
    exact ⟨rfl, h2, _, m, tt, rfl, F2, N2, by rw [prep, if_pos hs1]; exact m2.trans (by rw [app_nil']), fun _ _ => rfl⟩
  · rename_i hs1
    refine wpAny_mono (in_c9_call (show A.depth < recursionLimit by omega) (G.keeps F2.keep) (hf6.keeps F2.keep) hb9 (setOf_keeps hS9 F2.keep)) ?_ (fun _ _ x => x)
    rintro v s3 ⟨rfl, h3, tk3, rfl, hk3⟩
    have F3 := F2.keeps hk3
    have N3 : News h₀ L h3 news := fun q hq => ⟨hk3 _ _ (N2 q hq).1, (N2 q hq).2⟩
    clear F2 N2
    walk_at "go"
    · rename_i hs9
      exact ⟨rfl, h3, _, m, tt, rfl, F3, N3, by rw [prep, if_neg (by rw [hs1]; decide), if_pos hs9]; exact m2.trans (by rw [app_nil']), fun _ _ => rfl⟩
    · rename_i hs9
      obtain ⟨hc, hD⟩ := hp hs1 hs9
      refine wpAny_mono (map_b3_call (show A.depth < recursionLimit by omega) (G.keeps F3.keep) (hf4.keeps F3.keep) hb3 (hI3.keep F3.keep) hD) ?_ (fun _ _ x => x)
      rintro v s4 ⟨⟨u4, rfl⟩, h4, tk4, rfl, hk4⟩
      have F4 := F3.keeps hk4
      have N4 : News h₀ L h4 news := fun q hq => ⟨hk4 _ _ (N3 q hq).1, (N3 q hq).2⟩
      clear F3 N3
      walk_at "go"
      rename_i h5 F5 N5 _ _
      exact ⟨rfl, h5, _, _, _, rfl, F5, N5, by rw [if_pos rfl, prep, if_neg (by rw [hs1]; decide), if_neg (by rw [hs9]; decide)], fun x hx => if_neg hx⟩
end

-- part M32
section
theorem afreshM32 : True := by
  w_top off
  trivial
local macro_rules | `(tactic| walk_at "storeName") => `(tactic| (refine stL (by assumption) (by assumption) (fun h' F' N' => ?_)))
/-- a text's iterator, of either kind -/
theorem str_walk {prog : Program} {w : World} {A : Around} (hh : A.handled = none) (y : Str) (t : Tok) (h : Heap) : ∃ (o : Obj) (St : Nat → Heap → Prop),
    (∀ (E : Value → Shared → Prop) (s : Shared) Q, s.heap = h → Q (.ref s.heap.objs.size) { s with heap := s.heap.push o } → wpAny (model prog w) A (pyIter (.str y t)) Q E s) ∧
    Walks prog w A h.objs.size [h.objs.size] [h.objs.size] y.cps.size (fun i v => ∃ c u, y.cps[i]? = some c ∧ v = .str ⟨#[c]⟩ u) St ∧ St 0 (h.push o) := by
  by_cases q : strIterType y = "str_ascii_iterator"
  · exact ⟨{ cls := .type (strIterType y), data := .fields #[.str y t, .int 0 0] }, _, fun E s Q _ hQ => wpAny_pyIter_strU hQ, Walks.strAscii hh h.objs.size y t, ⟨_, Heap.get?_push_size _ rfl, by rw [q], rfl⟩⟩
  · have q2 : strIterType y = "str_iterator" := by
      unfold strIterType at q ⊢
      split
      · rename_i h; rw [if_pos h] at q; exact absurd rfl q
      · rfl
    exact ⟨{ cls := .type (strIterType y), data := .fields #[.str y t, .int 0 0] }, _, fun E s Q _ hQ => wpAny_pyIter_strU hQ, Walks.strWide hh h.objs.size y t, ⟨_, Heap.get?_push_size _ rfl, by rw [q2], rfl⟩⟩

theorem cat_len {l : List Nat} {f : Nat → Str} {k : Nat} (h : ∀ c ∈ l, (f c).length ≤ k) : (cat (l.map f)).length ≤ l.length * k := by
  rw [cat_length]
  have := sum_le (ys := l.map f) (k := k) fun y hy => by obtain ⟨c, hc, rfl⟩ := List.mem_map.mp hy; exact h c hc
  rwa [List.length_map] at this

set_option maxHeartbeats 1000000 in
/-- for sign in _strip_quoted_realnames(_law_marked(written, marks)): ... -/
theorem pick_told {w : World} {A : Around} {s : Shared} {h₀ : Heap} {L a lk lw : Addr} {cd : Value} {m cm mg mb : Str → Option Value} {iw im : List Value} {W : List Str} {ns : List Int} {ew ek : Nat} {tt : Tok} {gn cells : List (Addr × Obj)} {Q : Flow → Shared → Prop} {D : List (PyData × PyData)}
    (T : TopOk w D mg mb h₀) (F : Fr h₀ L s.heap m) (N : News h₀ L s.heap (gn ++ cells)) (X : CellsAre cm (csL L) cells)
    (hlw : (lw, { cls := .type "list", data := .seq (List.toArray iw) ew }) ∈ gn) (hlk : (lk, { cls := .type "list", data := .seq (List.toArray im) ek }) ∈ gn) (hW : StrsAre iw W) (him : IntsAre im ns)
    (hwl : W.length ≤ 5) (hw3 : ∀ y ∈ W, y.length ≤ 3) (hnl : ns.length ≤ 8) (hsrt : ns.Pairwise (· ≤ ·)) (hrng : ∀ p ∈ ns, 0 ≤ p ∧ p ≤ W.length)
    (hml : (markGo W 0 ns).length ≤ 1000) (hend : escEnd false (chars (markGo W 0 ns)) = false) (hxl : (strip (markGo W 0 ns)).length ≤ 20)
    (hpc : ∀ c ∈ chars (strip (markGo W 0 ns)), S1 c = false → S9 c = false → (mapped D c).length ≤ 100 ∧ ((∃ x, Spec.lookup (.int c) D = some (.str x)) ∨ Spec.lookup (.int c) D = none))
    (c1 : cm "marks" = some (.ref lk)) (m1 : m "written" = some (.ref lw)) (m2 : m "told" = some (.str "" tt)) (hroom : A.depth + 5 < recursionLimit) (hh : A.handled = none)
    (k : ∀ h tk gs m' u, Fr h₀ L h m' → News h₀ L h (gn ++ cells) → (AllBare s.gens → AllBare gs) → m' "told" = some (.str (fm (prep D) (strip (markGo W 0 ns))) u) → (∀ x : Str, x ≠ "sign" → x ≠ "told" → m' x = m x) → Q .next { s with heap := h, toks := tk, gens := gs }) :
    wpAny (model P w) A (exec (st10 3) (envL L a cd)) Q (fun _ _ => False) s := by
  have G := T.G
  obtain ⟨f11, cd11, hm11, hf11⟩ := T.f11
  obtain ⟨f12, cd12, hm12, hf12⟩ := T.f12
  obtain ⟨f16, cd16, hm16, hf16⟩ := T.f16
  obtain ⟨o12, pm12, doc12, ho12, hd12, hc12⟩ := id hf12
  obtain ⟨o16, pm16, doc16, ho16, hd16, hc16⟩ := id hf16
  unfold st10 st17 bodyAt
  refine for_walkS ?_
  walk_at "go"
  refine wpAny_mono (marked_call (show A.depth < recursionLimit by omega) hh (G.keeps F.keep) (hf16.keeps F.keep) (N.isList (List.mem_append_left _ hlw)) hW (N.isList (List.mem_append_left _ hlk)) him hwl hw3 hnl hsrt hrng) ?_ (fun _ _ x => x)
  rintro v s2 ⟨⟨u2, rfl⟩, h2, tk2, rfl, hk2⟩
  have F2 := F.keeps hk2
  have N2 : News h₀ L h2 (gn ++ cells) := fun q hq => ⟨hk2 _ _ (N q hq).1, (N q hq).2⟩
  clear F N
  walk_at "go"
  refine wpAny_mono (strip_call (show A.depth + 2 < recursionLimit by omega) hh (G.keeps F2.keep) (hf12.keeps F2.keep) (hf11.keeps F2.keep) hm11 hml hend) ?_ (fun _ _ x => x)
  rintro v s3 ⟨⟨u3, rfl⟩, h3, tk3, gs, rfl, hk3, hbare⟩
  replace hk3 : ∀ b o, h2.get? b = some o → h3.get? b = some o := hk3
  have F3 := F2.keeps hk3
  have N3 : News h₀ L h3 (gn ++ cells) := fun q hq => ⟨hk3 _ _ (N2 q hq).1, (N2 q hq).2⟩
  clear F2 N2
  generalize hxe : strip (markGo W 0 ns) = x at *
  obtain ⟨o, St, hit, Wk, hst⟩ := str_walk (prog := P) (w := w) (A := A) hh x u3 h3
  have hlow : ∀ q ∈ gn ++ cells, q.1 ≠ h3.objs.size := fun q hq => Nat.ne_of_lt (Heap.lt_size (N3 q hq).1)
  dsimp only
  refine ⟨o, [h3.objs.size], _, _, St, fun i s' => ∃ h tk m' u, s' = { s with heap := h, toks := tk, gens := gs } ∧ Fr h₀ L h m' ∧ News h₀ L h (gn ++ cells) ∧ m' "told" = some (.str (cat (((chars x).take i).map (prep D))) u) ∧ (∀ x : Str, x ≠ "sign" → x ≠ "told" → m' x = m x),
    fun Q hQ => hit _ _ Q rfl hQ, Wk, hst, ⟨_, _, m, tt, rfl, F3.push _, fun q hq => ⟨Heap.get?_push_of_some _ (N3 q hq).1, (N3 q hq).2⟩, m2, fun _ _ _ => rfl⟩, ?_, ?_⟩
  · rintro i v s' h' tk' own hi ⟨c, uc, hc, rfl⟩ ⟨h, tk, m', u, rfl, F4, N4, hm, hmo⟩ hk hown hst'
    have N5 := news_own (news_step N4 hlow hk) hown (fun b hb => by rw [List.mem_singleton.mp hb]; exact new_at F3)
    have F5 := fr_step F4 F3.ns.lt hk
    refine wpAny_pure (wpAny_assign_Name (stL F5 (m := m') N5 fun h6 F6 N6 => ?_))
    have hcx : (chars x)[i]? = some c := by simpa [chars] using hc
    have hcm : c ∈ chars x := List.mem_of_getElem? hcx
    have hpl : ∀ c ∈ chars x, (prep D c).length ≤ 100 := fun c hc => by
      unfold prep
      split
      · decide
      · split
        · decide
        · rename_i h1 h9
          exact (hpc c hc (Bool.not_eq_true _ ▸ h1) (Bool.not_eq_true _ ▸ h9)).1
    have hxs : (chars x).length ≤ 20 := by rw [Array.length_toList]; exact hxl
    have hyl := cat_len (l := (chars x).take i) (f := prep D) (k := 100) (fun c hc => hpl c (List.mem_of_mem_take hc))
    have htl : ((chars x).take i).length ≤ 20 := by rw [List.length_take]; omega
    refine wpAny_mono (sign_body (c := c) (t := uc) (tt := u) (y := cat (((chars x).take i).map (prep D))) T F6 N6 (if_pos rfl) ((if_neg (by decide)).trans hm) (by omega) (hpc c hcm) hroom) ?_ (fun _ _ x => x)
    rintro fl s7 ⟨rfl, h7, tk7, m7, u7, rfl, F7, N7, hm7, hmo7⟩
    refine ⟨fun p hp => (N7 p (List.mem_append_left _ hp)).1, h7, tk7, m7, u7, rfl, F7, fun q hq => N7 q (List.mem_append_right _ hq), ?_, fun z h1 h2 => ?_⟩
    · have e : (chars x).take (i + 1) = (chars x).take i ++ [c] := by
        obtain ⟨hl, e⟩ := List.getElem?_eq_some_iff.mp hcx
        rw [List.take_add_one, hcx]; rfl
      rw [e, List.map_append, cat_app, hm7]
      show _ = some (Value.str (_ ++ (prep D c ++ cat [])) u7)
      rw [cat_nil, app_nil]
    · rw [hmo7 z h2, if_neg h1]; exact hmo z h1 h2
  · rintro s' h' tk' ⟨h, tk, m', u, rfl, F4, N4, hm, hmo⟩ hk
    have e : (chars x).take x.cps.size = chars x := List.take_of_length_le (by rw [Array.length_toList]; exact Nat.le_refl _)
    rw [e] at hm
    exact k h' tk' gs m' u (fr_step F4 F3.ns.lt hk) (news_step N4 hlow hk) hbare hm hmo
end

-- part M33
section
theorem afreshM33 : True := by
  w_top off
  trivial
local macro_rules | `(tactic| walk_at "idle") => `(tactic| skip)
local macro_rules | `(tactic| walk_at "eval Name") => `(tactic| ((with_reducible show wpAny _ _ (eval _ (compEnvC _ _ _ _)) _ _ _); refine cxGlob (by assumption) (by assumption) (by assumption) ?_))
local macro_rules | `(tactic| walk_at "eval Name") => `(tactic| ((with_reducible show wpAny _ _ (eval _ (compEnvC _ _ _ _)) _ _ _); refine cxCell2 (by rfl) (by assumption) (by assumption) ?_))
local macro_rules | `(tactic| walk_at "eval Name") => `(tactic| ((with_reducible show wpAny _ _ (eval _ (compEnvC _ _ _ _)) _ _ _); refine cxLoc (by assumption) (by walk_at "mlook") ?_))
noncomputable def jComp : Expr := match st10 4 with | .If (.Compare _ _ [.Call _ [e] _ _] _) _ _ _ => e | _ => default
noncomputable def jTest : Expr := match jComp with | .ListComp _ [⟨_, _, [c], _⟩] _ _ => c | _ => default
noncomputable def jElt : Expr := match jComp with | .ListComp e _ _ _ => e | _ => default
noncomputable def jScope : Scope := match jComp with | .ListComp _ _ sc _ => sc | _ => default
noncomputable abbrev jCl (L : Addr) : List (Str × Addr) := [("meant", L + 1 + 1), ("marks", L + 1 + 1 + 1 + 1 + 1 + 1 + 1 + 1)]
noncomputable def evenP (ns : List Int) (i : Nat) : Bool := decide ((ns.countP fun y => decide (y ≤ (i : Int))) % 2 = 0)

theorem j_test {w : World} {A : Around} {E : Value → Shared → Prop} {s : Shared} {hb : Heap} {L C a lk : Addr} {cd : Value} {m₃ mg mb : Str → Option Value} {im : List Value} {ns : List Int} {x : Nat} {t : Tok} {D : List (PyData × PyData)}
    (T : TopOk w D mg mb hb) (F : Fr hb C s.heap m₃) (hm : m₃ "place" = some (.int (x : Nat) t)) (k1 : hb.IsCell (L + 1 + 1 + 1 + 1 + 1 + 1 + 1 + 1) (some (.ref lk)))
    (hlk : hb.IsList lk im.toArray) (him : IntsAre im ns) (hnl : ns.length ≤ 8) (hs : ns.Pairwise (· ≤ ·)) (hroom : A.depth + 5 < recursionLimit) :
    wpAny (model P w) A (isTrue jTest (compEnvC jScope (jCl L) C (envL L a cd)) (eval jTest (compEnvC jScope (jCl L) C (envL L a cd)))) (fun ok s₄ => ok = evenP ns x ∧ Keeps s s₄) E s := by
  have G := T.G
  obtain ⟨f9, cd9, T9, D9, hm9, hf9, hk9⟩ := T.f9
  obtain ⟨o9, pm9, doc9, ho9, hd9, hc9⟩ := id hf9
  conv in isTrue _ _ _ => 
    arg 1; whnf
  conv in eval _ _ => arg 1; whnf
  conv in compEnvC _ _ _ _ => arg 1; whnf
  walk_at "go"
  refine wpAny_mono (bisect_call (rest := []) (show A.depth < recursionLimit by omega) (G.keeps F.keep) (hf9.keeps F.keep) (hk9.keeps F.keep) (Fr.lst F hlk) him (by omega) hs (.inl rfl)) ?_ (fun _ _ x => x)
  rintro v s2 ⟨⟨r, u, rfl, hbis⟩, h2, tk2, rfl, hk2⟩
  have F2 := F.keeps hk2
  clear F
  walk_at "go"
  refine ⟨?_, h2, _, rfl, hk2⟩
  rw [bis_count hbis, Int.fmod_eq_emod_of_nonneg _ (by decide), evenP, Bool.eq_iff_iff, beq_iff_eq, decide_eq_true_eq]
  omega

theorem j_elt {w : World} {A : Around} {E : Value → Shared → Prop} {s : Shared} {hb : Heap} {L C a lm : Addr} {cd : Value} {m₃ : Str → Option Value} {im : List Value} {ms : List Str} {x : Nat} {t : Tok}
    (F : Fr hb C s.heap m₃) (hm : m₃ "place" = some (.int (x : Nat) t)) (k1 : hb.IsCell (L + 1 + 1) (some (.ref lm)))
    (hlm : hb.IsList lm im.toArray) (hms : StrsAre im ms) (hx : x < ms.length) (hml : ms.length ≤ 5) :
    wpAny (model P w) A (eval jElt (compEnvC jScope (jCl L) C (envL L a cd))) (fun y s₄ => (∃ u, y = .str (ms.getD x "") u) ∧ Keeps s s₄) E s := by
  conv in eval _ _ => arg 1; whnf
  conv in compEnvC _ _ _ _ => arg 1; whnf
  walk_at "go"
  have e : Str.empty = Str.ofString "" := by decide
  exact ⟨⟨_, by rw [Int.toNat_natCast, e]⟩, _, _, rfl, fun _ _ e => e⟩

theorem walks_lt {prog : Program} {w : World} {A : Around} {I : Addr} {fp wr : List Addr} {n : Nat} {P : Nat → Value → Prop} {St : Nat → Heap → Prop} (W : Walks prog w A I fp wr n P St) : Walks prog w A I fp wr n (fun i v => i < n ∧ P i v) St where
  sub := W.sub
  frame := W.frame
  item := fun i s Q E hi st hQ => W.item i s Q E hi st fun v h' tk hP => hQ v h' tk ⟨hi, hP⟩
  done := W.done
  self := W.self

theorem even_strs {ms : List Str} {q : Nat → Bool} : ∀ {vs : List Value} {xs : List Nat} {ys : List Value}, IntsAre vs (xs.map fun i : Nat => (i : Int)) →
    Paired (fun v y => ∃ (i : Nat) (t u : Tok), v = .int (i : Nat) t ∧ y = .str (ms.getD i "") u) (vs.filter (pickP q)) ys → StrsAre ys ((xs.filter q).map fun i => ms.getD i "")
  | [], xs, ys, hi, hp => by
    cases hp
    cases xs with
    | nil => exact .nil
    | cons x xs => cases hi
  | v :: vs, xs, ys, hi, hp => by
    cases xs with
    | nil => cases hi
    | cons x xs =>
      rw [List.map_cons] at hi
      cases hi with
      | cons _ t hi' =>
        have e : pickP q (Value.int (x : Int) t) = q x := by show q (x : Int).toNat = q x; rw [Int.toNat_natCast]
        cases hq : q x with
        | true =>
          rw [List.filter_cons_of_pos (by rw [e, hq])] at hp
          rw [List.filter_cons_of_pos hq, List.map_cons]
          cases hp with
          | cons h1 h2 =>
            obtain ⟨i, t', u, e1, rfl⟩ := h1
            obtain rfl : x = i := by cases e1; rfl
            exact .cons _ _ (even_strs hi' h2)
        | false =>
          rw [List.filter_cons_of_neg (by rw [e, hq]; decide)] at hp
          rw [List.filter_cons_of_neg (by rw [hq]; decide)]
          exact even_strs hi' hp

set_option maxHeartbeats 1000000 in
theorem j_comp {w : World} {A : Around} {E : Value → Shared → Prop} {s : Shared} {h₀ : Heap} {L a lk lm : Addr} {cd : Value} {m cm mg mb : Str → Option Value} {im ik : List Value} {ms : List Str} {ns : List Int} {em ek n : Nat} {t1 : Tok} {gn cells : List (Addr × Obj)} {Q : Value → Shared → Prop} {D : List (PyData × PyData)}
    (T : TopOk w D mg mb h₀) (F : Fr h₀ L s.heap m) (N : News h₀ L s.heap (gn ++ cells)) (X : CellsAre cm (csL L) cells)
    (hlm : (lm, { cls := .type "list", data := .seq (List.toArray im) em }) ∈ gn) (hlk : (lk, { cls := .type "list", data := .seq (List.toArray ik) ek }) ∈ gn) (hms : StrsAre im ms) (hik : IntsAre ik ns) (hml : ms.length = n) (hn : n ≤ 5) (hnl : ns.length ≤ 8) (hsrt : ns.Pairwise (· ≤ ·))
    (c1 : cm "marks" = some (.ref lk)) (c2 : cm "meant" = some (.ref lm)) (c3 : cm "size" = some (.int (n : Nat) t1)) (hroom : A.depth + 5 < recursionLimit) (hh : A.handled = none)
    (k : ∀ D ys e h tk, Fr h₀ L h m → News h₀ L h ((D, { cls := .type "list", data := .seq (List.toArray ys) e }) :: (gn ++ cells)) → StrsAre ys (((List.range n).filter (evenP ns)).map fun i => ms.getD i "") → Q (.ref D) { s with heap := h, toks := tk }) :
    wpAny (model P w) A (eval jComp (envL L a cd)) Q E s := by
  have G := T.G
  conv in eval _ _ => arg 1; whnf
  refine wpAny_ListComp_free (cl := jCl L) (pickP (evenP ns)) (fun v y => ∃ (i : Nat) (t u : Tok), v = .int (i : Nat) t ∧ y = .str (ms.getD i "") u) ?g1 ?g2 ?g3 ?g4 ?g5 ?_
  case g1 => rfl
  case g2 => decide
  case g3 => rfl
  case g4 => decide
  case g5 => rfl
  walk_at "go"
  rename_i h2 tk2 t2 u2 v2 hR F2 N2 hk2
  refine comp_expr (s := { s with heap := h2, toks := tk2 }) _ _ (fun Q hQ => wpAny_pyIter_range hR (small_one (by omega) (by omega) (by omega) (by omega)) hQ) (walks_lt (Walks.range hh h2.objs.size 0 1 n)) (Nat.le_trans hn (by decide)) ?_ range_iter_new F2 N2 ?_ ?_
  · intro b hb
    rw [List.mem_singleton.mp hb]; exact Nat.le_refl _
  · refine ⟨fun C i v s₃ m₃ E' hP Fc hm => wpAny_tests_one ?_, fun C i v s₃ m₃ E' hP hp' Fc hm => ?_⟩
    · obtain ⟨hin, t, rfl⟩ := hP
      have e0 : (0 : Int) + (i : Nat) * 1 = ((i : Nat) : Int) := by omega
      rw [e0] at hm ⊢
      refine wpAny_mono (j_test (a := a) (cd := cd) (L := L) (T.keeps F2.keep) Fc hm (isCell N2 X (by walk_at "csub") c1) (N2.isList (List.mem_append_left _ hlk)) hik hnl hsrt hroom) ?_ (fun _ _ x => x)
      rintro ok s4 ⟨rfl, hk⟩
      exact ⟨by show _ = evenP ns ((i : Nat) : Int).toNat; rw [Int.toNat_natCast], hk⟩
    · obtain ⟨hin, t, rfl⟩ := hP
      have e0 : (0 : Int) + (i : Nat) * 1 = ((i : Nat) : Int) := by omega
      rw [e0] at hm ⊢
      refine wpAny_mono (j_elt (a := a) (cd := cd) (L := L) Fc hm (isCell N2 X (by walk_at "csub") c2) (N2.isList (List.mem_append_left _ hlm)) hms (by omega) (by omega)) ?_ (fun _ _ x => x)
      rintro y s4 ⟨⟨u, rfl⟩, hk⟩
      exact ⟨⟨i, t, u, rfl, rfl⟩, hk⟩
  · intro D' h' tk ys vs e F3 N3 hk hD hlen hP hR3
    refine k D' ys e h' tk F3 N3 (even_strs (range_vals hlen fun j v hj => ?_) hR3)
    obtain ⟨_, t, ht⟩ := hP j v hj
    exact ⟨t, by rw [ht]; congr 1; omega⟩
end

-- part M34
section
theorem afreshM34 : True := by
  w_top off
  trivial
set_option maxHeartbeats 1000000 in
/-- if told != ''.join(...): return False -/
theorem pick_test {w : World} {A : Around} {s : Shared} {h₀ : Heap} {L a lk lm : Addr} {cd : Value} {m cm mg mb : Str → Option Value} {im ik : List Value} {ms : List Str} {ns : List Int} {em ek n : Nat} {t1 tt : Tok} {gn cells : List (Addr × Obj)} {Q : Flow → Shared → Prop} {D : List (PyData × PyData)} {y : Str}
    (T : TopOk w D mg mb h₀) (F : Fr h₀ L s.heap m) (N : News h₀ L s.heap (gn ++ cells)) (X : CellsAre cm (csL L) cells)
    (hlm : (lm, { cls := .type "list", data := .seq (List.toArray im) em }) ∈ gn) (hlk : (lk, { cls := .type "list", data := .seq (List.toArray ik) ek }) ∈ gn) (hms : StrsAre im ms) (hik : IntsAre ik ns) (hml : ms.length = n) (hn : n ≤ 5) (hnl : ns.length ≤ 8) (hsrt : ns.Pairwise (· ≤ ·)) (hm3 : ∀ y ∈ ms, y.length ≤ 3)
    (c1 : cm "marks" = some (.ref lk)) (c2 : cm "meant" = some (.ref lm)) (c3 : cm "size" = some (.int (n : Nat) t1)) (m1 : m "told" = some (.str y tt)) (hy : y = cat (((List.range n).filter (evenP ns)).map fun i => ms.getD i "")) (hroom : A.depth + 5 < recursionLimit) (hh : A.handled = none)
    (k : ∀ h tk, Fr h₀ L h m → News h₀ L h (gn ++ cells) → Q .next { s with heap := h, toks := tk }) :
    wpAny (model P w) A (exec (st10 4) (envL L a cd)) Q (fun _ _ => False) s := by
  conv in exec _ _ => arg 1; whnf
  walk_at "go"
  refine j_comp T F N X hlm hlk hms hik hml hn hnl hsrt c1 c2 c3 hroom hh fun D' ys e h2 tk2 F2 N2 hys => ?_
  clear F N
  walk_at "go"
  have hsum := sum_le (ys := ((List.range n).filter (evenP ns)).map fun i => ms.getD i "") (k := 3) fun z hz => by
    obtain ⟨i, _, rfl⟩ := List.mem_map.mp hz
    rw [List.getD_eq_getElem?_getD]
    cases e : ms[i]? with
    | none => exact Nat.zero_le _
    | some v => exact hm3 v (List.mem_of_getElem? e)
  have hlen : (((List.range n).filter (evenP ns)).map fun i => ms.getD i "").length ≤ 5 := by
    rw [List.length_map]
    exact Nat.le_trans (List.length_filter_le _ _) (by rw [List.length_range]; exact hn)
  have hsz : 100 ≤ sizeLine := by decide
  refine join_list (IsL.isList (N2 _ (.head _)).1) (by rw [List.toList_toArray]; exact hys) (by rw [show (Str.ofString "").length = 0 from rfl]; omega) fun t' k' => ?_
  rw [txt_join, ← hy]
  walk_at "go"
  · rename_i hx
    exact absurd hx (by simp)
  · exact k h2 _ F2 (fun q hq => N2 q (.tail _ hq))
end

-- part M35
section
theorem afreshM35 : True := by
  w_top off
  trivial
/-- the groups of the table, each a list of picks -/
inductive Groups : List (Str × List Nat) → List (Addr × Obj) → Prop
  | nil : Groups [] []
  | cons {r : Str × List Nat} {g : Addr} {items : List Value} {ep : Nat} {rows : List (Str × List Nat)} {gl : List (Addr × Obj)} : IntsAre items (r.2.map fun n : Nat => (n : Int)) → Groups rows gl →
      Groups (r :: rows) ((g, { cls := .type "list", data := .seq (List.toArray items) ep }) :: gl)
noncomputable def kvsOf : List (Str × List Nat) → List (Addr × Obj) → List (Str × Value)
  | r :: rows, g :: gl => (r.1, .ref g.1) :: kvsOf rows gl
  | _, _ => []
noncomputable def putRow (rows : List (Str × List Nat)) (y : Str) (p : Nat) : List (Str × List Nat) :=
  match rows with
  | [] => [(y, [p])]
  | r :: rows => if r.1 = y then (r.1, r.2 ++ [p]) :: rows else r :: putRow rows y p

theorem Groups.no_cell {rows : List (Str × List Nat)} {gl : List (Addr × Obj)} (x : Groups rows gl) : ∀ p ∈ gl, ∀ v, p.2.data ≠ .cell v := by
  induction x with
  | nil => exact fun _ h => nomatch h
  | cons _ _ ih => exact no_cell_cons (fun _ e => nomatch e) ih

/-- a row that stands: its group, and what becomes of it -/
theorem Groups.there {y : Str} {p : Nat} : ∀ {rows : List (Str × List Nat)} {gl : List (Addr × Obj)}, Groups rows gl → (∃ r ∈ rows, r.1 = y) →
    ∃ (g : Addr) (items : List Value) (ep : Nat) (own rest : List (Addr × Obj)) (ns : List Nat), gl = own ++ (g, { cls := .type "list", data := .seq (List.toArray items) ep }) :: rest ∧ IntsAre items (ns.map fun n : Nat => (n : Int)) ∧ ns.length ≤ (rows.map fun r => r.2.length).sum ∧ valueAt (kvsOf rows gl) y = some (.ref g) ∧
      ∀ (t : Tok), Groups (putRow rows y p) (own ++ (g, { cls := .type "list", data := .seq (List.toArray (items ++ [.int (p : Nat) t])) (ep + 1) }) :: rest) ∧ kvsOf (putRow rows y p) (own ++ (g, { cls := .type "list", data := .seq (List.toArray (items ++ [.int (p : Nat) t])) (ep + 1) }) :: rest) = kvsOf rows gl
  | _, _, .nil, ⟨_, h, _⟩ => nomatch h
  | _, _, .cons (r := r) (g := g) (items := items) (ep := ep) (rows := rows) (gl := gl) hi hg, hex => by
    by_cases q : r.1 = y
    · refine ⟨g, items, ep, [], gl, r.2, rfl, hi, by simp, ?_, fun t => ⟨?_, ?_⟩⟩
      · simp [kvsOf, valueAt, q]
      · rw [putRow, if_pos q]
        exact .cons (by rw [List.map_append]; exact ints_snoc hi) hg
      · rw [putRow, if_pos q]; rfl
    · obtain ⟨g', items', ep', own, rest, ns, rfl, h2, h3, h4, h5⟩ := Groups.there (p := p) hg (let ⟨r', hr', e⟩ := hex; by
        rcases List.mem_cons.mp hr' with rfl | hr'
        · exact absurd e q
        · exact ⟨r', hr', e⟩)
      refine ⟨g', items', ep', (g, { cls := .type "list", data := .seq (List.toArray items) ep }) :: own, rest, ns, rfl, h2, by rw [List.map_cons, List.sum_cons]; omega, ?_, fun t => ⟨?_, ?_⟩⟩
      · rw [kvsOf, valueAt, List.find?_cons_of_neg (by simpa using q)]; exact h4
      · rw [putRow, if_neg q]; exact .cons hi (h5 t).1
      · rw [putRow, if_neg q]
        exact congrArg ((r.1, Value.ref g) :: ·) (h5 t).2

/-- a row that does not stand -/
theorem Groups.new {y : Str} {p : Nat} : ∀ {rows : List (Str × List Nat)} {gl : List (Addr × Obj)}, Groups rows gl → (∀ r ∈ rows, r.1 ≠ y) →
    valueAt (kvsOf rows gl) y = none ∧ ∀ (D : Addr) (t : Tok) (ep : Nat), Groups (putRow rows y p) (gl ++ [(D, { cls := .type "list", data := .seq (List.toArray [.int (p : Nat) t]) ep })]) ∧
      kvsOf (putRow rows y p) (gl ++ [(D, { cls := .type "list", data := .seq (List.toArray [.int (p : Nat) t]) ep })]) = stored (kvsOf rows gl) y (.ref D)
  | _, _, .nil, _ => ⟨rfl, fun D t ep => ⟨.cons (.cons _ _ .nil) .nil, rfl⟩⟩
  | _, _, .cons (r := r) (g := g) (items := items) (ep := ep) (rows := rows) (gl := gl) hi hg, hne => by
    have q := hne r (.head _)
    obtain ⟨h1, h2⟩ := Groups.new (p := p) hg fun r hr => hne r (.tail _ hr)
    refine ⟨?_, fun D t e => ⟨?_, ?_⟩⟩
    · rw [kvsOf, valueAt, List.find?_cons_of_neg (by simpa using q)]; exact h1
    · rw [putRow, if_neg q]; exact .cons hi (h2 D t e).1
    · rw [putRow, if_neg q]
      refine (congrArg ((r.1, Value.ref g) :: ·) (h2 D t e).2).trans ?_
      have hx : ∀ l : List (Str × Value), stored ((r.1, Value.ref g) :: l) y (.ref D) = (r.1, Value.ref g) :: stored l y (.ref D) := fun l => by
        simp only [stored, List.any_cons, decide_eq_false q, Bool.false_or, List.map_cons, if_neg q]
        split <;> rfl
      exact (hx _).symm

/-- the table's objects: apart from all else -/
noncomputable def Apart (dt : Addr) (gl rest : List (Addr × Obj)) : Prop := (dt :: gl.map (·.1)).Nodup ∧ ∀ q ∈ rest, q.1 ∉ dt :: gl.map (·.1)

set_option maxHeartbeats 1000000 in
/-- table.setdefault(told, []).append(pick) -/
theorem pick_put {w : World} {A : Around} {s : Shared} {h₀ : Heap} {L a dt : Addr} {cd : Value} {m cm : Str → Option Value} {od : Obj} {gl gn cells : List (Addr × Obj)} {Q : Flow → Shared → Prop} {y : Str} {tt tp : Tok} {pick : Nat} {rows : List (Str × List Nat)}
    (F : Fr h₀ L s.heap m) (N : News h₀ L s.heap ((dt, od) :: (gl ++ (gn ++ cells)))) (hod : od.IsDictOf (strKind P w) (kvsOf rows gl)) (hg : Groups rows gl) (hap : Apart dt gl (gn ++ cells)) (hds : (dt == sysModules) = false)
    (hrl : (rows.map fun r => r.2.length).sum ≤ 100) (hrl2 : (kvsOf rows gl).length ≤ 100) (m1 : m "told" = some (.str y tt)) (m2 : m "table" = some (.ref dt)) (m3 : m "pick" = some (.int (pick : Nat) tp)) (hh : A.handled = none)
    (k : ∀ od' gl' h tk, Fr h₀ L h m → News h₀ L h ((dt, od') :: (gl' ++ (gn ++ cells))) → od'.IsDictOf (strKind P w) (kvsOf (putRow rows y pick) gl') → Groups (putRow rows y pick) gl' → Apart dt gl' (gn ++ cells) → Q .next { s with heap := h, toks := tk }) :
    wpAny (model P w) A (exec (st10 5) (envL L a cd)) Q (fun _ _ => False) s := by
  have hdd : s.heap.DictOf (strKind P w) dt (kvsOf rows gl) := Heap.dictOf_iff.mpr ⟨od, (N _ (.head _)).1, hod⟩
  conv in exec _ _ => arg 1; whnf
  walk_at "go"
  have hnd : ∀ b, Value.ref dt = .ref b → ∃ o, s.heap.get? b = some o ∧ o.dict = none := fun b e => by
    cases e
    obtain ⟨o, es, ep, ho, hx, _⟩ := hdd
    exact ⟨o, ho, hx.2.1⟩
  refine PySem.getMethod_builtin hdd.typeIs PySem.F.plainAttrs_dict PySem.F.slot_dict_setdefault PySem.F.type_dict_setdefault hnd ?_
  walk_at "go"
  rename_i h1 F1 N1
  have hdd1 : h1.DictOf (strKind P w) dt (kvsOf rows gl) := Heap.dictOf_iff.mpr ⟨od, (N1 _ (.tail _ (.head _))).1, hod⟩
  refine call_meetsIn PySem.F.slot_dict_setdefault (Heap.DictOf.typeIs (s := { s with heap := h1, toks := _ }) hdd1) PySem.F.entry_dict_setdefault (PySem.F.args_dict_setdefault_3 _ _ _) (kt_meets_setdefault (strKind P w) (k := y) dt (strKind_is P w y tt) hds _) ?_
  refine ⟨kvsOf rows gl, hdd1, Nat.le_trans hrl2 (by decide), ?_, ?_⟩
  · intro v hv
    have hex : ∃ r ∈ rows, r.1 = y := Classical.byContradiction fun hn => by
      have := (hg.new (p := pick) fun r hr e => hn ⟨r, hr, e⟩).1
      rw [this] at hv; cases hv
    obtain ⟨g, items, ep, own, rest, nl, rfl, hi, hl, hva, hput⟩ := hg.there (p := pick) hex
    rw [hva] at hv
    cases hv
    have hmg : (g, ({ cls := .type "list", data := .seq (List.toArray items) ep } : Obj)) ∈ (dt, od) :: ((own ++ (g, { cls := .type "list", data := .seq (List.toArray items) ep }) :: rest) ++ (gn ++ cells)) := .tail _ (List.mem_append_left _ (List.mem_append_right _ (.head _)))
    have hD0 : s.heap.objs.size ≠ g := Nat.ne_of_gt (Heap.lt_size (N _ hmg).1)
    have hlg : IsL h1 g items.toArray ep := (N1 _ (.tail _ hmg)).1
    refine getMethod_list hlg PySem.slot_list_append PySem.F.type_list_append ?_
    clear N F
    walk_at "go"
    have N2 : News h₀ L h1 (((s.heap.objs.size, { cls := .type "list", data := .seq #[] }) :: (dt, od) :: own) ++ (g, { cls := .type "list", data := .seq (List.toArray items) ep }) :: (rest ++ (gn ++ cells))) := fun q hq => N1 q (by simpa using hq)
    have hap0 := hap
    obtain ⟨hnd2, hap2⟩ := hap
    rw [List.map_append, List.map_cons, ← List.cons_append, List.nodup_append] at hnd2
    obtain ⟨n1, n2, n3⟩ := hnd2
    rw [List.nodup_cons] at n2
    refine append_in F1 N2 ?_ ?_ (fun h3 F3 N3 => ?_) ?_
    · intro q hq
      rcases List.mem_cons.mp hq with rfl | hq
      · exact hD0
      · have : q.1 ∈ dt :: own.map (·.1) := by
          rcases List.mem_cons.mp hq with rfl | hq
          · exact .head _
          · exact .tail _ (List.mem_map_of_mem hq)
        exact n3 _ this _ (.head _)
    · intro q hq
      rcases List.mem_append.mp hq with hq | hq
      · intro e
        exact n2.1 (by show g ∈ _; rw [← e]; exact List.mem_map.mpr ⟨q, hq, rfl⟩)
      · exact fun e => hap2 q hq (by rw [e, List.map_append, List.map_cons]; exact .tail _ (List.mem_append_right _ (.head _)))
    · obtain ⟨hg', hkv⟩ := hput tp
      refine k od _ h3 _ F3 (fun q hq => N3 q ?_) (by rw [hkv]; exact hod) hg' ⟨?_, fun q hq => ?_⟩
      · simp only [List.mem_cons, List.mem_append] at hq ⊢
        rcases hq with e | (e | e | e) | e
        · exact .inl (.inr (.inl e))
        · exact .inl (.inr (.inr e))
        · exact .inr (.inl e)
        · exact .inr (.inr (.inl e))
        · exact .inr (.inr (.inr e))
      · have e0 := hap0.1
        simpa using e0
      · have e0 := hap0.2 q hq
        simpa using e0
    · have := IntsAre.length hi
      rw [List.length_map] at this
      exact Nat.le_trans (m := 100) (by omega) (by decide)
  · intro hv h2 hd2 hs2
    have hne : ∀ r ∈ rows, r.1 ≠ y := fun r hr e => by
      obtain ⟨g, items, ep, own, rest, nl, rfl, hi, hl, hva, hput⟩ := hg.there (p := pick) ⟨r, hr, e⟩
      rw [hva] at hv; cases hv
    obtain ⟨_, hnew⟩ := hg.new (p := pick) hne
    obtain ⟨od', hod', hodd⟩ := Heap.dictOf_iff.mp hd2
    have hlow : ∀ q ∈ (dt, od) :: (gl ++ (gn ++ cells)), q.1 ≠ s.heap.objs.size := fun q hq => Nat.ne_of_lt (Heap.lt_size (N q hq).1)
    have hda : ∀ q ∈ gl ++ (gn ++ cells), q.1 ≠ dt := fun q hq e => by
      rcases List.mem_append.mp hq with hq | hq
      · exact (List.nodup_cons.mp hap.1).1 (by rw [← e]; exact List.mem_map_of_mem hq)
      · exact hap.2 q hq (by rw [e]; exact .head _)
    have hD : dt ≠ s.heap.objs.size := hlow _ (.head _)
    have N1' : News h₀ L h1 ((dt, od) :: ((s.heap.objs.size, { cls := .type "list", data := .seq #[] }) :: (gl ++ (gn ++ cells)))) := fun q hq => N1 q (by
      simp only [List.mem_cons] at hq ⊢
      rcases hq with e | e | e
      · exact .inr (.inl e)
      · exact .inl e
      · exact .inr (.inr e))
    obtain ⟨F2, N2⟩ := after_but F1 N1' (fun q hq => by
      rcases List.mem_cons.mp hq with rfl | hq
      · exact hD.symm
      · exact hda q hq) hod' (fun b ob hb e => (hs2.2 b hb).trans e)
    refine getMethod_list (show IsL h2 s.heap.objs.size #[] 0 from (N2 _ (.tail _ (.head _))).1) PySem.slot_list_append PySem.F.type_list_append ?_
    clear N F N1 F1 N1'
    walk_at "go"
    refine append_in (own := [(dt, od')]) (ys := []) F2 N2 ?_ ?_ (fun h3 F3 N3 => ?_) (Nat.zero_le _)
    · intro q hq
      rw [List.mem_singleton.mp hq]; exact hD
    · exact fun q hq => hlow q (.tail _ hq)
    · obtain ⟨hg', hkv⟩ := hnew s.heap.objs.size tp 1
      refine k od' _ h3 _ F3 (fun q hq => N3 q ?_) (by rw [hkv]; exact hodd) hg' ⟨?_, fun q hq => ?_⟩
      · simp only [List.mem_cons, List.mem_append, List.not_mem_nil, or_false] at hq ⊢
        rcases hq with e | (e | e) | e
        · exact .inl e
        · exact .inr (.inr (.inl e))
        · exact .inr (.inl e)
        · exact .inr (.inr (.inr e))
      · rw [List.map_append, ← List.cons_append, List.nodup_append]
        refine ⟨hap.1, by simp, fun x hx z hz => ?_⟩
        simp only [List.map_cons, List.map_nil, List.mem_singleton] at hz
        subst hz
        rcases List.mem_cons.mp hx with rfl | hx
        · exact hD
        · obtain ⟨q, hq, rfl⟩ := List.mem_map.mp hx
          exact hlow q (.tail _ (List.mem_append_left _ hq))
      · rw [List.map_append, ← List.cons_append, List.mem_append]
        rintro (e | e)
        · exact hap.2 q hq e
        · simp only [List.map_cons, List.map_nil, List.mem_singleton] at e
          exact hlow q (.tail _ (List.mem_append_right _ hq)) e
end

-- part M36
section
theorem afreshM36 : True := by
  w_top off
  trivial
/-- what the plain side asks of the written and the meant -/
structure Setup (D : List (PyData × PyData)) (W ms : List Str) (n : Nat) (ps : List (Nat × Nat)) : Prop where
  wl : W.length = n
  ml : ms.length = n
  n5 : n ≤ 5
  safe : ∀ y ∈ W, Safe (chars y)
  w3 : ∀ y ∈ W, y.length ≤ 3
  m3 : ∀ y ∈ ms, y.length ≤ 3
  hM : ∀ i, i < n → fm (prep D) (W.getD i "") = ms.getD i ""
  hch : ∀ y ∈ W, ∀ c ∈ chars y, S1 c = false → S9 c = false → (mapped D c).length ≤ 100 ∧ ((∃ x, Spec.lookup (.int c) D = some (.str x)) ∨ Spec.lookup (.int c) D = none)
  hps : ∀ k, (ps.getD k (0, 0)).1 ≤ n ∧ (ps.getD k (0, 0)).2 ≤ n
  pl : ps.length ≤ 4

theorem cat_sub_len {W l : List Str} (h3 : ∀ y ∈ W, y.length ≤ 3) (hl : l.length ≤ 5) (hs : ∀ y ∈ l, y ∈ W) : (cat l).length ≤ 15 := by
  rw [cat_length]
  have := sum_le (ys := l) (k := 3) fun y hy => h3 y (hs y hy)
  omega
theorem markGo_len {W : List Str} (h3 : ∀ y ∈ W, y.length ≤ 3) (hW : W.length ≤ 5) : ∀ (ns : List Int) (a : Nat), (markGo W a ns).length ≤ ns.length * 16 + 15
  | [], a => by
    have := cat_sub_len h3 (l := W.drop a) (by rw [List.length_drop]; omega) fun y hy => List.mem_of_mem_drop hy
    exact Nat.le_trans this (by simp)
  | p :: ns, a => by
    have h1 := cat_sub_len h3 (l := (W.drop a).take (p.toNat - a)) (by rw [List.length_take, List.length_drop]; omega) fun y hy => List.mem_of_mem_drop (List.mem_of_mem_take hy)
    have h2 := markGo_len h3 hW ns p.toNat
    show (cat _ ++ _ ++ markGo W p.toNat ns).length ≤ _
    rw [Str.length_append, Str.length_append, List.length_cons]
    have h0 : (Str.ofString "\"").length = 1 := by decide
    rw [h0]
    omega

section
variable {D : List (PyData × PyData)} {W ms : List Str} {n : Nat} {ps : List (Nat × Nat)} {ns : List Int} {pick : Nat}
theorem Setup.stripped (S : Setup D W ms n ps) (hM : Marks ps n ps.length pick ns) : strip (markGo W 0 ns) = cat ((evens ns 0 W.length).map fun i => W.getD i "") := by
  rw [strip_marked S.safe hM.len.1, kept_evens ns 0 hM.len.1 (Nat.zero_le _) hM.srt (fun x hx => by have := hM.rng x hx; rw [S.wl]; omega), Nat.sub_zero]
theorem evens_mem {i : Nat} (h : i ∈ evens ns 0 n) : i < n := by
  have := List.mem_range'_1.mp (List.mem_filter.mp h).1
  omega
theorem Setup.cellIn (S : Setup D W ms n ps) {i : Nat} (hi : i < n) : W.getD i "" ∈ W := by
  rw [List.getD_eq_getElem?_getD, List.getElem?_eq_getElem (by rw [S.wl]; exact hi)]
  exact List.getElem_mem _
theorem Setup.strip_len (S : Setup D W ms n ps) (hM : Marks ps n ps.length pick ns) : (strip (markGo W 0 ns)).length ≤ 20 := by
  rw [S.stripped hM]
  refine Nat.le_trans (cat_sub_len S.w3 ?_ ?_) (by decide)
  · rw [List.length_map]
    refine Nat.le_trans (List.length_filter_le _ _) ?_
    rw [List.length_range', S.wl]; exact S.n5
  · intro y hy
    obtain ⟨i, hi, rfl⟩ := List.mem_map.mp hy
    rw [S.wl] at hi
    exact S.cellIn (evens_mem hi)
theorem Setup.strip_chars (S : Setup D W ms n ps) (hM : Marks ps n ps.length pick ns) : ∀ c ∈ chars (strip (markGo W 0 ns)), ∃ y ∈ W, c ∈ chars y := by
  intro c hc
  rw [S.stripped hM, chars_cat] at hc
  obtain ⟨y, hy, hcy⟩ := List.mem_flatMap.mp hc
  obtain ⟨i, hi, rfl⟩ := List.mem_map.mp hy
  rw [S.wl] at hi
  exact ⟨_, S.cellIn (evens_mem hi), hcy⟩
theorem Setup.told (S : Setup D W ms n ps) (hM : Marks ps n ps.length pick ns) : fm (prep D) (strip (markGo W 0 ns)) = textOf (fun i => ms.getD i "") ps n pick := by
  rw [told_eq (M := fun i => ms.getD i "") S.safe (fun i hi => S.hM i (by rw [← S.wl]; exact hi)) hM.len.1 hM.srt (fun x hx => by rw [S.wl]; exact hM.rng x hx), S.wl, evens_of hM]
  rfl
theorem Setup.meant (_ : Setup D W ms n ps) (hM : Marks ps n ps.length pick ns) : textOf (fun i => ms.getD i "") ps n pick = cat (((List.range n).filter (evenP ns)).map fun i => ms.getD i "") := by
  rw [textOf, ← evens_of hM, evens, List.range_eq_range']
  rfl
end
end

-- part M37
section
theorem afreshM37 : True := by
  w_top off
  trivial
noncomputable def b10 : List Stmt := match st17 10 with | .For _ _ b _ _ => b | _ => []
theorem b10_eq : b10 = [st10 0, st10 1, st10 2, st10 3, st10 4, st10 5] := rfl

/-- told = '' -/
theorem pick_told0 {w : World} {A : Around} {s : Shared} {h₀ : Heap} {L a : Addr} {cd : Value} {m : Str → Option Value} {news : List (Addr × Obj)} {Q : Flow → Shared → Prop} {E : Value → Shared → Prop}
    (F : Fr h₀ L s.heap m) (N : News h₀ L s.heap news)
    (k : ∀ h tk u, Fr h₀ L h (fun z => if z = "told" then some (.str "" u) else m z) → News h₀ L h news → Q .next { s with heap := h, toks := tk }) :
    wpAny (model P w) A (exec (st10 2) (envL L a cd)) Q E s := by
  conv in exec _ _ => arg 1; whnf
  refine wpAny_Assign_Name ?_
  walk1
  exact stL F N fun h' F' N' => k h' _ _ F' N'

inductive TurnPost (w : World) (s : Shared) (h₀ : Heap) (L dt : Addr) (gn : List (Addr × Obj)) (m cm : Str → Option Value) (rows : List (Str × List Nat)) (s' : Shared) : Prop
  | mk (od' : Obj) (gl' : List (Addr × Obj)) (h : Heap) (tk : Nat) (gs : Array GenState) (m' : Str → Option Value) (cells' : List (Addr × Obj)) (cm' : Str → Option Value) (e : s' = { s with heap := h, toks := tk, gens := gs }) (F : Fr h₀ L h m') (N : News h₀ L h ((dt, od') :: (gl' ++ (gn ++ cells'))))
    (X : CellsAre cm' (csL L) cells') (hb : AllBare s.gens → AllBare gs) (hc : ∀ x : Str, x ≠ "marks" → cm' x = cm x) (hm : ∀ x : Str, x ≠ "k" → x ≠ "told" → x ≠ "sign" → m' x = m x)
    (hd : od'.IsDictOf (strKind P w) (kvsOf rows gl')) (hg : Groups rows gl') (hap : Apart dt gl' (gn ++ cells'))

set_option maxHeartbeats 1000000 in
theorem pick_turn {w : World} {A : Around} {s : Shared} {h₀ : Heap} {L a dt lw lm lt : Addr} {cd : Value} {m cm mg mb : Str → Option Value} {od : Obj} {iw im it : List Value} {ew em et n pick : Nat} {tp t1 : Tok} {gl gn cells : List (Addr × Obj)} {D : List (PyData × PyData)} {W ms : List Str} {ps : List (Nat × Nat)} {rows : List (Str × List Nat)}
    (T : TopOk w D mg mb h₀) (S : Setup D W ms n ps) (F : Fr h₀ L s.heap m) (N : News h₀ L s.heap ((dt, od) :: (gl ++ (gn ++ cells)))) (X : CellsAre cm (csL L) cells) (hgn : ∀ p ∈ gn, ∀ v, p.2.data ≠ .cell v)
    (hod : od.IsDictOf (strKind P w) (kvsOf rows gl)) (hg : Groups rows gl) (hap : Apart dt gl (gn ++ cells)) (hds : (dt == sysModules) = false) (hrl : (rows.map fun r => r.2.length).sum ≤ 100) (hrl2 : (kvsOf rows gl).length ≤ 100)
    (hlw : (lw, { cls := .type "list", data := .seq (List.toArray iw) ew }) ∈ gn) (hlm : (lm, { cls := .type "list", data := .seq (List.toArray im) em }) ∈ gn) (hlt : (lt, { cls := .type "list", data := .seq (List.toArray it) et }) ∈ gn)
    (hW : StrsAre iw W) (hms : StrsAre im ms) (hti : ∀ h', (∀ p ∈ gn, h'.get? p.1 = some p.2) → TiesAt h' it ps)
    (c1 : cm "meant" = some (.ref lm)) (c2 : cm "ties" = some (.ref lt)) (c3 : cm "size" = some (.int (n : Nat) t1)) (m1 : m "written" = some (.ref lw)) (m2 : m "table" = some (.ref dt)) (m3 : m "pick" = some (.int (pick : Nat) tp))
    (hroom : A.depth + 5 < recursionLimit) (hh : A.handled = none) :
    wpAny (model P w) A (execs b10 (envL L a cd)) (fun fl s' => fl = .next ∧ TurnPost w s h₀ L dt gn m cm (putRow rows (textOf (fun i => ms.getD i "") ps n pick) pick) s') (fun _ _ => False) s := by
  have hodn : ∀ v, od.data ≠ .cell v := fun v e => by
    obtain ⟨es, ep, _, hd, _⟩ := hod
    rw [hd] at e; cases e
  have hgx : ∀ p ∈ (dt, od) :: (gl ++ gn), ∀ v, p.2.data ≠ .cell v := no_cell_cons hodn (no_cell_app hg.no_cell hgn)
  have N0 : News h₀ L s.heap (((dt, od) :: (gl ++ gn)) ++ cells) := fun q hq => N q (by simpa using hq)
  rw [b10_eq]
  refine wpAny_execs_cons (pick_marks0 F N0 X hgx fun lk h1 tk1 cells1 F1 N1 X1 hne1 => ?_)
  refine wpAny_execs_cons (pick_marks (n := n) T F1 N1 X1 hne1 (.tail _ (List.mem_append_right _ hlt)) (fun h' hq => hti h' fun p hp => hq p (.tail _ (List.mem_append_right _ hp))) S.pl S.hps (if_pos rfl) ((if_neg (by decide)).trans c2) m3 hroom hh fun ik ns ek h2 tk2 m2' F2 N2 hik hM hm2 => ?_)
  refine wpAny_execs_cons (pick_told0 F2 N2 fun h3 tk3 u3 F3 N3 => ?_)
  have N3' : News h₀ L h3 (((lk, { cls := .type "list", data := .seq (List.toArray ik) ek }) :: (dt, od) :: (gl ++ gn)) ++ cells1) := N3
  have hl8 : ns.length ≤ 8 := by have := hM.len.2; have := S.pl; omega
  refine wpAny_execs_cons (pick_told (W := W) (ns := ns) T F3 N3' X1 (.tail _ (.tail _ (List.mem_append_right _ hlw))) (.head _) hW hik (by rw [S.wl]; exact S.n5) S.w3 hl8 hM.srt (by rw [S.wl]; exact hM.rng) ?_ ?_ (S.strip_len hM) ?_ (if_pos rfl) ?_ (if_pos rfl) hroom hh fun h4 tk4 gs m4 u4 F4 N4 hb4 hm4 hmo4 => ?_)
  · have := markGo_len S.w3 (by rw [S.wl]; exact S.n5) ns 0
    omega
  · exact markGo_end S.safe ns 0
  · intro c hc
    obtain ⟨y, hy, hcy⟩ := S.strip_chars hM c hc
    exact S.hch y hy c hcy
  · rw [if_neg (by decide), hm2 _ (by decide)]; exact m1
  rw [S.told hM] at hm4
  refine wpAny_execs_cons (pick_test (n := n) T F4 N4 X1 (.tail _ (.tail _ (List.mem_append_right _ hlm))) (.head _) hms hik S.ml S.n5 hl8 hM.srt S.m3 (if_pos rfl) ((if_neg (by decide)).trans c1) ((if_neg (by decide)).trans c3) hm4 (S.meant hM) hroom hh fun h5 tk5 F5 N5 => ?_)
  have N5' : News h₀ L h5 ((dt, od) :: (gl ++ (((lk, { cls := .type "list", data := .seq (List.toArray ik) ek }) :: gn) ++ cells1))) := fun q hq => N5 q (by
    simp only [List.mem_cons, List.mem_append] at hq ⊢
    rcases hq with e | e | (e | e) | e
    · exact .inl (.inr (.inl e))
    · exact .inl (.inr (.inr (.inl e)))
    · exact .inl (.inl e)
    · exact .inl (.inr (.inr (.inr e)))
    · exact .inr e)
  have hsub : ∀ q ∈ gn ++ cells1, q.1 ∉ dt :: gl.map (·.1) := fun q hq => by
    rcases List.mem_append.mp hq with hq | hq
    · exact hap.2 q (List.mem_append_left _ hq)
    · intro e
      have : q.1 ∈ cells.map (·.1) := by rw [cells_addr X, ← cells_addr X1]; exact List.mem_map_of_mem hq
      obtain ⟨q', hq', e'⟩ := List.mem_map.mp this
      exact hap.2 q' (List.mem_append_right _ hq') (e' ▸ e)
  have hap5 : Apart dt gl (((lk, ({ cls := .type "list", data := .seq (List.toArray ik) ek } : Obj)) :: gn) ++ cells1) := ⟨hap.1, fun q hq => by
    rcases List.mem_cons.mp hq with rfl | hq
    · intro e
      rcases List.mem_cons.mp e with e | e
      · exact hne1 (dt, od) (List.mem_append_left _ (.head _)) e.symm
      · obtain ⟨g, hgm, e⟩ := List.mem_map.mp e
        exact hne1 g (List.mem_append_left _ (.tail _ (List.mem_append_left _ hgm))) e
    · exact hsub q hq⟩
  refine wpAny_execs_cons (pick_put (cm := cm) (pick := pick) (tp := tp) (y := textOf (fun i => ms.getD i "") ps n pick) F5 N5' hod hg hap5 hds hrl hrl2 hm4 ?_ ?_ hh fun od' gl' h6 tk6 F6 N6 hod6 hg6 hap6 => ?_)
  · rw [hmo4 _ (by decide) (by decide), if_neg (by decide), hm2 _ (by decide)]; exact m2
  · rw [hmo4 _ (by decide) (by decide), if_neg (by decide), hm2 _ (by decide)]; exact m3
  refine wpAny_execs_nil ⟨rfl, od', gl', h6, tk6, gs, m4, cells1, _, rfl, F6, fun q hq => N6 q ?_, X1, hb4, fun x hx => if_neg hx, fun x h1 h2 h3 => ?_, hod6, hg6, hap6.1, fun q hq => hap6.2 q (.tail _ hq)⟩
  · rcases List.mem_cons.mp hq with rfl | hq
    · exact .head _
    · refine .tail _ ?_
      rcases List.mem_append.mp hq with hq | hq
      · exact List.mem_append_left _ hq
      · exact List.mem_append_right _ (.tail _ hq)
  · rw [hmo4 x h3 h2, if_neg h2, hm2 x h1]
end

-- part M38
section
theorem afreshM38 : True := by
  w_top off
  trivial
local macro_rules | `(tactic| walk_at "binaryOp Pow int int") => `(tactic| (refine pow_int_small (by omega) (by (try simp only [List.size_toArray]); omega) (by decide) ?_))
/-- the table after p picks -/
noncomputable def rowsOf (text : Nat → Str) (p : Nat) : List (Str × List Nat) := (List.range p).foldl (fun rows q => putRow rows (text q) q) []
theorem rowsOf_succ (text : Nat → Str) (p : Nat) : rowsOf text (p + 1) = putRow (rowsOf text p) (text p) p := by
  simp [rowsOf, List.range_succ]
theorem putRow_sum (y : Str) (p : Nat) : ∀ rows : List (Str × List Nat), ((putRow rows y p).map fun r => r.2.length).sum = (rows.map fun r => r.2.length).sum + 1
  | [] => rfl
  | r :: rows => by
    rw [putRow]
    split
    · simp only [List.map_cons, List.sum_cons, List.length_append, List.length_singleton]; omega
    · rw [List.map_cons, List.sum_cons, putRow_sum y p rows, List.map_cons, List.sum_cons]; omega
theorem putRow_len (y : Str) (p : Nat) : ∀ rows : List (Str × List Nat), (putRow rows y p).length ≤ rows.length + 1
  | [] => Nat.le_refl _
  | r :: rows => by
    rw [putRow]
    split
    · exact Nat.le_succ _
    · rw [List.length_cons, List.length_cons]; have := putRow_len y p rows; omega
theorem rowsOf_sum (text : Nat → Str) : ∀ p, ((rowsOf text p).map fun r => r.2.length).sum = p
  | 0 => rfl
  | p + 1 => by rw [rowsOf_succ, putRow_sum, rowsOf_sum text p]
theorem rowsOf_len (text : Nat → Str) : ∀ p, (rowsOf text p).length ≤ p
  | 0 => Nat.le_refl _
  | p + 1 => by rw [rowsOf_succ]; have := putRow_len (text p) p (rowsOf text p); have := rowsOf_len text p; omega
theorem kvsOf_len : ∀ (rows : List (Str × List Nat)) (gl : List (Addr × Obj)), (kvsOf rows gl).length ≤ rows.length
  | [], _ => Nat.le_refl _
  | _ :: _, [] => Nat.zero_le _
  | _ :: rows, _ :: gl => Nat.succ_le_succ (kvsOf_len rows gl)

/-- table = {} -/
theorem law_table {w : World} {A : Around} {s : Shared} {h₀ : Heap} {L a : Addr} {cd : Value} {m : Str → Option Value} {mg mb : Str → Option Value} {news : List (Addr × Obj)} {Q : Flow → Shared → Prop} {E : Value → Shared → Prop} (G : GlobM mg mb h₀)
    (F : Fr h₀ L s.heap m) (N : News h₀ L s.heap news)
    (k : ∀ dt od h tk, Fr h₀ L h (fun z => if z = "table" then some (.ref dt) else m z) → News h₀ L h ((dt, od) :: news) → od.IsDictOf (strKind P w) [] → (∀ q ∈ news, q.1 ≠ dt) → (dt == sysModules) = false → Q .next { s with heap := h, toks := tk }) :
    wpAny (model P w) A (exec (st17 9) (envL L a cd)) Q E s := by
  unfold st17 bodyAt
  refine wpAny_Assign_Name ?_
  walk_at "go"
  rename_i hsys hd1 _ _ _ hap h2 F2 N2 _ _
  exact k _ _ h2 _ F2 N2 hd1 hap hsys

inductive PInv (w : World) (s : Shared) (h₀ : Heap) (L dt u : Addr) (gn : List (Addr × Obj)) (m cm : Str → Option Value) (text : Nat → Str) (i : Nat) (s' : Shared) : Prop
  | mk (od : Obj) (gl : List (Addr × Obj)) (h : Heap) (tk : Nat) (gs : Array GenState) (m' : Str → Option Value) (cells' : List (Addr × Obj)) (cm' : Str → Option Value) (e : s' = { s with heap := h, toks := tk, gens := gs }) (F : Fr h₀ L h m') (N : News h₀ L h ((dt, od) :: (gl ++ (gn ++ cells')))) (X : CellsAre cm' (csL L) cells')
    (hb : AllBare s.gens → AllBare gs) (hc : ∀ x : Str, x ≠ "marks" → cm' x = cm x) (hm : ∀ x : Str, x ≠ "pick" → x ≠ "k" → x ≠ "told" → x ≠ "sign" → m' x = m x)
    (hd : od.IsDictOf (strKind P w) (kvsOf (rowsOf text i) gl)) (hg : Groups (rowsOf text i) gl) (hap : Apart dt gl (gn ++ cells')) (hgl : ∀ g ∈ gl, g.1 ≠ u)

set_option maxHeartbeats 2000000 in
/-- for pick in range(2 ** len(ties)): ... -/
theorem law_picks {w : World} {A : Around} {s : Shared} {h₀ : Heap} {L a dt lw lm lt : Addr} {cd : Value} {m cm mg mb : Str → Option Value} {od : Obj} {iw im it : List Value} {ew em et n : Nat} {t1 : Tok} {gn cells : List (Addr × Obj)} {D : List (PyData × PyData)} {W ms : List Str} {ps : List (Nat × Nat)} {Q : Flow → Shared → Prop}
    (T : TopOk w D mg mb h₀) (S : Setup D W ms n ps) (F : Fr h₀ L s.heap m) (N : News h₀ L s.heap ((dt, od) :: (gn ++ cells))) (X : CellsAre cm (csL L) cells) (hgn : ∀ p ∈ gn, ∀ v, p.2.data ≠ .cell v)
    (hod : od.IsDictOf (strKind P w) []) (hap : ∀ q ∈ gn ++ cells, q.1 ≠ dt) (hds : (dt == sysModules) = false)
    (hlw : (lw, { cls := .type "list", data := .seq (List.toArray iw) ew }) ∈ gn) (hlm : (lm, { cls := .type "list", data := .seq (List.toArray im) em }) ∈ gn) (hlt : (lt, { cls := .type "list", data := .seq (List.toArray it) et }) ∈ gn)
    (hW : StrsAre iw W) (hms : StrsAre im ms) (hti : ∀ h', (∀ p ∈ gn, h'.get? p.1 = some p.2) → TiesAt h' it ps)
    (c1 : cm "meant" = some (.ref lm)) (c2 : cm "ties" = some (.ref lt)) (c3 : cm "size" = some (.int (n : Nat) t1)) (m1 : m "written" = some (.ref lw)) (m2 : m "table" = some (.ref dt))
    (hroom : A.depth + 5 < recursionLimit) (hh : A.handled = none)
    (k : ∀ od gl h tk gs m' cells' cm', Fr h₀ L h m' → News h₀ L h ((dt, od) :: (gl ++ (gn ++ cells'))) → CellsAre cm' (csL L) cells' → (AllBare s.gens → AllBare gs) → (∀ x : Str, x ≠ "marks" → cm' x = cm x) → (∀ x : Str, x ≠ "pick" → x ≠ "k" → x ≠ "told" → x ≠ "sign" → m' x = m x) →
      od.IsDictOf (strKind P w) (kvsOf (rowsOf (textOf (fun i => ms.getD i "") ps n) (2 ^ ps.length)) gl) → Groups (rowsOf (textOf (fun i => ms.getD i "") ps n) (2 ^ ps.length)) gl → Apart dt gl (gn ++ cells') → Q .next { s with heap := h, toks := tk, gens := gs }) :
    wpAny (model P w) A (exec (st17 10) (envL L a cd)) Q (fun _ _ => False) s := by
  have hT0 := hti s.heap fun p hp => (N p (.tail _ (List.mem_append_left _ hp))).1
  have hil : it.length = ps.length := hT0.1
  have hib : ((it.length : Nat) : Int) ≤ 4 := by have := S.pl; omega
  have G := T.G
  have N1 : News h₀ L s.heap ((lt, { cls := .type "list", data := .seq (List.toArray it) et }) :: (dt, od) :: (gn ++ cells)) := fun q hq => by
    rcases List.mem_cons.mp hq with rfl | hq
    · exact N _ (.tail _ (List.mem_append_left _ hlt))
    · exact N q hq
  clear N
  generalize htx : textOf (fun i => ms.getD i "") ps n = text at *
  unfold st17 bodyAt
  refine for_walkS ?_
  walk_at "go"
  rename_i h2 tk2 t2 u2 v2 hR F2 N2 hk2
  have ep : ((2 : Int) ^ ((it.length : Nat) : Int).toNat) = ((2 ^ ps.length : Nat) : Int) := by rw [Int.toNat_natCast, hil]; norm_cast
  simp only [List.size_toArray] at hR
  rw [ep] at hR
  have h16 : 2 ^ ps.length ≤ 16 := Nat.pow_le_pow_right (n := 2) (by decide) S.pl
  generalize hnp : 2 ^ ps.length = np at *
  dsimp only at hR ⊢
  have hlow : ∀ q ∈ gn ++ cells, q.1 ≠ h2.objs.size := fun q hq => Nat.ne_of_lt (Heap.lt_size (N2 q (.tail _ (.tail _ hq))).1)
  have hdt : dt ≠ h2.objs.size := Nat.ne_of_lt (Heap.lt_size (N2 _ (.tail _ (.head _))).1)
  refine ⟨_, [h2.objs.size], np, _, _, PInv w s h₀ L dt h2.objs.size gn m cm text,
    fun Q hQ => wpAny_pyIter_range hR (small_one (by omega) (by omega) (by omega) (by omega)) hQ, Walks.range hh h2.objs.size 0 1 np, range_iter_new,
    ⟨od, [], _, _, s.gens, m, cells, cm, rfl, F2.push _, fun q hq => ⟨Heap.get?_push_of_some _ (N2 q (.tail _ hq)).1, (N2 q (.tail _ hq)).2⟩, X, fun x => x, fun _ _ => rfl, fun _ _ _ _ _ => rfl, hod, .nil, ⟨by simp, fun q hq => by simpa using hap q hq⟩, fun _ h => nomatch h⟩, ?_, ?_⟩
  · rintro i v s' h' tk' own0 hi hv ⟨od', gl, h, tk, gs, m', cells', cm', rfl, F3, N3, X3, hb3, hc3, hm3, hd3, hg3, hap3, hgl3⟩ hk hown0 hst
    obtain ⟨tv, rfl⟩ := hv
    have e0 : (0 : Int) + (i : Nat) * 1 = ((i : Nat) : Int) := by omega
    rw [e0]
    obtain ⟨oI, hoI, hdI⟩ : ∃ oI, h'.get? h2.objs.size = some oI ∧ ∀ v, oI.data ≠ .cell v := ⟨_, hst, fun v e => nomatch e⟩
    obtain ⟨own, hown1⟩ : ∃ own, own = (h2.objs.size, oI) :: own0 := ⟨_, rfl⟩
    have hown : ∀ p ∈ own, p.1 ∈ [h2.objs.size] ∧ h'.get? p.1 = some p.2 := fun p hp => by
      rw [hown1] at hp
      rcases List.mem_cons.mp hp with rfl | hp
      · exact ⟨.head _, hoI⟩
      · exact hown0 p hp
    have hco : ∀ p ∈ own, ∀ v, p.2.data ≠ .cell v := fun p hp v => by
      have h5 := (hown p hp).2
      rw [List.mem_singleton.mp (hown p hp).1, hoI] at h5
      rw [← Option.some.inj h5]; exact hdI v
    have N4 := news_own (news_step N3 (fun q hq => by
      rcases List.mem_cons.mp hq with rfl | hq
      · exact hdt
      rcases List.mem_append.mp hq with hq | hq
      · exact hgl3 q hq
      rcases List.mem_append.mp hq with hq | hq
      · exact hlow q (List.mem_append_left _ hq)
      · exact cells_apart X X3 (fun q hq => hlow q (List.mem_append_right _ hq)) q hq) hk) hown (fun b hb => by rw [List.mem_singleton.mp hb]; exact new_at F2)
    have F4 := fr_step F3 F2.ns.lt hk
    refine wpAny_pure (wpAny_assign_Name (stL F4 (m := m') N4 fun h5 F5 N5 => ?_))
    have N6 : News h₀ L h5 ((dt, od') :: (gl ++ ((own ++ gn) ++ cells'))) := fun q hq => N5 q (by
      simp only [List.mem_cons, List.mem_append] at hq ⊢
      rcases hq with e | e | (e | e) | e
      · exact .inr (.inl e)
      · exact .inr (.inr (.inl e))
      · exact .inl e
      · exact .inr (.inr (.inr (.inl e)))
      · exact .inr (.inr (.inr (.inr e))))
    have hap6 : Apart dt gl ((own ++ gn) ++ cells') := ⟨hap3.1, fun q hq => by
      rcases List.mem_append.mp hq with hq | hq
      · rcases List.mem_append.mp hq with hq | hq
        · rw [List.mem_singleton.mp (hown q hq).1]
          intro e
          rcases List.mem_cons.mp e with e | e
          · exact hdt e.symm
          · obtain ⟨g, hg, e⟩ := List.mem_map.mp e
            exact hgl3 g hg e
        · exact hap3.2 q (List.mem_append_left _ hq)
      · exact hap3.2 q (List.mem_append_right _ hq)⟩
    have hsum := rowsOf_sum text i
    have hlen := Nat.le_trans (kvsOf_len (rowsOf text i) gl) (rowsOf_len text i)
    refine wpAny_mono (pick_turn (n := n) (pick := i) (tp := tv) (ps := ps) (rows := rowsOf text i) T S F5 N6 X3 (no_cell_app hco hgn) hd3 hg3 hap6 hds (by omega) (by omega) (List.mem_append_right _ hlw) (List.mem_append_right _ hlm) (List.mem_append_right _ hlt) hW hms (fun h' hq => hti h' fun p hp => hq p (List.mem_append_right _ hp))
      ((hc3 _ (by decide)).trans c1) ((hc3 _ (by decide)).trans c2) ((hc3 _ (by decide)).trans c3) ((if_neg (by decide)).trans ((hm3 _ (by decide) (by decide) (by decide) (by decide)).trans m1)) ((if_neg (by decide)).trans ((hm3 _ (by decide) (by decide) (by decide) (by decide)).trans m2)) (if_pos rfl) hroom hh) ?_ (fun _ _ x => x)
    rintro fl s7 ⟨rfl, od7, gl7, h7, tk7, gs7, m7, cells7, cm7, rfl, F7, N7, X7, hb7, hc7, hm7, hd7, hg7, hap7⟩
    rw [htx, ← rowsOf_succ] at hd7 hg7
    refine ⟨fun p hp => (N7 p (.tail _ (List.mem_append_right _ (List.mem_append_left _ (List.mem_append_left _ (hown1 ▸ .tail _ hp)))))).1, od7, gl7, h7, tk7, gs7, m7, cells7, cm7, rfl, F7, fun q hq => N7 q ?_, X7, fun hb => hb7 (hb3 hb), fun x hx => (hc7 x hx).trans (hc3 x hx), fun x h1 h2 h3 h4 => ?_, hd7, hg7, ⟨hap7.1, fun q hq => hap7.2 q ?_⟩, fun g hg e => ?_⟩
    · simp only [List.mem_cons, List.mem_append] at hq ⊢
      rcases hq with e | e | e | e
      · exact .inl e
      · exact .inr (.inl e)
      · exact .inr (.inr (.inl (.inr e)))
      · exact .inr (.inr (.inr e))
    · rw [hm7 x h2 h3 h4, if_neg h1]; exact hm3 x h1 h2 h3 h4
    · rcases List.mem_append.mp hq with hq | hq
      · exact List.mem_append_left _ (List.mem_append_right _ hq)
      · exact List.mem_append_right _ hq
    · exact hap7.2 (h2.objs.size, oI) (List.mem_append_left _ (List.mem_append_left _ (hown1 ▸ .head _))) (.tail _ (List.mem_map.mpr ⟨g, hg, e⟩))
  · rintro s' h' tk' ⟨od', gl, h, tk, gs, m', cells', cm', rfl, F3, N3, X3, hb3, hc3, hm3, hd3, hg3, hap3, hgl3⟩ hk
    refine k od' gl h' tk' gs m' cells' cm' (fr_step F3 F2.ns.lt hk) (news_step N3 (fun q hq => ?_) hk) X3 hb3 hc3 hm3 hd3 hg3 hap3
    rcases List.mem_cons.mp hq with rfl | hq
    · exact hdt
    rcases List.mem_append.mp hq with hq | hq
    · exact hgl3 q hq
    rcases List.mem_append.mp hq with hq | hq
    · exact hlow q (List.mem_append_left _ hq)
    · exact cells_apart X X3 (fun q hq => hlow q (List.mem_append_right _ hq)) q hq
end

-- part M39
section
theorem afreshM39 : True := by
  w_top off
  trivial
local macro_rules | `(tactic| walk_at "binaryOp Pow int int") => `(tactic| (refine pow_int_small (by omega) (by (try simp only [List.size_toArray]); omega) (by decide) ?_))
set_option maxHeartbeats 1000000 in
/-- if len(table) != 2 ** (len(parts) - len(set(parts))): return False -/
theorem law_count {w : World} {A : Around} {s : Shared} {h₀ : Heap} {L a dt lp : Addr} {cd : Value} {m cm mg mb : Str → Option Value} {od : Obj} {ip : List Value} {qs : List Int} {ep : Nat} {gl gn cells : List (Addr × Obj)} {kvs : List (Str × Value)} {Q : Flow → Shared → Prop}
    (G : GlobM mg mb h₀) (F : Fr h₀ L s.heap m) (N : News h₀ L s.heap ((dt, od) :: (lp, { cls := .type "list", data := .seq (List.toArray ip) ep }) :: (gl ++ (gn ++ cells)))) (X : CellsAre cm (csL L) cells) (hsub : ∀ q ∈ cells, q ∈ (dt, od) :: (lp, ({ cls := .type "list", data := .seq (List.toArray ip) ep } : Obj)) :: (gl ++ (gn ++ cells)))
    (hod : od.IsDictOf (strKind P w) kvs) (hds : (dt == sysModules) = false) (hip : IntsAre ip qs) (hql : qs.length ≤ 10) (hkl : kvs.length ≤ 100)
    (heq : kvs.length = 2 ^ (qs.length - (firstMet (fun i => qs.getD i 0) qs.length).length)) (c1 : cm "parts" = some (.ref lp)) (m2 : m "table" = some (.ref dt)) (hh : A.handled = none)
    (k : ∀ h tk, Fr h₀ L h m → News h₀ L h ((dt, od) :: (gl ++ (gn ++ cells))) → Q .next { s with heap := h, toks := tk }) :
    wpAny (model P w) A (exec (st17 11) (envL L a cd)) Q (fun _ _ => False) s := by
  have hdd : s.heap.DictOf (strKind P w) dt kvs := Heap.dictOf_iff.mpr ⟨od, (N _ (.head _)).1, hod⟩
  conv in exec _ _ => arg 1; whnf
  walk_at "go"
  have hil := IntsAre.length hip
  refine call_len_dict hds hdd (by omega) ?_
  walk_at "go"
  refine call_set_list hh (N.isList (.tail _ (.head _))) (by exact hip) (by rw [List.size_toArray]; have : scanBound = 4096 := rfl; omega) fun h2 tk2 hS hk2 => ?_
  obtain ⟨oS, es, eS, tS, hoS, hexS, hdS, _, _, hbS, hfS, hnS⟩ := hS
  have hk : ∀ b o, s.heap.get? b = some o → h2.get? b = some o := fun b o e => hk2 b o (Heap.lt_size e) e
  have F2 := F.keeps hk
  have N2 : News h₀ L h2 _ := fun q hq => ⟨hk _ _ (N q hq).1, (N q hq).2⟩
  clear N F
  walk_at "go"
  have hsz : ip.toArray.size = ip.length := List.size_toArray
  have hle : es.size ≤ ip.length := by rw [hnS, hsz]; exact firstMet_length_le _ _
  have hsb : scanBound = 4096 := rfl
  refine call_len_set hoS hexS hdS hfS (by omega) ?_
  have hv : ((kvs.length : Nat) : Int) = 2 ^ (((ip.toArray.size : Nat) : Int) - ((es.size : Nat) : Int)).toNat := by
    rw [heq, hnS, hsz, hil]
    have : ((qs.length : Int) - ((firstMet (fun i => qs.getD i 0) qs.length).length : Int)).toNat = qs.length - (firstMet (fun i => qs.getD i 0) qs.length).length := by omega
    rw [this]; norm_cast
  walk_at "go"
  · rename_i hx
    exact absurd hv hx
  · refine k h2 _ F2 fun q hq => N2 q ?_
    rcases List.mem_cons.mp hq with rfl | hq
    · exact .head _
    · exact .tail _ (.tail _ hq)
end

-- part M40
section
theorem afreshM40 : True := by
  w_top off
  trivial
local macro_rules | `(tactic| walk_at "eval Name") => `(tactic| ((with_reducible show wpAny _ _ (eval _ (compEnvC _ _ _ _)) _ _ _); refine cxCell2 (by rfl) (by assumption) (by assumption) ?_))
local macro_rules | `(tactic| walk_at "eval Name") => `(tactic| ((with_reducible show wpAny _ _ (eval _ (compEnvC _ _ _ _)) _ _ _); refine cxLoc (by assumption) (by walk_at "mlook") ?_))
local macro_rules | `(tactic| walk_at "subscriptTail") => `(tactic| (refine item_get (p := 0) (by walk_at "lst") (by assumption) (by assumption) (by omega) (fun _ => ?_)))
noncomputable def gComp : Expr := match st17 12 with | .For _ _ [.If (.Compare (.Call _ [e] _ _) _ _ _) _ _ _] _ _ => e | _ => default
noncomputable def gElt : Expr := match gComp with | .ListComp e _ _ _ => e | _ => default
noncomputable def gScope : Scope := match gComp with | .ListComp _ _ sc _ => sc | _ => default
noncomputable abbrev gCl (L : Addr) : List (Str × Addr) := [("group", L + 1 + 1 + 1 + 1 + 1 + 1 + 1 + 1 + 1)]

theorem xor_small : ∀ a < 16, ∀ b < 16, Builtin.bitXor ((a : Nat) : Int) ((b : Nat) : Int) = ((a ^^^ b : Nat) : Int) := by decide +kernel

theorem g_elt {w : World} {A : Around} {E : Value → Shared → Prop} {s : Shared} {hb : Heap} {L C a g : Addr} {cd : Value} {m₃ : Str → Option Value} {ig : List Value} {nl : List Int} {g0 x : Nat} {t : Tok}
    (F : Fr hb C s.heap m₃) (hm : m₃ "pick" = some (.int (x : Nat) t)) (k1 : hb.IsCell (L + 1 + 1 + 1 + 1 + 1 + 1 + 1 + 1 + 1) (some (.ref g)))
    (hg : hb.IsList g ig.toArray) (hig : IntsAre ig nl) (h0 : nl[0]? = some ((g0 : Nat) : Int)) (hgs : g0 < 16) (hxs : x < 16) :
    wpAny (model P w) A (eval gElt (compEnvC gScope (gCl L) C (envL L a cd))) (fun y s₄ => (∃ u, y = .int ((g0 ^^^ x : Nat) : Int) u) ∧ Keeps s s₄) E s := by
  conv in eval _ _ => arg 1; whnf
  conv in compEnvC _ _ _ _ => arg 1; whnf
  walk_at "go"
  exact ⟨⟨_, by rw [xor_small g0 hgs x hxs]⟩, _, _, rfl, fun _ _ e => e⟩

theorem xor_ints {g0 : Nat} : ∀ {vs : List Value} {ns : List Nat} {ys : List Value}, IntsAre vs (ns.map fun n : Nat => (n : Int)) → Paired (fun v y => ∃ (x : Nat) (t u : Tok), v = .int (x : Nat) t ∧ y = .int ((g0 ^^^ x : Nat) : Int) u) vs ys →
    IntsAre ys (ns.map fun x => ((g0 ^^^ x : Nat) : Int))
  | [], ns, ys, hi, hp => by
    cases hp
    cases ns with
    | nil => exact .nil
    | cons n ns => cases hi
  | v :: vs, ns, ys, hi, hp => by
    cases ns with
    | nil => cases hi
    | cons n ns =>
      rw [List.map_cons] at hi
      cases hi with
      | cons _ t hi' =>
        cases hp with
        | cons h1 h2 =>
          obtain ⟨x, t', u, e, rfl⟩ := h1
          obtain rfl : n = x := by cases e; rfl
          exact .cons _ _ (xor_ints hi' h2)

set_option maxHeartbeats 1000000 in
theorem g_comp {w : World} {A : Around} {E : Value → Shared → Prop} {s : Shared} {h₀ : Heap} {L a g ls : Addr} {cd : Value} {m cm : Str → Option Value} {ig is : List Value} {nl : List Int} {st : List Nat} {eg es g0 : Nat} {news cells : List (Addr × Obj)} {Q : Value → Shared → Prop}
    (F : Fr h₀ L s.heap m) (N : News h₀ L s.heap news) (X : CellsAre cm (csL L) cells) (hsub : ∀ q ∈ cells, q ∈ news)
    (hlg : (g, { cls := .type "list", data := .seq (List.toArray ig) eg }) ∈ news) (hls : (ls, { cls := .type "list", data := .seq (List.toArray is) es }) ∈ news) (hig : IntsAre ig nl) (his : IntsAre is (st.map fun n : Nat => (n : Int)))
    (h0 : nl[0]? = some ((g0 : Nat) : Int)) (hgs : g0 < 16) (hst : ∀ x ∈ st, x < 16) (hsl : st.length ≤ 16)
    (c1 : cm "group" = some (.ref g)) (m1 : m "still" = some (.ref ls)) (hh : A.handled = none)
    (k : ∀ D ys e h tk, Fr h₀ L h m → News h₀ L h ((D, { cls := .type "list", data := .seq (List.toArray ys) e }) :: news) → IntsAre ys (st.map fun x => ((g0 ^^^ x : Nat) : Int)) → Q (.ref D) { s with heap := h, toks := tk }) :
    wpAny (model P w) A (eval gComp (envL L a cd)) Q E s := by
  have hil := IntsAre.length his
  rw [List.length_map] at hil
  conv in eval _ _ => arg 1; whnf
  refine wpAny_ListComp_free (cl := gCl L) (fun _ => true) (fun v y => ∃ (x : Nat) (t u : Tok), v = .int (x : Nat) t ∧ y = .int ((g0 ^^^ x : Nat) : Int) u) ?g1 ?g2 ?g3 ?g4 ?g5 ?_
  case g1 => rfl
  case g2 => decide
  case g3 => rfl
  case g4 => decide
  case g5 => rfl
  walk_at "go"
  have hl : s.heap.IsList ls is.toArray := N.isList hls
  have hlt : ls < s.heap.objs.size := Heap.lt_size (N _ hls).1
  refine comp_expr _ _ (fun Q hQ => wpAny_pyIter_list hl hQ) (Walks.list hh s.heap.objs.size ls (Nat.ne_of_lt hlt) _) ?_ ?_ ⟨⟨_, Heap.get?_push_size _ rfl, rfl, rfl⟩, hl.at fun o e => Heap.get?_push_of_some _ e⟩ F N ?_ ?_
  · rw [List.size_toArray, hil]; exact Nat.le_trans hsl (by decide)
  · intro b hb
    rcases List.mem_cons.mp hb with e | hb
    · rw [e]; exact Nat.le_refl _
    · rw [List.mem_singleton.mp hb]; exact Nat.le_of_lt hlt
  · refine ⟨fun C i v s₃ m₃ E' hP Fc hm => wpAny_tests_nil ⟨rfl, _, _, rfl, fun _ _ e => e⟩, fun C i v s₃ m₃ E' hP hp' Fc hm => ?_⟩
    obtain ⟨n, t', hn1, rfl⟩ := ints_at his (by simpa using hP)
    obtain ⟨x, hx, rfl⟩ := List.mem_map.mp (List.mem_of_getElem? hn1)
    refine wpAny_mono (g_elt (a := a) (cd := cd) (L := L) Fc hm (isCell N X hsub c1) (N.isList hlg) hig h0 hgs (hst x hx)) ?_ (fun _ _ x => x)
    rintro y s4 ⟨⟨u, rfl⟩, hk⟩
    exact ⟨⟨x, t', u, rfl, rfl⟩, hk⟩
  · intro D h' tk ys vs e F1 N1 hk hDn hlen hP hR
    have hvs := list_of_places (items := _) (by exact hlen) hP
    have hft : vs.filter (fun _ => true) = vs := List.filter_eq_self.mpr fun _ _ => rfl
    rw [hft, hvs] at hR
    exact k D ys e h' tk F1 N1 (xor_ints his (by simpa using hR))

noncomputable def grBody : List Stmt := match st17 12 with | .For _ _ b _ _ => b | _ => []

set_option maxHeartbeats 1000000 in
/-- if sorted(...) != group: return False -/
theorem gr_body {w : World} {A : Around} {s : Shared} {h₀ : Heap} {L a g ls : Addr} {cd : Value} {m cm mg mb : Str → Option Value} {ig is : List Value} {st nl : List Nat} {eg es g0 : Nat} {news cells : List (Addr × Obj)} {Q : Flow → Shared → Prop}
    (G : GlobM mg mb h₀) (F : Fr h₀ L s.heap m) (N : News h₀ L s.heap news) (X : CellsAre cm (csL L) cells) (hsub : ∀ q ∈ cells, q ∈ news)
    (hlg : (g, { cls := .type "list", data := .seq (List.toArray ig) eg }) ∈ news) (hls : (ls, { cls := .type "list", data := .seq (List.toArray is) es }) ∈ news) (hig : IntsAre ig (nl.map fun n : Nat => (n : Int))) (his : IntsAre is (st.map fun n : Nat => (n : Int)))
    (h0 : nl[0]? = some g0) (hgs : g0 < 16) (hst : ∀ x ∈ st, x < 16) (hsl : st.length ≤ 16)
    (hpl : ∀ l : List Int, l.Perm (st.map fun x => ((g0 ^^^ x : Nat) : Int)) → l.Pairwise (· ≤ ·) → l = nl.map fun n : Nat => (n : Int))
    (c1 : cm "group" = some (.ref g)) (m1 : m "still" = some (.ref ls)) (hu : A.units + 70 < cLine) (hh : A.handled = none)
    (k : ∀ h tk, Fr h₀ L h m → News h₀ L h news → Q .next { s with heap := h, toks := tk }) :
    wpAny (model P w) A (execs grBody (envL L a cd)) Q (fun _ _ => False) s := by
  have hil := IntsAre.length his
  rw [List.length_map] at hil
  conv in execs _ _ => arg 1; whnf
  walk_at "go"
  refine g_comp F N X hsub hlg hls hig his (by rw [List.getElem?_map, h0]; rfl) hgs hst hsl c1 m1 hh fun D ys e h2 tk2 F2 N2 hys => ?_
  clear F N
  walk_at "go"
  have hyl := IntsAre.length hys
  rw [List.length_map] at hyl
  refine sorted_N F2 N2 (N2.isList (.head _)) hys (by omega) fun h3 vs' ns' e3 F3 N3 hi3 hp3 hs3 => ?_
  have hne := hpl ns' hp3 hs3
  subst hne
  have hl3 : h3.IsList (h2.objs.size + 1) vs'.toArray := ⟨_, (N3 _ (.head _)).1, rfl, _, rfl⟩
  have N4 : News h₀ L h3 news := fun q hq => N3 q (.tail _ (.tail _ hq))
  clear F2 N2 N3
  walk_at "go"
  refine PySem.W.ke_ne_ints hl3 (N4.isList hlg) hi3 hig (by omega) ?_
  rw [decide_eq_true rfl]
  walk_at "go"
  exact k h3 _ F3 N4
end

-- part M41
section
theorem afreshM41 : True := by
  w_top off
  trivial
theorem kvsOf_get : ∀ {rows : List (Str × List Nat)} {gl : List (Addr × Obj)} {i : Nat} {k : Str} {v : Value}, (kvsOf rows gl)[i]? = some (k, v) → ∃ r g, rows[i]? = some r ∧ gl[i]? = some g ∧ v = .ref g.1
  | [], _, _, _, _, h => by simp [kvsOf] at h
  | _ :: _, [], _, _, _, h => by simp [kvsOf] at h
  | r :: rows, g :: gl, 0, k, v, h => by
    simp only [kvsOf, List.getElem?_cons_zero, Option.some.injEq, Prod.mk.injEq] at h
    exact ⟨r, g, rfl, rfl, h.2.symm⟩
  | r :: rows, g :: gl, i + 1, k, v, h => by
    have h' : (kvsOf rows gl)[i]? = some (k, v) := by simpa [kvsOf] using h
    obtain ⟨r', g', h1, h2, h3⟩ := kvsOf_get h'
    exact ⟨r', g', by simpa using h1, by simpa using h2, h3⟩
theorem Groups.get : ∀ {rows : List (Str × List Nat)} {gl : List (Addr × Obj)}, Groups rows gl → ∀ {i : Nat} {r : Str × List Nat} {g : Addr × Obj}, rows[i]? = some r → gl[i]? = some g →
    ∃ items ep, g = (g.1, { cls := .type "list", data := .seq (List.toArray items) ep }) ∧ IntsAre items (r.2.map fun n : Nat => (n : Int))
  | _, _, .nil, _, _, _, h, _ => by simp at h
  | _, _, .cons (items := items) (ep := ep) hi hg, 0, r, g, h1, h2 => by
    simp only [List.getElem?_cons_zero, Option.some.injEq] at h1 h2
    subst h1; subst h2
    exact ⟨items, ep, rfl, hi⟩
  | _, _, .cons hi hg, i + 1, r, g, h1, h2 => hg.get (by simpa using h1) (by simpa using h2)

set_option maxHeartbeats 1000000 in
/-- for group in table.values(): ... -/
theorem law_groups {w : World} {A : Around} {s : Shared} {h₀ : Heap} {L a dt ls : Addr} {cd : Value} {m cm mg mb : Str → Option Value} {od : Obj} {is : List Value} {st : List Nat} {es : Nat} {gl gn cells : List (Addr × Obj)} {rows : List (Str × List Nat)} {Q : Flow → Shared → Prop}
    (G : GlobM mg mb h₀) (F : Fr h₀ L s.heap m) (N : News h₀ L s.heap ((dt, od) :: (gl ++ (gn ++ cells)))) (X : CellsAre cm (csL L) cells) (hgn : ∀ p ∈ gn, ∀ v, p.2.data ≠ .cell v)
    (hod : od.IsDictOf (strKind P w) (kvsOf rows gl)) (hg : Groups rows gl) (hds : (dt == sysModules) = false)
    (hls : (ls, { cls := .type "list", data := .seq (List.toArray is) es }) ∈ gn) (his : IntsAre is (st.map fun n : Nat => (n : Int))) (hst : ∀ x ∈ st, x < 16) (hsl : st.length ≤ 16)
    (hpl : ∀ r ∈ rows, ∃ g0, r.2[0]? = some g0 ∧ g0 < 16 ∧ ∀ l : List Int, l.Perm (st.map fun x => ((g0 ^^^ x : Nat) : Int)) → l.Pairwise (· ≤ ·) → l = r.2.map fun n : Nat => (n : Int))
    (m1 : m "still" = some (.ref ls)) (m2 : m "table" = some (.ref dt)) (hu : A.units + 70 < cLine) (hh : A.handled = none)
    (k : ∀ h tk, Fr h₀ L h m → Q .next { s with heap := h, toks := tk }) :
    wpAny (model P w) A (exec (st17 12) (envL L a cd)) Q (fun _ _ => False) s := by
  have hdd : s.heap.DictOf (strKind P w) dt (kvsOf rows gl) := Heap.dictOf_iff.mpr ⟨od, (N _ (.head _)).1, hod⟩
  have hnd : ∀ b, Value.ref dt = .ref b → ∃ o, s.heap.get? b = some o ∧ o.dict = none := fun b e => by
    cases e
    obtain ⟨o, es, ep, ho, hx, _⟩ := hdd
    exact ⟨o, ho, hx.2.1⟩
  have hodn : ∀ v, od.data ≠ .cell v := fun v e => by
    obtain ⟨es, ep, _, hd, _⟩ := hod
    rw [hd] at e; cases e
  unfold st17 bodyAt
  refine for_walkS ?_
  walk_at "go"
  refine PySem.getMethod_builtin hdd.typeIs PySem.F.plainAttrs_dict PySem.F.slot_dict_values PySem.F.type_dict_values hnd ?_
  walk_at "go"
  refine call_meetsIn PySem.F.slot_dict_values hdd.typeIs PySem.F.entry_dict_values (PySem.F.args_dict_values_1 _) (meets_dict_values (strKind P w) dt hds) ⟨⟨_, hdd⟩, ?_⟩
  generalize hH : s.heap.push { cls := .type "dict_values", data := .fields #[.ref dt] } = H
  have F1 : Fr h₀ L H m := hH ▸ F.push _
  have N1 : News h₀ L H ((dt, od) :: (gl ++ (gn ++ cells))) := fun q hq => ⟨hH ▸ Heap.get?_push_of_some _ (N q hq).1, (N q hq).2⟩
  have hview : H.IsValuesView s.heap.objs.size dt := ⟨_, hH ▸ Heap.get?_push_size _ rfl, rfl, rfl⟩
  have hdd1 : H.DictOf (strKind P w) dt (kvsOf rows gl) := Heap.dictOf_iff.mpr ⟨od, (N1 _ (.head _)).1, hod⟩
  obtain ⟨epd, hda⟩ := hdd1.dictAt
  have hlow : ∀ q ∈ (dt, od) :: (gl ++ (gn ++ cells)), q.1 ≠ H.objs.size := fun q hq => Nat.ne_of_lt (Heap.lt_size (N1 q hq).1)
  clear F N
  refine ⟨_, [H.objs.size, dt], _, _, _, fun i s' => ∃ h tk cells' cm', s' = { s with heap := h, toks := tk } ∧ Fr h₀ L h m ∧ News h₀ L h ((dt, od) :: (gl ++ (gn ++ cells'))) ∧ CellsAre cm' (csL L) cells',
    fun Q hQ => wpAny_pyIter_values (s := { s with heap := H }) hview hda hQ, Walks.dictValues hh H.objs.size dt (hlow _ (.head _)) (kvsOf rows gl) epd, ⟨⟨_, Heap.get?_push_size _ rfl, rfl, rfl⟩, hda.push _⟩,
    ⟨_, _, cells, cm, rfl, F1.push _, fun q hq => ⟨Heap.get?_push_of_some _ (N1 q hq).1, (N1 q hq).2⟩, X⟩, ?_, ?_⟩
  · rintro i v s' h' tk' own0 hi ⟨key, hv⟩ ⟨h, tk, cells', cm', rfl, F3, N3, X3⟩ hk hown0 ⟨hit, _⟩
    obtain ⟨r, g, hr, hgg, rfl⟩ := kvsOf_get hv
    obtain ⟨ig, eg, hge, hig⟩ := hg.get hr hgg
    obtain ⟨g0, h0, hgs, hperm⟩ := hpl r (List.mem_of_getElem? hr)
    obtain ⟨oI, hoI, _, hdI⟩ := id hit
    obtain ⟨own, hown1⟩ : ∃ own, own = (H.objs.size, oI) :: own0 := ⟨_, rfl⟩
    have hown : ∀ p ∈ own, p.1 ∈ [H.objs.size, dt] ∧ h'.get? p.1 = some p.2 := fun p hp => by
      rw [hown1] at hp
      rcases List.mem_cons.mp hp with rfl | hp
      · exact ⟨.head _, hoI⟩
      · exact hown0 p hp
    have N4 := news_step N3 (fun q hq => by
      rcases List.mem_cons.mp hq with rfl | hq
      · exact hlow _ (.head _)
      rcases List.mem_append.mp hq with hq | hq
      · exact hlow q (.tail _ (List.mem_append_left _ hq))
      rcases List.mem_append.mp hq with hq | hq
      · exact hlow q (.tail _ (List.mem_append_right _ (List.mem_append_left _ hq)))
      · exact cells_apart X X3 (fun q hq => hlow q (.tail _ (List.mem_append_right _ (List.mem_append_right _ hq)))) q hq) hk
    have N5 := news_own N4 hown (fun b hb => by
      rcases List.mem_cons.mp hb with e | hb
      · rw [e]; exact new_at F1
      · rw [List.mem_singleton.mp hb]; exact (N4 _ (.head _)).2)
    have F4 := fr_step F3 F1.ns.lt hk
    have hco : ∀ p ∈ own, ∀ v, p.2.data ≠ .cell v := fun p hp v ec => by
      have h5 := (hown p hp).2
      rcases List.mem_cons.mp (hown p hp).1 with e | e
      · rw [e, hoI] at h5
        rw [← Option.some.inj h5, hdI] at ec; cases ec
      · rw [List.mem_singleton.mp e, (N4 _ (.head _)).1] at h5
        rw [← Option.some.inj h5] at ec; exact hodn v ec
    have N6 : News h₀ L h' ((own ++ (dt, od) :: (gl ++ gn)) ++ cells') := fun q hq => N5 q (by simpa using hq)
    refine wpAny_pure (wpAny_assign_Name (stCell F4 N6 X3 (no_cell_app hco (no_cell_cons hodn (no_cell_app hg.no_cell hgn))) fun h5 cells5 F5 N7 X5 => ?_))
    refine gr_body (g := g.1) (eg := eg) (nl := r.2) G F5 N7 X5 (fun q hq => List.mem_append_right _ hq) ?_ (List.mem_append_left _ (List.mem_append_right _ (.tail _ (List.mem_append_right _ hls)))) hig his h0 hgs hst hsl hperm (if_pos rfl) m1 hu hh fun h8 tk8 F8 N8 => ?_
    · rw [← hge]
      exact List.mem_append_left _ (List.mem_append_right _ (.tail _ (List.mem_append_left _ (List.mem_of_getElem? hgg))))
    · refine ⟨fun p hp => (N8 p (List.mem_append_left _ (List.mem_append_left _ (hown1 ▸ .tail _ hp)))).1, h8, tk8, cells5, _, rfl, F8, fun q hq => N8 q ?_, X5⟩
      simp only [List.mem_cons, List.mem_append] at hq ⊢
      rcases hq with e | e | e | e
      · exact .inl (.inr (.inl e))
      · exact .inl (.inr (.inr (.inl e)))
      · exact .inl (.inr (.inr (.inr e)))
      · exact .inr e
  · rintro s' h' tk' ⟨h, tk, cells', cm', rfl, F3, N3, X3⟩ hk
    exact k h' tk' (fr_step F3 F1.ns.lt hk)
end

-- part M42
section
theorem afreshM42 : True := by
  w_top off
  trivial
section
variable (text : Nat → Str)
/-- two picks of one text -/
noncomputable def sameT (p q : Nat) : Bool := decide (text p = text q)

theorem firsts_apart (N : Nat) : (firsts (sameT text) N).Pairwise fun a b => text a ≠ text b := by
  unfold firsts
  have h : ((List.range N).filter fun p => (List.range p).all fun q => !sameT text q p).Pairwise (· < ·) := (List.pairwise_lt_range).filter _
  refine h.imp_of_mem fun {a b} _ hb hlt e => ?_
  have := List.all_eq_true.mp (List.mem_filter.mp hb).2 a (List.mem_range.mpr hlt)
  simp [sameT, e] at this

theorem firsts_cover : ∀ (N q : Nat), q < N → ∃ g ∈ firsts (sameT text) N, text g = text q
  | 0, _, h => absurd h (Nat.not_lt_zero _)
  | N + 1, q, h => by
    rw [firsts_succ]
    rcases Nat.lt_succ_iff_lt_or_eq.mp h with h | rfl
    · obtain ⟨g, hg, e⟩ := firsts_cover N q h
      exact ⟨g, List.mem_append_left _ hg, e⟩
    · by_cases hall : (List.range q).all (fun p => !sameT text p q) = true
      · exact ⟨q, by rw [if_pos hall]; exact List.mem_append_right _ (.head _), rfl⟩
      · have : ∃ p, p < q ∧ text p = text q := by
          apply Classical.byContradiction
          intro hn
          refine hall (List.all_eq_true.mpr fun p hp => ?_)
          have : ¬ text p = text q := fun e => hn ⟨p, List.mem_range.mp hp, e⟩
          simp [sameT, this]
        obtain ⟨p, hp, e⟩ := this
        obtain ⟨g, hg, e'⟩ := firsts_cover q p hp
        exact ⟨g, List.mem_append_left _ hg, e'.trans e⟩

theorem putRow_map (N : Nat) : ∀ gs : List Nat, gs.Pairwise (fun a b => text a ≠ text b) →
    putRow (gs.map fun g => (text g, kind (sameT text) g N)) (text N) N = if (∃ g ∈ gs, text g = text N) then gs.map (fun g => (text g, kind (sameT text) g (N + 1))) else gs.map (fun g => (text g, kind (sameT text) g (N + 1))) ++ [(text N, [N])]
  | [], _ => by rw [if_neg (by simp)]; rfl
  | g :: gs, hp => by
    rw [List.pairwise_cons] at hp
    have ih := putRow_map N gs hp.2
    rw [List.map_cons, putRow]
    by_cases e : text g = text N
    · rw [if_pos e, if_pos ⟨g, .head _, e⟩, List.map_cons, kind_succ, if_pos (by simp [sameT, e])]
      congr 1
      refine List.map_congr_left fun g' hg' => ?_
      have : ¬ text g' = text N := fun e' => hp.1 g' hg' (e.trans e'.symm)
      rw [kind_succ, if_neg (by simp [sameT, this]), List.append_nil]
    · have hk : kind (sameT text) g (N + 1) = kind (sameT text) g N := by rw [kind_succ, if_neg (by simp [sameT, e]), List.append_nil]
      rw [if_neg e, ih]
      by_cases hex : ∃ g ∈ gs, text g = text N
      · obtain ⟨g', hg', e'⟩ := hex
        rw [if_pos ⟨g', hg', e'⟩, if_pos ⟨g', .tail _ hg', e'⟩, List.map_cons, hk]
      · rw [if_neg hex, if_neg (by
          rintro ⟨g', hg', e'⟩
          rcases List.mem_cons.mp hg' with rfl | hg'
          · exact e e'
          · exact hex ⟨g', hg', e'⟩), List.map_cons, hk, List.cons_append]

theorem rows_firsts : ∀ N, rowsOf text N = (firsts (sameT text) N).map fun g => (text g, kind (sameT text) g N)
  | 0 => rfl
  | N + 1 => by
    rw [rowsOf_succ, rows_firsts N, putRow_map text N _ (firsts_apart text N), firsts_succ]
    by_cases hall : (List.range N).all (fun p => !sameT text p N) = true
    · have hno : ∀ q < N, ¬ text q = text N := fun q hq e => by
        have := List.all_eq_true.mp hall q (List.mem_range.mpr hq)
        simp [sameT, e] at this
      rw [if_pos hall, if_neg (by
        rintro ⟨g, hg, e⟩
        exact hno g (List.mem_range.mp (List.mem_filter.mp hg).1) e), List.map_append, List.map_cons, List.map_nil]
      congr 2
      rw [kind_succ, if_pos (by simp [sameT])]
      have : kind (sameT text) N N = [] := by
        unfold kind
        rw [List.filter_eq_nil_iff]
        intro q hq
        have := hno q (List.mem_range.mp hq)
        have this' : ¬ text N = text q := fun e => this e.symm
        simp [sameT, this']
      rw [this]; rfl
    · have hex : ∃ q, q < N ∧ text q = text N := by
        apply Classical.byContradiction
        intro hn
        refine hall (List.all_eq_true.mpr fun p hp => ?_)
        have : ¬ text p = text N := fun e => hn ⟨p, List.mem_range.mp hp, e⟩
        simp [sameT, this]
      obtain ⟨q, hq, e⟩ := hex
      obtain ⟨g, hg, e'⟩ := firsts_cover text N q hq
      rw [if_neg hall, if_pos ⟨g, hg, e'.trans e⟩, List.append_nil]
end

theorem firstMet_nodup (val : Nat → Int) : ∀ i, (firstMet val i).Nodup
  | 0 => List.nodup_nil
  | i + 1 => by
    rw [firstMet_succ]; unfold step_dedup
    have ih := firstMet_nodup val i
    split
    · exact ih
    · rename_i h
      rw [List.nodup_append]
      refine ⟨ih, by simp, fun a ha b hb => ?_⟩
      rw [List.mem_singleton.mp hb]
      rintro rfl
      exact h (List.any_eq_true.mpr ⟨_, ha, by simp⟩)

theorem firstMet_dn {es : List (Nat × Nat)} {V k : Nat} (he : ∀ k, (es.getD k (0, 0)).1 ≤ V ∧ (es.getD k (0, 0)).2 ≤ V) :
    (firstMet (fun i => (partsL es V k).getD i 0) (V + 1)).length = dn es V k := by
  have hval : ∀ v, v < V + 1 → (partsL es V k).getD v 0 = ((pt es k v : Nat) : Int) := fun v hv => by
    rw [List.getD_eq_getElem?_getD, partsL_get (by omega)]; rfl
  unfold dn
  rw [← List.length_map (f := fun n : Nat => (n : Int)) (as := (List.range (V + 1)).filter _)]
  refine List.Perm.length_eq ((List.perm_ext_iff_of_nodup (firstMet_nodup _ _) ?_).mpr fun x => ?_)
  · rw [List.Nodup, List.pairwise_map]
    refine (filter_nodup List.nodup_range).imp fun {a b} hab e => hab (Int.ofNat.inj e)
  · have h1 : x ∈ firstMet (fun i => (partsL es V k).getD i 0) (V + 1) ↔ ∃ v, v < V + 1 ∧ ((pt es k v : Nat) : Int) = x := by
      have := firstMet_any (fun i => (partsL es V k).getD i 0) (V + 1) x
      rw [Bool.eq_iff_iff, List.any_eq_true, List.any_eq_true] at this
      constructor
      · intro hx
        obtain ⟨y, hy, e⟩ := this.mp ⟨x, hx, by simp⟩
        obtain ⟨v, hv, rfl⟩ := List.mem_map.mp hy
        have hv := List.mem_range.mp hv
        exact ⟨v, hv, by rw [← hval v hv]; simpa using e⟩
      · rintro ⟨v, hv, rfl⟩
        obtain ⟨y, hy, e⟩ := this.mpr ⟨_, List.mem_map.mpr ⟨v, List.mem_range.mpr hv, rfl⟩, by rw [hval v hv]; simp⟩
        have : y = ((pt es k v : Nat) : Int) := by simpa using e
        rwa [← this]
    rw [h1, List.mem_map]
    constructor
    · rintro ⟨v, hv, rfl⟩
      refine ⟨pt es k v, List.mem_filter.mpr ⟨List.mem_range.mpr ?_, List.any_eq_true.mpr ⟨v, List.mem_range.mpr hv, by simp⟩⟩, rfl⟩
      have := pt_le he k v (by omega); omega
    · rintro ⟨c, hc, rfl⟩
      obtain ⟨v, hv, e⟩ := List.any_eq_true.mp (List.mem_filter.mp hc).2
      exact ⟨v, List.mem_range.mp hv, by rw [show pt es k v = c by simpa using e]⟩

theorem ints_unsnoc : ∀ {ns : List Int} {x : Int} {vs : List Value}, IntsAre vs (ns ++ [x]) → ∃ vi t, vs = vi ++ [.int x t] ∧ IntsAre vi ns
  | [], x, _, .cons _ t .nil => ⟨[], t, rfl, .nil⟩
  | n :: ns, x, _, .cons _ t h => by
    obtain ⟨vi, t', rfl, h'⟩ := ints_unsnoc h
    exact ⟨.int n t :: vi, t', rfl, .cons _ _ h'⟩

/-- a sorted list of casts -/
theorem sorted_casts {l : List Int} {xs ys : List Nat} (hp : l.Perm (xs.map fun n : Nat => (n : Int))) (hs : l.Pairwise (· ≤ ·)) (h : ∀ m : List Nat, m.Pairwise (· ≤ ·) → m.Perm xs → m = ys) : l = ys.map fun n : Nat => (n : Int) := by
  have h1 : ∀ x ∈ l, x = ((x.toNat : Nat) : Int) := fun x hx => by
    obtain ⟨n, _, rfl⟩ := List.mem_map.mp (hp.mem_iff.mp hx)
    rw [Int.toNat_natCast]
  have e : l = (l.map Int.toNat).map fun n : Nat => (n : Int) := by
    rw [List.map_map]
    conv => lhs; rw [← List.map_id l]
    exact List.map_congr_left fun x hx => h1 x hx
  rw [e, h (l.map Int.toNat) ?_ ?_]
  · rw [List.pairwise_map]
    exact hs.imp fun {a b} hab => Int.toNat_le_toNat hab
  · have := hp.map Int.toNat
    rw [List.map_map] at this
    refine this.trans (List.Perm.of_eq ?_)
    conv => rhs; rw [← List.map_id xs]
    exact List.map_congr_left fun x _ => Int.toNat_natCast x
end

-- part M43
section
theorem afreshM43 : True := by
  w_top off
  trivial
/-- size = 5 if len(script) > 3 else 4 -/
theorem law_size' {w : World} {A : Around} {s : Shared} {h₀ : Heap} {L a ls : Addr} {cd : Value} {m cm mg mb : Str → Option Value} {gn cells : List (Addr × Obj)} {is : List Value} {xs : List Int} {Q : Flow → Shared → Prop} {E : Value → Shared → Prop}
    (G : GlobM mg mb h₀) (F : Fr h₀ L s.heap m) (N : News h₀ L s.heap (gn ++ cells)) (X : CellsAre cm (csL L) cells) (hgn : ∀ p ∈ gn, ∀ v, p.2.data ≠ .cell v) (hls : h₀.IsList ls is.toArray) (hi : IntsAre is xs) (hfit : xs.length < 1000000) (m1 : m "script" = some (.ref ls))
    (k : ∀ h tk t cells', Fr h₀ L h m → News h₀ L h (gn ++ cells') → CellsAre (fun y => if y = "size" then some (.int (sizeOf xs : Nat) t) else cm y) (csL L) cells' → Q .next { s with heap := h, toks := tk }) :
    wpAny (model P w) A (exec (st17 0) (envL L a cd)) Q E s := by
  have hil := IntsAre.length hi
  conv in exec _ _ => arg 1; whnf
  refine wpAny_Assign_Name ?_
  walk_at "go"
  · rename_i hlt
    refine stCell F N X hgn fun h' cells' F' N' X' => ?_
    have e : sizeOf xs = 5 := by unfold sizeOf; rw [if_pos (by simp at hlt; omega)]
    exact k h' _ _ cells' F' N' (by rw [e]; exact X')
  · rename_i hlt
    refine stCell F N X hgn fun h' cells' F' N' X' => ?_
    have e : sizeOf xs = 4 := by unfold sizeOf; rw [if_neg (by simp at hlt; omega)]
    exact k h' _ _ cells' F' N' (by rw [e]; exact X')

/-- what the table of B.3 must tell -/
structure TableOk (D : List (PyData × PyData)) : Prop where
  tells : ∀ d p, p < 5 → fm (prep D) (cellW d p) = cellM d p
  shape : ∀ d p, p < 5 → ∀ c ∈ chars (cellW d p), S1 c = false → S9 c = false → (mapped D c).length ≤ 100 ∧ ((∃ x, Spec.lookup (.int c) D = some (.str x)) ∨ Spec.lookup (.int c) D = none)

theorem sizeOf_le (xs : List Int) : sizeOf xs ≤ 5 ∧ 4 ≤ sizeOf xs := by unfold sizeOf; split <;> decide
theorem cellsW_get {ds : List Nat} {n i : Nat} (h : i < n) : (cellsW ds n).getD i "" = cellW (ds.getD i 0) i := by
  rw [cellsW, List.getD_eq_getElem?_getD, List.getElem?_map, List.getElem?_range h]; rfl
theorem cellsM_get {ds : List Nat} {n i : Nat} (h : i < n) : (cellsM ds n).getD i "" = cellM (ds.getD i 0) i := by
  rw [cellsM, List.getD_eq_getElem?_getD, List.getElem?_map, List.getElem?_range h]; rfl
theorem cellW_len (d p : Nat) : (cellW d p).length ≤ 3 := by
  unfold cellW
  split
  · split
    · exact Nat.le_add_left 1 2
    · exact Nat.le_add_left 1 2
  · rw [Str.length_append]
    have := ahead_len d
    show (ahead d).length + 1 ≤ 3
    omega
theorem cellM_len (d p : Nat) : (cellM d p).length ≤ 3 := by
  unfold cellM
  split
  · exact Nat.zero_le _
  · rw [Str.length_append]
    have := ahead_len d
    show (ahead d).length + 1 ≤ 3
    omega
theorem tiesOf_le (n : Nat) (ds : List Nat) : ∀ k, ((tiesOf n ds).getD k (0, 0)).1 ≤ n ∧ ((tiesOf n ds).getD k (0, 0)).2 ≤ n := by
  intro k
  rw [List.getD_eq_getElem?_getD]
  cases e : (tiesOf n ds)[k]? with
  | none => exact ⟨Nat.zero_le _, Nat.zero_le _⟩
  | some p =>
    obtain ⟨x, _, rfl⟩ := List.mem_map.mp (List.mem_of_getElem? e)
    exact ⟨Nat.le_of_lt_succ (Nat.mod_lt _ (Nat.succ_pos n)), Nat.le_of_lt_succ (Nat.mod_lt _ (Nat.succ_pos n))⟩

theorem setup_of {D : List (PyData × PyData)} (hT : TableOk D) {ds : List Nat} {n : Nat} (hl : ds.length = n) (hn : n ≤ 5) : Setup D (cellsW ds n) (cellsM ds n) n (tiesOf n ds) where
  wl := by simp [cellsW]
  ml := by simp [cellsM]
  n5 := hn
  safe := fun y hy => by obtain ⟨p, _, rfl⟩ := List.mem_map.mp hy; exact cellW_safe _ _
  w3 := fun y hy => by obtain ⟨p, _, rfl⟩ := List.mem_map.mp hy; exact cellW_len _ _
  m3 := fun y hy => by obtain ⟨p, _, rfl⟩ := List.mem_map.mp hy; exact cellM_len _ _
  hM := fun i hi => by rw [cellsW_get hi, cellsM_get hi]; exact hT.tells _ _ (by omega)
  hch := fun y hy c hc => by
    obtain ⟨p, hp, rfl⟩ := List.mem_map.mp hy
    exact hT.shape _ _ (by have := List.mem_range.mp hp; omega) c hc
  hps := tiesOf_le n ds
  pl := by simp [tiesOf]; omega
end

-- part M44
section
theorem afreshM44 : True := by
  w_top off
  trivial
section
variable {ds : List Nat} {n : Nat} {ps : List (Nat × Nat)}
theorem plain0 : ∀ i, vis (cellsM ds n) i = false → (cellsM ds n).getD i "" = ⟨#[]⟩ := fun i h => by
  have : (cellsM ds n).getD i "" = "" := by simpa [vis] using h
  rw [this]; exact str_empty
theorem plain1 : ∀ i, vis (cellsM ds n) i = true → 97 + i ∈ chars ((cellsM ds n).getD i "") := fun i h => by
  have h' : (cellsM ds n).getD i "" ≠ "" := by simpa [vis] using h
  have hi : i < n := Nat.lt_of_not_le fun hge => h' (by
    rw [List.getD_eq_getElem?_getD, List.getElem?_eq_none (by simp [cellsM]; exact hge)]; rfl)
  rw [cellsM_get hi] at h' ⊢
  by_cases q : ds.getD i 0 % 3 = 0
  · exact absurd ((cellM_none q).trans str_empty.symm) h'
  · exact cellM_some q
theorem plain2 (hn : n ≤ 5) : ∀ i j, i < n → j < n → 97 + j ∈ chars ((cellsM ds n).getD i "") → i = j := fun i j hi hj h => by
  rw [cellsM_get hi] at h
  exact cellM_only (by omega) h

theorem room_at (hps : ∀ k, (ps.getD k (0, 0)).1 ≤ n ∧ (ps.getD k (0, 0)).2 ≤ n) (ms : List Str) : ∀ e ∈ ps, (roomOf ms n).getD e.1 0 = (rm (vis ms) e.1 : Nat) ∧ (roomOf ms n).getD e.2 0 = (rm (vis ms) e.2 : Nat) := fun e he => by
  obtain ⟨j, hj⟩ := List.getElem?_of_mem he
  have := hps j
  rw [List.getD_eq_getElem?_getD, hj] at this
  replace this : e.1 ≤ n ∧ e.2 ≤ n := this
  rw [List.getD_eq_getElem?_getD, List.getD_eq_getElem?_getD, roomOf_get this.1, roomOf_get this.2]
  exact ⟨rfl, rfl⟩

theorem law_number (hn : n ≤ 5) (hps : ∀ k, (ps.getD k (0, 0)).1 ≤ n ∧ (ps.getD k (0, 0)).2 ≤ n) :
    (rowsOf (textOf (fun i => (cellsM ds n).getD i "") ps n) (2 ^ ps.length)).length =
      2 ^ ((partsL (ends (vis (cellsM ds n)) ps) (rm (vis (cellsM ds n)) n) ps.length).length - (firstMet (fun i => (partsL (ends (vis (cellsM ds n)) ps) (rm (vis (cellsM ds n)) n) ps.length).getD i 0) (partsL (ends (vis (cellsM ds n)) ps) (rm (vis (cellsM ds n)) n) ps.length).length).length) := by
  have hpl : (partsL (ends (vis (cellsM ds n)) ps) (rm (vis (cellsM ds n)) n) ps.length).length = rm (vis (cellsM ds n)) n + 1 := by rw [partsL, List.length_map, List.length_range]
  have he : ∀ k, ((ends (vis (cellsM ds n)) ps).getD k (0, 0)).1 ≤ rm (vis (cellsM ds n)) n ∧ ((ends (vis (cellsM ds n)) ps).getD k (0, 0)).2 ≤ rm (vis (cellsM ds n)) n := fun k => by
    rw [ends_get]; exact ⟨rm_mono _ (hps k).1, rm_mono _ (hps k).2⟩
  rw [rows_firsts, List.length_map, hpl, firstMet_dn he]
  exact texts_count (b := vis (cellsM ds n)) (M := fun i => (cellsM ds n).getD i "") plain0 plain1 (plain2 hn) hps

theorem law_kinds (hn : n ≤ 5) (hpl : ps.length ≤ 4) (hps : ∀ k, (ps.getD k (0, 0)).1 ≤ n ∧ (ps.getD k (0, 0)).2 ≤ n) :
    ∀ r ∈ rowsOf (textOf (fun i => (cellsM ds n).getD i "") ps n) (2 ^ ps.length), ∃ g0, r.2[0]? = some g0 ∧ g0 < 16 ∧ ∀ l : List Int,
      l.Perm (((List.range (2 ^ ps.length)).filter fun p => decide (oddGo p (roomOf (cellsM ds n) n) 0 [] ps = [])).map fun x => ((g0 ^^^ x : Nat) : Int)) → l.Pairwise (· ≤ ·) → l = r.2.map fun n : Nat => (n : Int) := by
  intro r hr
  rw [rows_firsts] at hr
  obtain ⟨g, hg, rfl⟩ := List.mem_map.mp hr
  have h16 : 2 ^ ps.length ≤ 16 := Nat.pow_le_pow_right (n := 2) (by decide) hpl
  have hgl : g < 2 ^ ps.length := List.mem_range.mp (List.mem_filter.mp hg).1
  have hhd := kind_head (E := sameT (textOf (fun i => (cellsM ds n).getD i "") ps n)) (fun p => by simp [sameT]) (fun p q => by simp only [sameT, eq_comm]) hg
  refine ⟨g, by rw [← List.head?_eq_getElem?]; exact hhd, Nat.lt_of_lt_of_le hgl h16, fun l hp hs => ?_⟩
  refine sorted_casts (xs := ((List.range (2 ^ ps.length)).filter fun p => decide (oddGo p (roomOf (cellsM ds n) n) 0 [] ps = [])).map (g ^^^ ·)) ?_ hs fun m hm hpm => ?_
  · rw [List.map_map]; exact hp
  · exact group_sorted (b := vis (cellsM ds n)) (M := fun i => (cellsM ds n).getD i "") (rs := roomOf (cellsM ds n) n) plain0 plain1 (plain2 hn) hps (room_at hps _) hgl hm hpm
end

theorem body17 : bodyAt 17 = [st17 0, st17 1, st17 2, st17 3, st17 4, st17 5, st17 6, st17 7, st17 8, st17 9, st17 10, st17 11, st17 12, st17 13] := rfl

theorem Groups.len {rows : List (Str × List Nat)} {gl : List (Addr × Obj)} (x : Groups rows gl) : (kvsOf rows gl).length = rows.length := by
  induction x with
  | nil => rfl
  | cons _ _ ih => exact congrArg (· + 1) ih

/-- Return True -/
theorem law_true {w : World} {A : Around} {s : Shared} {L a : Addr} {cd : Value} {Q : Flow → Shared → Prop} {E : Value → Shared → Prop} (h : Q (.ret (.bool true)) s) :
    wpAny (model P w) A (exec (st17 13) (envL L a cd)) Q E s := by
  conv in exec _ _ => arg 1; whnf
  walk1
  walk1
  exact h

noncomputable abbrev lstO (items : List Value) (e : Nat) : Obj := { cls := .type "list", data := .seq (List.toArray items) e }
theorem ncl {l : Addr} {items : Array Value} {e : Nat} {T : Value} : ∀ v, ((l, ({ cls := T, data := .seq items e } : Obj)) : Addr × Obj).2.data ≠ .cell v := fun _ h => nomatch h
theorem ncn : ∀ p ∈ ([] : List (Addr × Obj)), ∀ v, p.2.data ≠ .cell v := fun _ h => nomatch h

set_option maxHeartbeats 2000000 in
theorem law_body {w : World} {A : Around} {s : Shared} {h₀ : Heap} {L a ls : Addr} {cd : Value} {m cm mg mb : Str → Option Value} {cells : List (Addr × Obj)} {is : List Value} {xs : List Int} {D : List (PyData × PyData)}
    (T : TopOk w D mg mb h₀) (hT : TableOk D) (F : Fr h₀ L s.heap m) (N : News h₀ L s.heap cells) (X : CellsAre cm (csL L) cells) (hls : h₀.IsList ls is.toArray) (hi : IntsAre is xs) (hfit : xs.length < 1000000) (m1 : m "script" = some (.ref ls))
    (hroom : A.depth + 5 < recursionLimit) (hu : A.units + 70 < cLine) (hh : A.handled = none) :
    wpAny (model P w) A (execs (bodyAt 17) (envL L a cd)) (fun f s' => f = .ret (.bool true) ∧ ∃ h tk gs, s' = { s with heap := h, toks := tk, gens := gs } ∧ (∀ b o, h₀.get? b = some o → h.get? b = some o) ∧ (AllBare s.gens → AllBare gs)) (fun _ _ => False) s := by
  have G := T.G
  have hn5 := (sizeOf_le xs).1
  have hn4 := (sizeOf_le xs).2
  have hdl : (drawsOf xs).length = sizeOf xs := drawsOf_length xs
  rw [body17]
  refine wpAny_execs_cons (law_size' (gn := []) G F N X (ncn) hls hi hfit m1 fun h1 tk1 t1 cells1 F1 N1 X1 => ?_)
  refine wpAny_execs_cons (law_draws (gn := []) (t := t1) G F1 N1 X1 hls hi hfit m1 (if_pos rfl) hh fun ld id ed h2 tk2 F2 N2 hd => ?_)
  generalize hds : drawsOf xs = ds at *
  generalize hnn : sizeOf xs = n at *
  have S := setup_of hT hdl hn5
  refine wpAny_execs_cons (law_made (gn := [(ld, lstO id ed)]) (ds := ds) T F2 N2 X1 (no_cell_cons ncl ncn) (.head _) hd (by omega) (if_pos rfl) (by omega) hh fun lw lm iw im ew em h3 tk3 cells3 hwm F3 N3 X3 hiw him => ?_)
  rw [hdl] at hiw him
  refine wpAny_execs_cons (law_ties (ld := ld) (ed := ed) (gn := [(lw, lstO iw ew), (lm, lstO im em)]) (sz := n) (t := t1) (ds := ds) G F3 (fun q hq => N3 q ?_) X3 (no_cell_cons ncl (no_cell_cons ncl ncn)) hd (by omega) ?_ ?_ hn5 hh fun lt it et tl h4 tk4 cells4 F4 N4 X4 hct htt => ?_)
  · simp only [List.mem_cons, List.mem_append, List.not_mem_nil, or_false, List.cons_append, List.nil_append] at hq ⊢
    rcases hq with e | e | e | e
    · exact .inr (.inr (.inl e))
    · exact .inl e
    · exact .inr (.inl e)
    · exact .inr (.inr (.inr e))
  · rw [if_neg (by decide), if_pos rfl]
  · rw [if_neg (by decide), if_pos rfl]
  obtain ⟨gnA, hA⟩ : ∃ g, g = (lt, ({ cls := .type "list", data := .seq (List.toArray it) et } : Obj)) :: (tl ++ ((ld, { cls := .type "list", data := .seq (List.toArray id) ed }) :: [(lw, { cls := .type "list", data := .seq (List.toArray iw) ew }), (lm, { cls := .type "list", data := .seq (List.toArray im) em })])) := ⟨_, rfl⟩
  have NA : News h₀ L h4 (gnA ++ cells4) := fun q hq => N4 q (by rw [hA] at hq; simpa using hq)
  have hnA : ∀ p ∈ gnA, ∀ v, p.2.data ≠ .cell v := by
    rw [hA]
    exact no_cell_cons ncl (no_cell_app hct (no_cell_cons ncl (no_cell_cons ncl (no_cell_cons ncl ncn))))
  have hltA : (lt, ({ cls := .type "list", data := .seq (List.toArray it) et } : Obj)) ∈ gnA := hA ▸ .head _
  have hlwA : (lw, ({ cls := .type "list", data := .seq (List.toArray iw) ew } : Obj)) ∈ gnA := hA ▸ .tail _ (List.mem_append_right _ (.tail _ (.head _)))
  have hlmA : (lm, ({ cls := .type "list", data := .seq (List.toArray im) em } : Obj)) ∈ gnA := hA ▸ .tail _ (List.mem_append_right _ (.tail _ (.tail _ (.head _))))
  have htiA : ∀ h' : Heap, (∀ p ∈ gnA, h'.get? p.1 = some p.2) → TiesAt h' it (tiesOf n ds) := fun h' hq => htt h' fun p hp => hq p (hA ▸ .tail _ (List.mem_append_left _ hp))
  clear hA N4
  have hml : (cellsM ds n).length = n := S.ml
  refine wpAny_execs_cons (law_room0 F4 NA X4 hnA fun lr tcr epr h5 tk5 cells5 F5 N5 X5 hne5 => ?_)
  refine wpAny_execs_cons (law_room (ms := cellsM ds n) F5 N5 X5 hne5 hlmA him (by omega) ?_ (if_pos rfl) hh fun ir epr' h6 tk6 m6 F6 N6 hir hm6 => ?_)
  · rw [if_neg (by decide), if_neg (by decide), if_pos rfl]
  rw [hml] at hir
  generalize hps : tiesOf n ds = ps at *
  generalize hms : cellsM ds n = ms at *
  generalize hWs : cellsW ds n = W at *
  have hir2 : IntsAre ir (((List.range n).map fun j => ((rm (vis ms) j : Nat) : Int)) ++ [((rm (vis ms) n : Nat) : Int)]) := by
    have e : roomOf ms n = ((List.range n).map fun j => ((rm (vis ms) j : Nat) : Int)) ++ [((rm (vis ms) n : Nat) : Int)] := by simp [roomOf, List.range_succ]
    rw [← e]; exact hir
  obtain ⟨vi, tcc, rfl, _⟩ := ints_unsnoc hir2
  have hV := rm_le (vis ms) n
  refine wpAny_execs_cons (law_parts0 (c := rm (vis ms) n) G F6 N6 X5 hnA (if_pos rfl) (by omega) hh fun lp ip ep h7 tk7 cells7 F7 N7 X7 hip => ?_)
  refine wpAny_execs_cons (law_parts (gn := (lr, lstO (vi ++ [.int (rm (vis ms) n : Nat) tcc]) epr') :: gnA) (ps := ps) (ms := ms) (n := n) F7 N7 X7 (no_cell_cons ncl hnA) (.head _) hir (.tail _ hltA) (fun h' hq => htiA h' fun p hp => hq p (.tail _ hp)) S.hps hn5 S.pl hip ?_ (if_pos rfl) ?_ hh fun lp8 ip8 ep8 h8 tk8 cells8 cm8 F8 N8 X8 c8 hcm8 hip8 => ?_)
  · rw [if_neg (by decide), if_pos rfl]
  · rw [if_neg (by decide), if_neg (by decide), if_pos rfl]
  have hroomL : (roomOf ms n).length ≤ 6 := by rw [roomOf, List.length_map, List.length_range]; omega
  have hrng : ∀ p ∈ ps, p.1 < (roomOf ms n).length ∧ p.2 < (roomOf ms n).length := fun p hp => by
    obtain ⟨j, hj⟩ := List.getElem?_of_mem hp
    have := S.hps j
    rw [List.getD_eq_getElem?_getD, hj] at this
    rw [roomOf, List.length_map, List.length_range]
    exact ⟨Nat.lt_succ_of_le this.1, Nat.lt_succ_of_le this.2⟩
  have c8r : cm8 "room" = some (.ref lr) := by rw [hcm8 _ (by decide) (by decide) (by decide), if_neg (by decide), if_pos rfl]
  have c8t : cm8 "ties" = some (.ref lt) := by rw [hcm8 _ (by decide) (by decide) (by decide), if_neg (by decide), if_neg (by decide), if_pos rfl]
  have c8m : cm8 "meant" = some (.ref lm) := by rw [hcm8 _ (by decide) (by decide) (by decide), if_neg (by decide), if_neg (by decide), if_neg (by decide), if_pos rfl]
  have c8s : cm8 "size" = some (.int (n : Nat) t1) := by rw [hcm8 _ (by decide) (by decide) (by decide), if_neg (by decide), if_neg (by decide), if_neg (by decide), if_neg (by decide), if_pos rfl]
  obtain ⟨gnB, hB⟩ : ∃ g, g = (lp8, ({ cls := .type "list", data := .seq (List.toArray ip8) ep8 } : Obj)) :: (lr, { cls := .type "list", data := .seq (List.toArray (vi ++ [.int (rm (vis ms) n : Nat) tcc])) epr' }) :: gnA := ⟨_, rfl⟩
  have NB : News h₀ L h8 (gnB ++ cells8) := by rw [hB]; exact N8
  have hnB : ∀ p ∈ gnB, ∀ v, p.2.data ≠ .cell v := by rw [hB]; exact no_cell_cons ncl (no_cell_cons ncl hnA)
  have hAB : ∀ p ∈ gnA, p ∈ gnB := fun p hp => hB ▸ .tail _ (.tail _ hp)
  have hlrB : (lr, lstO (vi ++ [.int (rm (vis ms) n : Nat) tcc]) epr') ∈ gnB := by rw [hB]; exact .tail _ (.head _)
  have hlpB : (lp8, lstO ip8 ep8) ∈ gnB := by rw [hB]; exact .head _
  refine wpAny_execs_cons (law_still (gn := gnB) (ps := ps) (rs := roomOf ms n) T F8 NB X8 hlrB hir (hAB _ hltA) (fun h' hq => htiA h' fun p hp => hq p (hAB p hp)) S.pl hrng hroomL c8r c8t (by omega) (by omega) hh fun lst ist est h9 tk9 F9 N9 hst => ?_)
  refine wpAny_execs_cons (law_table G F9 N9 fun dt od h10 tk10 F10 N10 hod hapd hdss => ?_)
  refine wpAny_execs_cons (law_picks (gn := (lst, lstO ist est) :: gnB) (W := W) (ms := ms) (ps := ps) (n := n) T S F10 N10 X8 (no_cell_cons ncl hnB) hod hapd hdss (.tail _ (hAB _ hlwA)) (.tail _ (hAB _ hlmA)) (.tail _ (hAB _ hltA)) hiw him (fun h' hq => htiA h' fun p hp => hq p (.tail _ (hAB p hp))) c8m c8t c8s ?_ (if_pos rfl) hroom hh fun od11 gl h11 tk11 gs m11 cells11 cm11 F11 N11 X11 hb11 hc11 hm11 hod11 hg11 hap11 => ?_)
  · rw [if_neg (by decide), if_neg (by decide), hm6 _ (by decide), if_pos rfl]
  have hnum := law_number (ds := ds) (ps := ps) hn5 S.hps
  have hkin := law_kinds (ds := ds) (ps := ps) hn5 S.pl S.hps
  rw [hms] at hnum hkin
  have h16 : 2 ^ ps.length ≤ 16 := Nat.pow_le_pow_right (n := 2) (by decide) S.pl
  have hrl := rowsOf_len (textOf (fun i => ms.getD i "") ps n) (2 ^ ps.length)
  have c11p : cm11 "parts" = some (.ref lp8) := (hc11 _ (by decide)).trans c8
  have hm11t : m11 "table" = some (.ref dt) := by rw [hm11 _ (by decide) (by decide) (by decide) (by decide), if_pos rfl]
  have hm11s : m11 "still" = some (.ref lst) := by rw [hm11 _ (by decide) (by decide) (by decide) (by decide), if_neg (by decide), if_pos rfl]
  refine wpAny_execs_cons (law_count (lp := lp8) (ep := ep8) (gl := gl) (gn := (lst, lstO ist est) :: gnB) (cells := cells11) G F11 (fun q hq => N11 q ?_) X11 ?_ hod11 hdss hip8 ?_ ?_ ?_ c11p hm11t hh fun h12 tk12 F12 N12 => ?_)
  · rcases List.mem_cons.mp hq with rfl | hq
    · exact .head _
    rcases List.mem_cons.mp hq with rfl | hq
    · exact .tail _ (List.mem_append_right _ (List.mem_append_left _ (.tail _ hlpB)))
    · exact .tail _ hq
  · intro q hq
    exact .tail _ (.tail _ (List.mem_append_right _ (List.mem_append_right _ hq)))
  · rw [partsL, List.length_map, List.length_range]; omega
  · rw [hg11.len]; omega
  · rw [hg11.len]; exact hnum
  refine wpAny_execs_cons (law_groups (is := ist) (es := est) (st := (List.range (2 ^ ps.length)).filter fun p => decide (oddGo p (roomOf ms n) 0 [] ps = [])) (gn := (lst, lstO ist est) :: gnB) G F12 N12 X11 (no_cell_cons ncl hnB) hod11 hg11 hdss (.head _) hst ?_ ?_ hkin hm11s hm11t hu hh fun h13 tk13 F13 => ?_)
  · intro x hx
    have := List.mem_range.mp (List.mem_filter.mp hx).1
    omega
  · refine Nat.le_trans (List.length_filter_le _ _) ?_
    rw [List.length_range]; exact h16
  refine wpAny_execs_cons (law_true ?_)
  exact ⟨rfl, h13, _, _, rfl, F13.keep, hb11⟩
end

-- part M45
section
theorem afreshM45 : True := by
  w_top off
  trivial
/-- the pairs of a written table -/
noncomputable def keyI : Expr → Option Int
  | Expr.Constant (Const.int i) _ _ => some i
  | _ => none
noncomputable def valS : Expr → Option Str
  | Expr.Constant (Const.str x) _ _ => some x
  | _ => none
theorem keyI_at {e : Expr} {i : Int} (h : keyI e = some i) : ∃ k p, e = .Constant (.int i) k p := by
  cases e with
  | Constant c k p =>
    cases c with
    | int j => cases h; exact ⟨k, p, rfl⟩
    | _ => exact (Option.some_ne_none _ h.symm).elim
  | _ => exact (Option.some_ne_none _ h.symm).elim
theorem valS_at {e : Expr} {x : Str} (h : valS e = some x) : ∃ k p, e = .Constant (.str x) k p := by
  cases e with
  | Constant c k p =>
    cases c with
    | str j => cases h; exact ⟨k, p, rfl⟩
    | _ => exact (Option.some_ne_none _ h.symm).elim
  | _ => exact (Option.some_ne_none _ h.symm).elim
noncomputable def pairsW : List (Option Expr) → List Expr → List (Int × Str)
  | some k :: ks, v :: vs => (match keyI k, valS v with
    | some i, some x => (i, x) :: pairsW ks vs
    | _, _ => [])
  | _, _ => []
noncomputable def tabL : List (Int × Str) := match P.main.body[3]? with | some (Stmt.Assign _ (Expr.Dict ks vs _) _) => pairsW ks vs | _ => []
noncomputable def dataL (l : List (Int × Str)) : List (PyData × PyData) := l.map fun p => (.int p.1, .str p.2)
noncomputable abbrev tabD : List (PyData × PyData) := dataL tabL

theorem lookup_data (c : Int) : ∀ l : List (Int × Str), Spec.lookup (.int c) (dataL l) = (l.find? fun p => p.1 == c).map fun p => .str p.2
  | [] => rfl
  | p :: l => by
    show (if Spec.same (.int p.1) (.int c) = true then some (PyData.str p.2) else Spec.lookup (.int c) (dataL l)) = _
    rw [lookup_data c l, List.find?_cons]
    have : Spec.same (.int p.1) (.int c) = (p.1 == c) := by simp [Spec.same]
    rw [this]
    cases p.1 == c <;> rfl

noncomputable def selfs : List Nat := [92, 34, 65040, 917504, 917535, 917632]
set_option maxRecDepth 100000 in
theorem selfs_ok : (selfs.all fun c => !S1 c && !S9 c && (tabL.find? fun p => p.1 == (c : Int)).isNone && (Txt.lower ⟨#[c]⟩ == (⟨#[c]⟩ : Str))) = true := by decide +kernel
set_option maxRecDepth 100000 in
theorem greats_ok : (greatL.all fun g => (List.range 5).all fun p => !S1 (g + (p : Int)) && !S9 (g + (p : Int)) && ((tabL.find? fun q => q.1 == g + (p : Int)).map (·.2) == some (⟨#[97 + p]⟩ : Str))) = true := by decide +kernel
theorem unseen_ok : (unseenL.all fun c => S1 c) = true := by decide +kernel
theorem tags_ok : (tagsL.all fun c => S9 c) = true := by decide +kernel
theorem nonneg_ok : ((unseenL ++ tagsL ++ besideL).all fun c => decide (0 ≤ c)) = true := by decide +kernel

/-- a sign that stands for itself -/
theorem self_at {c : Nat} (h : c ∈ selfs) : S1 c = false ∧ S9 c = false ∧ Spec.lookup (.int c) tabD = none ∧ Txt.lower ⟨#[c]⟩ = (⟨#[c]⟩ : Str) := by
  have := List.all_eq_true.mp selfs_ok c h
  simp only [Bool.and_eq_true, Bool.not_eq_true', beq_iff_eq, Option.isNone_iff_eq_none] at this
  obtain ⟨⟨⟨h1, h2⟩, h3⟩, h4⟩ := this
  exact ⟨h1, h2, by rw [lookup_data, h3]; rfl, h4⟩
theorem great_at {g : Int} (hg : g ∈ greatL) {p : Nat} (hp : p < 5) : S1 (g + (p : Int)) = false ∧ S9 (g + (p : Int)) = false ∧ Spec.lookup (.int (g + (p : Int))) tabD = some (.str ⟨#[97 + p]⟩) := by
  have := List.all_eq_true.mp (List.all_eq_true.mp greats_ok g hg) p (List.mem_range.mpr hp)
  simp only [Bool.and_eq_true, Bool.not_eq_true', beq_iff_eq] at this
  obtain ⟨⟨h1, h2⟩, h3⟩ := this
  refine ⟨h1, h2, ?_⟩
  rw [lookup_data]
  cases e : tabL.find? fun q => q.1 == g + (p : Int) with
  | none => rw [e] at h3; cases h3
  | some q => rw [e] at h3; rw [← Option.some.inj h3]; rfl

theorem prep_self {c : Nat} (h : c ∈ selfs) : prep tabD c = ⟨#[c]⟩ := by
  obtain ⟨h1, h2, h3, h4⟩ := self_at h
  rw [prep, if_neg (by rw [h1]; decide), if_neg (by rw [h2]; decide), mapped, h3]
  exact h4
theorem great_mem {d : Nat} : greatL.getD (d / 12 % 27 % 10) 0 ∈ greatL := by
  rw [List.getD_eq_getElem?_getD, List.getElem?_eq_getElem (show d / 12 % 27 % 10 < greatL.length from Nat.mod_lt _ (by decide))]
  exact List.getElem_mem _
theorem great_nat {g : Int} (hg : g ∈ greatL) (p : Nat) : (((g + (p : Int)).toNat : Nat) : Int) = g + (p : Int) := by
  have : ∀ g ∈ greatL, (0 : Int) ≤ g := by decide
  have := this g hg
  omega
theorem prep_great {g : Int} (hg : g ∈ greatL) {p : Nat} (hp : p < 5) : prep tabD (g + (p : Int)).toNat = ⟨#[97 + p]⟩ := by
  obtain ⟨h1, h2, h3⟩ := great_at hg hp
  have e := great_nat hg p
  rw [prep, e, if_neg (by rw [h1]; decide), if_neg (by rw [h2]; decide), mapped, e, h3]

theorem fm_one (fc : Nat → Str) (c : Nat) : fm fc ⟨#[c]⟩ = fc c := by
  show cat [fc c] = _
  rw [cat_cons, cat_nil, app_nil]
theorem beside_mem {d : Nat} : (besideL.getD (d / 12 % 27 % 4) 0).toNat ∈ selfs := by
  have h : d / 12 % 27 % 4 < 4 := Nat.mod_lt _ (by decide)
  revert h
  generalize d / 12 % 27 % 4 = k
  intro h
  match k, h with
  | 0, _ => decide
  | 1, _ => decide
  | 2, _ => decide
  | 3, _ => decide

theorem fm_ahead (d : Nat) : fm (prep tabD) (ahead d) = ahead d := by
  unfold ahead
  split
  · rfl
  · show cat [prep tabD 92] = _
    rw [prep_self (by decide)]; decide
  · show cat [prep tabD 92, prep tabD 34] = _
    rw [prep_self (by decide), prep_self (by decide)]; decide
  · rw [fm_one, prep_self beside_mem]

theorem unseen_at {d : Nat} : S1 (((unseenL.getD (d / 12 % 27) 0).toNat : Nat) : Int) = true := by
  have hm : unseenL.getD (d / 12 % 27) 0 ∈ unseenL := by
    rw [List.getD_eq_getElem?_getD, List.getElem?_eq_getElem (show d / 12 % 27 < unseenL.length by rw [show unseenL.length = 27 by decide]; exact Nat.mod_lt _ (by decide))]
    exact List.getElem_mem _
  have h0 : (0 : Int) ≤ unseenL.getD (d / 12 % 27) 0 := (unseen_b _).1
  rw [Int.toNat_of_nonneg h0]
  exact List.all_eq_true.mp unseen_ok _ hm
theorem tag_at {d : Nat} : S9 (((tagsL.getD (d / 12 % 27 % 3) 0).toNat : Nat) : Int) = true := by
  have hm : tagsL.getD (d / 12 % 27 % 3) 0 ∈ tagsL := by
    rw [List.getD_eq_getElem?_getD, List.getElem?_eq_getElem (show d / 12 % 27 % 3 < tagsL.length from Nat.mod_lt _ (by decide))]
    exact List.getElem_mem _
  have h0 : (0 : Int) ≤ tagsL.getD (d / 12 % 27 % 3) 0 := (tags_b _).1
  rw [Int.toNat_of_nonneg h0]
  exact List.all_eq_true.mp tags_ok _ hm

theorem tells_one {c : Nat} (h : S1 c = true ∨ S9 c = true) : prep tabD c = "" := by
  unfold prep
  split
  · rfl
  · rename_i h1
    rw [if_pos (h.resolve_left h1)]

theorem ahead_selfs (d : Nat) : ∀ c ∈ chars (ahead d), c ∈ selfs := by
  intro c hc
  unfold ahead at hc
  split at hc
  · rw [show chars (Str.ofString "") = [] by decide] at hc; cases hc
  · have : c ∈ [92] := hc
    rw [List.mem_singleton.mp this]; decide
  · have : c ∈ [92, 34] := hc
    rcases List.mem_cons.mp this with rfl | e
    · decide
    · rw [List.mem_singleton.mp e]; decide
  · have : c ∈ [(besideL.getD (d / 12 % 27 % 4) 0).toNat] := hc
    rw [List.mem_singleton.mp this]; exact beside_mem

theorem tableOk : TableOk tabD where
  tells := fun d p hp => by
    unfold cellW cellM
    split
    · split
      · rw [fm_one, tells_one (.inl unseen_at)]
      · rw [fm_one, tells_one (.inr tag_at)]
    · rw [fm_app, fm_ahead, fm_one, prep_great great_mem hp]
  shape := fun d p hp c hc h1 h9 => by
    have hself : c ∈ selfs → (mapped tabD c).length ≤ 100 ∧ ((∃ x, Spec.lookup (.int c) tabD = some (.str x)) ∨ Spec.lookup (.int c) tabD = none) := fun h => by
      obtain ⟨_, _, h3, h4⟩ := self_at h
      refine ⟨?_, .inr h3⟩
      rw [mapped, h3]
      show (Txt.lower ⟨#[c]⟩).length ≤ 100
      rw [h4]; exact Nat.le_add_left 1 99
    unfold cellW at hc
    split at hc
    · split at hc
      · have : c ∈ [(unseenL.getD (d / 12 % 27) 0).toNat] := hc
        rw [List.mem_singleton.mp this, unseen_at] at h1; cases h1
      · have : c ∈ [(tagsL.getD (d / 12 % 27 % 3) 0).toNat] := hc
        rw [List.mem_singleton.mp this, tag_at] at h9; cases h9
    · rw [chars_append] at hc
      rcases List.mem_append.mp hc with hc | hc
      · exact hself (ahead_selfs d c hc)
      · have : c ∈ [(greatL.getD (d / 12 % 27 % 10) 0 + (p : Int)).toNat] := hc
        rw [List.mem_singleton.mp this]
        obtain ⟨_, _, h3⟩ := great_at (great_mem (d := d)) hp
        have e := great_nat (great_mem (d := d)) p
        refine ⟨?_, .inl ⟨_, by rw [e]; exact h3⟩⟩
        rw [mapped, e, h3]; exact Nat.le_add_left 1 99
end

-- part M46
section
theorem afreshM46 : True := by
  w_top off
  trivial
theorem cells_nodup : ((cellsFrom 0 (scopeAt 17).names []).map (·.1)).Nodup := by decide

theorem law_call {w : World} {A : Around} {s : Shared} {f ls : Addr} {cd : Value} {mg mb : Str → Option Value} {is : List Value} {xs : List Int} {E : Value → Shared → Prop}
    (T : TopOk w tabD mg mb s.heap) (hf : FnAt 17 s.heap f cd .none .none) (hls : s.heap.IsList ls is.toArray) (hi : IntsAre is xs) (hfit : xs.length < 1000000) (hroom : A.depth + 8 < recursionLimit) (hu : A.units + 80 < cLine) (hh : A.handled = none) :
    wpAny (model P w) A (call (.ref f) [.ref ls]) (fun v s' => v = .bool true ∧ ∃ h tk gs, s' = { s with heap := h, toks := tk, gens := gs } ∧ (∀ b o, s.heap.get? b = some o → h.get? b = some o) ∧ (AllBare s.gens → AllBare gs)) E s := by
  obtain ⟨o, pm, doc, ho, hdata, hcd⟩ := hf
  have G := T.G
  refine wpAny_call (call_cellsN_ret (binds := [("script", .ref ls)]) (Nat.lt_of_le_of_lt (by omega) hroom) ho hdata G.nolimit hcd rfl (fun x hx => ?_) (by exact cells_nodup) (fun h₁ tk cells F N X => ?_) rfl rfl rfl)
  · rw [List.mem_singleton.mp hx]; exact .inl rfl
  · refine wpAny_mono (law_body (is := is) (xs := xs) T tableOk F N X hls hi hfit rfl ?_ ?_ ?_) ?_ (fun _ _ x => x)
    · show A.depth + 1 + 5 < recursionLimit; omega
    · show A.units + 3 + 70 < cLine; omega
    · exact hh
    · rintro fl s2 ⟨rfl, h, tk2, gs, rfl, hk, hb⟩
      exact ⟨rfl, h, tk2, gs, rfl, hk, hb⟩
end

end Mine
end

-- part H1
section
open PySem PySem.W PyProof.Rows
namespace Mine
theorem afreshH1 : True := by
  w_top off
  trivial
section
variable {prog : Program} {w : World} {K : Type} [DecidableEq K] {knd : KeyKind prog w K} {A : Around} {E : Value → Shared → Prop} {s : Shared}

theorem stored_new {kvs : List (K × Value)} {k : K} {v : Value} (h : k ∉ kvs.map (·.1)) : stored kvs k v = kvs ++ [(k, v)] := by
  unfold stored
  rw [if_neg]
  rw [List.any_eq_true]
  rintro ⟨x, hx, e⟩
  exact h (List.mem_map.mpr ⟨x, hx, of_decide_eq_true e⟩)

theorem dictPut_new {d : Addr} {kvs : List (K × Value)} {k : K} {key v : Value} {Q : Unit → Shared → Prop} (hkey : knd.is k key = true) (hm : s.heap.DictOf knd d kvs) (hnew : k ∉ kvs.map (·.1))
    (hQ : ∀ h', h'.DictOf knd d (kvs ++ [(k, v)]) → Heap.SameBut d s.heap h' → Q () { s with heap := h' }) (hsz : kvs.length ≤ sizeLine) :
    wpAny (model prog w) A (dictPut d (knd.hash k) key v) Q E s := by
  obtain ⟨o, es, ep, ho, hc, hd, hk, hp, hn⟩ := hm
  have hes : es.size ≤ sizeLine := by
    have e1 := hp.length
    have e2 : es.toList.length = es.size := by simp
    omega
  unfold dictPut
  refine wpAny_bind (wpAny_dictFind_of hkey ho hd hk ?_)
  have hidx : (es.findIdx? fun e => knd.is k e.key) = kvs.findIdx? fun kv => decide (kv.1 = k) := by
    rw [← hp.findIdx k]; obtain ⟨l⟩ := es; simp
  cases hi : es.findIdx? fun e => knd.is k e.key with
  | some i =>
    exfalso
    rw [hi] at hidx
    obtain ⟨hlt, hpk, _⟩ := List.findIdx?_eq_some_iff_getElem.mp hidx.symm
    exact hnew (List.mem_map.mpr ⟨kvs[i], List.getElem_mem hlt, of_decide_eq_true hpk⟩)
  | none =>
    refine wpAny_updateDictKeys (hz := hes) ho hd (hQ _ ⟨_, _, ep + 1, Heap.get?_update_self _ ho (Obj.isFreed_of_dict (Obj.data_mapDictKeys hd _)),
      hc.mapDictKeys _, Obj.data_mapDictKeys hd _, hk.push hkey _, ?_, ?_⟩ (Heap.SameBut.update ..))
    · have := hp.append hkey (knd.hash k) v
      obtain ⟨l⟩ := es
      simpa using this
    · rw [List.map_append, List.nodup_append]
      refine ⟨hn, by simp, fun a ha b hb => ?_⟩
      simp only [List.map_cons, List.map_nil, List.mem_singleton] at hb
      subst hb
      exact fun e => hnew (e ▸ ha)

inductive DInv1 (knd : KeyKind prog w K) (s : Shared) (d o : Addr) (oo : Obj) (n : Nat) (kvs more : List (K × Value)) (rest : List Nat) (s' : Shared) : Prop
  | mk (h' : Heap) (i : Nat) (es : s' = { s with heap := h' }) (er : rest = List.range' i (n - i)) (hi : i ≤ n) (hd : h'.DictOf knd d (kvs ++ more.take i)) (ho : h'.get? o = some oo) (hs : Heap.SameBut d s.heap h')

theorem merge_new {d o : Addr} {kvs more : List (K × Value)} {Q : Unit → Shared → Prop} (hdo : d ≠ o) (hoS : (o == sysModules) = false) (h0 : kvs ≠ [])
    (hd : s.heap.DictOf knd d kvs) (ho : s.heap.DictOf knd o more) (hnd : ((kvs ++ more).map (·.1)).Nodup)
    (hQ : ∀ h', h'.DictOf knd d (kvs ++ more) → Heap.SameBut d s.heap h' → Q () { s with heap := h' }) (hsz : kvs.length + more.length ≤ sizeLine) :
    wpAny (model prog w) A (mergeMapping d (.ref o) false) Q E s := by
  obtain ⟨od, esd, epd, hod, hcd, hdd, hkd, hpd, hnd'⟩ := id hd
  obtain ⟨oo, eso, epo, hoo, hco, hdo', hko, hpo, hno⟩ := id ho
  have hT : s.TypeIs (.ref o) "dict" := ho.typeIs
  unfold mergeMapping
  refine wpAny_bind (wpAny_isInstance hT isSubtype_dict_dict ?_)
  rw [if_pos rfl]
  refine wpAny_bind (wpAny_specialOf hT PySem.F.slot_dict_iter.lookup ?_)
  have hb : (some (Value.builtin "dict.__iter__") == some (Value.builtin "dict.__iter__")) = true := by decide
  refine wpAny_bind (wpAny_pure ?_)
  rw [hb]
  dsimp only
  rw [if_neg (by rw [hoS]; exact Bool.false_ne_true)]
  refine wpAny_bind (wpAny_dictEntries hod hdd ?_)
  have hne : esd.isEmpty = false := by
    cases e : esd.isEmpty with
    | false => rfl
    | true =>
      have h1 := Array.isEmpty_iff.mp e
      have h2 := hpd.length
      rw [h1] at h2
      exact absurd (List.length_eq_zero_iff.mp (by simpa using h2.symm)) h0
  rw [if_neg (by rw [hne]; exact Bool.false_ne_true)]
  refine wpAny_bind (wpAny_dictEntries hoo hdo' ?_)
  refine wpAny_bind (wpAny_dictEpoch hoo hdo' ?_)
  have hlen : more.length = eso.size := by rw [← hpo.length]; simp
  refine wpAny_bind ?_
  refine wpAny_forIn_list _
      (fun rest _ s' => DInv1 knd s d o oo eso.size kvs more rest s')
      _ ?_ ?_ _ _ ⟨s.heap, 0, rfl, by rw [Nat.sub_zero]; exact List.range_eq_range', Nat.zero_le _, by simpa using hd, hoo, Heap.SameBut.refl _ _⟩
  · rintro x rest b s' ⟨h', i, rfl, hr, hi, hd', hoo', hs'⟩
    have hlt : i < eso.size := by
      rcases Nat.lt_or_ge i eso.size with h | h
      · exact h
      · rw [Nat.sub_eq_zero_of_le h] at hr; simp at hr
    obtain ⟨rfl, hrest⟩ : x = i ∧ rest = List.range' (i + 1) (eso.size - (i + 1)) := by
      have e : eso.size - i = (eso.size - (i + 1)) + 1 := by omega
      rw [e, List.range'_succ] at hr
      injection hr with h1 h2
      exact ⟨h1, h2⟩
    refine wpAny_bind (wpAny_dictEntries hoo' hdo' ?_)
    rw [Array.getElem?_eq_getElem hlt]
    have hlm : x < more.length := by rw [hlen]; exact hlt
    obtain ⟨kv, hkv⟩ : ∃ kv, more[x]? = some kv := ⟨more[x], List.getElem?_eq_getElem _⟩
    obtain ⟨k, v⟩ := kv
    obtain ⟨hkey, hval⟩ := hpo.get? (e := eso[x]) (by simp [hlt]) hkv
    obtain ⟨k', hkey', hhash⟩ := hko eso[x] (Array.getElem_mem hlt)
    obtain rfl : k' = k := knd.inj _ _ _ hkey' hkey
    dsimp only
    rw [if_neg Bool.false_ne_true, hhash, hval]
    have htk : more.take (x + 1) = more.take x ++ [(k', v)] := by rw [List.take_add_one, hkv]; rfl
    have hnew : k' ∉ (kvs ++ more.take x).map (·.1) := by
      have h1 : kvs ++ more = (kvs ++ more.take (x + 1)) ++ more.drop (x + 1) := by rw [List.append_assoc, List.take_append_drop]
      rw [h1, htk, ← List.append_assoc, List.map_append, List.map_append, List.append_assoc, List.nodup_append] at hnd
      intro hm
      exact hnd.2.2 k' hm k' (by simp) rfl
    refine wpAny_bind (wpAny_holding (dictPut_new hkey hd' hnew (fun h'' hd'' hs'' => ?_) ?_))
    · have hoo'' : h''.get? o = some oo := (hs''.2 o (Ne.symm hdo)).trans hoo'
      refine wpAny_bind (wpAny_dictEpoch hoo'' hdo' ?_)
      rw [if_neg (by simp)]
      exact wpAny_pure ⟨h'', x + 1, rfl, hrest, hlt, by rw [htk, ← List.append_assoc]; exact hd'', hoo'', hs'.trans hs''⟩
    · rw [List.length_append, List.length_take]; omega
  · rintro b s' ⟨h', i, rfl, hr, hi, hd', hoo', hs'⟩
    have hin : i = eso.size := by
      rcases Nat.lt_or_ge i eso.size with h | h
      · have e : eso.size - i = (eso.size - (i + 1)) + 1 := by omega
        rw [e, List.range'_succ] at hr; exact nomatch hr
      · exact Nat.le_antisymm hi h
    rw [hin, ← hlen, List.take_length] at hd'
    exact wpAny_pure (hQ h' hd' hs')
end
end Mine
end

-- part H2
section
open PySem PySem.W PyProof.Rows
namespace Mine
theorem afreshH2 : True := by
  w_top off
  trivial
inductive All2 {α β : Type} (R : α → β → Prop) : List α → List β → Prop
  | nil : All2 R [] []
  | cons {a : α} {b : β} {as : List α} {bs : List β} : R a b → All2 R as bs → All2 R (a :: as) (b :: bs)
theorem All2.length_eq {α β : Type} {R : α → β → Prop} {as : List α} {bs : List β} (h : All2 R as bs) : as.length = bs.length := by
  induction h with
  | nil => rfl
  | cons _ _ ih => rw [List.length_cons, List.length_cons, ih]

section
variable {prog : Program} {w : World} {A : Around} {E : Value → Shared → Prop} {s : Shared}

/-- a pair of a display: the key's tree gives the int, the value's tree the text -/
noncomputable def PairOk (prog : Program) (w : World) (A : Around) (E : Value → Shared → Prop) (p : Sem Value × Sem Value) (l : Int × Str) : Prop :=
  (∀ s (Q : Value → Shared → Prop), (∀ t tk, Q (.int l.1 t) { s with toks := tk }) → wpAny (model prog w) A p.1 Q E s) ∧
  (∀ s (Q : Value → Shared → Prop), (∀ t tk, Q (.str l.2 t) { s with toks := tk }) → wpAny (model prog w) A p.2 Q E s)

noncomputable def RdAs (kvs : List (Int × Value)) (L : List (Int × Str)) : Prop := All2 (fun kv l => kv.1 = l.1 ∧ ∃ t, kv.2 = .str l.2 t) kvs L

theorem RdAs.keys {kvs : List (Int × Value)} {L : List (Int × Str)} (h : RdAs kvs L) : kvs.map (·.1) = L.map (·.1) := by
  induction h with
  | nil => rfl
  | cons h _ ih => rw [List.map_cons, List.map_cons, h.1, ih]
theorem RdAs.append {k1 k2 : List (Int × Value)} {L1 L2 : List (Int × Str)} (h1 : RdAs k1 L1) (h2 : RdAs k2 L2) : RdAs (k1 ++ k2) (L1 ++ L2) := by
  induction h1 with
  | nil => exact h2
  | cons h _ ih => exact .cons h ih
theorem RdAs.flat {kvs : List (Int × Value)} {L : List (Int × Str)} (h : RdAs kvs L) : PyProof.V.FlatPairs PyData.int kvs (dataL L) := by
  induction h with
  | nil => exact .nil
  | @cons a b l1 l2 h _ ih =>
    obtain ⟨k, v⟩ := a
    obtain ⟨i, x⟩ := b
    obtain ⟨h1, t, h2⟩ := h
    subst h1
    have h2 : v = .str x t := h2
    subst h2
    exact .cons (PyProof.V.Flat.str _ _) ih
theorem RdAs.len {kvs : List (Int × Value)} {L : List (Int × Str)} (h : RdAs kvs L) : kvs.length = L.length := All2.length_eq h

theorem evalPairs_ok {pairs : List (Sem Value × Sem Value)} {L : List (Int × Str)} (hp : All2 (PairOk prog w A E) pairs L) : ∀ (s : Shared) (Q : List (Value × Value) → Shared → Prop),
    (∀ vs kvs tk, RdAs kvs L → Carries (intKind prog w) vs kvs → Q vs { s with toks := tk }) → wpAny (model prog w) A (evalPairs pairs) Q E s := by
  induction hp with
  | nil => exact fun s Q hQ => evalPairs_nil (hQ [] [] s.toks .nil trivial)
  | @cons p l ps ls hp _ ih =>
    intro s Q hQ
    refine evalPairs_cons (hp.1 _ _ fun t tk => hp.2 _ _ fun t' tk' => ih _ _ fun vs kvs tk'' hr hc => ?_)
    refine hQ _ ((l.1, .str l.2 t') :: kvs) tk'' (.cons ⟨rfl, t', rfl⟩ hr) ⟨?_, rfl, hc⟩
    simp [intKind, Value.isInt]

theorem merged_nil : ∀ (kvs acc : List (Int × Value)), ((acc ++ kvs).map (·.1)).Nodup → merged acc kvs = acc ++ kvs
  | [], acc, _ => by simp [merged]
  | (k, v) :: kvs, acc, h => by
    have hk : k ∉ acc.map (·.1) := by
      rw [List.map_append, List.nodup_append] at h
      intro hm
      exact h.2.2 k hm k (by simp) rfl
    have h' : ((acc ++ [(k, v)] ++ kvs).map (·.1)).Nodup := by rw [List.append_assoc]; exact h
    have := merged_nil kvs (acc ++ [(k, v)]) h'
    show merged (stored acc k v) kvs = _
    rw [stored_new hk, this, List.append_assoc]; rfl

inductive DInv2 (prog : Program) (w : World) (A : Around) (E : Value → Shared → Prop) (s : Shared) (L : List (Int × Str)) (rest : List (Sem Value × Sem Value)) (s' : Shared) : Prop
  | mk (h : Heap) (tk : Nat) (L1 L2 : List (Int × Str)) (kvs : List (Int × Value)) (es : s' = { s with heap := h, toks := tk }) (eL : L = L1 ++ L2) (h2 : All2 (PairOk prog w A E) rest L2) (hr : RdAs kvs L1) (hd : h.DictOf (intKind prog w) s.heap.objs.size kvs)
    (hk : ∀ b o, s.heap.get? b = some o → h.get? b = some o)

theorem subDict_ok {pairs : List (Sem Value × Sem Value)} {L : List (Int × Str)} {Q : Addr → Shared → Prop} (hp : All2 (PairOk prog w A E) pairs L) (hn : (L.map (·.1)).Nodup) (hl : pairs.length ≤ 17)
    (hQ : ∀ h' tk kvs, RdAs kvs L → h'.DictOf (intKind prog w) s.heap.objs.size kvs → (∀ b o, s.heap.get? b = some o → h'.get? b = some o) → Q s.heap.objs.size { s with heap := h', toks := tk }) :
    wpAny (model prog w) A (subDict pairs) Q E s := by
  have hpl := hp.length_eq
  by_cases h15 : pairs.length ≤ 15
  · refine wpAny_subDict (knd := intKind prog w) h15 (evalPairs_ok hp _ _ fun vs kvs tk hr hc => ⟨kvs, hc, Heap.DictOf.new _, fun h' hm hsb => ?_⟩)
    rw [merged_nil _ _ (by rw [List.nil_append, hr.keys]; exact hn)] at hm
    exact hQ _ _ kvs hr hm fun b o e => (hsb.2 b (Nat.ne_of_lt (Heap.lt_size e))).trans (Heap.get?_push_of_some _ e)
  · unfold subDict
    refine wpAny_bind (wpAny_alloc (wpAny_bind (wpAny_holding ?_)))
    rw [if_neg h15]
    refine wpAny_bind (wpAny_rule ?_)
    refine wpAny_bind ?_
    refine wpAny_forIn_list _
      (fun rest _ s' => DInv2 prog w A E s L rest s') _ ?_ ?_ _ _ ⟨_, s.toks, [], L, [], rfl, rfl, hp, .nil, Heap.DictOf.new _, fun b o e => Heap.get?_push_of_some _ e⟩
    · rintro ⟨k, v⟩ rest _ s' ⟨h, tk, L1, L2, kvs, rfl, rfl, hf, hr, hd, hk⟩
      obtain _ | ⟨h1, h2⟩ := hf
      rename_i l ls
      dsimp only
      refine wpAny_bind (h1.1 _ _ fun t tk₁ => wpAny_bind (wpAny_holding (h1.2 _ _ fun t' tk₂ => wpAny_bind (wpAny_holding ?_))))
      have hnew : l.1 ∉ kvs.map (·.1) := by
        rw [hr.keys]
        intro hm
        rw [List.map_append, List.nodup_append] at hn
        exact hn.2.2 _ hm l.1 (by simp) rfl
      refine wpAny_dictSet_pairs (knd := intKind prog w) (k := l.1) (by simp [intKind, Value.isInt]) hd (fun h' hd' hs' => ?_) ?_
      · refine wpAny_pure ⟨h', _, L1 ++ [l], ls, kvs ++ [(l.1, .str l.2 t')], rfl, by simp, h2, hr.append (.cons ⟨rfl, t', rfl⟩ .nil), by rw [← stored_new hnew]; exact hd', fun b o e => ?_⟩
        exact (hs'.2 b (Nat.ne_of_lt (Heap.lt_size e))).trans (hk b o e)
      · have := hr.len
        rw [List.length_append] at hpl
        rw [sizeLine_eq]; omega
    · rintro _ s' ⟨h, tk, L1, L2, kvs, rfl, rfl, hf, hr, hd, hk⟩
      cases hf
      rw [List.append_nil] at hQ
      exact wpAny_pure (wpAny_pure (hQ _ _ kvs hr hd hk))

/-- where a display's table stands between two chunks -/
noncomputable def MainAt (prog : Program) (w : World) (h₀ h : Heap) (main : Option Addr) (L : List (Int × Str)) : Prop :=
  h₀.objs.size ≤ h.objs.size ∧ (∀ b o, h₀.get? b = some o → h.get? b = some o) ∧
  match main with
  | none => L = []
  | some d => L ≠ [] ∧ h₀.objs.size ≤ d ∧ ∃ kvs, RdAs kvs L ∧ h.DictOf (intKind prog w) d kvs

theorem dict_lt {h : Heap} {d : Addr} {kvs : List (Int × Value)} (hd : h.DictOf (intKind prog w) d kvs) : d < h.objs.size := by
  obtain ⟨o, es, ep, ho, r⟩ := hd; exact Heap.lt_size ho

theorem flush_none {h₀ : Heap} {run : List (Sem Value × Sem Value)} {L1 L2 : List (Int × Str)} {Q : Addr → Shared → Prop}
    (hm : MainAt prog w h₀ s.heap none L1) (hp : All2 (PairOk prog w A E) run L2) (hne : L2 ≠ []) (hn : ((L1 ++ L2).map (·.1)).Nodup) (hl : run.length ≤ 17)
    (hQ : ∀ h' tk d, MainAt prog w h₀ h' (some d) (L1 ++ L2) → Q d { s with heap := h', toks := tk }) : wpAny (model prog w) A (subDict run) Q E s := by
  obtain ⟨hle, hk, rfl⟩ := hm
  exact subDict_ok hp hn hl fun h' tk kvs hr hd hk' => hQ _ _ _ ⟨Nat.le_of_lt (Nat.lt_of_le_of_lt hle (dict_lt hd)), fun b o e => hk' _ _ (hk _ _ e), hne, hle, kvs, hr, hd⟩

theorem flush_some {h₀ : Heap} {run : List (Sem Value × Sem Value)} {d : Addr} {L1 L2 : List (Int × Str)} {Q : Addr → Shared → Prop} {K : Addr → Value → Sem Unit} {V : List Value} {V' : Addr → List Value} (hS : sysModules < h₀.objs.size)
    (hm : MainAt prog w h₀ s.heap (some d) L1) (hp : All2 (PairOk prog w A E) run L2) (hn : ((L1 ++ L2).map (·.1)).Nodup) (hl : run.length ≤ 17) (hL : (L1 ++ L2).length ≤ 100000)
    (hQ : ∀ a h' tk, MainAt prog w h₀ h' (some d) (L1 ++ L2) → Q a { s with heap := h', toks := tk }) :
    wpAny (model prog w) A (holding V (subDict run)) (fun sub s' => wpAny (model prog w) A ((holding (V' sub) (mergeMapping d (.ref sub) false)).onRaise (K sub)) (fun _ s'' => Q sub s'') E s') E s := by
  obtain ⟨hle, hk, hn1, hd0, kvs, hr, hd⟩ := hm
  have hn2 : (L2.map (·.1)).Nodup := by rw [List.map_append, List.nodup_append] at hn; exact hn.2.1
  refine wpAny_holding (subDict_ok hp hn2 hl fun h' tk kvs2 hr2 hd2 hk' => ?_)
  have hdd : h'.DictOf (intKind prog w) d kvs := by
    obtain ⟨o, es, ep, ho, r⟩ := hd
    exact ⟨o, es, ep, hk' _ _ ho, r⟩
  have hdlt : d < s.heap.objs.size := dict_lt hd
  have hlen := hr.len
  have hlen2 := hr2.len
  rw [List.length_append] at hL
  refine wpAny_onRaise (wpAny_holding (merge_new (Nat.ne_of_lt hdlt) (beq_eq_false_iff_ne.mpr (Nat.ne_of_gt (Nat.lt_of_lt_of_le hS hle))) ?_ hdd hd2 ?_ (fun h'' hd'' hs'' => ?_) ?_))
  · rintro rfl
    cases hr
    exact hn1 rfl
  · rw [(hr.append hr2).keys]; exact hn
  · refine hQ _ _ _ ⟨by rw [hs''.1]; exact Nat.le_of_lt (Nat.lt_of_le_of_lt hle (dict_lt hd2)), fun b o e => ?_, by simp [hn1], hd0, _, hr.append hr2, hd''⟩
    exact (hs''.2 b (Nat.ne_of_lt (Nat.lt_of_lt_of_le (Heap.lt_size e) hd0))).trans (hk' _ _ (hk _ _ e))
  · rw [sizeLine_eq]; omega
end
end Mine
end

-- part H3
section
open PySem PySem.W PyProof.Rows
namespace Mine
theorem afreshH3 : True := by
  w_top off
  trivial
section
variable {prog : Program} {w : World} {A : Around} {E : Value → Shared → Prop} {s : Shared}

theorem All2.append {α β : Type} {R : α → β → Prop} {a1 a2 : List α} {b1 b2 : List β} (h1 : All2 R a1 b1) (h2 : All2 R a2 b2) : All2 R (a1 ++ a2) (b1 ++ b2) := by
  induction h1 with
  | nil => exact h2
  | cons h _ ih => exact .cons h ih

inductive DInv (prog : Program) (w : World) (A : Around) (E : Value → Shared → Prop) (s : Shared) (L : List (Int × Str)) (rest : List (Option (Sem Value) × Sem Value)) (b : Option Addr × List (Sem Value × Sem Value)) (s' : Shared) : Prop
  | mk (h : Heap) (tk : Nat) (L1 L2 L3 : List (Int × Str)) (r : List (Sem Value × Sem Value)) (es : s' = { s with heap := h, toks := tk }) (eL : L = L1 ++ L2 ++ L3) (er : rest = r.map (fun p => (some p.1, p.2))) (h3 : All2 (PairOk prog w A E) r L3)
    (h2 : All2 (PairOk prog w A E) b.2 L2) (hl : b.2.length < 17) (hm : MainAt prog w s.heap h b.1 L1)

theorem display_ok {pairs : List (Sem Value × Sem Value)} {L : List (Int × Str)} {Q : Value → Shared → Prop} (hS : sysModules < s.heap.objs.size) (hp : All2 (PairOk prog w A E) pairs L) (h0 : L ≠ [])
    (hn : (L.map (·.1)).Nodup) (hL : L.length ≤ 100000)
    (hQ : ∀ h' tk d kvs, RdAs kvs L → h'.DictOf (intKind prog w) d kvs → s.heap.objs.size ≤ d → s.heap.objs.size ≤ h'.objs.size → (∀ b o, s.heap.get? b = some o → h'.get? b = some o) → Q (.ref d) { s with heap := h', toks := tk }) :
    wpAny (model prog w) A (dictDisplay (pairs.map fun p => (some p.1, p.2))) Q E s := by
  unfold dictDisplay
  dsimp only
  refine wpAny_bind ?_
  refine wpAny_forIn_list _
    (DInv prog w A E s L) _ ?_ ?_ _ _ ⟨s.heap, s.toks, [], [], L, pairs, rfl, rfl, rfl, hp, .nil, by decide, Nat.le_refl _, fun b o e => e, rfl⟩
  · rintro x rest ⟨main, run⟩ s' ⟨h, tk, L1, L2, L3, r, rfl, hLe, hr, hf, hrun, hl, hm⟩
    cases r with
    | nil => cases hr
    | cons p ps =>
      obtain ⟨k, v⟩ := p
      rw [List.map_cons] at hr
      injection hr with hx hrest
      subst hx
      obtain _ | ⟨h1, h2⟩ := hf
      rename_i l ls
      dsimp only at hrun hl hm ⊢
      have hrun' : All2 (PairOk prog w A E) (run ++ [(k, v)]) (L2 ++ [l]) := hrun.append (.cons h1 .nil)
      by_cases h17 : ((run ++ [(k, v)]).length == 17) = true
      · rw [if_pos h17]
        have he : (run ++ [(k, v)]).isEmpty = false := by simp
        rw [if_neg (by rw [he]; exact Bool.false_ne_true)]
        have hn' : ((L1 ++ (L2 ++ [l])).map (·.1)).Nodup := by
          have e : L = (L1 ++ (L2 ++ [l])) ++ ls := by rw [hLe]; simp
          rw [e, List.map_append, List.nodup_append] at hn
          exact hn.1
        have hlen : (run ++ [(k, v)]).length ≤ 17 := by rw [eq_of_beq h17]; exact Nat.le_refl _
        cases main with
        | none =>
          refine wpAny_bind (wpAny_bind (flush_none hm hrun' (by simp) hn' hlen fun h' tk' d hm' => wpAny_pure (wpAny_pure ?_)))
          exact ⟨h', tk', L1 ++ (L2 ++ [l]), [], ls, ps, rfl, by rw [hLe]; simp, hrest, h2, .nil, by show 0 < 17; omega, hm'⟩
        | some d =>
          have hl' : (L1 ++ (L2 ++ [l])).length ≤ 100000 := by
            have e : L = (L1 ++ (L2 ++ [l])) ++ ls := by rw [hLe]; simp
            rw [e, List.length_append] at hL; omega
          refine wpAny_bind (wpAny_bind (wpAny_mono (flush_some hS hm hrun' hn' hlen hl' (Q := fun sub s' => _) fun a h' tk' hm' => ?_) (fun sub s' hq => wpAny_bind (wpAny_mono hq (fun _ s'' hq' => wpAny_pure (wpAny_pure hq')) fun _ _ e => e)) fun _ _ e => e))
          exact ⟨h', tk', L1 ++ (L2 ++ [l]), [], ls, ps, rfl, by rw [hLe]; simp, hrest, h2, .nil, by show 0 < 17; omega, hm'⟩
      · rw [if_neg h17]
        refine wpAny_pure ⟨h, tk, L1, L2 ++ [l], ls, ps, rfl, by rw [hLe]; simp, hrest, h2, hrun', ?_, hm⟩
        rw [List.length_append, List.length_singleton] at h17 ⊢
        simp at h17
        omega
  · rintro ⟨main, run⟩ s' ⟨h, tk, L1, L2, L3, r, rfl, hLe, hr, hf, hrun, hl, hm⟩
    cases r with
    | cons p ps => cases hr
    | nil =>
      cases hf
      rw [List.append_nil] at hLe
      dsimp only at hrun hl hm ⊢
      subst hLe
      have fin : ∀ h' tk' d, MainAt prog w s.heap h' (some d) (L1 ++ L2) → wpAny (model prog w) A (pure (Value.ref d)) Q E { s with heap := h', toks := tk' } := by
        rintro h' tk' d ⟨hle, hk, _, hd0, kvs, hrd, hd⟩
        exact wpAny_pure (hQ h' tk' d kvs hrd hd hd0 hle hk)
      by_cases he : run.isEmpty = true
      · rw [if_pos he]
        obtain rfl := List.isEmpty_iff.mp he
        cases hrun
        refine wpAny_bind (wpAny_pure ?_)
        cases main with
        | none => exact absurd (by simpa using hm.2.2) (by simpa using h0)
        | some d => rw [List.append_nil] at fin; exact fin _ _ d hm
      · rw [if_neg he]
        cases main with
        | none =>
          have hne : L2 ≠ [] := by rintro rfl; cases hrun; exact he rfl
          refine wpAny_bind (wpAny_bind (flush_none hm hrun hne hn (by omega) fun h' tk' d hm' => wpAny_pure (fin _ _ d hm')))
        | some d =>
          refine wpAny_bind (wpAny_bind (wpAny_mono (flush_some hS hm hrun hn (by omega) hL (Q := fun sub s' => _) fun a h' tk' hm' => fin h' tk' d hm') (fun sub s' hq => wpAny_bind (wpAny_mono hq (fun _ s'' hq' => wpAny_pure hq') fun _ _ e => e)) fun _ _ e => e))

noncomputable def litOk : List (Option Expr) → List Expr → Bool
  | [], [] => true
  | some k :: ks, v :: vs => (keyI k).isSome && (valS v).isSome && litOk ks vs
  | _, _ => false

theorem litPairs_ok {env : Env} {pos : Pos} : ∀ (keys : List (Option Expr)) (values : List Expr), litOk keys values = true →
    All2 (PairOk prog w A E) (pairTrees keys values env pos) (pairsW keys values)
  | [], [], _ => .nil
  | some k :: ks, v :: vs, h => by
    obtain ⟨h1, h2⟩ := Bool.and_eq_true_iff.mp h
    obtain ⟨h0, h1⟩ := Bool.and_eq_true_iff.mp h1
    obtain ⟨i, e1⟩ := Option.isSome_iff_exists.mp h0
    obtain ⟨x, e2⟩ := Option.isSome_iff_exists.mp h1
    obtain ⟨k, p, rfl⟩ := keyI_at e1
    obtain ⟨k', p', rfl⟩ := valS_at e2
    refine .cons ⟨fun s Q hQ => ?_, fun s Q hQ => wpAny_bind ?_⟩ (litPairs_ok ks vs h2)
    · show wpAny _ _ (eval (.Constant (.int i) k p) env) _ _ _
      exact wpAny_Constant_int (hQ _ _)
    · show wpAny _ _ (eval (.Constant (.str x) k' p') env) _ _ _
      exact wpAny_Constant_str (wpAny_bind (wpAny_standAt (wpAny_pure (hQ _ _))))
  | [], _ :: _, h => (Bool.false_ne_true h).elim
  | none :: _, [], h => (Bool.false_ne_true h).elim
  | some _ :: _, [], h => (Bool.false_ne_true h).elim
  | none :: _, _ :: _, h => (Bool.false_ne_true h).elim

theorem Dict_big {env : Env} {pos : Pos} {keys : List (Option Expr)} {values : List Expr} {Q : Value → Shared → Prop} (hS : sysModules < s.heap.objs.size) (h : litOk keys values = true) (hall : keys.all (·.isSome) = true) (hl : keys.length = values.length)
    (h0 : pairsW keys values ≠ []) (hn : ((pairsW keys values).map (·.1)).Nodup) (hL : (pairsW keys values).length ≤ 100000)
    (hQ : ∀ h' tk d, TabAt (intKind prog w) PyData.int h' d (dataL (pairsW keys values)) → s.heap.objs.size ≤ d → s.heap.objs.size ≤ h'.objs.size → (∀ b o, s.heap.get? b = some o → h'.get? b = some o) → Q (.ref d) { s with heap := h', toks := tk }) :
    wpAny (model prog w) A (eval (.Dict keys values pos) env) Q E s := by
  rw [arm_eval_Dict, zip_pairTrees keys values env pos hall hl]
  refine wpAny_bind (wpAny_standAt (display_ok hS (litPairs_ok keys values h) h0 hn hL fun h' tk d kvs hr hd hle hle' hk => hQ h' tk d ?_ hle hle' hk))
  obtain ⟨o, ho, hdo⟩ := Heap.dictOf_iff.mp hd
  exact TabAt.ofObj (beq_eq_false_iff_ne.mpr (Nat.ne_of_gt (Nat.lt_of_lt_of_le hS hle))) ho hdo hr.flat
end
end Mine
end

-- part H4
section
open PySem PySem.W PyProof.Rows
namespace Mine
theorem afreshH4 : True := by
  w_top off
  trivial
noncomputable def isDone : Step → Bool
  | .halt (.done _) _ => true
  | _ => false
theorem done_no {q : Prop} {a : Step} (e : isDone a = false) (h : isDone a = true) : q := (Bool.false_ne_true (e.symm.trans h)).elim
theorem done_ite {c : Prop} [i : Decidable c] {a b : Step} (ha : isDone a = false) (hb : isDone b = false) : isDone (if c then a else b) = false := by
  cases i with
  | isTrue x => exact ha
  | isFalse x => exact hb
section
variable {den : Code → Sem Fin} {p : Program} {w : World}
theorem halt_done {heap : Heap} {gens : Array GenState} {drawn : Drawn} {toks : Nat} {os : OsState} {cur : Sem Fin} {code : Code} {pos : Pos} {stack : List Frame} (hcur : ∀ f, cur = .pure (.done f) → stack ≠ []) : isDone (step den p w ⟨heap, gens, drawn, toks, os⟩ ⟨cur, code, pos, stack⟩) = false := by
  cases cur
  case pure a =>
    cases a with
    | again c => rfl
    | done f' =>
      cases stack with
      | nil => exact absurd rfl (hcur f' rfl)
      | cons F r => cases F <;> rfl
  case raise e =>
    cases stack with
    | nil => exact done_ite (c := leftWithCleanup gens = true) rfl rfl
    | cons F r => cases F <;> rfl
  case finish e => exact done_ite (c := leftWithCleanup gens = true) rfl rfl
  case load a x k =>
    show isDone (match heap.get? a with | some o => Step.go ⟨heap, gens, drawn, toks, os⟩ ⟨k o, code, pos, stack⟩ | none => Step.halt (.stuck _) _) = _
    cases heap.get? a <;> rfl
  case update a x g k => exact done_ite (c := (heap.get? a).isSome = true) rfl rfl
  case choose src n k => exact done_ite (c := n = 0) rfl rfl
  case genState g k =>
    show isDone (match gens[g]? with | none => Step.halt (.stuck _) _ | some st => Step.go ⟨heap, gens, drawn, toks, os⟩ ⟨k _, code, pos, stack⟩) = _
    cases gens[g]? <;> rfl
  case resume g r l k =>
    show isDone (match (generalizing := false) gens[g]? with
      | none => Step.halt (.stuck _) _
      | some (.fresh c) => (match (generalizing := false) r with
        | .send .none => Step.go _ ⟨den c, c, pos, _⟩
        | .send _ => Step.go _ ⟨k .justStarted, code, pos, stack⟩
        | .throw e => Step.go _ ⟨k (.raised e), code, pos, stack⟩)
      | some (.suspended kk _ c p fs _) => Step.go _ ⟨kk r, c, p, _⟩
      | some .running => Step.go _ ⟨k .running, code, pos, stack⟩
      | some .finished => Step.go _ ⟨k .finished, code, pos, stack⟩) = _
    cases gens[g]? with
    | none => rfl
    | some st =>
      cases st with
      | fresh c =>
        cases r with
        | send v => cases v <;> rfl
        | throw e => rfl
      | _ => rfl
  case yield v g0 l kk =>
    show isDone (match splitAtGen stack with | some (frames, (g, k, c, p), rest) => Step.go _ ⟨k (.yielded v), c, p, rest⟩ | none => Step.halt (.stuck _) _) = _
    cases splitAtGen stack <;> rfl
  all_goals rfl

theorem halt_through {s s' : Shared} {t : Thread} {f : Flow} (h : step den p w s t = .halt (.done f) s') : through t = true := by
  obtain ⟨heap, gens, drawn, toks, os⟩ := s
  obtain ⟨cur, code, pos, stack⟩ := t
  by_cases q : ∀ f, cur = .pure (.done f) → stack ≠ []
  · exact done_no (halt_done q) (congrArg isDone h)
  · obtain ⟨f', q1⟩ := Classical.not_forall.mp q
    obtain ⟨rfl, q2⟩ := Classical.not_imp.mp q1
    obtain rfl : stack = [] := Classical.not_not.mp q2
    rfl

theorem runN_through {f : Flow} : ∀ {n : Nat} {s s' : Shared} {t : Thread}, runN den p w n s t = .halted (.done f) s' →
    (∀ k s₁ t₁, runN den p w k s t = .running s₁ t₁ → t₁.calm = true) → s.asleep → ∃ m t₁, schedN den p w m (.single s t) = .running (.single s' t₁) ∧ through t₁ = true
  | 0, _, _, _, h, _, _ => by cases h
  | n + 1, s, s', t, h, hc, hz => by
    have e := sstep_single den p w s t (hc 0 s t rfl) hz
    simp only [runN] at h
    cases hs : step den p w s t with
    | go s₂ t₂ =>
      rw [hs] at h e
      rcases e with e | e
      · obtain ⟨m, t₁, hm, ht⟩ := runN_through h (fun k s₁ t₁ q => hc (k + 1) s₁ t₁ (by simp only [runN, hs]; exact q)) (Shared.asleep_of_life (step_life den p w s s₂ t t₂ hs) hz)
        exact ⟨m + 1, t₁, by simp only [schedN, e, Step.lift]; exact hm, ht⟩
      · cases e
    | halt o₂ s₂ =>
      rw [hs] at h
      cases h
      obtain rfl := step_halt_same den p w s s' t _ hs
      exact ⟨0, t, rfl, halt_through hs⟩
end

theorem thread_through {prog : Program} {w : World} {t : Sem Fin} {s : Shared} {R : Shared → Prop} (hz : s.asleep)
    (h : wpAny (model prog w) callerA t (fun fin s' => ∃ f, fin = .done f ∧ (R s' ∧ s'.gens = #[])) (fun _ _ => False) s) :
    ∃ s', (∃ n t₁, schedN (denote table) prog w n (.single s ⟨t, .builtin "claim.caller" {}, default, []⟩) = .running (.single s' t₁) ∧ through t₁ = true) ∧ s'.heap.life = s.heap.life ∧ R s' ∧ s'.gens = #[] := by
  have h' := wp_of_wpAny_done (R := fun r s' => ((∃ f, r = .ok f) ∧ R s' ∧ s'.gens = #[]) ∧ leftWithCleanup s'.gens = false) caller_in
    (wpAny_mono h (fun _ _ ⟨f, e, a, b⟩ => ⟨f, e, ⟨⟨f, rfl⟩, a, b⟩, by rw [b]; simp [leftWithCleanup]⟩) fun _ _ q => q.elim) default
  obtain ⟨n, r, s₁, hn, ⟨f, rfl⟩, hR, hg⟩ := (wp_iff_halts (M := model prog w) (R := fun r s' => (∃ f, r = .ok f) ∧ R s' ∧ s'.gens = #[]) ..).mp h'
  obtain ⟨s₂, hr, hf, hc⟩ := runNI_real _ _ _ hn (outcomeOf_ends _)
  obtain rfl : s₂ = s₁ := Shared.eq_of_forget_eq hf hg
  exact ⟨s₂, runN_through hr hc hz, runN_life _ _ _ hr, hR, hg⟩
end Mine
end

-- part H5
section
open PySem PySem.W PyProof.Rows
namespace Mine
theorem afreshH5 : True := by
  w_top off
  trivial
noncomputable abbrev Fact := Str × (Heap → Value → Prop)
noncomputable def Stable (N : Nat) (p : Heap → Value → Prop) : Prop := ∀ h h' v, (∀ b o, N ≤ b → h.get? b = some o → h'.get? b = some o) → p h v → p h' v

/-- where the top stands: what it has bound, with what is known of each object -/
structure Md (h₀ : Heap) (mg₀ : Str → Option Value) (c Pl : Addr) (h : Heap) (mg : Str → Option Value) (ps : Array Value) (L : List Fact) : Prop where
  main : h.Main mg c Pl ps
  keep : ∀ b o, b ≠ Pl → b ≠ mainGlobals → h₀.get? b = some o → h.get? b = some o
  held : ∀ p ∈ L, ∃ v, mg p.1 = some v ∧ p.2 h v
  stab : ∀ p ∈ L, Stable h₀.objs.size p.2
  others : ∀ x : Str, x ≠ "__name__" → x ∉ L.map (·.1) → mg x = mg₀ x
  grows : h₀.objs.size ≤ h.objs.size
  lowP : Pl < h₀.objs.size
  lowG : mainGlobals < h₀.objs.size

section
variable {h₀ h h' : Heap} {mg₀ mg : Str → Option Value} {c Pl : Addr} {ps ps' : Array Value} {L : List Fact}

theorem Md.keepHeld (X : Md h₀ mg₀ c Pl h mg ps L) (keep : ∀ b o, b ≠ Pl → b ≠ mainGlobals → h.get? b = some o → h'.get? b = some o) :
    ∀ p ∈ L, ∃ v, mg p.1 = some v ∧ p.2 h' v := fun p hp =>
  let ⟨v, a, b⟩ := X.held p hp
  ⟨v, a, X.stab p hp _ _ v (fun b o hb => keep b o (Nat.ne_of_gt (Nat.lt_of_lt_of_le X.lowP hb)) (Nat.ne_of_gt (Nat.lt_of_lt_of_le X.lowG hb))) b⟩

theorem Md.rebind {x : Str} {v : Value} {p : Heap → Value → Prop} (X : Md h₀ mg₀ c Pl h mg ps L) (hnew : x ∉ L.map (·.1)) (hm : h'.Main (fun y => if y = x then some v else mg y) c Pl ps')
    (keep : ∀ b o, b ≠ Pl → b ≠ mainGlobals → h.get? b = some o → h'.get? b = some o) (hsz : h.objs.size ≤ h'.objs.size) (hp : p h' v) (hs : Stable h₀.objs.size p) :
    Md h₀ mg₀ c Pl h' (fun y => if y = x then some v else mg y) ps' ((x, p) :: L) where
  main := hm
  keep := fun b o hP hG e => keep b o hP hG (X.keep b o hP hG e)
  held := fun q hq => by
    rcases List.mem_cons.mp hq with rfl | hq
    · exact ⟨v, if_pos rfl, hp⟩
    · obtain ⟨u, a, b⟩ := X.keepHeld keep q hq
      refine ⟨u, ?_, b⟩
      exact (if_neg fun e : q.1 = x => hnew (e ▸ List.mem_map_of_mem hq)).trans a
  stab := fun q hq => by
    rcases List.mem_cons.mp hq with rfl | hq
    · exact hs
    · exact X.stab q hq
  others := fun y h1 h2 => by
    rw [List.map_cons, List.mem_cons, not_or] at h2
    rw [if_neg h2.1]; exact X.others y h1 h2.2
  grows := Nat.le_trans X.grows hsz
  lowP := X.lowP
  lowG := X.lowG

theorem Md.rename {v : Value} (X : Md h₀ mg₀ c Pl h mg ps L) (hnew : ("__name__" : Str) ∉ L.map (·.1)) (hm : h'.Main (fun y => if y = "__name__" then some v else mg y) c Pl ps')
    (keep : ∀ b o, b ≠ Pl → b ≠ mainGlobals → h.get? b = some o → h'.get? b = some o) (hsz : h.objs.size ≤ h'.objs.size) :
    Md h₀ mg₀ c Pl h' (fun y => if y = "__name__" then some v else mg y) ps' L where
  main := hm
  keep := fun b o hP hG e => keep b o hP hG (X.keep b o hP hG e)
  held := fun q hq => by
    obtain ⟨u, a, b⟩ := X.keepHeld keep q hq
    refine ⟨u, ?_, b⟩
    exact (if_neg fun e : q.1 = ("__name__" : Str) => hnew (e ▸ List.mem_map_of_mem hq)).trans a
  stab := X.stab
  others := fun y h1 h2 => by
    rw [if_neg h1]; exact X.others y h1 h2
  grows := Nat.le_trans X.grows hsz
  lowP := X.lowP
  lowG := X.lowG

theorem Md.grown (X : Md h₀ mg₀ c Pl h mg ps L) (hk : ∀ b o, h.get? b = some o → h'.get? b = some o) (hsz : h.objs.size ≤ h'.objs.size) : Md h₀ mg₀ c Pl h' mg ps L where
  main := X.main.keeps hk
  keep := fun b o hP hG e => hk b o (X.keep b o hP hG e)
  held := X.keepHeld fun b o _ _ e => hk b o e
  stab := X.stab
  others := X.others
  grows := Nat.le_trans X.grows hsz
  lowP := X.lowP
  lowG := X.lowG
end

section
variable {prog : Program} {w : World} {A : Around} {E : Value → Shared → Prop} {s : Shared} {h₀ : Heap} {mg₀ mg mb : Str → Option Value} {c Pl F : Addr} {ps : Array Value} {L : List Fact} {Q : Flow → Shared → Prop}

/-- storing a value by its name at the top -/
theorem Md.store {x : Str} {v : Value} (X : Md h₀ mg₀ c Pl s.heap mg ps L) (hloc : prog.main.scope.names.lookup x = some .local) (hmod : prog.main.scope.kind = .module) (hnb : x ≠ "__builtins__") {Q : Unit → Shared → Prop}
    (k : ∀ h' tk, h'.Main (fun y => if y = x then some v else mg y) c Pl ps → (∀ b o, b ≠ Pl → b ≠ mainGlobals → s.heap.get? b = some o → h'.get? b = some o) → s.heap.objs.size ≤ h'.objs.size → Q () { s with heap := h', toks := tk }) :
    wpAny (model prog w) A (storeName (mainEnv prog c F) x v) Q E s := by
  refine wpAny_storeName_local (env := mainEnv prog c F) hloc X.main.g (fun h' hg' hs' => ?_)
    (by show (prog.main.scope.kind == .class || (prog.main.scope.kind == .module && mainGlobals != mainGlobals)) = false; rw [hmod]; rfl)
  obtain ⟨bm, o, hbm, hne0, hneG, hneP, hbo, hrest⟩ := X.main.bmod
  exact k h' _ ⟨hg', X.main.code.sameBut hs' (Nat.ne_of_gt X.main.low.1) (Nat.ne_of_gt X.main.low.2), X.main.low,
      ⟨bm, o, by simp only [Ne.symm hnb, if_false]; exact hbm, hne0, hneG, hneP, (hs'.2 _ hneG).trans hbo, hrest⟩⟩
    (fun b o _ hG e => (hs'.2 _ hG).trans e) (Nat.le_of_eq hs'.1.symm)

theorem Md.name_assign {pos' pos p : Pos} {k : Nat} {t : Str} (X : Md h₀ mg₀ c Pl s.heap mg ps L) (hnew : ("__name__" : Str) ∉ L.map (·.1)) (hloc : prog.main.scope.names.lookup ("__name__" : Str) = some .local) (hmod : prog.main.scope.kind = .module)
    (kk : ∀ h' mg' tk, Md h₀ mg₀ c Pl h' mg' ps L → Q .next { s with heap := h', toks := tk })
    (hs : swapsWith (.Constant (.str t) k p) (some (.Name "__name__" pos')) pos.line (mainEnv prog c F) = pure false := by rfl) :
    wpAny (model prog w) A (exec (.Assign [.Name "__name__" pos'] (.Constant (.str t) k p) pos) (mainEnv prog c F)) Q E s := by
  refine wpAny_Assign_Name (wpAny_Constant_str ?_) hs
  exact Md.store (s := { s with toks := s.toks + 1 }) X hloc hmod (by decide) fun h' tk hm hk hsz => kk h' _ tk (X.rename hnew hm hk hsz)

theorem Md.obj_assign {x : Str} {pos' pos : Pos} {value : Expr} {p : Heap → Value → Prop} (X : Md h₀ mg₀ c Pl s.heap mg ps L) (hnew : x ∉ L.map (·.1)) (hloc : prog.main.scope.names.lookup x = some .local) (hmod : prog.main.scope.kind = .module)
    (hnb : x ≠ "__builtins__") (hst : Stable h₀.objs.size p)
    (hval : ∀ Q' : Value → Shared → Prop, (∀ v h₁ tk, p h₁ v → s.heap.objs.size ≤ h₁.objs.size → (∀ b o', s.heap.get? b = some o' → h₁.get? b = some o') → Q' v { s with heap := h₁, toks := tk }) →
      wpAny (model prog w) A (eval value (mainEnv prog c F)) Q' E s)
    (kk : ∀ h' mg' tk, Md h₀ mg₀ c Pl h' mg' ps ((x, p) :: L) → Q .next { s with heap := h', toks := tk })
    (hs : swapsWith value (some (.Name x pos')) pos.line (mainEnv prog c F) = pure false) :
    wpAny (model prog w) A (exec (.Assign [.Name x pos'] value pos) (mainEnv prog c F)) Q E s := by
  refine wpAny_Assign_Name (hval _ fun v h₁ tk hp hle hk => ?_) hs
  have X₁ := X.grown hk hle
  refine Md.store (s := { s with heap := h₁, toks := tk }) X₁ hloc hmod hnb fun h' tk' hm hk' hsz => kk h' _ tk' (X₁.rebind hnew hm hk' hsz ?_ hst)
  exact hst _ _ v (fun b o hb e => hk' b o (Nat.ne_of_gt (Nat.lt_of_lt_of_le X.lowP hb)) (Nat.ne_of_gt (Nat.lt_of_lt_of_le X.lowG hb)) e) hp
end
end Mine
end

-- part H6
section
open PySem PySem.W PyProof.Rows
namespace Mine
theorem afreshH6 : True := by
  w_top off
  trivial
/-- the ints of a written list -/
noncomputable def intsW : List Expr → List Int
  | e :: es => (match keyI e with | some i => i :: intsW es | none => [])
  | [] => []
noncomputable def intsOk : List Expr → Bool
  | e :: es => (keyI e).isSome && intsOk es
  | [] => true

theorem range_getD : ∀ ns : List Int, ((List.range ns.length).map fun i => ns.getD i 0) = ns := fun ns => by
  apply List.ext_getElem
  · simp
  · intro i h1 h2
    simp [List.getD_eq_getElem?_getD, List.getElem?_eq_getElem h2]

section
variable {prog : Program} {w : World} {A : Around} {E : Value → Shared → Prop} {s : Shared} {mg mb : Str → Option Value} {c F : Addr}

theorem spliced_ints {env : Env} {pos : Pos} : ∀ (es : List Expr), intsOk es = true → ∀ (s : Shared) (Q : List Value → Shared → Prop), (∀ vs tk, IntsAre vs (intsW es) → Q vs { s with toks := tk }) →
    wpAny (model prog w) A (spliced (backTo pos (starEach es env))) Q E s
  | [], _, s, Q, hQ => Calls.spliced_nil (hQ [] s.toks .nil)
  | e :: es, h, s, Q, hQ => by
    obtain ⟨h0, h1⟩ := Bool.and_eq_true_iff.mp h
    obtain ⟨i, e1⟩ := Option.isSome_iff_exists.mp h0
    obtain ⟨k, p, rfl⟩ := keyI_at e1
    show wpAny _ _ (spliced ((false, eval (.Constant (.int i) k p) env) :: backTo pos (starEach es env))) _ _ _
    exact Calls.spliced_cons (wpAny_Constant_int (spliced_ints es h1 _ _ fun vs tk hv => hQ _ _ (.cons _ _ hv)))

theorem list_ints {env : Env} {pos : Pos} {es : List Expr} {Q : Value → Shared → Prop} (h : intsOk es = true) (hl : (intsW es).length ≤ 1000)
    (hQ : ∀ vs tk, IntsAre vs (intsW es) → Q (.ref s.heap.objs.size) { s with heap := s.heap.push { cls := .type "list", data := .seq vs.toArray }, toks := tk }) :
    wpAny (model prog w) A (eval (.List es pos) env) Q E s := by
  rw [arm_eval_List]
  refine wpAny_bind (wpAny_standAt (wpAny_bind (spliced_ints es h _ _ fun vs tk hv => ?_)))
  exact wpAny_newList (s := { s with toks := tk }) (hQ vs tk hv) (by rw [sizeLine_eq, hv.length]; omega)

theorem main_builtin {x : Str} {pos : Pos} {v : Value} {Q : Value → Shared → Prop} (hmod : prog.main.scope.kind = .module) (hg : s.heap.Ns mainGlobals mg) (hb : s.heap.Ns builtinsNs mb) (h1 : mg x = none) (h2 : mb x = some v) (h : Q v s)
    (hd : (x == ("__debug__" : Str)) = false) : wpAny (model prog w) A (eval (.Name x pos) (mainEnv prog c F)) Q E s :=
  Calls.Name_module hmod rfl (Calls.loadGlobal_builtin (env := mainEnv prog c F) hg h1 hb h2 h) hd

theorem main_call1 {x : Str} {p pos : Pos} {T : String} {e : Expr} {Q : Value → Shared → Prop} (hmod : prog.main.scope.kind = .module) (hg : s.heap.Ns mainGlobals mg) (hb : s.heap.Ns builtinsNs mb) (h1 : mg x = none) (h2 : mb x = some (.type T))
    (hd : (x == ("__debug__" : Str)) = false) (he : ∀ env, starEach [e] env = [(false, eval e env)])
    (h : wpAny (model prog w) A (eval e (mainEnv prog c F)) (fun v s₁ => wpAny (model prog w) A (call (.type T) [v]) Q E s₁) E s) :
    wpAny (model prog w) A (eval (.Call (.Name x p) [e] [] pos) (mainEnv prog c F)) Q E s := by
  refine wpAny_Call_NameR (main_builtin hmod hg hb h1 h2 ?_ hd)
  rw [he]
  exact PySem.callWith_type rfl (Calls.evalArgs_plain (Calls.spliced_cons (wpAny_mono h (fun v s₁ h₁ => Calls.spliced_nil h₁) fun _ _ e => e)))

theorem main_range {p pos p1 p2 : Pos} {a b : Int} {k1 k2 : Nat} {Q : Value → Shared → Prop} (hmod : prog.main.scope.kind = .module) (hg : s.heap.Ns mainGlobals mg) (hb : s.heap.Ns builtinsNs mb) (h1 : mg "range" = none) (h2 : mb "range" = some (.type "range"))
    (h : ∀ t u tv tk, Q (.ref s.heap.objs.size) { s with heap := s.heap.push { cls := .type "range", data := .fields #[.int a t, .int b u, .int 1 tv] }, toks := tk }) :
    wpAny (model prog w) A (eval (.Call (.Name "range" p) [.Constant (.int a) k1 p1, .Constant (.int b) k2 p2] [] pos) (mainEnv prog c F)) Q E s := by
  refine wpAny_Call_NameR (main_builtin hmod hg hb h1 h2 ?_ (by decide))
  show wpAny _ _ (callWith pos _ [] [(false, eval (.Constant (.int a) k1 p1) (mainEnv prog c F)), (false, eval (.Constant (.int b) k2 p2) (mainEnv prog c F))] []) _ _ _
  refine PySem.callWith_type rfl (Calls.evalArgs_plain (Calls.spliced_cons (wpAny_Constant_int (Calls.spliced_cons (wpAny_Constant_int (Calls.spliced_nil ?_))))))
  exact call_range_2 (h _ _ _ _)

/-- set([a few ints] + list(range(a, b))) at the top -/
theorem set_value {es : List Expr} {a b : Int} {n k1 k2 : Nat} {p0 p1 p2 p3 p4 p5 p6 p7 p8 p9 : Pos} {S : Int → Bool} {Q : Value → Shared → Prop} (hh : A.handled = none) (hmod : prog.main.scope.kind = .module) (hg : s.heap.Ns mainGlobals mg) (hb : s.heap.Ns builtinsNs mb)
    (g1 : mg "set" = none) (g2 : mg "list" = none) (g3 : mg "range" = none) (b1 : mb "set" = some (.type "set")) (b2 : mb "list" = some (.type "list")) (b3 : mb "range" = some (.type "range"))
    (hes : intsOk es = true) (hl : (intsW es).length ≤ 1000) (hsm : Builtin.Range.small a b 1 = true) (hn : Builtin.Range.rangeSize a b 1 = n) (hn1 : n ≤ 1000)
    (hS : ∀ k, (intsW es ++ (List.range n).map fun i : Nat => a + (i : Int)).any (· == k) = S k)
    (hQ : ∀ h₁ tk v, (∃ sa m, v = .ref sa ∧ s.heap.objs.size ≤ sa ∧ h₁.SetOf (intKind prog w) sa S m) → s.heap.objs.size ≤ h₁.objs.size → (∀ b o, s.heap.get? b = some o → h₁.get? b = some o) → Q v { s with heap := h₁, toks := tk }) :
    wpAny (model prog w) A (eval (.Call (.Name "set" p0) [.BinOp (.List es p1) .Add (.Call (.Name "list" p2) [.Call (.Name "range" p3) [.Constant (.int a) k1 p4, .Constant (.int b) k2 p5] [] p6] [] p7) p8] [] p9) (mainEnv prog c F)) Q E s := by
  refine main_call1 hmod hg hb g1 b1 (by decide) (fun _ => rfl) ?_
  rw [arm_eval_BinOp]
  refine wpAny_bind (list_ints hes hl fun vs tk hvs => wpAny_bind (wpAny_holding ?_))
  have k1 : ∀ b o, s.heap.get? b = some o → (s.heap.push { cls := .type "list", data := .seq vs.toArray }).get? b = some o := fun b o e => Heap.get?_push_of_some _ e
  refine main_call1 hmod (hg.keeps k1) (hb.keeps k1) g2 b2 (by decide) (fun _ => rfl) ?_
  refine main_range hmod (hg.keeps k1) (hb.keeps k1) g3 b3 fun t u tv tk2 => ?_
  refine call_list_range (n := n) hh (Heap.get?_push_size _ rfl) hsm hn (by omega) fun h3 tk3 acc c3 k3 hacc hit => ?_
  have hai := range_ints hit
  refine wpAny_bind (wpAny_standAt (wpAny_operate' ?_))
  have hA : h3.get? s.heap.objs.size = some { cls := .type "list", data := .seq vs.toArray } := k3 _ _ (Heap.get?_push_of_some _ (Heap.get?_push_size _ rfl))
  have hlv : vs.length = (intsW es).length := hvs.length
  have hla : acc.size = n := by have := hai.length; simpa using this
  refine concat_meets ⟨_, hA, rfl⟩ ⟨_, hacc, rfl⟩ noFill_list_add seq_list_add PySem.F.slot_list_add PySem.F.entry_list_add (PySem.F.args_list_add_2 _ _) (list_addW s.heap.objs.size _ vs.toArray acc _ _ none none #[] #[] (by rw [sizeLine_eq, List.size_toArray, hla, hlv]; omega)) ⟨hA, hacc, ?_⟩
  have hall : IntsAre (vs.toArray ++ acc).toList (intsW es ++ (List.range n).map fun i : Nat => a + (i : Int)) := by
    have := hvs.append hai
    simpa using this
  refine call_set_list hh ⟨_, Heap.get?_push_size _ rfl, rfl, _, rfl⟩ hall (by rw [Array.size_append, List.size_toArray, hla, hlv]; unfold scanBound; omega) fun h' tk' hset hk => ?_
  have hsz : s.heap.objs.size ≤ h3.objs.size := Nat.le_of_lt (Heap.lt_size hA)
  have hsz4 : s.heap.objs.size ≤ (h3.push { cls := .type "list", data := .seq (vs.toArray ++ acc) }).objs.size := by rw [Heap.size_push]; omega
  have hlen : (vs.toArray ++ acc).size = (intsW es ++ (List.range n).map fun i : Nat => a + (i : Int)).length := by
    rw [← hall.length, Array.length_toList]
  have hpr : (fun k' => (PyProof.Rows.firstMet (fun i => (intsW es ++ (List.range n).map fun i : Nat => a + (i : Int)).getD i 0) (vs.toArray ++ acc).size).any (· == k')) = S := by
    funext k
    rw [PyProof.Rows.firstMet_any, hlen, range_getD]; exact hS k
  rw [hpr] at hset
  refine hQ h' tk' _ ⟨_, _, rfl, hsz4, hset⟩ ?_ fun b o e => ?_
  · obtain ⟨o, es', ep, t', ho, r⟩ := hset
    exact Nat.le_trans hsz4 (Nat.le_of_lt (Heap.lt_size ho))
  · have e3 := k3 b o (Heap.get?_push_of_some _ (Heap.get?_push_of_some _ e))
    have e4 : (h3.push { cls := .type "list", data := .seq (vs.toArray ++ acc) }).get? b = some o := Heap.get?_push_of_some _ e3
    exact hk b o (Heap.lt_size e4) e4
end
end Mine
end

-- part H7
section
open PySem PySem.W PyProof.Rows
namespace Mine
theorem afreshH7 : True := by
  w_top off
  trivial
section
variable {M : Model} {A : Around} {E : Value → Shared → Prop} {s : Shared}
theorem nsSet_new {a : Addr} {c : Value} {d : Option Addr} {n : Nat} {sl : Array (Option Value)} {name : Str} {v : Value} {Q : Unit → Shared → Prop} (ho : s.heap.get? a = some ⟨c, d, .dict #[] n, sl⟩)
    (hQ : ∀ h' hs t, h'.get? a = some ⟨c, d, .dict #[⟨hs, .str name t, v⟩] (n + 1), sl⟩ → Heap.SameBut a s.heap h' → Q () { s with heap := h', toks := s.toks + 1 }) : wpAny M A (nsSet a name v) Q E s := by
  intro Γ p hΓ
  simp only [nsSet, strHash, Sem.wp_bind', Sem.wp_cmd_ask, Sem.wp_pure', Sem.wp_cmd_mkText]
  rw [Sem.wp_loadPart_of M Γ (fun e _ s' => E e s') p { s with toks := s.toks + 1 } (o := ⟨c, d, .dict #[] n, sl⟩) _ ho]
  have hany : (#[] : Array DictEntry).any (·.refKey) = false := by simp
  simp only [aRefKeyMayBeTheName_eq, aRefKeyMayBeTheNameByArray, hany, Bool.and_false, Bool.false_eq_true, if_false, Sem.wp_cmd_updatePart]
  have hput : ∀ hs t, Obj.putName name hs (.str name t) v ⟨c, d, .dict #[] n, sl⟩ = ⟨c, d, .dict #[⟨hs, .str name t, v⟩] (n + 1), sl⟩ := fun hs t => by
    rw [Obj.putName_eq]; simp [Obj.putNameByArray]
  refine ⟨by rw [ho]; rfl, hQ _ _ _ ((Heap.get?_update_self _ ho ?_).trans (congrArg some (hput _ _))) (Heap.SameBut.update ..)⟩
  rw [hput]; rfl
end

noncomputable def FnFact (i : Nat) (N : Nat) : Heap → Value → Prop := fun h v => ∃ a c', v = .ref a ∧ N ≤ a ∧ N ≤ c' ∧ FnAt i h a (.ref c') .none .none
noncomputable def KwFact (i : Nat) (N : Nat) : Heap → Value → Prop := fun h v => ∃ a c' T D, v = .ref a ∧ N ≤ a ∧ N ≤ c' ∧ N ≤ T ∧ N ≤ D ∧ FnAt i h a (.ref c') (.ref T) (.ref D) ∧ KwD h T D

theorem fnAt_above {i N : Nat} {h h' : Heap} {a c' : Addr} {dV kV : Value} (hk : ∀ b o, N ≤ b → h.get? b = some o → h'.get? b = some o) (ha : N ≤ a) (hc : N ≤ c') (x : FnAt i h a (.ref c') dV kV) : FnAt i h' a (.ref c') dV kV := by
  obtain ⟨o, pm, doc, e, d, r⟩ := x
  exact ⟨o, pm, doc, hk _ _ ha e, d, r.at fun o => hk _ o hc⟩
theorem fn_stable (i N : Nat) : Stable N (FnFact i N) := by
  rintro h h' v hk ⟨a, c', rfl, ha, hc, x⟩
  exact ⟨a, c', rfl, ha, hc, fnAt_above hk ha hc x⟩
theorem kw_stable (i N : Nat) : Stable N (KwFact i N) := by
  rintro h h' v hk ⟨a, c', T, D, rfl, ha, hc, hT, hD, x, ⟨⟨o, n, t, e1, e2⟩, ⟨c, d, hs, t', ep, sl, e3⟩⟩⟩
  exact ⟨a, c', T, D, rfl, ha, hc, hT, hD, fnAt_above hk ha hc x, ⟨⟨o, n, t, hk _ _ hT e1, e2⟩, ⟨c, d, hs, t', ep, sl, hk _ _ hD e3⟩⟩⟩

section
variable {w : World} {A : Around} {E : Value → Shared → Prop} {s : Shared} {h₀ : Heap} {mg₀ mg : Str → Option Value} {c Pl F : Addr} {ps : Array Value} {L : List Fact} {Q : Flow → Shared → Prop}

theorem Md.def_plain {i : Nat} {pos : Pos} (X : Md h₀ mg₀ c Pl s.heap mg ps L) (hnew : nameAt i ∉ L.map (·.1)) (hexec : PlainDefTree (nameAt i) (paramsAt i) (bodyAt i) (scopeAt i) pos)
    (hfree : ∀ x ∈ (scopeAt i).names, x.2 ≠ .free) (hdoc : docOf (bodyAt i) = none) (hloc : P.main.scope.names.lookup (nameAt i) = some .local)
    (hq : qualnameIn { scope := P.main.scope, locals := mainGlobals, globals := mainGlobals, cells := [] } (nameAt i) (nameAt i) = nameAt i) (hnb : nameAt i ≠ "__builtins__") (hnf : codeAmong pos ps.toList = none)
    (k : ∀ h' mg' c' tk, Md h₀ mg₀ c Pl h' mg' (ps ++ #[rawInt pos.line, rawInt pos.col, .ref c']) ((nameAt i, FnFact i h₀.objs.size) :: L) → Q .next { s with heap := h', toks := tk }) :
    wpAny (model P w) A (exec (.FunctionDef (nameAt i) (paramsAt i) (bodyAt i) [] none [] (scopeAt i) none (nameAt i) pos) (mainEnv P c F)) Q E s := by
  refine wpAny_plainDefN hexec hfree hdoc hloc hq X.main (fun a c' h' tk ha hm hf hcd _ keep => ?_) hnb rfl hnf
  have haN : h₀.objs.size ≤ a := Nat.le_trans X.grows ha
  refine k h' _ c' tk (X.rebind hnew hm keep (Nat.le_trans ha (Nat.le_of_lt (Heap.lt_size hf))) ?_ (fn_stable _ _))
  exact ⟨a, c', rfl, haN, Nat.le_trans X.grows hcd.1, _, _, .none, hf, rfl, hcd.2⟩

theorem Md.def_kw {i : Nat} {pos p1 p2 p3 : Pos} {k1 k2 k3 : Nat} (X : Md h₀ mg₀ c Pl s.heap mg ps L) (hnew : nameAt i ∉ L.map (·.1))
    (hd : (paramsAt i).defaults = [.Constant (.int 0) k1 p1, .Constant .none k2 p2]) (hkd : (paramsAt i).kw_defaults = [some (.Constant .none k3 p3)])
    (hkw : ∀ v : Value, (((paramsAt i).kwonlyargs.zip [some v]).filterMap fun (a, d) => d.map (a.arg, ·)) = [(("key" : Str), v)]) (hann : annTrees (paramsAt i) none (mainEnv P c F) = [])
    (hfree : ∀ x ∈ (scopeAt i).names, x.2 ≠ .free) (hloc : P.main.scope.names.lookup (nameAt i) = some .local)
    (hq : qualnameIn { scope := P.main.scope, locals := mainGlobals, globals := mainGlobals, cells := [] } (nameAt i) (nameAt i) = nameAt i) (hnb : nameAt i ≠ "__builtins__") (hnf : codeAmong pos ps.toList = none)
    (k : ∀ h' mg' c' tk, Md h₀ mg₀ c Pl h' mg' (ps ++ #[rawInt pos.line, rawInt pos.col, .ref c']) ((nameAt i, KwFact i h₀.objs.size) :: L) → Q .next { s with heap := h', toks := tk }) :
    wpAny (model P w) A (exec (.FunctionDef (nameAt i) (paramsAt i) (bodyAt i) [] none [] (scopeAt i) none (nameAt i) pos) (mainEnv P c F)) Q E s := by
  have hq' : qualnameIn (mainEnv P c F) (nameAt i) (nameAt i) = nameAt i := hq
  have hm := X.main
  rw [exec_def, hq', defaultsOf_eq, hkd, hd, hann]
  refine wpAny_bind (wpAny_standAt (wpAny_bind (wpAny_holding ?_)))
  show wpAny _ _ (evalAll [eval (.Constant (.int 0) k1 p1) (mainEnv P c F), eval (.Constant .none k2 p2) (mainEnv P c F)] >>= _) _ _ _
  refine wpAny_bind ?_
  rw [evalAll]
  refine wpAny_bind (wpAny_Constant_int (wpAny_bind (wpAny_holding ?_)))
  rw [evalAll]
  refine wpAny_bind (wpAny_Constant_none (wpAny_bind (wpAny_holding ?_)))
  rw [evalAll]
  refine wpAny_pure (wpAny_pure (wpAny_pure ?_))
  refine wpAny_bind (wpAny_holding ?_)
  show wpAny _ _ (evalAllOpt [some (eval (.Constant .none k3 p3) (mainEnv P c F))]) _ _ _
  rw [evalAllOpt]
  refine wpAny_bind (wpAny_Constant_none (wpAny_bind (wpAny_holding ?_)))
  rw [evalAllOpt]
  refine wpAny_pure (wpAny_pure ?_)
  refine wpAny_holding ?_
  refine wpAny_bind (wpAny_pure ?_)
  rw [makeFunction_eq, hkw]
  dsimp only
  rw [if_neg (by simp)]
  refine wpAny_bind (wpAny_newTextTuple ?_)
  rw [if_neg (by simp)]
  refine wpAny_bind (wpAny_alloc (wpAny_bind ?_))
  rw [List.forIn_cons]
  refine wpAny_bind (wpAny_bind (nsSet_new (Heap.get?_push_size _ rfl) fun h₁ hs t hD hsb => wpAny_pure ?_))
  dsimp only
  rw [List.forIn_nil]
  refine wpAny_pure (wpAny_bind (wpAny_pure ?_))
  rw [List.isEmpty_nil, if_pos rfl]
  refine wpAny_bind (wpAny_pure ?_)
  dsimp only at hD hsb ⊢
  have hsz1 : h₁.objs.size = s.heap.objs.size + 1 + 1 := by rw [hsb.1, Heap.size_push, Heap.size_push]
  have keep₁ : ∀ b o, s.heap.get? b = some o → h₁.get? b = some o := fun b o e =>
    (hsb.2 b (Nat.ne_of_lt (by rw [Heap.size_push]; exact Nat.lt_succ_of_lt (Heap.lt_size e)))).trans (Heap.get?_push_of_some _ (Heap.get?_push_of_some _ e))
  have hT : h₁.get? s.heap.objs.size = some { cls := .type "tuple", data := .seq [Value.int 0 s.toks, Value.none].toArray } :=
    (hsb.2 _ (Nat.ne_of_lt (by rw [Heap.size_push]; exact Nat.lt_succ_self _))).trans (Heap.get?_push_of_some _ (Heap.get?_push_size _ rfl))
  rw [Heap.size_push] at hD
  have hm₁ : h₁.Main mg c Pl ps := hm.keeps keep₁
  refine wpAny_makeTailN (s := { s with heap := h₁, toks := s.toks + 1 + 1 }) (env := mainEnv P c F) (c := c) (Pl := Pl) hfree hm₁.g rfl hm₁.code hnf (Nat.ne_of_lt hm.low.2) hm₁.bmod
    fun c' doc h₂ tk₃ hx hge hlt hok hrec _ => wpAny_bind (wpAny_standAt (wpAny_bind (wpAny_bindName (wpAny_storeName_local (env := mainEnv P c F) hloc
      ((hm₁.g.extBut hx (Nat.ne_of_lt hm.low.2)).push _) (fun h' hg' hs' => wpAny_pure ?_) rfl))))
  dsimp only at hg' hs' hge hx ⊢
  have hlP : Pl < s.heap.objs.size := hm.code.lt.2
  obtain ⟨bm, o, hbm, hne0, hneG, hneP, hbo, hrest⟩ := hm₁.bmod
  have hglt : mainGlobals < h₂.objs.size := (hm₁.g.extBut hx (Nat.ne_of_lt hm.low.2)).lt
  have hsz : s.heap.objs.size ≤ h₂.objs.size := by omega
  have hmain : h'.Main (fun y => if y = nameAt i then some (.ref h₂.objs.size) else mg y) c Pl (ps ++ #[rawInt pos.line, rawInt pos.col, .ref c']) :=
    ⟨hg', (hok.push _).sameBut hs' (Nat.ne_of_gt hm.low.1) (Nat.ne_of_gt hm.low.2), hm.low,
      ⟨bm, o, by simp only [Ne.symm hnb, if_false]; exact hbm, hne0, hneG, hneP, (hs'.2 _ hneG).trans (Heap.get?_push_of_some _ (hx _ _ hneP hbo)), hrest⟩⟩
  have keep : ∀ b o, b ≠ Pl → b ≠ mainGlobals → h₁.get? b = some o → h'.get? b = some o := fun b o hP hG e => (hs'.2 _ hG).trans (Heap.get?_push_of_some _ (hx _ _ hP e))
  have hsz' : s.heap.objs.size ≤ h'.objs.size := by rw [hs'.1, Heap.size_push]; omega
  have hG0 : mainGlobals < s.heap.objs.size := hm.g.lt
  refine k h' _ c' _ (X.rebind hnew hmain (fun b o hP hG e => keep b o hP hG (keep₁ b o e)) hsz' ?_ (kw_stable _ _))
  have hN := X.grows
  refine ⟨h₂.objs.size, c', s.heap.objs.size, s.heap.objs.size + 1, rfl, by omega, by omega, by omega, by omega, ⟨_, _, doc, (hs'.2 _ (Nat.ne_of_gt hglt)).trans (Heap.get?_push_size _ rfl), by rw [Heap.size_push]; rfl, ?_⟩, ⟨⟨_, _, _, keep _ _ (Nat.ne_of_gt hlP) (Nat.ne_of_gt hG0) hT, rfl⟩, ⟨_, _, hs, t, _, _, keep _ _ (Nat.ne_of_gt (Nat.lt_succ_of_lt hlP)) (Nat.ne_of_gt (Nat.lt_succ_of_lt hG0)) hD⟩⟩⟩
  exact (hrec.push _).at fun o e => (hs'.2 _ (Nat.ne_of_gt (Nat.lt_of_lt_of_le hG0 (Nat.le_trans (by rw [hsz1]; omega) hge)))).trans e
end
end Mine
end

-- part H8
section
open PySem PySem.W PyProof.Rows
namespace Mine
theorem afreshH8 : True := by
  w_top off
  trivial
noncomputable def stAt (i : Nat) : Stmt := match P.main.body[i]? with | some s => s | none => .Pass default
noncomputable def posAt (i : Nat) : Pos := match P.main.body[i]? with | some (.FunctionDef _ _ _ _ _ _ _ _ _ p) => p | _ => default

theorem body_eq : P.main.body = [stAt 0, stAt 1, stAt 2, stAt 3, stAt 4, stAt 5, stAt 6, stAt 7, stAt 8, stAt 9, stAt 10, stAt 11, stAt 12, stAt 13, stAt 14, stAt 15, stAt 16, stAt 17] := rfl

theorem def_eq {i : Nat} (h : i ∈ [2, 4, 6, 8, 9, 11, 12, 14, 15, 16, 17]) : stAt i = .FunctionDef (nameAt i) (paramsAt i) (bodyAt i) [] none [] (scopeAt i) none (nameAt i) (posAt i) := by
  simp only [List.mem_cons, List.not_mem_nil, or_false] at h
  rcases h with rfl | rfl | rfl | rfl | rfl | rfl | rfl | rfl | rfl | rfl | rfl <;> rfl

theorem name_eq {i : Nat} (h : i ∈ [0, 7, 10, 13]) : ∃ p' t k p pos, stAt i = .Assign [.Name "__name__" p'] (.Constant (.str t) k p) pos := by
  simp only [List.mem_cons, List.not_mem_nil, or_false] at h
  rcases h with rfl | rfl | rfl | rfl <;> exact ⟨_, _, _, _, _, rfl⟩

theorem b1_eq : ∃ es k1 k2 p0 p1 p2 p3 p4 p5 p6 p7 p8 p9 p' pos, stAt 1 = .Assign [.Name "b1_set" p'] (.Call (.Name "set" p0) [.BinOp (.List es p1) .Add (.Call (.Name "list" p2) [.Call (.Name "range" p3) [.Constant (.int 65024) k1 p4, .Constant (.int 65040) k2 p5] [] p6] [] p7) p8] [] p9) pos ∧
    intsOk es = true ∧ intsW es = [173, 847, 6150, 6155, 6156, 6157, 8203, 8204, 8205, 8288, 65279] := ⟨_, _, _, _, _, _, _, _, _, _, _, _, _, _, _, rfl, rfl, rfl⟩
theorem c9_eq : ∃ es k1 k2 p0 p1 p2 p3 p4 p5 p6 p7 p8 p9 p' pos, stAt 5 = .Assign [.Name "c9_set" p'] (.Call (.Name "set" p0) [.BinOp (.List es p1) .Add (.Call (.Name "list" p2) [.Call (.Name "range" p3) [.Constant (.int 917536) k1 p4, .Constant (.int 917632) k2 p5] [] p6] [] p7) p8] [] p9) pos ∧
    intsOk es = true ∧ intsW es = [917505] := ⟨_, _, _, _, _, _, _, _, _, _, _, _, _, _, _, rfl, rfl, rfl⟩
noncomputable def keys3 : List (Option Expr) := match P.main.body[3]? with | some (Stmt.Assign _ (Expr.Dict ks _ _) _) => ks | _ => []
noncomputable def vals3 : List Expr := match P.main.body[3]? with | some (Stmt.Assign _ (Expr.Dict _ vs _) _) => vs | _ => []
theorem tab_pairs : tabL = pairsW keys3 vals3 := by decide +kernel
theorem b3_eq : ∃ p' dpos pos, stAt 3 = .Assign [.Name "b3_exceptions" p'] (.Dict keys3 vals3 dpos) pos := ⟨_, _, _, rfl⟩
theorem b3_ok : litOk keys3 vals3 = true := by decide +kernel
theorem b3_all : keys3.all (·.isSome) = true := by decide +kernel
theorem b3_len : keys3.length = vals3.length := by decide +kernel
noncomputable def incr : List Int → Bool
  | a :: b :: r => decide (a < b) && incr (b :: r)
  | _ => true
theorem incr_lt : ∀ (l : List Int) (a : Int), incr (a :: l) = true → ∀ x ∈ l, a < x
  | [], _, _, x, hx => nomatch hx
  | b :: r, a, h, x, hx => by
    obtain ⟨h1, h2⟩ := Bool.and_eq_true_iff.mp h
    have hab : a < b := of_decide_eq_true h1
    rcases List.mem_cons.mp hx with rfl | hx
    · exact hab
    · exact Int.lt_trans hab (incr_lt r b h2 x hx)
theorem incr_nodup : ∀ l : List Int, incr l = true → l.Nodup
  | [], _ => List.nodup_nil
  | a :: r, h => by
    refine List.nodup_cons.mpr ⟨fun hm => Int.lt_irrefl a (incr_lt r a h a hm), incr_nodup r ?_⟩
    cases r with
    | nil => rfl
    | cons b r => exact (Bool.and_eq_true_iff.mp h).2
theorem tab_nodup : (tabL.map (·.1)).Nodup := incr_nodup _ (by decide +kernel)
theorem tab_len : tabL.length ≤ 100000 := by decide +kernel
theorem tab_ne : tabL ≠ [] := by decide +kernel

theorem scope_free {i : Nat} (h : i ∈ [2, 4, 6, 8, 9, 11, 12, 14, 15, 16, 17]) : ∀ x ∈ (scopeAt i).names, x.2 ≠ .free := by
  have : ([2, 4, 6, 8, 9, 11, 12, 14, 15, 16, 17].all fun i => (scopeAt i).names.all fun x => decide (x.2 ≠ .free)) = true := by decide +kernel
  exact fun x hx => of_decide_eq_true (List.all_eq_true.mp (List.all_eq_true.mp this i h) x hx)
theorem doc_none {i : Nat} (h : i ∈ [2, 4, 6, 8, 9, 11, 12, 14, 15, 16, 17]) : docOf (bodyAt i) = none := by
  simp only [List.mem_cons, List.not_mem_nil, or_false] at h
  rcases h with rfl | rfl | rfl | rfl | rfl | rfl | rfl | rfl | rfl | rfl | rfl <;> rfl
theorem name_local {i : Nat} (h : i ∈ [2, 4, 6, 8, 9, 11, 12, 14, 15, 16, 17]) : P.main.scope.names.lookup (nameAt i) = some .local := by
  have : ([2, 4, 6, 8, 9, 11, 12, 14, 15, 16, 17].all fun i => decide (P.main.scope.names.lookup (nameAt i) = some .local)) = true := by decide +kernel
  exact of_decide_eq_true (List.all_eq_true.mp this i h)
theorem name_qual {i : Nat} (h : i ∈ [2, 4, 6, 8, 9, 11, 12, 14, 15, 16, 17]) : qualnameIn { scope := P.main.scope, locals := mainGlobals, globals := mainGlobals, cells := [] } (nameAt i) (nameAt i) = nameAt i := by
  have : ([2, 4, 6, 8, 9, 11, 12, 14, 15, 16, 17].all fun i => decide (qualnameIn { scope := P.main.scope, locals := mainGlobals, globals := mainGlobals, cells := [] } (nameAt i) (nameAt i) = nameAt i)) = true := by decide +kernel
  exact of_decide_eq_true (List.all_eq_true.mp this i h)
theorem name_nb {i : Nat} (h : i ∈ [2, 4, 6, 8, 9, 11, 12, 14, 15, 16, 17]) : nameAt i ≠ "__builtins__" := by
  have : ([2, 4, 6, 8, 9, 11, 12, 14, 15, 16, 17].all fun i => decide (nameAt i ≠ "__builtins__")) = true := by decide +kernel
  exact of_decide_eq_true (List.all_eq_true.mp this i h)
end Mine
end

-- part H9
section
open PySem PySem.W PyProof.Rows
namespace Mine
theorem afreshH9 : True := by
  w_top off
  trivial
noncomputable def SetFact (w : World) (S : Int → Bool) (N : Nat) : Heap → Value → Prop := fun h v => ∃ sa m, v = .ref sa ∧ N ≤ sa ∧ h.SetOf (intKind P w) sa S m
noncomputable def TabFact (w : World) (N : Nat) : Heap → Value → Prop := fun h v => ∃ d, v = .ref d ∧ N ≤ d ∧ IntTab P w h d tabD
theorem set_stable (w : World) (S : Int → Bool) (N : Nat) : Stable N (SetFact w S N) := by
  rintro h h' v hk ⟨sa, m, rfl, hN, o, es, ep, t, e, r⟩
  exact ⟨sa, m, rfl, hN, o, es, ep, t, hk _ _ hN e, r⟩
theorem tab_stable (w : World) (N : Nat) : Stable N (TabFact w N) := by
  rintro h h' v hk ⟨d, rfl, hN, hne, kvs, ⟨o, es, ep, e, r⟩, f⟩
  exact ⟨d, rfl, hN, hne, kvs, ⟨o, es, ep, hk _ _ hN e, r⟩, f⟩

/-- what the top leaves -/
noncomputable def topFacts (w : World) (N : Nat) : List Fact :=
  [("law", FnFact 17 N), ("_law_marked", FnFact 16 N), ("_law_even", FnFact 15 N), ("_law_cells", FnFact 14 N), ("_strip_quoted_realnames", FnFact 12 N), ("_iter_escaped_chars", FnFact 11 N),
   ("bisect_right", KwFact 9 N), ("insort_right", KwFact 8 N), ("in_table_c9", FnFact 6 N), ("c9_set", SetFact w S9 N), ("map_table_b3", FnFact 4 N), ("b3_exceptions", TabFact w N), ("in_table_b1", FnFact 2 N), ("b1_set", SetFact w S1 N)]

section
variable {w : World} {A : Around} {E : Value → Shared → Prop} {s : Shared} {h₀ : Heap} {mg₀ mb mg : Str → Option Value} {c Pl F : Addr} {ps : Array Value} {L : List Fact} {Q : Flow → Shared → Prop}

theorem Md.ns {a : Addr} {m : Str → Option Value} (X : Md h₀ mg₀ c Pl s.heap mg ps L) (h1 : a ≠ Pl) (h2 : a ≠ mainGlobals) (hn : h₀.Ns a m) : s.heap.Ns a m := hn.at fun o => X.keep a o h1 h2

theorem step_name {i : Nat} (hi : i ∈ [0, 7, 10, 13]) (X : Md h₀ mg₀ c Pl s.heap mg ps L) (hnew : ("__name__" : Str) ∉ L.map (·.1))
    (k : ∀ h' mg' tk, Md h₀ mg₀ c Pl h' mg' ps L → Q .next { s with heap := h', toks := tk }) : wpAny (model P w) A (exec (stAt i) (mainEnv P c F)) Q E s := by
  obtain ⟨p', t, k', p, pos, e⟩ := name_eq hi
  rw [e]
  exact X.name_assign hnew rfl rfl k

theorem step_def {i : Nat} (hi : i ∈ [2, 4, 6, 11, 12, 14, 15, 16, 17]) (X : Md h₀ mg₀ c Pl s.heap mg ps L) (hnew : nameAt i ∉ L.map (·.1)) (hnf : codeAmong (posAt i) ps.toList = none)
    (k : ∀ h' mg' c' tk, Md h₀ mg₀ c Pl h' mg' (ps ++ #[rawInt (posAt i).line, rawInt (posAt i).col, .ref c']) ((nameAt i, FnFact i h₀.objs.size) :: L) → Q .next { s with heap := h', toks := tk }) :
    wpAny (model P w) A (exec (stAt i) (mainEnv P c F)) Q E s := by
  have hi' := (by decide : ∀ i ∈ [2, 4, 6, 11, 12, 14, 15, 16, 17], i ∈ [2, 4, 6, 8, 9, 11, 12, 14, 15, 16, 17]) i hi
  rw [def_eq hi']
  refine X.def_plain hnew ?_ (scope_free hi') (doc_none hi') (name_local hi') (name_qual hi') (name_nb hi') hnf k
  simp only [List.mem_cons, List.not_mem_nil, or_false] at hi
  rcases hi with rfl | rfl | rfl | rfl | rfl | rfl | rfl | rfl | rfl <;> exact fun _ => rfl

theorem step_kw {i : Nat} (hi : i ∈ [8, 9]) (X : Md h₀ mg₀ c Pl s.heap mg ps L) (hnew : nameAt i ∉ L.map (·.1)) (hnf : codeAmong (posAt i) ps.toList = none)
    (k : ∀ h' mg' c' tk, Md h₀ mg₀ c Pl h' mg' (ps ++ #[rawInt (posAt i).line, rawInt (posAt i).col, .ref c']) ((nameAt i, KwFact i h₀.objs.size) :: L) → Q .next { s with heap := h', toks := tk }) :
    wpAny (model P w) A (exec (stAt i) (mainEnv P c F)) Q E s := by
  have hi' := (by decide : ∀ i ∈ [8, 9], i ∈ [2, 4, 6, 8, 9, 11, 12, 14, 15, 16, 17]) i hi
  rw [def_eq hi']
  simp only [List.mem_cons, List.not_mem_nil, or_false] at hi
  rcases hi with rfl | rfl
  · exact X.def_kw hnew rfl rfl (fun _ => rfl) rfl (scope_free hi') (name_local hi') (name_qual hi') (name_nb hi') hnf k
  · exact X.def_kw hnew rfl rfl (fun _ => rfl) rfl (scope_free hi') (name_local hi') (name_qual hi') (name_nb hi') hnf k

theorem step_b1 (hh : A.handled = none) (X : Md h₀ mg₀ c Pl s.heap mg ps L) (hb : s.heap.Ns builtinsNs mb) (hmb : ∀ x : Str, x ≠ "__name__" → mb x = bootBuiltins x) (hnew : ("b1_set" : Str) ∉ L.map (·.1))
    (g1 : mg "set" = none) (g2 : mg "list" = none) (g3 : mg "range" = none)
    (k : ∀ h' mg' tk, Md h₀ mg₀ c Pl h' mg' ps (("b1_set", SetFact w S1 h₀.objs.size) :: L) → Q .next { s with heap := h', toks := tk }) : wpAny (model P w) A (exec (stAt 1) (mainEnv P c F)) Q E s := by
  obtain ⟨es, k1, k2, p0, p1, p2, p3, p4, p5, p6, p7, p8, p9, p', pos, e, h1, h2⟩ := b1_eq
  rw [e]
  refine X.obj_assign hnew rfl rfl (by decide) (set_stable w S1 _) (fun Q' hq => ?_) k rfl
  refine set_value (n := 16) (S := S1) hh rfl X.main.g hb g1 g2 g3 ((hmb _ (by decide)).trans boot_set) ((hmb _ (by decide)).trans boot_list) ((hmb _ (by decide)).trans boot_range) h1 (by rw [h2]; decide) (by decide) (by decide) (by decide) (fun k => ?_) fun h₁ tk v hv hle hk => ?_
  · rw [h2]
    show unseenL.any (· == k) = decide (k ∈ unseenL)
    rw [Bool.eq_iff_iff, List.any_eq_true, decide_eq_true_iff]
    exact ⟨fun ⟨x, hx, e⟩ => beq_iff_eq.mp e ▸ hx, fun h => ⟨k, h, beq_self_eq_true k⟩⟩
  · obtain ⟨sa, m, rfl, h1, h2⟩ := hv
    exact hq _ _ _ ⟨sa, m, rfl, Nat.le_trans X.grows h1, h2⟩ hle hk

theorem step_c9 (hh : A.handled = none) (X : Md h₀ mg₀ c Pl s.heap mg ps L) (hb : s.heap.Ns builtinsNs mb) (hmb : ∀ x : Str, x ≠ "__name__" → mb x = bootBuiltins x) (hnew : ("c9_set" : Str) ∉ L.map (·.1))
    (g1 : mg "set" = none) (g2 : mg "list" = none) (g3 : mg "range" = none)
    (k : ∀ h' mg' tk, Md h₀ mg₀ c Pl h' mg' ps (("c9_set", SetFact w S9 h₀.objs.size) :: L) → Q .next { s with heap := h', toks := tk }) : wpAny (model P w) A (exec (stAt 5) (mainEnv P c F)) Q E s := by
  obtain ⟨es, k1, k2, p0, p1, p2, p3, p4, p5, p6, p7, p8, p9, p', pos, e, h1, h2⟩ := c9_eq
  rw [e]
  refine X.obj_assign hnew rfl rfl (by decide) (set_stable w S9 _) (fun Q' hq => ?_) k rfl
  refine set_value (n := 96) (S := S9) hh rfl X.main.g hb g1 g2 g3 ((hmb _ (by decide)).trans boot_set) ((hmb _ (by decide)).trans boot_list) ((hmb _ (by decide)).trans boot_range) h1 (by rw [h2]; decide) (by decide) (by decide) (by decide) (fun k => ?_) fun h₁ tk v hv hle hk => ?_
  · rw [h2, Bool.eq_iff_iff, List.any_eq_true]
    unfold S9
    rw [Bool.or_eq_true, Bool.and_eq_true, decide_eq_true_iff, decide_eq_true_iff, decide_eq_true_iff]
    constructor
    · rintro ⟨x, hx, e⟩
      obtain rfl := beq_iff_eq.mp e
      simp only [List.cons_append, List.nil_append, List.mem_cons, List.mem_map, List.mem_range] at hx
      rcases hx with rfl | ⟨i, hi, rfl⟩
      · exact .inl rfl
      · right; omega
    · intro h
      refine ⟨k, ?_, beq_self_eq_true k⟩
      simp only [List.cons_append, List.nil_append, List.mem_cons, List.mem_map, List.mem_range]
      rcases h with h | h
      · exact .inl h
      · exact .inr ⟨(k - 917536).toNat, by omega, by omega⟩
  · obtain ⟨sa, m, rfl, h1, h2⟩ := hv
    exact hq _ _ _ ⟨sa, m, rfl, Nat.le_trans X.grows h1, h2⟩ hle hk

theorem step_b3 (X : Md h₀ mg₀ c Pl s.heap mg ps L) (hS : sysModules < h₀.objs.size) (hnew : ("b3_exceptions" : Str) ∉ L.map (·.1))
    (k : ∀ h' mg' tk, Md h₀ mg₀ c Pl h' mg' ps (("b3_exceptions", TabFact w h₀.objs.size) :: L) → Q .next { s with heap := h', toks := tk }) : wpAny (model P w) A (exec (stAt 3) (mainEnv P c F)) Q E s := by
  obtain ⟨p', dpos, pos, e⟩ := b3_eq
  have ht := tab_pairs
  have h1 := b3_ok
  have h2 := b3_all
  have h3 := b3_len
  rw [e]
  generalize keys3 = keys at *
  generalize vals3 = values at *
  refine X.obj_assign hnew rfl rfl (by decide) (tab_stable w _) (fun Q' hq => ?_) k rfl
  refine Dict_big (Nat.lt_of_lt_of_le hS X.grows) h1 h2 h3 (ht ▸ tab_ne) (ht ▸ tab_nodup) (ht ▸ tab_len) fun h' tk d T hd hle hk => ?_
  exact hq _ _ _ ⟨d, rfl, Nat.le_trans X.grows hd, by rw [← ht] at T; exact T⟩ hle hk
end
end Mine
end

-- part H10
section
open PySem PySem.W PyProof.Rows
namespace Mine
theorem afreshH10 : True := by
  w_top off
  trivial
theorem nn {x : Str} (ns : List Str) (h : decide (x ∉ ns) = true) : x ∉ ns := of_decide_eq_true h
theorem ctx_ (C : List Str) (ns : List Str) (h : decide (∀ y ∈ C, y ∉ ns) = true) : ∀ y ∈ C, y ∉ ns := of_decide_eq_true h
noncomputable def CtxB : List Str := ["set", "list", "range", "__name__"]
theorem ctx (ns : List Str) (h : decide (∀ y ∈ CtxB, y ∉ ns) = true) : ∀ y ∈ CtxB, y ∉ ns := of_decide_eq_true h

section
variable (w : World) (A : Around) (E : Value → Shared → Prop) (h₀ : Heap) (mg₀ : Str → Option Value) (c Pl F : Addr)
noncomputable def StepN (t : Stmt) : Prop := ∀ (s : Shared) (mg : Str → Option Value) (ps : Array Value) (L : List Fact) (Q : Flow → Shared → Prop), Md h₀ mg₀ c Pl s.heap mg ps L → (∀ y ∈ CtxB, y ∉ L.map (·.1)) →
  (∀ h' mg' tk, Md h₀ mg₀ c Pl h' mg' ps L → Q .next { s with heap := h', toks := tk }) → wpAny (model P w) A (exec t (mainEnv P c F)) Q E s
noncomputable def StepV (t : Stmt) (x : Str) (p : Heap → Value → Prop) : Prop := ∀ (s : Shared) (mg : Str → Option Value) (ps : Array Value) (L : List Fact) (Q : Flow → Shared → Prop), Md h₀ mg₀ c Pl s.heap mg ps L → x ∉ L.map (·.1) → (∀ y ∈ CtxB, y ∉ L.map (·.1)) →
  (∀ h' mg' tk, Md h₀ mg₀ c Pl h' mg' ps ((x, p) :: L) → Q .next { s with heap := h', toks := tk }) → wpAny (model P w) A (exec t (mainEnv P c F)) Q E s
noncomputable def StepD (t : Stmt) (pos : Pos) (x : Str) (p : Heap → Value → Prop) : Prop := ∀ (s : Shared) (mg : Str → Option Value) (ps : Array Value) (L : List Fact) (Q : Flow → Shared → Prop), Md h₀ mg₀ c Pl s.heap mg ps L → x ∉ L.map (·.1) → codeAmong pos ps.toList = none →
  (∀ h' mg' c' tk, Md h₀ mg₀ c Pl h' mg' (ps ++ #[rawInt pos.line, rawInt pos.col, .ref c']) ((x, p) :: L) → Q .next { s with heap := h', toks := tk }) → wpAny (model P w) A (exec t (mainEnv P c F)) Q E s
end

section
variable {w : World} {A : Around} {E : Value → Shared → Prop} {s : Shared} {mg mb : Str → Option Value} {c Pl F : Addr} {Q : Flow → Shared → Prop}
/-- the places of the made codes -/
noncomputable def psOf : List (Pos × Addr) → Array Value
  | [] => #[]
  | (p, c') :: r => psOf r ++ #[rawInt p.line, rawInt p.col, .ref c']
noncomputable def triple (x : Pos × Addr) : List Value := [rawInt x.1.line, rawInt x.1.col, .ref x.2]
theorem psOf_list : ∀ l : List (Pos × Addr), (psOf l).toList = l.reverse.flatMap triple
  | [] => rfl
  | (p, c') :: r => by rw [psOf, Array.toList_append, psOf_list r, List.reverse_cons, List.flatMap_append]; rfl
theorem among_none {pos : Pos} : ∀ l : List (Pos × Addr), (∀ x ∈ l, ((x.1.line : Int) == pos.line && (x.1.col : Int) == pos.col) = false) → codeAmong pos (l.flatMap triple) = none
  | [], _ => rfl
  | x :: r, h => by
    show (if ((x.1.line : Int) == pos.line && (x.1.col : Int) == pos.col) = true then some (Value.ref x.2) else codeAmong pos (r.flatMap triple)) = none
    rw [h x (List.mem_cons_self ..), if_neg Bool.false_ne_true]
    exact among_none r fun y hy => h y (List.mem_cons_of_mem _ hy)
theorem cps {pos : Pos} (l : List (Pos × Addr)) (ps : List Pos) (hl : l.map (·.1) = ps) (h : (ps.all fun p => !((p.line : Int) == pos.line && (p.col : Int) == pos.col)) = true) : codeAmong pos (psOf l).toList = none := by
  rw [psOf_list]
  refine among_none _ fun x hx => ?_
  have h1 := List.all_eq_true.mp h x.1 (hl ▸ List.mem_map_of_mem (List.mem_reverse.mp hx))
  revert h1; cases (((x.1.line : Int) == pos.line) && ((x.1.col : Int) == pos.col)) <;> simp
theorem chain {t0 t1 t2 t3 t4 t5 t6 t7 t8 t9 t10 t11 t12 t13 t14 t15 t16 t17 : Stmt} (X : Md s.heap mg c Pl s.heap mg #[] [])
    (S0 : StepN w A E s.heap mg c Pl F t0)
    (S1 : StepV w A E s.heap mg c Pl F t1 "b1_set" (SetFact w S1 s.heap.objs.size))
    (S2 : StepD w A E s.heap mg c Pl F t2 (posAt 2) (nameAt 2) (FnFact 2 s.heap.objs.size))
    (S3 : StepV w A E s.heap mg c Pl F t3 "b3_exceptions" (TabFact w s.heap.objs.size))
    (S4 : StepD w A E s.heap mg c Pl F t4 (posAt 4) (nameAt 4) (FnFact 4 s.heap.objs.size))
    (S5 : StepV w A E s.heap mg c Pl F t5 "c9_set" (SetFact w S9 s.heap.objs.size))
    (S6 : StepD w A E s.heap mg c Pl F t6 (posAt 6) (nameAt 6) (FnFact 6 s.heap.objs.size))
    (S7 : StepN w A E s.heap mg c Pl F t7)
    (S8 : StepD w A E s.heap mg c Pl F t8 (posAt 8) (nameAt 8) (KwFact 8 s.heap.objs.size))
    (S9 : StepD w A E s.heap mg c Pl F t9 (posAt 9) (nameAt 9) (KwFact 9 s.heap.objs.size))
    (S10 : StepN w A E s.heap mg c Pl F t10)
    (S11 : StepD w A E s.heap mg c Pl F t11 (posAt 11) (nameAt 11) (FnFact 11 s.heap.objs.size))
    (S12 : StepD w A E s.heap mg c Pl F t12 (posAt 12) (nameAt 12) (FnFact 12 s.heap.objs.size))
    (S13 : StepN w A E s.heap mg c Pl F t13)
    (S14 : StepD w A E s.heap mg c Pl F t14 (posAt 14) (nameAt 14) (FnFact 14 s.heap.objs.size))
    (S15 : StepD w A E s.heap mg c Pl F t15 (posAt 15) (nameAt 15) (FnFact 15 s.heap.objs.size))
    (S16 : StepD w A E s.heap mg c Pl F t16 (posAt 16) (nameAt 16) (FnFact 16 s.heap.objs.size))
    (S17 : StepD w A E s.heap mg c Pl F t17 (posAt 17) (nameAt 17) (FnFact 17 s.heap.objs.size))
    (k : ∀ h' mg' ps' tk, Md s.heap mg c Pl h' mg' ps' (topFacts w s.heap.objs.size) → Q .next { s with heap := h', toks := tk }) :
    wpAny (model P w) A (execs [t0, t1, t2, t3, t4, t5, t6, t7, t8, t9, t10, t11, t12, t13, t14, t15, t16, t17] (mainEnv P c F)) Q E s := by
  refine wpAny_execs_cons (S0 s _ _ _ _ X (ctx [] (by decide +kernel)) fun h1 mg1 tk1 X1 => ?_)
  refine wpAny_execs_cons (S1 { s with heap := h1, toks := tk1 } _ _ _ _ X1 (nn [] (by decide +kernel)) (ctx [] (by decide +kernel)) fun h2 mg2 tk2 X2 => ?_)
  refine wpAny_execs_cons (S2 { s with heap := h2, toks := tk2 } _ _ _ _ X2 (nn ["b1_set"] (by decide +kernel)) (cps (pos := posAt 2) [] [] rfl (by decide +kernel)) fun h3 mg3 c3 tk3 X3 => ?_)
  refine wpAny_execs_cons (S3 { s with heap := h3, toks := tk3 } _ _ _ _ X3 (nn [nameAt 2, "b1_set"] (by decide +kernel)) (ctx [nameAt 2, "b1_set"] (by decide +kernel)) fun h4 mg4 tk4 X4 => ?_)
  refine wpAny_execs_cons (S4 { s with heap := h4, toks := tk4 } _ _ _ _ X4 (nn ["b3_exceptions", nameAt 2, "b1_set"] (by decide +kernel)) (cps (pos := posAt 4) [(posAt 2, c3)] [posAt 2] rfl (by decide +kernel)) fun h5 mg5 c5 tk5 X5 => ?_)
  refine wpAny_execs_cons (S5 { s with heap := h5, toks := tk5 } _ _ _ _ X5 (nn [nameAt 4, "b3_exceptions", nameAt 2, "b1_set"] (by decide +kernel)) (ctx [nameAt 4, "b3_exceptions", nameAt 2, "b1_set"] (by decide +kernel)) fun h6 mg6 tk6 X6 => ?_)
  refine wpAny_execs_cons (S6 { s with heap := h6, toks := tk6 } _ _ _ _ X6 (nn ["c9_set", nameAt 4, "b3_exceptions", nameAt 2, "b1_set"] (by decide +kernel)) (cps (pos := posAt 6) [(posAt 4, c5), (posAt 2, c3)] [posAt 4, posAt 2] rfl (by decide +kernel)) fun h7 mg7 c7 tk7 X7 => ?_)
  refine wpAny_execs_cons (S7 { s with heap := h7, toks := tk7 } _ _ _ _ X7 (ctx [nameAt 6, "c9_set", nameAt 4, "b3_exceptions", nameAt 2, "b1_set"] (by decide +kernel)) fun h8 mg8 tk8 X8 => ?_)
  refine wpAny_execs_cons (S8 { s with heap := h8, toks := tk8 } _ _ _ _ X8 (nn [nameAt 6, "c9_set", nameAt 4, "b3_exceptions", nameAt 2, "b1_set"] (by decide +kernel)) (cps (pos := posAt 8) [(posAt 6, c7), (posAt 4, c5), (posAt 2, c3)] [posAt 6, posAt 4, posAt 2] rfl (by decide +kernel)) fun h9 mg9 c9 tk9 X9 => ?_)
  refine wpAny_execs_cons (S9 { s with heap := h9, toks := tk9 } _ _ _ _ X9 (nn [nameAt 8, nameAt 6, "c9_set", nameAt 4, "b3_exceptions", nameAt 2, "b1_set"] (by decide +kernel)) (cps (pos := posAt 9) [(posAt 8, c9), (posAt 6, c7), (posAt 4, c5), (posAt 2, c3)] [posAt 8, posAt 6, posAt 4, posAt 2] rfl (by decide +kernel)) fun h10 mg10 c10 tk10 X10 => ?_)
  refine wpAny_execs_cons (S10 { s with heap := h10, toks := tk10 } _ _ _ _ X10 (ctx [nameAt 9, nameAt 8, nameAt 6, "c9_set", nameAt 4, "b3_exceptions", nameAt 2, "b1_set"] (by decide +kernel)) fun h11 mg11 tk11 X11 => ?_)
  refine wpAny_execs_cons (S11 { s with heap := h11, toks := tk11 } _ _ _ _ X11 (nn [nameAt 9, nameAt 8, nameAt 6, "c9_set", nameAt 4, "b3_exceptions", nameAt 2, "b1_set"] (by decide +kernel)) (cps (pos := posAt 11) [(posAt 9, c10), (posAt 8, c9), (posAt 6, c7), (posAt 4, c5), (posAt 2, c3)] [posAt 9, posAt 8, posAt 6, posAt 4, posAt 2] rfl (by decide +kernel)) fun h12 mg12 c12 tk12 X12 => ?_)
  refine wpAny_execs_cons (S12 { s with heap := h12, toks := tk12 } _ _ _ _ X12 (nn [nameAt 11, nameAt 9, nameAt 8, nameAt 6, "c9_set", nameAt 4, "b3_exceptions", nameAt 2, "b1_set"] (by decide +kernel)) (cps (pos := posAt 12) [(posAt 11, c12), (posAt 9, c10), (posAt 8, c9), (posAt 6, c7), (posAt 4, c5), (posAt 2, c3)] [posAt 11, posAt 9, posAt 8, posAt 6, posAt 4, posAt 2] rfl (by decide +kernel)) fun h13 mg13 c13 tk13 X13 => ?_)
  refine wpAny_execs_cons (S13 { s with heap := h13, toks := tk13 } _ _ _ _ X13 (ctx [nameAt 12, nameAt 11, nameAt 9, nameAt 8, nameAt 6, "c9_set", nameAt 4, "b3_exceptions", nameAt 2, "b1_set"] (by decide +kernel)) fun h14 mg14 tk14 X14 => ?_)
  refine wpAny_execs_cons (S14 { s with heap := h14, toks := tk14 } _ _ _ _ X14 (nn [nameAt 12, nameAt 11, nameAt 9, nameAt 8, nameAt 6, "c9_set", nameAt 4, "b3_exceptions", nameAt 2, "b1_set"] (by decide +kernel)) (cps (pos := posAt 14) [(posAt 12, c13), (posAt 11, c12), (posAt 9, c10), (posAt 8, c9), (posAt 6, c7), (posAt 4, c5), (posAt 2, c3)] [posAt 12, posAt 11, posAt 9, posAt 8, posAt 6, posAt 4, posAt 2] rfl (by decide +kernel)) fun h15 mg15 c15 tk15 X15 => ?_)
  refine wpAny_execs_cons (S15 { s with heap := h15, toks := tk15 } _ _ _ _ X15 (nn [nameAt 14, nameAt 12, nameAt 11, nameAt 9, nameAt 8, nameAt 6, "c9_set", nameAt 4, "b3_exceptions", nameAt 2, "b1_set"] (by decide +kernel)) (cps (pos := posAt 15) [(posAt 14, c15), (posAt 12, c13), (posAt 11, c12), (posAt 9, c10), (posAt 8, c9), (posAt 6, c7), (posAt 4, c5), (posAt 2, c3)] [posAt 14, posAt 12, posAt 11, posAt 9, posAt 8, posAt 6, posAt 4, posAt 2] rfl (by decide +kernel)) fun h16 mg16 c16 tk16 X16 => ?_)
  refine wpAny_execs_cons (S16 { s with heap := h16, toks := tk16 } _ _ _ _ X16 (nn [nameAt 15, nameAt 14, nameAt 12, nameAt 11, nameAt 9, nameAt 8, nameAt 6, "c9_set", nameAt 4, "b3_exceptions", nameAt 2, "b1_set"] (by decide +kernel)) (cps (pos := posAt 16) [(posAt 15, c16), (posAt 14, c15), (posAt 12, c13), (posAt 11, c12), (posAt 9, c10), (posAt 8, c9), (posAt 6, c7), (posAt 4, c5), (posAt 2, c3)] [posAt 15, posAt 14, posAt 12, posAt 11, posAt 9, posAt 8, posAt 6, posAt 4, posAt 2] rfl (by decide +kernel)) fun h17 mg17 c17 tk17 X17 => ?_)
  refine wpAny_execs_cons (S17 { s with heap := h17, toks := tk17 } _ _ _ _ X17 (nn [nameAt 16, nameAt 15, nameAt 14, nameAt 12, nameAt 11, nameAt 9, nameAt 8, nameAt 6, "c9_set", nameAt 4, "b3_exceptions", nameAt 2, "b1_set"] (by decide +kernel)) (cps (pos := posAt 17) [(posAt 16, c17), (posAt 15, c16), (posAt 14, c15), (posAt 12, c13), (posAt 11, c12), (posAt 9, c10), (posAt 8, c9), (posAt 6, c7), (posAt 4, c5), (posAt 2, c3)] [posAt 16, posAt 15, posAt 14, posAt 12, posAt 11, posAt 9, posAt 8, posAt 6, posAt 4, posAt 2] rfl (by decide +kernel)) fun h18 mg18 c18 tk18 X18 => ?_)
  exact wpAny_execs_nil (k _ _ _ _ X18)
end
end Mine
end

-- part H11
section
open PySem PySem.W PyProof.Rows
namespace Mine
theorem afreshH11 : True := by
  w_top off
  trivial
section
variable {w : World} {A : Around} {E : Value → Shared → Prop} {s : Shared} {h₀ : Heap} {mg mg₀ mb : Str → Option Value} {c Pl F : Addr} {Q : Flow → Shared → Prop}

theorem notin_ctx {L : List Fact} (h : ∀ y ∈ CtxB, y ∉ L.map (·.1)) {y : Str} (hy : decide (y ∈ CtxB) = true) : y ∉ L.map (·.1) := h y (of_decide_eq_true hy)

theorem sN {i : Nat} (hi : i ∈ [0, 7, 10, 13]) : StepN w A E h₀ mg₀ c Pl F (stAt i) := fun s mg ps L Q X hc k =>
  @step_name w A E s h₀ mg₀ mg c Pl F ps L Q i hi X (notin_ctx hc (by decide +kernel)) k
theorem sD {i : Nat} (hi : i ∈ [2, 4, 6, 11, 12, 14, 15, 16, 17]) : StepD w A E h₀ mg₀ c Pl F (stAt i) (posAt i) (nameAt i) (FnFact i h₀.objs.size) := fun s mg ps L Q X hn hnf k =>
  @step_def w A E s h₀ mg₀ mg c Pl F ps L Q i hi X hn hnf k
theorem sK {i : Nat} (hi : i ∈ [8, 9]) : StepD w A E h₀ mg₀ c Pl F (stAt i) (posAt i) (nameAt i) (KwFact i h₀.objs.size) := fun s mg ps L Q X hn hnf k =>
  @step_kw w A E s h₀ mg₀ mg c Pl F ps L Q i hi X hn hnf k
theorem s3 (hS : sysModules < h₀.objs.size) : StepV w A E h₀ mg₀ c Pl F (stAt 3) "b3_exceptions" (TabFact w h₀.objs.size) := fun s mg ps L Q X hn _ k =>
  @step_b3 w A E s h₀ mg₀ mg c Pl F ps L Q X hS hn k
theorem s1 (hh : A.handled = none) (hlo : builtinsNs ≠ Pl) (hb : h₀.Ns builtinsNs mb) (hmb : ∀ x : Str, x ≠ "__name__" → mb x = bootBuiltins x) (g1 : mg₀ "set" = none) (g2 : mg₀ "list" = none) (g3 : mg₀ "range" = none) :
    StepV w A E h₀ mg₀ c Pl F (stAt 1) "b1_set" (SetFact w S1 h₀.objs.size) := fun s mg ps L Q X hn hc k =>
  @step_b1 w A E s h₀ mg₀ mb mg c Pl F ps L Q hh X (hb.at fun o => X.keep _ o hlo (by decide)) hmb hn ((X.others "set" (by decide) (notin_ctx hc (by decide +kernel))).trans g1) ((X.others "list" (by decide) (notin_ctx hc (by decide +kernel))).trans g2) ((X.others "range" (by decide) (notin_ctx hc (by decide +kernel))).trans g3) k
theorem s5 (hh : A.handled = none) (hlo : builtinsNs ≠ Pl) (hb : h₀.Ns builtinsNs mb) (hmb : ∀ x : Str, x ≠ "__name__" → mb x = bootBuiltins x) (g1 : mg₀ "set" = none) (g2 : mg₀ "list" = none) (g3 : mg₀ "range" = none) :
    StepV w A E h₀ mg₀ c Pl F (stAt 5) "c9_set" (SetFact w S9 h₀.objs.size) := fun s mg ps L Q X hn hc k =>
  @step_c9 w A E s h₀ mg₀ mb mg c Pl F ps L Q hh X (hb.at fun o => X.keep _ o hlo (by decide)) hmb hn ((X.others "set" (by decide) (notin_ctx hc (by decide +kernel))).trans g1) ((X.others "list" (by decide) (notin_ctx hc (by decide +kernel))).trans g2) ((X.others "range" (by decide) (notin_ctx hc (by decide +kernel))).trans g3) k

theorem top_walk (hh : A.handled = none) (hm : s.heap.Main mg c Pl #[]) (hS : sysModules < s.heap.objs.size) (hlo : builtinsNs ≠ Pl) (hb : s.heap.Ns builtinsNs mb) (hmb : ∀ x : Str, x ≠ "__name__" → mb x = bootBuiltins x)
    (g1 : mg "set" = none) (g2 : mg "list" = none) (g3 : mg "range" = none)
    (k : ∀ h' mg' ps' tk, Md s.heap mg c Pl h' mg' ps' (topFacts w s.heap.objs.size) → Q .next { s with heap := h', toks := tk }) :
    wpAny (model P w) A (execs P.main.body (mainEnv P c F)) Q E s := by
  have X0 : Md s.heap mg c Pl s.heap mg #[] [] := ⟨hm, fun _ _ _ _ e => e, (fun _ h => nomatch h), (fun _ h => nomatch h), fun _ _ _ => rfl, Nat.le_refl _, hm.code.lt.2, hm.g.lt⟩
  rw [body_eq]
  have z0 : StepN w A E s.heap mg c Pl F (stAt 0) := @sN w A E s.heap mg c Pl F 0 (by decide)
  have z1 : StepV w A E s.heap mg c Pl F (stAt 1) "b1_set" (SetFact w S1 s.heap.objs.size) := @s1 w A E s.heap mg mb c Pl F hh hlo hb hmb g1 g2 g3
  have z2 : StepD w A E s.heap mg c Pl F (stAt 2) (posAt 2) (nameAt 2) (FnFact 2 s.heap.objs.size) := @sD w A E s.heap mg c Pl F 2 (by decide)
  have z3 : StepV w A E s.heap mg c Pl F (stAt 3) "b3_exceptions" (TabFact w s.heap.objs.size) := @s3 w A E s.heap mg c Pl F hS
  have z4 : StepD w A E s.heap mg c Pl F (stAt 4) (posAt 4) (nameAt 4) (FnFact 4 s.heap.objs.size) := @sD w A E s.heap mg c Pl F 4 (by decide)
  have z5 : StepV w A E s.heap mg c Pl F (stAt 5) "c9_set" (SetFact w S9 s.heap.objs.size) := @s5 w A E s.heap mg mb c Pl F hh hlo hb hmb g1 g2 g3
  have z6 : StepD w A E s.heap mg c Pl F (stAt 6) (posAt 6) (nameAt 6) (FnFact 6 s.heap.objs.size) := @sD w A E s.heap mg c Pl F 6 (by decide)
  have z7 : StepN w A E s.heap mg c Pl F (stAt 7) := @sN w A E s.heap mg c Pl F 7 (by decide)
  have z8 : StepD w A E s.heap mg c Pl F (stAt 8) (posAt 8) (nameAt 8) (KwFact 8 s.heap.objs.size) := @sK w A E s.heap mg c Pl F 8 (by decide)
  have z9 : StepD w A E s.heap mg c Pl F (stAt 9) (posAt 9) (nameAt 9) (KwFact 9 s.heap.objs.size) := @sK w A E s.heap mg c Pl F 9 (by decide)
  have z10 : StepN w A E s.heap mg c Pl F (stAt 10) := @sN w A E s.heap mg c Pl F 10 (by decide)
  have z11 : StepD w A E s.heap mg c Pl F (stAt 11) (posAt 11) (nameAt 11) (FnFact 11 s.heap.objs.size) := @sD w A E s.heap mg c Pl F 11 (by decide)
  have z12 : StepD w A E s.heap mg c Pl F (stAt 12) (posAt 12) (nameAt 12) (FnFact 12 s.heap.objs.size) := @sD w A E s.heap mg c Pl F 12 (by decide)
  have z13 : StepN w A E s.heap mg c Pl F (stAt 13) := @sN w A E s.heap mg c Pl F 13 (by decide)
  have z14 : StepD w A E s.heap mg c Pl F (stAt 14) (posAt 14) (nameAt 14) (FnFact 14 s.heap.objs.size) := @sD w A E s.heap mg c Pl F 14 (by decide)
  have z15 : StepD w A E s.heap mg c Pl F (stAt 15) (posAt 15) (nameAt 15) (FnFact 15 s.heap.objs.size) := @sD w A E s.heap mg c Pl F 15 (by decide)
  have z16 : StepD w A E s.heap mg c Pl F (stAt 16) (posAt 16) (nameAt 16) (FnFact 16 s.heap.objs.size) := @sD w A E s.heap mg c Pl F 16 (by decide)
  have z17 : StepD w A E s.heap mg c Pl F (stAt 17) (posAt 17) (nameAt 17) (FnFact 17 s.heap.objs.size) := @sD w A E s.heap mg c Pl F 17 (by decide)
  generalize stAt 0 = t0 at z0 ⊢; generalize stAt 1 = t1 at z1 ⊢; generalize stAt 2 = t2 at z2 ⊢; generalize stAt 3 = t3 at z3 ⊢; generalize stAt 4 = t4 at z4 ⊢; generalize stAt 5 = t5 at z5 ⊢; generalize stAt 6 = t6 at z6 ⊢; generalize stAt 7 = t7 at z7 ⊢; generalize stAt 8 = t8 at z8 ⊢; generalize stAt 9 = t9 at z9 ⊢; generalize stAt 10 = t10 at z10 ⊢; generalize stAt 11 = t11 at z11 ⊢; generalize stAt 12 = t12 at z12 ⊢; generalize stAt 13 = t13 at z13 ⊢; generalize stAt 14 = t14 at z14 ⊢; generalize stAt 15 = t15 at z15 ⊢; generalize stAt 16 = t16 at z16 ⊢; generalize stAt 17 = t17 at z17 ⊢
  exact @chain w A E s mg c Pl F Q t0 t1 t2 t3 t4 t5 t6 t7 t8 t9 t10 t11 t12 t13 t14 t15 t16 t17 X0 z0 z1 z2 z3 z4 z5 z6 z7 z8 z9 z10 z11 z12 z13 z14 z15 z16 z17 k
end
end Mine
end

-- part H12
section
open PySem PySem.W PyProof.Rows
namespace Mine
theorem afreshH12 : True := by
  w_top off
  trivial
theorem behind_eq : behindTheImports P = P.main.body := rfl
theorem no_anns : hasAnns P.main.body = false := by decide +kernel
theorem no_doc : docOf P.main.body = none := rfl

/-- what the top needs of the booted heap -/
structure Booted (h : Heap) (mg mb : Str → Option Value) : Prop where
  g : h.Ns mainGlobals mg
  b : h.Ns builtinsNs mb
  builtins : ∀ x : Str, x ≠ "__name__" → mb x = bootBuiltins x
  bmod : ∃ bm o, mg "__builtins__" = some (.ref bm) ∧ bm ≠ builtinsNs ∧ bm ≠ mainGlobals ∧ h.get? bm = some o ∧ o.cls = .type "module" ∧ o.dict = some builtinsNs ∧ o.data = .plain
  big : sysModules < h.objs.size
  g1 : mg "set" = none
  g2 : mg "list" = none
  g3 : mg "range" = none

/-- what the top leaves -/
noncomputable def Left (w : World) (s₀ : Shared) (mg₀ : Str → Option Value) (s : Shared) : Prop :=
  ∃ h₀ h c Pl mg ps tk, s = { s₀ with heap := h, toks := tk } ∧ Md h₀ mg₀ c Pl h mg ps (topFacts w h₀.objs.size) ∧ (∀ b o, s₀.heap.get? b = some o → h₀.get? b = some o) ∧ s₀.heap.objs.size ≤ Pl ∧ s₀.heap.objs.size ≤ h₀.objs.size

theorem top_tree {w : World} {s : Shared} {mg mb : Str → Option Value} (B : Booted s.heap mg mb) (hg : s.gens = #[]) :
    wpAny (model P w) callerA (topStub P).cur (fun fin s' => ∃ f, fin = .done f ∧ (Left w s mg s' ∧ s'.gens = #[])) (fun _ _ => False) s := by
  show wpAny (model P w) callerA (do
      let code ← moduleCode P.main
      let frame ← newBodyFrame code mainNs mainNs
      let _ ← run (.body (behindTheImports P) { scope := P.main.scope, locals := mainNs, globals := mainNs, cells := [], code, frame := some frame })
      ret .none) _ _ _
  refine wpAny_bind (wpAny_moduleCode fun c Pl h₁ tk₁ hk₁ hc hPl hcode => ?_)
  unfold newBodyFrame
  refine wpAny_bind (wpAny_bind (wpAny_nsGet (B.g.keeps hk₁) (wpAny_alloc ?_)))
  obtain ⟨bm, o, e1, e2, e3, e4, e5⟩ := B.bmod
  have hglt := B.g.lt
  have hlow : builtinsNs < mainGlobals := by decide
  generalize hX : ({ cls := Value.type "frame", slots := _ } : Obj) = X
  have k2 : ∀ b o, s.heap.get? b = some o → (h₁.push X).get? b = some o := fun b o e => Heap.get?_push_of_some _ (hk₁ b o e)
  have hz : s.heap.objs.size ≤ h₁.objs.size := Nat.le_trans hc (Nat.le_of_lt hcode.lt.1)
  have hm : (h₁.push X).Main mg c Pl #[] := ⟨B.g.keeps k2, hcode.push _, ⟨Nat.lt_of_lt_of_le hglt hc, Nat.lt_of_lt_of_le hglt hPl⟩,
    ⟨bm, o, e1, e2, e3, Nat.ne_of_lt (Nat.lt_of_lt_of_le (Heap.lt_size e4) hPl), k2 _ _ e4, e5⟩⟩
  refine wpAny_bind (wpAny_run (codeAny_mono (codeAny_body (R := fun r s' => (∃ f, r = .ok f) ∧ Left w s mg s' ∧ s'.gens = #[]) no_anns no_doc (wpAny_mono (E := fun _ _ => False) ?_ (fun _ _ x => x) fun _ _ x => x.elim)) ?_))
  · show wpAny (model P w) _ (execs P.main.body (mainEnv P c h₁.objs.size)) _ _ { s with heap := h₁.push X, toks := tk₁ }
    refine @top_walk w _ _ { s with heap := h₁.push X, toks := tk₁ } mg mb c Pl h₁.objs.size _ rfl hm ?_ ?_ (B.b.keeps k2) B.builtins B.g1 B.g2 B.g3 fun h' mg' ps' tk X => ⟨⟨_, rfl⟩, ⟨_, h', c, Pl, mg', ps', tk, rfl, X, k2, hPl, ?_⟩, hg⟩
    · show _ < (h₁.push X).objs.size
      rw [Heap.size_push]; exact Nat.lt_of_lt_of_le B.big (Nat.le_succ_of_le hz)
    · exact Nat.ne_of_lt (Nat.lt_trans hlow hm.low.2)
    · dsimp only; rw [Heap.size_push]; omega
  · rintro r s' ⟨⟨f, rfl⟩, hL, hg'⟩
    exact wpAny_pure ⟨_, rfl, hL, hg'⟩
end Mine
end

-- part H13
section
open PySem PySem.W PyProof.Rows
namespace Mine
theorem afreshH13 : True := by
  w_top off
  trivial
theorem opening_eq : opening P = plainProg P.main.scope.names := rfl
theorem no_imports : bearImports P.main.body = false := by decide +kernel
theorem mods_nil : importedModules P.main.body = [] := importedModules_nil _ no_imports

theorem opened (w : World) : (∃ s, AfterRun (opening P) w s) ∧ ∀ s, AfterRun (opening P) w s → ∃ s₀, fenceModules? P s = some s₀ ∧ s₀.gens = #[] ∧ s₀.heap = boot_heap w.params ∧ s₀.asleep := by
  have h := boot_open (p := P) (N := 600) opening_eq rfl (fenceModules_id P no_imports) w
  rw [← table_eq_tree] at h
  obtain ⟨s₀, h1, e⟩ := Option.map_eq_some_iff.mp h
  obtain ⟨s, h4, h5⟩ := Option.bind_eq_some_iff.mp h1
  have A := AfterImport.of_importEnds h4
  refine ⟨⟨s, A⟩, fun s' hs' => ?_⟩
  obtain rfl : s' = s := AfterImport.unique hs' A
  exact ⟨s₀, h5, congrArg (fun x => x.2.1) e, congrArg (fun x => x.1) e, Shared.asleep_of_life (fence_lifeW h5) A.life⟩

theorem isNs_of {h : Heap} {a : Addr} {o : Obj} {es : Array DictEntry} {n : Nat} (ho : h.get? a = some o) (hd : o.data = .dict es n) (hk : es.toList.all (fun e => match e.key with | .str _ _ => true | _ => false) = true) : h.isNs a = true := by
  unfold Heap.isNs
  rw [ho]
  simp only [hd]
  rw [← Array.all_toList]; exact hk

set_option maxRecDepth 100000 in
theorem boot_main (pr : Params) : (boot_heap pr).isNs mainGlobals = true := isNs_of rfl rfl rfl
set_option maxRecDepth 100000 in
theorem boot_blt (pr : Params) : (boot_heap pr).isNs builtinsNs = true := isNs_of rfl rfl rfl
theorem boot_stat (pr : Params) : (boot_heap pr).isNs cStatics = true := isNs_of rfl rfl rfl
theorem boot_mods (pr : Params) : (boot_heap pr).isNs sysModules = true := isNs_of rfl rfl rfl
set_option maxRecDepth 100000 in
theorem boot_view (pr : Params) : (boot_heap pr).bltView = bltViewBooted := rfl
theorem boot_names (pr : Params) : (boot_heap pr).nsKeys mainGlobals = (["__name__", "__doc__", "__package__", "__loader__", "__spec__", "__annotations__", "__builtins__", "__file__", "__cached__"] : List Str) := rfl
theorem boot_stats (pr : Params) : (boot_heap pr).nsKeys cStatics = [] := rfl
theorem boot_bm (pr : Params) : (boot_heap pr).nsMap mainGlobals "__builtins__" = some (.ref 4) := rfl
theorem boot_mod4 (pr : Params) : ∃ o, (boot_heap pr).get? 4 = some o ∧ o.cls = .type "module" ∧ o.dict = some builtinsNs ∧ o.data = .plain := ⟨_, rfl, rfl, rfl, rfl⟩
theorem boot_pylong (pr : Params) : (boot_heap pr).nsMap sysModules "_pylong" = none := rfl
theorem boot_ann (pr : Params) : (boot_heap pr).nsMap mainGlobals "__annotations__" = some (.ref 6) := rfl

theorem boot_free (pr : Params) {x : Str} (h : decide (x ∈ startupNames) = false) : (boot_heap pr).nsMap mainGlobals x = none :=
  Heap.nsMap_none (by rw [boot_names]; exact of_decide_eq_false h)

theorem booted (pr : Params) : Booted (boot_heap pr) ((boot_heap pr).nsMap mainGlobals) ((boot_heap pr).nsMap builtinsNs) where
  g := .of_isNs (boot_main pr)
  b := .of_isNs (boot_blt pr)
  builtins := fun x hx => Heap.of_bltView (boot_blt pr) (boot_view pr) x hx
  bmod := let ⟨o, h1, h2, h3, h4⟩ := boot_mod4 pr; ⟨4, o, boot_bm pr, by decide, by decide, h1, h2, h3, h4⟩
  big := (Heap.Ns.of_isNs (boot_mods pr)).lt
  g1 := boot_free pr (by decide +kernel)
  g2 := boot_free pr (by decide +kernel)
  g3 := boot_free pr (by decide +kernel)
end Mine
end

-- part H14
section
open PySem PySem.W PyProof.Rows
namespace Mine
theorem afreshH14 : True := by
  w_top off
  trivial
section
variable {w : World} {s₀ s : Shared}

/-- what holds of the heap behind the top -/
structure After (w : World) (s₀ : Shared) (h : Heap) (mg : Str → Option Value) : Prop where
  g : h.Ns mainGlobals mg
  keep : ∀ b o, b ≠ mainGlobals → s₀.heap.get? b = some o → h.get? b = some o
  bmod : ∃ bm o, mg "__builtins__" = some (.ref bm) ∧ h.get? bm = some o ∧ o.cls = .type "module" ∧ o.dict = some builtinsNs ∧ o.data = .plain
  others : ∀ x : Str, x ≠ "__name__" → x ∉ (topFacts w 0).map (·.1) → mg x = (boot_heap w.params).nsMap mainGlobals x
  held : ∃ N, ∀ p ∈ topFacts w N, ∃ v, mg p.1 = some v ∧ p.2 h v

theorem Left.after (L : Left w s₀ ((boot_heap w.params).nsMap mainGlobals) s) : ∃ mg, After w s₀ s.heap mg ∧ s.os = s₀.os := by
  obtain ⟨h₀, h, c, Pl, mg, ps, tk, rfl, X, k0, hPl, hsz⟩ := L
  obtain ⟨bm, o, b1, _, _, _, b2, b3⟩ := X.main.bmod
  exact ⟨mg, ⟨X.main.g, fun b o hG e => X.keep b o (Nat.ne_of_lt (Nat.lt_of_lt_of_le (Heap.lt_size e) hPl)) hG (k0 b o e), ⟨bm, o, b1, b2, b3⟩, X.others, ⟨_, X.held⟩⟩, rfl⟩

variable {mg : Str → Option Value} (X : After w s₀ s.heap mg) (hb : s₀.heap = boot_heap w.params)
include X hb

theorem After.ns {a : Addr} (hne : a ≠ mainGlobals) (h : (boot_heap w.params).isNs a = true) : s.heap.Ns a ((boot_heap w.params).nsMap a) :=
  (Heap.Ns.of_isNs h).at fun o e => X.keep a o hne (hb ▸ e)
theorem After.same {a : Addr} (hne : a ≠ mainGlobals) (h : (boot_heap w.params).isNs a = true) : s.heap.get? a = (boot_heap w.params).get? a := by
  obtain ⟨o, es, ep, e, _⟩ := Heap.Ns.of_isNs h
  rw [e]; exact X.keep a o hne (hb ▸ e)

omit hb in
theorem After.name_of {x : Str} {v : Value} (hv : mg x = some v) : x ∈ startupNames ∨ x ∈ P.boundNames := by
  by_cases h1 : x = "__name__"
  · exact .inl (by rw [h1]; decide)
  by_cases h2 : x ∈ (topFacts w 0).map (·.1)
  · right
    have : (["law", "_law_marked", "_law_even", "_law_cells", "_strip_quoted_realnames", "_iter_escaped_chars", "bisect_right", "insort_right", "in_table_c9", "c9_set", "map_table_b3", "b3_exceptions", "in_table_b1", "b1_set"] : List Str).all (fun y => decide (y ∈ P.boundNames)) = true := by decide +kernel
    exact of_decide_eq_true (List.all_eq_true.mp this x h2)
  · left
    rw [X.others x h1 h2] at hv
    by_cases hk : x ∈ (boot_heap w.params).nsKeys mainGlobals
    · rw [boot_names] at hk; exact hk
    · rw [Heap.nsMap_none hk] at hv; cases hv

omit hb in
theorem After.free {x : Str} (h1 : x ∉ nm0) (h2 : x ∉ bootMainNames) : mg x = none := by
  have h3 : x ≠ "__name__" := fun e => h2 (by rw [e]; decide)
  rw [X.others x h3 (fun h => h1 ?_)]
  · exact Heap.nsMap_none (by rw [boot_names]; exact h2)
  · have : (["law", "_law_marked", "_law_even", "_law_cells", "_strip_quoted_realnames", "_iter_escaped_chars", "bisect_right", "insort_right", "in_table_c9", "c9_set", "map_table_b3", "b3_exceptions", "in_table_b1", "b1_set"] : List Str).all (fun y => decide (y ∈ nm0)) = true := by decide +kernel
    exact of_decide_eq_true (List.all_eq_true.mp this x h)

theorem After.seer : s.heap.NoSeer where
  statics := ⟨_, X.ns hb (by decide) (boot_stat _), Heap.nsMap_none (by rw [boot_stats]; exact List.not_mem_nil), Heap.nsMap_none (by rw [boot_stats]; exact List.not_mem_nil)⟩
  mods := ⟨_, X.ns hb (by decide) (boot_mods _), boot_pylong _⟩
  imp := ⟨_, X.ns hb (by decide) (boot_blt _), fun x hx => Heap.of_bltView (boot_blt _) (boot_view _) x hx⟩
  main := let ⟨bm, o, h1, h2, h3, h4, _⟩ := X.bmod; ⟨mg, bm, o, X.g, h1, h2, h3, h4⟩

theorem After.glob : GlobM mg ((boot_heap w.params).nsMap builtinsNs) s.heap where
  g := X.g
  b := X.ns hb (by decide) (boot_blt _)
  builtins := fun x hx => Heap.of_bltView (boot_blt _) (boot_view _) x hx
  nolimit := ⟨_, X.ns hb (by decide) (boot_stat _), Heap.nsMap_none (by rw [boot_stats]; exact List.not_mem_nil)⟩
  made := fun _ h => nomatch h
  bound := fun _ h => nomatch h
  free := fun x h1 h2 => X.free h1 h2
  digits := ⟨_, X.ns hb (by decide) (boot_stat _), Heap.nsMap_none (by rw [boot_stats]; exact List.not_mem_nil)⟩
  held := fun _ h => nomatch h
  seer := X.seer hb

omit hb in
theorem After.fn {i : Nat} {x : Str} (h : ∀ N, (x, FnFact i N) ∈ topFacts w N) : ∃ a cd, mg x = some (.ref a) ∧ FnAt i s.heap a cd .none .none := by
  obtain ⟨N, hN⟩ := X.held
  obtain ⟨v, e, a, c', rfl, _, _, r⟩ := hN _ (h N)
  exact ⟨a, _, e, r⟩
omit hb in
theorem After.kw {i : Nat} {x : Str} (h : ∀ N, (x, KwFact i N) ∈ topFacts w N) : ∃ a cd T D, mg x = some (.ref a) ∧ FnAt i s.heap a cd (.ref T) (.ref D) ∧ KwD s.heap T D := by
  obtain ⟨N, hN⟩ := X.held
  obtain ⟨v, e, a, c', T, D, rfl, _, _, _, _, r⟩ := hN _ (h N)
  exact ⟨a, _, T, D, e, r⟩
omit hb in
theorem After.set {S : Int → Bool} {x : Str} (h : ∀ N, (x, SetFact w S N) ∈ topFacts w N) : ∃ sa n, mg x = some (.ref sa) ∧ s.heap.SetOf (intKind P w) sa S n := by
  obtain ⟨N, hN⟩ := X.held
  obtain ⟨v, e, a, n, rfl, _, r⟩ := hN _ (h N)
  exact ⟨a, n, e, r⟩
omit hb in
theorem After.tab {x : Str} (h : ∀ N, (x, TabFact w N) ∈ topFacts w N) : ∃ d, mg x = some (.ref d) ∧ IntTab P w s.heap d tabD := by
  obtain ⟨N, hN⟩ := X.held
  obtain ⟨v, e, d, rfl, _, r⟩ := hN _ (h N)
  exact ⟨d, e, r⟩

theorem After.top : TopOk w tabD mg ((boot_heap w.params).nsMap builtinsNs) s.heap where
  G := X.glob hb
  b1 := X.set fun N => by simp [topFacts]
  c9 := X.set fun N => by simp [topFacts]
  b3 := X.tab fun N => by simp [topFacts]
  f2 := X.fn fun N => by simp [topFacts]
  f4 := X.fn fun N => by simp [topFacts]
  f6 := X.fn fun N => by simp [topFacts]
  f8 := X.kw fun N => by simp [topFacts]
  f9 := X.kw fun N => by simp [topFacts]
  f11 := X.fn fun N => by simp [topFacts]
  f12 := X.fn fun N => by simp [topFacts]
  f14 := X.fn fun N => by simp [topFacts]
  f15 := X.fn fun N => by simp [topFacts]
  f16 := X.fn fun N => by simp [topFacts]

omit hb in
theorem After.law : ∃ a cd, mg "law" = some (.ref a) ∧ FnAt 17 s.heap a cd .none .none := X.fn fun N => by simp [topFacts]
end
end Mine
end

-- part H15
section
open PySem PySem.W PyProof.Rows
namespace Mine
theorem afreshH15 : True := by
  w_top off
  trivial
section
variable {w : World} {s₀ s : Shared} {mg : Str → Option Value}

theorem same_static {h h' : Heap} (e : h'.get? cStatics = h.get? cStatics) (k : Str) : staticOf h' k = staticOf h k := by unfold staticOf; rw [e]
theorem same_builtin {h h' : Heap} (e : h'.get? builtinsNs = h.get? builtinsNs) (k : Str) : builtinOf h' k = builtinOf h k := by unfold builtinOf; rw [e]

theorem After.names (X : After w s₀ s.heap mg) (x : Str) : globalOf s.heap x = mg x := Claim2Try.globalOf_of_ns X.g x

theorem top_ran (hb : s₀.heap = boot_heap w.params) (X : After w s₀ s.heap mg) (hos : s.os = s₀.os) (hg : s.gens = #[]) (hl : s.heap.life = s₀.heap.life)
    (hrun : ∃ n t, schedN (denote table) P w n (.single s₀ (topStub P)) = .running (.single s t) ∧ through t = true) : TopRan P w s₀ s := by
  have es := X.same hb (a := cStatics) (by decide) (boot_stat _)
  have eb := X.same hb (a := builtinsNs) (by decide) (boot_blt _)
  have st : ∀ k, staticOf s.heap k = none := fun k => by
    rw [same_static es k, Pin.staticOf_eq (boot_stat _)]
    exact Heap.nsMap_none (by rw [boot_stats]; exact List.not_mem_nil)
  refine ⟨hrun, hl, Shared.rest_eq hos, fun b o e hn => X.keep b o (fun h => hn (.inl h)) e, ?_, ?_, Pin.keysAreStrs_of_ns X.g, ?_, ?_, ?_, ?_, ?_⟩
  · intro key v hv
    rw [st] at hv; cases hv
  · intro key
    left
    rw [st, hb, Pin.staticOf_eq (boot_stat _)]
    exact (Heap.nsMap_none (by rw [boot_stats]; exact List.not_mem_nil)).symm
  · intro x hx
    rw [same_builtin eb x]
    exact (Pin.builtinOf_eq (boot_blt _) x).trans (Heap.of_bltView (boot_blt _) (boot_view _) x hx)
  · obtain ⟨bm, o, h1, h2, h3, h4, _⟩ := X.bmod
    exact ⟨bm, o, (X.names _).trans h1, h2, h3, h4⟩
  · intro g hgm
    rw [hg] at hgm; simp at hgm
  · intro x v hv
    rw [X.names] at hv
    exact X.name_of hv
  · intro x hx
    have h1 : decide (x ≠ "__name__" ∧ x ∉ (topFacts w 0).map (·.1)) = true := by
      have : laidNames.all (fun x => decide (x ≠ "__name__" ∧ x ∉ (["law", "_law_marked", "_law_even", "_law_cells", "_strip_quoted_realnames", "_iter_escaped_chars", "bisect_right", "insort_right", "in_table_c9", "c9_set", "map_table_b3", "b3_exceptions", "in_table_b1", "b1_set"] : List Str))) = true := by decide +kernel
      exact List.all_eq_true.mp this x hx
    obtain ⟨h1, h2⟩ := of_decide_eq_true h1
    rw [X.names, X.others x h1 h2, hb, Pin.globalOf_eq (boot_main _)]

theorem law_pin (X : After w s₀ s.heap mg) : isTheDefsW P s.heap "law" := by
  obtain ⟨a, cd, e, o, pm, doc, ho, hd, _⟩ := X.law
  refine ⟨a, o, _, paramsAt 17, bodyAt 17, scopeAt 17, (X.names _).trans e, ho, hd, rfl, rfl, rfl, rfl, rfl, rfl, rfl, rfl, rfl, .inl ⟨rfl, rfl⟩, [], rfl, .inl ⟨rfl, rfl⟩⟩

theorem top_done (hb : s₀.heap = boot_heap w.params) (hg : s₀.gens = #[]) (hz : s₀.asleep) : ∃ s mg, TopRan P w s₀ s ∧ After w s₀ s.heap mg ∧ s.gens = #[] ∧ s.asleep := by
  obtain ⟨s, hrun, hl, L, hgs⟩ := thread_through (s := s₀) (R := Left w s₀ ((boot_heap w.params).nsMap mainGlobals)) hz (top_tree (by rw [hb]; exact booted _) hg)
  obtain ⟨mg, X, hos⟩ := L.after
  exact ⟨s, mg, top_ran hb X hos hgs hl hrun, X, hgs, Shared.asleep_of_life hl hz⟩
end
end Mine
end

-- part H16
section
open PySem PySem.W PyProof.Rows
namespace Mine
theorem afreshH16 : True := by
  w_top off
  trivial
noncomputable abbrev R0 : RowW := PySem.Challenge.rw_re0133_01.row.toRowW

theorem args_of {args : List WData} (h : R0.claim.pre args = true) : ∃ ds, args = [.list ds] ∧ WShape.hasItems [] ds .int = true ∧ ds.length ≤ 63 := by
  obtain ⟨h1, h2⟩ := pre_splitW h
  replace h1 : WShape.hasAll [] args [.list .int] = true := h1
  obtain ⟨d, r, rfl, h3, h4⟩ := hasAllW_cons h1
  obtain ⟨ds, rfl, h5⟩ := hasW_list h3
  cases r with
  | cons a b => simp [WShape.hasAll] at h4
  | nil =>
    refine ⟨ds, rfl, h5, ?_⟩
    replace h2 : WTm.holds [] (.and (.not (.lt (.lit (.int 63)) (.len (.arg 0)))) (.lit (.bool true))) { args := [.list ds] } = true := h2
    simp [WTm.holds, WTm.value, less?] at h2
    rw [show Num.less? (WData.int 63) (WData.int ds.length) = some (decide ((63 : Int) < ds.length)) from rfl] at h2
    rcases Int.lt_or_le (63 : Int) ds.length with hd | hd
    · rw [decide_eq_true hd] at h2
      exact absurd h2 (by decide)
    · omega

theorem hasItems_ints {R : WRecords} {cl : Str → Option Addr} {h : Heap} : ∀ {ds : List WData} {vs : List Value} {as : List Addr}, ReadsAllW R cl h vs ds as → WShape.hasItems [] ds .int = true → ∃ xs, IntsAre vs xs ∧ xs.length = ds.length
  | [], _, _, .nil, _ => ⟨[], .nil, rfl⟩
  | d :: ds, _, _, .cons hv hvs, hi => by
    obtain ⟨h1, h2⟩ : WShape.has [] d .int = true ∧ WShape.hasItems [] ds .int = true := by simpa [WShape.hasItems] using hi
    obtain ⟨xs, hx, hl⟩ := hasItems_ints hvs h2
    cases d <;> first | (simp [WShape.has, WShape.arms] at h1; done) | skip
    cases hv
    exact ⟨_ :: xs, .cons _ _ hx, by simp [hl]⟩
end Mine
end

-- part H17
section
open PySem PySem.W PyProof.Rows
namespace Mine
theorem afreshH17 : True := by
  w_top off
  trivial
theorem R0_frees : frees R0 = true := by decide +kernel
theorem opens_well : opensWell P = true := by decide +kernel

theorem post_true (ds : List WData) : R0.claim.post [.list ds] (.bool true) [.list ds] = true := by
  show (WShape.has [] (.bool true) .bool && WTm.holds [] (.eq .res (.lit (.bool true))) { args := [.list ds], res := some (.bool true), after := [.list ds] }) = true
  have e : W.same (.bool true) (.bool true) = true := by decide +kernel
  simp [WShape.has, WShape.arms, WTm.holds, WTm.value, e]

theorem law_open (hw : R0.promised) (kps : List Str) : R0.claim.HoldsOpenBy (callStub "law") ["law"] kps false := by
  obtain ⟨hsame, hu, ha, hap, hm⟩ := frees_parts R0_frees
  have hi := ident_freeW hu ha hap
  have hwi : R0.claim.within = [] := rfl
  refine ⟨⟨⟨rfl, rfl, rfl, rfl, rfl, by decide +kernel⟩, opens_well, rfl⟩, hw.witness, fun w => ⟨(opened w).1, fun s' hs' => ?_⟩⟩
  obtain ⟨s₀, hf, hg0, hheap, hz0⟩ := (opened w).2 s' hs'
  obtain ⟨s, mg, hT, X, hgens, hz⟩ := top_done hheap hg0 hz0
  refine ⟨s₀, hf, hg0, s, hT, fun n hn => ?_, (fun x hx => nomatch hx), (fun x hx => nomatch hx), ?_⟩
  · rw [List.mem_singleton.mp hn]; exact law_pin X
  refine ClaimW.callFrom_of_specG (c := R0.claim) (tree := fun vs => do match ← nsGet mainNs "law" with
      | some f => do ret (← call f vs)
      | none => unsupported "claim.caller:no-such-global") hz hgens fun args hpre hlay ord hord => ?_
  obtain ⟨ds, rfl, hds, hlen⟩ := args_of hpre
  obtain ⟨⟨vs, s₁⟩, hlaid⟩ := Option.isSome_iff_exists.mp (layAllW_isSome (cl := classAt s.heap) (P := w.params) (ord := ord) (fun c hc => by exact absurd hc (by show ¬ ((none : Option (List (Str × WShape))).isSome = true); decide)) [.list ds] R0.args s (pre_splitW hpre).1)
  have keeps := layAllW_keeps _ _ _ hlaid
  have hal := layAllW_rest _ _ _ hlaid
  obtain ⟨as, hrd, hin, hold⟩ := reads_layAllW hord _ _ _ hlaid hlay s₁.heap (fun _ _ e => e)
  have L : Laid R0.records w s s₁ [.list ds] vs as := ⟨⟨ord, hord, hlaid⟩, hrd, hin, hold, keeps, hal.1.trans hgens, hal.2.2.1⟩
  have hrd' := hrd
  obtain _ | ⟨hv, hvs⟩ := hrd'
  obtain _ | _ | _ | _ | ⟨ho, hc, hd, hra⟩ := hv
  cases hvs
  rename_i ls o vs n bs
  obtain ⟨xs, hx, hxl⟩ := hasItems_ints hra hds
  obtain ⟨a, cd, ea, hfn⟩ := X.law
  refine ⟨_, s₁, hlaid, ?_⟩
  refine wpAny_bind (wpAny_nsGet (X.g.keeps keeps) ?_)
  rw [ea]
  refine wpAny_bind (wpAny_mono (law_call (xs := xs) (is := vs.toList) ((X.top hheap).keeps keeps) (hfn.keeps keeps) ⟨o, ho, hc, n, by simpa using hd⟩ hx (by omega) (by decide) (by decide) rfl) ?_ fun _ _ e => e)
  rintro v s' ⟨rfl, h, tk, gs, rfl, hk, hgs⟩
  have g : GoodWG R0.claim (classAt s.heap) (ExcName.means s.heap) [.list ds] s₁ (.ok (.ret (.bool true))) { s₁ with heap := h, toks := tk, gens := gs } :=
    ⟨.inl ⟨.bool true, .bool true, [], rfl, fun _ => rfl, .bool true, post_true ds, fun _ => ⟨List.nodup_nil, fun _ h => nomatch h⟩⟩, .of_keep hk, rfl, hgs (.of_eq L.gens)⟩
  have z := g.laid (c := R0.claim) hsame hwi hi L
  exact wpAny_pure ⟨_, rfl, z.1, z.2.1, z.2.2, fun q => nomatch q⟩

set_option maxRecDepth 100000 in
theorem well_said : PySem.Challenge.rw_re0133_01.wellSaid = true := by
  unfold OpenLaw.wellSaid OpenRow.wellSaid OpenRow.partSaid looksOpen
  repeat' (with_reducible refine look_both ?_ ?_)
  all_goals decide +kernel
end Mine
end

open PySem PySem.W PyProof.Rows
set_option maxRecDepth 100000 in
set_option maxHeartbeats 8000000 in
theorem PySem.Challenge.cw_re0133_01_holds : PySem.Challenge.rw_re0133_01.Holds := by
  have hw : PySem.Challenge.rw_re0133_01.row.toRowW.promised := by w_witness2
  exact holds_law Mine.well_said fun said => ⟨said, hw, Mine.law_open hw _⟩
