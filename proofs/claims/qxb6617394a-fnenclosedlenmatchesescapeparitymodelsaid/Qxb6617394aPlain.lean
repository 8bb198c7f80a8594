/-
  THE PLAIN FUNCTIONS AND THEIR LAWS: no Go in sight. 'f i': the byte at i; 'n': the length; 'q': it opens with a quotation mark (else with a parenthesis).
-/
namespace Go.Proofs.Qxb6617394a

/-- enclosedLen from place i on, d comments open. -/
def enc (q : Bool) (f : Nat → Nat) (n : Nat) : Nat → Nat → Int → Nat × Bool
  | 0, _, _ => (n, false)
  | fuel + 1, i, d =>
    if i < n then
      if f i = 92 then enc q f n fuel (i + 2) d
      else if f i = 34 then (if q = true ∧ 0 < i then (i + 1, true) else enc q f n fuel (i + 1) d)
      else if f i = 40 then enc q f n fuel (i + 1) (d + 1)
      else if f i = 41 then (if q = false ∧ d - 1 = 0 then (i + 1, true) else enc q f n fuel (i + 1) (d - 1))
      else enc q f n fuel (i + 1) d
    else (n, false)

/-- The law's own model from place p on: 'run' backslashes right before p. -/
def mdl (q : Bool) (f : Nat → Nat) (n : Nat) : Nat → Nat → Nat → Int → Nat × Bool
  | 0, _, _, _ => (n, false)
  | fuel + 1, p, run, d =>
    if p < n then
      if run % 2 = 1 ∨ f p = 92 then mdl q f n fuel (p + 1) (if f p = 92 then run + 1 else 0) d
      else if q = true then (if f p = 34 then (p + 1, true) else mdl q f n fuel (p + 1) 0 d)
      else if f p = 41 then (if d - 1 = 0 then (p + 1, true) else mdl q f n fuel (p + 1) 0 (d - 1))
      else mdl q f n fuel (p + 1) 0 (if f p = 40 then d + 1 else d)
    else (n, false)

section
variable {q : Bool} {f : Nat → Nat} {n : Nat}

theorem enc_end {i : Nat} (h : n ≤ i) (fuel : Nat) (d : Int) : enc q f n fuel i d = (n, false) := by
  cases fuel with
  | zero => rfl
  | succ fuel => simp only [enc]; rw [if_neg (by omega)]
theorem enc_bs {i : Nat} (h : i < n) (h1 : f i = 92) (fuel : Nat) (d : Int) : enc q f n (fuel + 1) i d = enc q f n fuel (i + 2) d := by
  simp only [enc]; rw [if_pos h, if_pos h1]
theorem enc_qt {i : Nat} (h : i < n) (h1 : f i = 34) (h2 : ¬ (q = true ∧ 0 < i)) (fuel : Nat) (d : Int) : enc q f n (fuel + 1) i d = enc q f n fuel (i + 1) d := by
  simp only [enc]; rw [if_pos h, if_neg (by omega), if_pos h1, if_neg h2]
theorem enc_qtc {i : Nat} (h : i < n) (h1 : f i = 34) (h2 : q = true) (h3 : 0 < i) (fuel : Nat) (d : Int) : enc q f n (fuel + 1) i d = (i + 1, true) := by
  simp only [enc]; rw [if_pos h, if_neg (by omega), if_pos h1, if_pos ⟨h2, h3⟩]
theorem enc_op {i : Nat} (h : i < n) (h1 : f i = 40) (fuel : Nat) (d : Int) : enc q f n (fuel + 1) i d = enc q f n fuel (i + 1) (d + 1) := by
  simp only [enc]; rw [if_pos h, if_neg (by omega), if_neg (by omega), if_pos h1]
theorem enc_cl {i : Nat} (h : i < n) (h1 : f i = 41) {d : Int} (h2 : ¬ (q = false ∧ d - 1 = 0)) (fuel : Nat) : enc q f n (fuel + 1) i d = enc q f n fuel (i + 1) (d - 1) := by
  simp only [enc]; rw [if_pos h, if_neg (by omega), if_neg (by omega), if_neg (by omega), if_pos h1, if_neg h2]
theorem enc_clc {i : Nat} (h : i < n) (h1 : f i = 41) {d : Int} (h2 : q = false) (h3 : d - 1 = 0) (fuel : Nat) : enc q f n (fuel + 1) i d = (i + 1, true) := by
  simp only [enc]; rw [if_pos h, if_neg (by omega), if_neg (by omega), if_neg (by omega), if_pos h1, if_pos ⟨h2, h3⟩]
theorem enc_ot {i : Nat} (h : i < n) (h1 : f i ≠ 92) (h2 : f i ≠ 34) (h3 : f i ≠ 40) (h4 : f i ≠ 41) (fuel : Nat) (d : Int) : enc q f n (fuel + 1) i d = enc q f n fuel (i + 1) d := by
  simp only [enc]; rw [if_pos h, if_neg h1, if_neg h2, if_neg h3, if_neg h4]

theorem mdl_end {p : Nat} (h : n ≤ p) (fuel run : Nat) (d : Int) : mdl q f n fuel p run d = (n, false) := by
  cases fuel with
  | zero => rfl
  | succ fuel => simp only [mdl]; rw [if_neg (by omega)]
theorem mdl_skip {p : Nat} (h : p < n) {run : Nat} (h1 : run % 2 = 1 ∨ f p = 92) (fuel : Nat) (d : Int) : mdl q f n (fuel + 1) p run d = mdl q f n fuel (p + 1) (if f p = 92 then run + 1 else 0) d := by
  simp only [mdl]; rw [if_pos h, if_pos h1]
theorem mdl_qc {p : Nat} (h : p < n) {run : Nat} (h1 : ¬ (run % 2 = 1 ∨ f p = 92)) (h2 : q = true) (h3 : f p = 34) (fuel : Nat) (d : Int) : mdl q f n (fuel + 1) p run d = (p + 1, true) := by
  simp only [mdl]; rw [if_pos h, if_neg h1, if_pos h2, if_pos h3]
theorem mdl_qo {p : Nat} (h : p < n) {run : Nat} (h1 : ¬ (run % 2 = 1 ∨ f p = 92)) (h2 : q = true) (h3 : f p ≠ 34) (fuel : Nat) (d : Int) : mdl q f n (fuel + 1) p run d = mdl q f n fuel (p + 1) 0 d := by
  simp only [mdl]; rw [if_pos h, if_neg h1, if_pos h2, if_neg h3]
theorem mdl_clc {p : Nat} (h : p < n) {run : Nat} (h1 : ¬ (run % 2 = 1 ∨ f p = 92)) (h2 : q = false) (h3 : f p = 41) {d : Int} (h4 : d - 1 = 0) (fuel : Nat) : mdl q f n (fuel + 1) p run d = (p + 1, true) := by
  simp only [mdl]; rw [if_pos h, if_neg h1, if_neg (by rw [h2]; exact Bool.false_ne_true), if_pos h3, if_pos h4]
theorem mdl_cl {p : Nat} (h : p < n) {run : Nat} (h1 : ¬ (run % 2 = 1 ∨ f p = 92)) (h2 : q = false) (h3 : f p = 41) {d : Int} (h4 : d - 1 ≠ 0) (fuel : Nat) : mdl q f n (fuel + 1) p run d = mdl q f n fuel (p + 1) 0 (d - 1) := by
  simp only [mdl]; rw [if_pos h, if_neg h1, if_neg (by rw [h2]; exact Bool.false_ne_true), if_pos h3, if_neg h4]
theorem mdl_ot {p : Nat} (h : p < n) {run : Nat} (h1 : ¬ (run % 2 = 1 ∨ f p = 92)) (h2 : q = false) (h3 : f p ≠ 41) (fuel : Nat) (d : Int) : mdl q f n (fuel + 1) p run d = mdl q f n fuel (p + 1) 0 (if f p = 40 then d + 1 else d) := by
  simp only [mdl]; rw [if_pos h, if_neg h1, if_neg (by rw [h2]; exact Bool.false_ne_true), if_neg h3]

/-- THE TWO AGREE from an unescaped place on. -/
theorem enc_eq_mdl : ∀ (m p : Nat), n - p ≤ m → 0 < p → ∀ (f1 f2 run : Nat) (d d' : Int), n ≤ p + f1 → n ≤ p + f2 → run % 2 = 0 → (q = true ∨ d = d') → enc q f n f1 p d = mdl q f n f2 p run d'
  | 0, p, hm, _ => fun f1 f2 run d d' _ _ _ _ => by rw [enc_end (by omega), mdl_end (by omega)]
  | m + 1, p, hm, hp => fun f1 f2 run d d' h1 h2 hr hd => by
    by_cases hpn : p < n
    · obtain ⟨g1, rfl⟩ : ∃ g, f1 = g + 1 := ⟨f1 - 1, by omega⟩
      obtain ⟨g2, rfl⟩ : ∃ g, f2 = g + 1 := ⟨f2 - 1, by omega⟩
      by_cases c1 : f p = 92
      · rw [enc_bs hpn c1, mdl_skip hpn (.inr c1), if_pos c1]
        by_cases hp1 : p + 1 < n
        · obtain ⟨g3, rfl⟩ : ∃ g, g2 = g + 1 := ⟨g2 - 1, by omega⟩
          rw [mdl_skip hp1 (.inl (by omega))]
          refine enc_eq_mdl m (p + 2) (by omega) (by omega) _ _ _ _ _ (by omega) (by omega) ?_ hd
          split <;> omega
        · rw [enc_end (by omega), mdl_end (by omega)]
      · have hne : ¬ (run % 2 = 1 ∨ f p = 92) := by omega
        have go := fun d d' (hd : q = true ∨ d = d') => enc_eq_mdl m (p + 1) (by omega) (by omega) g1 g2 0 d d' (by omega) (by omega) rfl hd
        cases hq : q with
        | true =>
          by_cases c2 : f p = 34
          · rw [enc_qtc hpn c2 rfl hp, mdl_qc hpn hne rfl c2]
          · rw [mdl_qo hpn hne rfl c2]
            subst hq
            by_cases c3 : f p = 40
            · rw [enc_op hpn c3]; exact go _ _ (.inl rfl)
            · by_cases c4 : f p = 41
              · rw [enc_cl hpn c4 (by simp)]; exact go _ _ (.inl rfl)
              · rw [enc_ot hpn c1 c2 c3 c4]; exact go _ _ (.inl rfl)
        | false =>
          have hdd : d = d' := by
            rcases hd with h | h
            · rw [hq] at h; cases h
            · exact h
          subst hdd
          subst hq
          by_cases c4 : f p = 41
          · by_cases h0 : d - 1 = 0
            · rw [enc_clc hpn c4 rfl h0, mdl_clc hpn hne rfl c4 h0]
            · rw [enc_cl hpn c4 (by simp [h0]), mdl_cl hpn hne rfl c4 h0]; exact go _ _ (.inr rfl)
          · rw [mdl_ot hpn hne rfl c4]
            by_cases c3 : f p = 40
            · rw [enc_op hpn c3, if_pos c3]; exact go _ _ (.inr rfl)
            · rw [if_neg c3]
              by_cases c2 : f p = 34
              · rw [enc_qt hpn c2 (by simp)]; exact go _ _ (.inr rfl)
              · rw [enc_ot hpn c1 c2 c3 c4]; exact go _ _ (.inr rfl)
    · rw [enc_end (by omega), mdl_end (by omega)]

/-- The first step: the opener. -/
theorem enc_start (hn : 0 < n) (hf : if q = true then f 0 = 34 else f 0 = 40) (fuel : Nat) : enc q f n (fuel + 1) 0 0 = enc q f n fuel 1 (if q = true then 0 else 1) := by
  cases q with
  | true => rw [if_pos rfl] at hf ⊢; rw [enc_qt hn hf (by omega)]
  | false => rw [if_neg Bool.false_ne_true] at hf ⊢; rw [enc_op hn hf]; rfl

theorem enc_is_mdl (hn : 0 < n) (hf : if q = true then f 0 = 34 else f 0 = 40) (f1 f2 : Nat) (h1 : n ≤ f1) (h2 : n ≤ f2 + 1) : enc q f n f1 0 0 = mdl q f n f2 1 0 1 := by
  obtain ⟨g1, rfl⟩ : ∃ g, f1 = g + 1 := ⟨f1 - 1, by omega⟩
  rw [enc_start hn hf]
  refine enc_eq_mdl (n - 1) 1 (Nat.le_refl _) (by omega) _ _ _ _ _ (by omega) (by omega) rfl ?_
  cases q with
  | true => exact .inl rfl
  | false => exact .inr rfl

/-! ### what a closed one is -/
theorem enc_open : ∀ (fuel i : Nat) (d : Int) (r : Nat), enc q f n fuel i d = (r, false) → r = n
  | 0, i, d, r, h => by simp only [enc, Prod.mk.injEq] at h; exact h.1.symm
  | fuel + 1, i, d, r, h => by
    simp only [enc] at h
    split at h
    · split at h
      · exact enc_open fuel _ _ r h
      · split at h
        · split at h
          · simp at h
          · exact enc_open fuel _ _ r h
        · split at h
          · exact enc_open fuel _ _ r h
          · split at h
            · split at h
              · simp at h
              · exact enc_open fuel _ _ r h
            · exact enc_open fuel _ _ r h
    · simp only [Prod.mk.injEq] at h; exact h.1.symm

theorem enc_closed : ∀ (fuel i : Nat) (d : Int) (r : Nat), enc q f n fuel i d = (r, true) → i < r ∧ r ≤ n ∧ f (r - 1) = (if q = true then 34 else 41)
  | 0, i, d, r, h => by simp [enc] at h
  | fuel + 1, i, d, r, h => by
    simp only [enc] at h
    split at h
    · rename_i hin
      split at h
      · have := enc_closed fuel _ _ r h; exact ⟨by omega, this.2⟩
      · split at h
        · rename_i c34
          split at h
          · rename_i hq
            simp only [Prod.mk.injEq, and_true] at h
            subst h
            exact ⟨by omega, by omega, by rw [if_pos hq.1]; exact c34⟩
          · have := enc_closed fuel _ _ r h; exact ⟨by omega, this.2⟩
        · split at h
          · have := enc_closed fuel _ _ r h; exact ⟨by omega, this.2⟩
          · split at h
            · rename_i c41
              split at h
              · rename_i hq
                simp only [Prod.mk.injEq, and_true] at h
                subst h
                exact ⟨by omega, by omega, by rw [hq.1]; exact c41⟩
              · have := enc_closed fuel _ _ r h; exact ⟨by omega, this.2⟩
            · have := enc_closed fuel _ _ r h; exact ⟨by omega, this.2⟩
    · simp at h

/-- What follows is not read. -/
theorem enc_tail {f' : Nat → Nat} {n' : Nat} : ∀ (fuel i : Nat) (d : Int) (r fuel' : Nat), enc q f n fuel i d = (r, true) → (∀ j, j < r → f' j = f j) → r ≤ n' → n' ≤ i + fuel' → enc q f' n' fuel' i d = (r, true)
  | 0, i, d, r, fuel', h, _, _, _ => by simp [enc] at h
  | fuel + 1, i, d, r, fuel', h, hf, hr, hn => by
    obtain ⟨hir, hrn, _⟩ := enc_closed _ _ _ _ h
    obtain ⟨g, rfl⟩ : ∃ g, fuel' = g + 1 := ⟨fuel' - 1, by omega⟩
    have hi : i < n := by omega
    have hi' : i < n' := by omega
    have e : f' i = f i := hf i hir
    by_cases c1 : f i = 92
    · rw [enc_bs hi c1] at h
      have := (enc_closed _ _ _ _ h).1
      rw [enc_bs hi' (by omega)]
      exact enc_tail fuel _ _ r g h hf hr (by omega)
    · by_cases c2 : f i = 34
      · by_cases c : q = true ∧ 0 < i
        · rw [enc_qtc hi c2 c.1 c.2] at h
          rw [enc_qtc hi' (by omega) c.1 c.2]; exact h
        · rw [enc_qt hi c2 c] at h
          rw [enc_qt hi' (by omega) c]; exact enc_tail fuel _ _ r g h hf hr (by omega)
      · by_cases c3 : f i = 40
        · rw [enc_op hi c3] at h
          rw [enc_op hi' (by omega)]; exact enc_tail fuel _ _ r g h hf hr (by omega)
        · by_cases c4 : f i = 41
          · by_cases c : q = false ∧ d - 1 = 0
            · rw [enc_clc hi c4 c.1 c.2] at h
              rw [enc_clc hi' (by omega) c.1 c.2]; exact h
            · rw [enc_cl hi c4 c] at h
              rw [enc_cl hi' (by omega) c]; exact enc_tail fuel _ _ r g h hf hr (by omega)
          · rw [enc_ot hi c1 c2 c3 c4] at h
            rw [enc_ot hi' (by omega) (by omega) (by omega) (by omega)]; exact enc_tail fuel _ _ r g h hf hr (by omega)
end

/-- A closed comment inside another: one deeper, one further on, and closed by the parenthesis that follows. -/
theorem enc_nest {f f' : Nat → Nat} {n n' : Nat} : ∀ (fuel i : Nat) (d : Int) (r fuel' : Nat), 1 ≤ d → enc false f n fuel i d = (r, true) → (∀ j, j < r → f' (j + 1) = f j) → f' (r + 1) = 41 → r + 2 ≤ n' → n' ≤ i + 1 + fuel' →
    enc false f' n' fuel' (i + 1) (d + 1) = (r + 2, true)
  | 0, i, d, r, fuel', _, h, _, _, _, _ => by simp [enc] at h
  | fuel + 1, i, d, r, fuel', hd, h, hf, hc, hr, hn => by
    obtain ⟨hir, hrn, _⟩ := enc_closed _ _ _ _ h
    obtain ⟨g, rfl⟩ : ∃ g, fuel' = g + 1 := ⟨fuel' - 1, by omega⟩
    have hi : i < n := by omega
    have hi' : i + 1 < n' := by omega
    have e : f' (i + 1) = f i := hf i hir
    by_cases c1 : f i = 92
    · rw [enc_bs hi c1] at h
      have := (enc_closed _ _ _ _ h).1
      rw [enc_bs hi' (by omega)]
      exact enc_nest fuel _ _ r g hd h hf hc hr (by omega)
    · by_cases c2 : f i = 34
      · rw [enc_qt hi c2 (by simp)] at h
        rw [enc_qt hi' (by omega) (by simp)]; exact enc_nest fuel _ _ r g hd h hf hc hr (by omega)
      · by_cases c3 : f i = 40
        · rw [enc_op hi c3] at h
          rw [enc_op hi' (by omega)]; exact enc_nest fuel _ _ r g (by omega) h hf hc hr (by omega)
        · by_cases c4 : f i = 41
          · by_cases c : d - 1 = 0
            · rw [enc_clc hi c4 rfl c] at h
              simp only [Prod.mk.injEq, and_true] at h
              subst h
              rw [enc_cl hi' (by omega) (by omega)]
              obtain ⟨g', rfl⟩ : ∃ g', g = g' + 1 := ⟨g - 1, by omega⟩
              rw [enc_clc (by omega) hc rfl (by omega)]
            · rw [enc_cl hi c4 (by simp [c])] at h
              rw [enc_cl hi' (by omega) (by omega)]
              have := enc_nest fuel _ _ r g (by omega) h hf hc hr (by omega)
              rw [show d + 1 - 1 = d - 1 + 1 by omega]; exact this
          · rw [enc_ot hi c1 c2 c3 c4] at h
            rw [enc_ot hi' (by omega) (by omega) (by omega) (by omega)]; exact enc_nest fuel _ _ r g hd h hf hc hr (by omega)

end Go.Proofs.Qxb6617394a
